/- From the row's condition on the laid variables: the table of entities lies in memory with texts of 1 to 8 bytes. Condition: the variable is listed. -/
import Derived.Test.YtblaoglgknjepaaGreatDoorF1
import Derived.Test.YtblaoglgknjepaaGreatDoorRows
import Derived.Lib.LaidU8
import Derived.MakeChecks
import Derived.ChangeReads
namespace Go.Proofs.YtblaoglgknjepaaGreatDoor
open Go
set_option maxRecDepth 20000
set_option maxHeartbeats 4000000

/-- A listed variable's reading, and that its cells are among the places that the condition speaks of. -/
theorem laidVars_row {P : Program} {w : World} : ∀ {l : List (String × DataW Unit)} {ps : List MemPlace}, DataW.LaidVars P w l ps → ∀ n d, (n, d) ∈ l →
    ∃ g t cs fuel p, P.globalNamed n = some g ∧ (P.globals[g]?).map (·.type) = some t ∧ w.var? P n = some cs ∧ DataW.trod (fun _ => ()) P w 0 (fun _ => true) false fuel t cs.toList = some (d, p) ∧ ∀ x ∈ MemPlace.row ⟨g, 0, none⟩ cs.size, x ∈ ps
  | [], _, _, _, _, hm => by cases hm
  | (n', d') :: r, ps, h, n, d, hm => by
    obtain ⟨g, t, cs, fuel, p, q, h1, h2, h3, h4, h5, h6⟩ := h
    rcases List.mem_cons.1 hm with e | e
    · cases e
      exact ⟨g, t, cs, fuel, p, h1, h2, h3, h4, fun x hx => by rw [h6]; simp [hx]⟩
    · obtain ⟨g', t', cs', fuel', p', k1, k2, k3, k4, k5⟩ := laidVars_row h5 n d e
      exact ⟨g', t', cs', fuel', p', k1, k2, k3, k4, fun x hx => by rw [h6]; have := k5 x hx; simp [this]⟩

theorem array_size {H : Type} {enc : TypeId × Value → H} {P : Program} {w : World} {base : Nat} {sp : Nat → Bool} {held : Bool} {fuel : Nat} {t e : TypeId} {n : Nat} {cs : List Value} {ds : List (DataW H)} {p : List MemPlace} (ht : P.underlying t = some (.array n e))
    (h : DataW.trod enc P w base sp held fuel t cs = some (.agg ds, p)) : cs.length = P.cellsOf t := by
  cases fuel with
  | zero => simp [DataW.trod] at h
  | succ fuel =>
    simp only [DataW.trod, ht] at h
    split at h
    · rename_i hc; exact hc
    · cases h

def entDs : List (DataW Unit) := match (Rows.laid_pub_paratext_pub_rscmarkdown_htmlEntities : DataW Unit) with | .agg l => l | _ => []
theorem entDs_eq : (Rows.laid_pub_paratext_pub_rscmarkdown_htmlEntities : DataW Unit) = .agg entDs := rfl
theorem entDs_get (i : Nat) (hi : i < 12) (d : DataW Unit) (h : entDs[i]? = some d) : ∃ a b : List UInt8, d = .agg [.lit (.string a), .lit (.string b)] ∧ (a ≠ [] ∧ a.length ≤ 8) ∧ (b ≠ [] ∧ b.length ≤ 8) := by
  rcases (by omega : i = 0 ∨ i = 1 ∨ i = 2 ∨ i = 3 ∨ i = 4 ∨ i = 5 ∨ i = 6 ∨ i = 7 ∨ i = 8 ∨ i = 9 ∨ i = 10 ∨ i = 11) with rfl | rfl | rfl | rfl | rfl | rfl | rfl | rfl | rfl | rfl | rfl | rfl
  all_goals (injection h with h; subst h; exact ⟨_, _, rfl, ⟨by simp, by simp⟩, ⟨by simp, by simp⟩⟩)

/-- The table of entities lies in memory when the call begins. -/
theorem ent_of_laid {W : World} {laid : List (String × DataW Unit)} (hp : (laid.all fun x => x.2.handleName?.isNone) = true)
    (hm : ("pub-paratext/pub/rscmarkdown.htmlEntities", (Rows.laid_pub_paratext_pub_rscmarkdown_htmlEntities : DataW Unit)) ∈ laid) (h : laidMetH Tryz.prog laid W) :
    ∃ T es, EntOK es ∧ W.heap[1]? = some (Eng.cellsOf es T) := by
  rw [MakeChecks.laidMetH_plain _ _ _ hp] at h
  obtain ⟨ps, hv, _, hcell⟩ := h
  obtain ⟨g, t, cs, fuel, p, hg, hty, hvar, hd, hrow⟩ := laidVars_row hv _ _ hm
  obtain rfl : 1 = g := Option.some.inj ((show Tryz.prog.globalNamed "pub-paratext/pub/rscmarkdown.htmlEntities" = some 1 by kernel_rfl).symm.trans hg)
  obtain rfl : 249 = t := Option.some.inj ((show (Tryz.prog.globals[1]?).map (·.type) = some 249 by kernel_rfl).symm.trans hty)
  rw [entDs_eq] at hd
  have hlen : cs.size = 24 := by
    have h1 := array_size Tryz.underlying249 hd
    have e : Tryz.prog.cellsOf 249 = 24 := by kernel_rfl
    rw [e] at h1; simpa using h1
  obtain ⟨⟨c, T, hh⟩, _⟩ := hcell 1 0 (hrow _ (MemPlace.mem_row.2 ⟨0, by omega, by simp⟩))
  have hcs : cs = c := by
    have hv2 := hvar
    unfold World.var? at hv2
    rw [hg] at hv2
    simp [hh] at hv2
    exact hv2.symm
  subst hcs
  refine ⟨T, cs.toList, fun k hk => ?_, by rw [hh]⟩
  have e2 : Tryz.prog.cellsOf 248 = 2 := by kernel_rfl
  have e1 : Tryz.prog.cellsOf 9 = 1 := by kernel_rfl
  obtain ⟨fuel1, d1, q1, hd1, ht1⟩ := Lib.array_elem Tryz.underlying249 hd (k / 2) (by omega)
  obtain ⟨a, b, rfl, ha, hb⟩ := entDs_get (k / 2) (by omega) d1 hd1
  rw [e2] at ht1
  obtain ⟨fuel2, d2, q2, hd2, ht2⟩ := Lib.array_elem Tryz.underlying248 ht1 (k % 2) (by omega)
  rw [e1] at ht2
  obtain ⟨s, hs1, hs2, _⟩ := DataW.trod_string Tryz.underlying9 ht2
  have hk : cs.toList[k]? = some (.string s) := by
    have h1 := congrArg (·[0]?) hs1
    have h2 : k / 2 * 2 + k % 2 = k := by omega
    have h3 : k % 2 < 2 := by omega
    simpa [List.getElem?_take, List.getElem?_drop, h2, h3] using h1
  refine ⟨s.data.toList, by rw [hk], ?_⟩
  injection hs2 with hs2 _
  rcases (by omega : k % 2 = 0 ∨ k % 2 = 1) with h0 | h0
  · rw [h0] at hd2
    injection hd2 with hd2
    rw [hs2] at hd2
    injection hd2 with hd2
    injection hd2 with hd2
    rw [← hd2]; exact ha
  · rw [h0] at hd2
    injection hd2 with hd2
    rw [hs2] at hd2
    injection hd2 with hd2
    injection hd2 with hd2
    rw [← hd2]; exact hb
#print axioms ent_of_laid
end Go.Proofs.YtblaoglgknjepaaGreatDoor

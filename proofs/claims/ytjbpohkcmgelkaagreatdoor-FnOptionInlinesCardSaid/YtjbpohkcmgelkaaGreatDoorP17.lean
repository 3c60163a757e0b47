/- The given statement FnOptionInlinesCardSaid: FnOptionInlines returns true for every input, and its arguments read as before. No conditions beyond the statement's own. -/
import Derived.Test.YtjbpohkcmgelkaaGreatDoorT22
import Derived.Test.YtjbpohkcmgelkaaGreatDoorC17
import Derived.Test.YtjbpohkcmgelkaaGreatDoorTie
import Derived.Test.YtjbpohkcmgelkaaGreatDoorCards
import Derived.WalkKit
import Derived.ProofKit
import Derived.OpenShut
import Derived.ShutString
import Derived.LaidMore
import Derived.Lay
import Derived.SevenTiedAt
import Derived.Stop.Joined
namespace Go.Proofs.YtjbpohkcmgelkaaGreatDoor
open Go Go.ChangeShapes Go.WideShapes Go.ChangeAt Go.RowKit
open Go.ChangeMaps (open_string shut_string)
set_option maxHeartbeats 8000000

theorem own : ownKnob Tryz.prog.godebug = none := by kernel_rfl

/-- A contract that asks for the table alone: what was there stays. -/
theorem kept_of_inv {W W' : World} {T : Nat} {es : List Value} (hG : W.heap[1]? = some (Go.Eng.cellsOf es T)) (h : Go.Eng.Inv ⟨W, [1]⟩ [ent T es] W') : W.keptBut W' (fun _ => False) := by
  refine ⟨h.os, h.output, fun i hi => ?_⟩
  have e : W'.heap[i]? = W.heap[i]? := by
    by_cases hg : i = 1
    · subst hg
      rw [hG]
      exact h.has 1 _ (by simp)
    · exact h.old i hi (by simp [hg])
  rw [e]
  exact (World.keptBut_refl W (fun _ => False)).2.2 i hi
theorem inv_start {W : World} {T : Nat} {es : List Value} (hG : W.heap[1]? = some (Go.Eng.cellsOf es T)) : Go.Eng.Inv ⟨W, [1]⟩ [ent T es] W :=
  ⟨rfl, rfl, rfl, Nat.le_refl _, fun _ _ _ => rfl, by simp [Go.Eng.ids], fun b o hm => by
    simp at hm
    obtain ⟨rfl, rfl⟩ := hm
    exact hG, fun b hb => .inl (by simpa [Go.Eng.ids] using hb)⟩

theorem size_le {a : ByteArray} (w : a.size ≤ maxLen) : a.data.toList.length ≤ 9223372036854775807 := by
  have h1 : a.data.toList.length = a.size := by rw [Array.length_toList]; rfl
  have h2 : a.size ≤ 2 ^ 63 - 1 := w
  omega
theorem fnOptionInlines_walk (a0 : ByteArray) (b1 : Bool) (w0 : a0.size ≤ maxLen)  (w : World) (T : Nat) (es : List Value) (hE : EntOK es) (hG : w.heap[1]? = some (Go.Eng.cellsOf es T)) :
    Calls Tryz.prog 6 #[.string a0, .bool b1] w fun e w' => e = .returned (.bool true) ∧ w.keptBut w' (fun _ => False) := by
  have hs : ∀ a : ByteArray, Value.string a = Go.Eng.str a.data.toList := fun a => by simp [Go.Eng.str]
  rw [hs a0]
  refine ((fnOptionInlines_tr T es hE a0.data.toList b1 (size_le w0) ).run ⟨w, [1]⟩ w (inv_start hG)).mono ?_
  rintro e w' ⟨v, H', rfl, ⟨rfl, rfl⟩, hi⟩
  exact ⟨rfl, kept_of_inv hG hi⟩

set_option maxRecDepth 100000 in
theorem fnOptionInlines_start (os : Os) : laidMetH Tryz.prog Rows.fnOptionInlinesRow.laid ((World.laidAll Tryz.prog os Rows.fnOptionInlinesRow.laid).forCall (fun _ _ => 0) ⟨#[], #[.string ByteArray.empty, .bool false], []⟩).memory := by
  rw [MakeChecks.laidMetH_plain _ _ _ (by kernel_rfl)]; exact laidMet_laidAll _ (by kernel_rfl) (by kernel_rfl)

set_option maxRecDepth 100000 in
theorem fnOptionInlines_lifted (os : Os) (started : os.Started) (H : Type) (enc : TypeId × Value → H) :
    ReturnsInHanded {} Tryz.checked os 6 .any (fun w args => (Rows.fnOptionInlinesSpec.pre enc Tryz.prog Tryz.f6 Rows.fnOptionInlinesRow.domain false w args ∧ laidMetH Tryz.prog Rows.fnOptionInlinesRow.laid w) ∧ sizedMet enc Tryz.prog Tryz.f6 (OpenSpec.ofChange Rows.fnOptionInlinesSpec) false w args)
      (Rows.fnOptionInlinesSpec.post enc Tryz.prog Tryz.f6 false true false false) := by
  refine returnsInHanded_of_change_and (C := Tryz.checked) (X := fun w _ => laidMetH Tryz.prog Rows.fnOptionInlinesRow.laid w) (fun _ _ _ hh h => h.of_heap hh) own started (by kernel_rfl) Tryz.func6
    (ChangeSpec.witness_shaped (enc := enc) (C := Tryz.checked) (os := os) (X := fun w _ => laidMetH Tryz.prog Rows.fnOptionInlinesRow.laid w) false (World.laidAll Tryz.prog os Rows.fnOptionInlinesRow.laid) #[.string ByteArray.empty, .bool false] 8 (World.laidAll_os _ _ _)
      (World.shaped_of_ZipB (by kernel_rfl) (by kernel_rfl)) (by kernel_rfl) (by kernel_rfl) (by kernel_rfl) (fnOptionInlines_start os)) ?_
  intro W base args ds gs before hval0 hW _ _ hL _
  have hval : ∀ (j : Nat) t v, Tryz.f6.params[j]? = some t → args[j]? = some v → Value.okWide Tryz.prog W .any base t v := hval0
  have hW' := hW
  obtain ⟨p, q, hA0, hV, rfl, hfz, hnd⟩ := hW
  have hA : DataW.TrodAll enc Tryz.prog W 0 (fun _ => true) true Tryz.f6.params.toList args.toList ds p := hA0
  rw [Tryz.params6] at hA hval
  obtain ⟨v0, vs0, d0, ds0, p0, q0, hargs, rfl, rfl, h0, r0⟩ := trodAll_cons hA
  obtain ⟨v1, vs1, d1, ds1, p1, q1, rfl, rfl, rfl, h1, r1⟩ := trodAll_cons r0
  obtain ⟨rfl, rfl, rfl⟩ := trodAll_nil r1
  obtain rfl : args = #[v0, v1] := by cases args; simp_all
  obtain ⟨rfl, rfl⟩ := trodVars_none hV
  obtain ⟨a0, rfl, rfl, rfl, w0⟩ := open_string Tryz.underlying9 (hval 0 9 v0 rfl rfl) h0
  obtain ⟨b1, rfl, rfl, rfl⟩ := open_bool Tryz.underlying4 (hval 1 4 v1 rfl rfl) h1
  clear hA0 hval0
  simp only [List.append_nil] at hW'
  obtain ⟨T, es, hE, hG⟩ := ent_of_laid (laid := Rows.fnOptionInlinesRow.laid) (by kernel_rfl) (.tail _ (.tail _ (.tail _ (.tail _ (.tail _ (.tail _ (.head _))))))) hL
  refine (fnOptionInlines_walk a0 b1 w0 W T es hE hG).mono fun e W' ⟨he, hg⟩ => ?_
  subst he
  exact ⟨_, rfl, _, _, _, [], [], [], hW', trodAll_cons_mk (shut_bool Tryz.underlying4 _) trodAll_mk0, trodAll_cons_mk (shut_string Tryz.underlying9 w0) (trodAll_cons_mk (shut_bool Tryz.underlying4 _) trodAll_mk0), rfl, World.keptBut_mono (fun _ h => h.elim) hg, fun h => Bool.noConfusion h⟩

set_option maxRecDepth 100000 in
theorem fnOptionInlines_row_holds : Rows.FnOptionInlinesSaid :=
  OpenClaim.holds_of_wide 6 Tryz.f6 rfl rfl rfl rfl rfl rfl rfl ⟨rfl, rfl, rfl, rfl, rfl⟩ rfl rfl rfl rfl rfl fnOptionInlines_named Tryz.func6 fnOptionInlines_closed
    (of_decide_eq_true (by kernel_rfl)) fnOptionInlines_wrap
    (fun os started H enc _ => fnOptionInlines_lifted os started H enc)

set_option maxRecDepth 100000 in
theorem fnOptionInlines_holds : Rows.FnOptionInlinesCardSaid :=
  Claim7.holds_tied_plain_at .later [] [.data, .data, .data, .data, .sentinel, .sentinel, .data, .pinned] true (true, "d34f1364007223e6e1f48739cc1d49ae371e66ed1a96645ad1022ee627a997c0") true fnOptionInlines_row_holds (fun _ h => by cases h) (by kernel_rfl) (fun _ h => by cases h) fnOptionInlines_row_tie rfl ⟨rfl, rfl⟩ (by kernel_rfl) rfl
    (fun f fn hf hfn => by
      obtain rfl : f = 6 := Option.some.inj ((show Tryz.prog.funcNamed "pub-paratext/laws.FnOptionInlines" = some 6 by kernel_rfl).symm.trans hf) |>.symm
      obtain rfl : fn = Tryz.f6 := (Option.some.inj (Tryz.func6.symm.trans hfn)).symm
      exact ⟨by kernel_rfl, fun j t ht => by
        rw [Tryz.params6] at ht
        have hm : t ∈ [9, 4] := by simpa using Array.mem_of_getElem? ht
        have hall : ([9, 4].all fun u => !Tryz.prog.wantsStandIn u) = true := by kernel_rfl
        exact (show Tryz.prog.wantsStandIn t = false by simpa using List.all_eq_true.1 hall t hm)⟩)
    (by kernel_rfl)
#print axioms fnOptionInlines_holds
end Go.Proofs.YtjbpohkcmgelkaaGreatDoor

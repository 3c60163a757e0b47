/- The given statement FnUnclosedCardSaid: FnUnclosed returns true for every input, and its argument reads as before. No conditions beyond the statement's own. -/
import Derived.Test.YtblaoglgknjepaaGreatDoorF11
import Derived.Test.YtblaoglgknjepaaGreatDoorQ1
import Derived.Test.YtblaoglgknjepaaGreatDoorC11
import Derived.Test.YtblaoglgknjepaaGreatDoorTie
import Derived.Test.YtblaoglgknjepaaGreatDoorCards
import Derived.WalkKit
import Derived.ProofKit
import Derived.OpenShut
import Derived.ShutString
import Derived.LaidMore
import Derived.Lay
import Derived.SevenTiedAt
import Derived.Stop.Joined
namespace Go.Proofs.YtblaoglgknjepaaGreatDoor
open Go Go.ChangeShapes Go.WideShapes Go.ChangeAt Go.RowKit
open Go.ChangeMaps (open_string shut_string)
set_option maxHeartbeats 8000000

theorem own : ownKnob Tryz.prog.godebug = none := by kernel_rfl

/-- A contract that asks for the table alone: what was there stays. -/
theorem kept_of_inv {W W' : World} {T : Nat} {es : List Value} (hG : W.heap[1]? = some (Go.Eng.cellsOf es T)) (h : Go.Eng.Inv ⟨W, [1]⟩ [ent T es] W') : W.keptBut W' (fun _ => False) := by
  refine ⟨h.os, h.output, fun i hi => ?_⟩
  have e : W'.heap[i]? = W.heap[i]? := by
    by_cases hg : i = 1
    · subst hg
      rw [hG]
      exact h.has 1 _ (by simp)
    · exact h.old i hi (by simp [hg])
  rw [e]
  exact (World.keptBut_refl W (fun _ => False)).2.2 i hi
theorem inv_start {W : World} {T : Nat} {es : List Value} (hG : W.heap[1]? = some (Go.Eng.cellsOf es T)) : Go.Eng.Inv ⟨W, [1]⟩ [ent T es] W :=
  ⟨rfl, rfl, rfl, Nat.le_refl _, fun _ _ _ => rfl, by simp [Go.Eng.ids], fun b o hm => by
    simp at hm
    obtain ⟨rfl, rfl⟩ := hm
    exact hG, fun b hb => .inl (by simpa [Go.Eng.ids] using hb)⟩

theorem fnUnclosed_walk (a0 : ByteArray) (w0 : a0.size ≤ maxLen) (w : World) (T : Nat) (es : List Value) (hE : EntOK es) (hG : w.heap[1]? = some (Go.Eng.cellsOf es T)) :
    Calls Tryz.prog 6 #[.string a0] w fun e w' => e = .returned (.bool true) ∧ w.keptBut w' (fun _ => False) := by
  have hl : a0.data.toList.length ≤ 9223372036854775807 := by
    have h1 : a0.data.toList.length = a0.size := by rw [Array.length_toList]; rfl
    have h2 : a0.size ≤ 2 ^ 63 - 1 := w0
    omega
  have hs : Value.string a0 = Go.Eng.str a0.data.toList := by simp [Go.Eng.str]
  rw [hs]
  refine ((fnUnclosed_tr T es hE a0.data.toList hl).run ⟨w, [1]⟩ w (inv_start hG)).mono ?_
  rintro e w' ⟨v, H', rfl, ⟨rfl, rfl⟩, hi⟩
  exact ⟨rfl, kept_of_inv hG hi⟩

set_option maxRecDepth 100000 in
theorem fnUnclosed_start (os : Os) : laidMetH Tryz.prog Rows.fnUnclosedRow.laid ((World.laidAll Tryz.prog os Rows.fnUnclosedRow.laid).forCall (fun _ _ => 0) ⟨#[], #[.string ByteArray.empty], []⟩).memory := by
  rw [MakeChecks.laidMetH_plain _ _ _ (by kernel_rfl)]; exact laidMet_laidAll _ (by kernel_rfl) (by kernel_rfl)

set_option maxRecDepth 100000 in
theorem fnUnclosed_lifted (os : Os) (started : os.Started) (H : Type) (enc : TypeId × Value → H) :
    ReturnsInHanded {} Tryz.checked os 6 .any (fun w args => (Rows.fnUnclosedSpec.pre enc Tryz.prog Tryz.f6 Rows.fnUnclosedRow.domain false w args ∧ laidMetH Tryz.prog Rows.fnUnclosedRow.laid w) ∧ sizedMet enc Tryz.prog Tryz.f6 (OpenSpec.ofChange Rows.fnUnclosedSpec) false w args)
      (Rows.fnUnclosedSpec.post enc Tryz.prog Tryz.f6 false true false false) := by
  refine returnsInHanded_of_change_and (C := Tryz.checked) (X := fun w _ => laidMetH Tryz.prog Rows.fnUnclosedRow.laid w) (fun _ _ _ hh h => h.of_heap hh) own started (by kernel_rfl) Tryz.func6
    (ChangeSpec.witness_shaped (enc := enc) (C := Tryz.checked) (os := os) (X := fun w _ => laidMetH Tryz.prog Rows.fnUnclosedRow.laid w) false (World.laidAll Tryz.prog os Rows.fnUnclosedRow.laid) #[.string ByteArray.empty] 8 (World.laidAll_os _ _ _)
      (World.shaped_of_ZipB (by kernel_rfl) (by kernel_rfl)) (by kernel_rfl) (by kernel_rfl) (by kernel_rfl) (fnUnclosed_start os)) ?_
  intro W base args ds gs before hval0 hW _ _ hL _
  have hval : ∀ (j : Nat) t v, Tryz.f6.params[j]? = some t → args[j]? = some v → Value.okWide Tryz.prog W .any base t v := hval0
  have hW' := hW
  obtain ⟨p, q, hA0, hV, rfl, hfz, hnd⟩ := hW
  have hA : DataW.TrodAll enc Tryz.prog W 0 (fun _ => true) true Tryz.f6.params.toList args.toList ds p := hA0
  rw [Tryz.params6] at hA hval
  obtain ⟨v0, vs0, d0, ds0, p0, q0, hargs, rfl, rfl, h0, r0⟩ := trodAll_cons hA
  obtain ⟨rfl, rfl, rfl⟩ := trodAll_nil r0
  obtain rfl : args = #[v0] := by cases args; simp_all
  obtain ⟨rfl, rfl⟩ := trodVars_none hV
  obtain ⟨a0, rfl, rfl, rfl, w0⟩ := open_string Tryz.underlying9 (hval 0 9 v0 rfl rfl) h0
  clear hA0 hval0
  simp only [List.append_nil] at hW'
  obtain ⟨T, es, hE, hG⟩ := ent_of_laid (laid := Rows.fnUnclosedRow.laid) (by kernel_rfl) (.tail _ (.tail _ (.tail _ (.tail _ (.tail _ (.tail _ (.head _))))))) hL
  refine (fnUnclosed_walk a0 w0 W T es hE hG).mono fun e W' ⟨he, hg⟩ => ?_
  subst he
  exact ⟨_, rfl, _, _, _, [], [], [], hW', trodAll_cons_mk (shut_bool Tryz.underlying4 _) trodAll_mk0, trodAll_cons_mk (shut_string Tryz.underlying9 w0) trodAll_mk0, rfl, World.keptBut_mono (fun _ h => h.elim) hg, fun h => Bool.noConfusion h⟩

set_option maxRecDepth 100000 in
theorem fnUnclosed_row_holds : Rows.FnUnclosedSaid :=
  OpenClaim.holds_of_wide 6 Tryz.f6 rfl rfl rfl rfl rfl rfl rfl ⟨rfl, rfl, rfl, rfl, rfl⟩ rfl rfl rfl rfl rfl fnUnclosed_named Tryz.func6 fnUnclosed_closed
    (of_decide_eq_true (by kernel_rfl)) fnUnclosed_wrap
    (fun os started H enc _ => fnUnclosed_lifted os started H enc)

set_option maxRecDepth 100000 in
theorem fnUnclosed_holds : Rows.FnUnclosedCardSaid :=
  Claim7.holds_tied_plain_at .later [] [.data, .data, .data, .data, .sentinel, .sentinel, .data, .pinned] true (true, "fb8abf31f8361a44a60d5a158c0a3f718f624d9eeacc8cd75417670786faaa59") true fnUnclosed_row_holds (fun _ h => by cases h) (by kernel_rfl) (fun _ h => by cases h) fnUnclosed_row_tie rfl ⟨rfl, rfl⟩ (by kernel_rfl) rfl
    (fun f fn hf hfn => by
      obtain rfl : f = 6 := Option.some.inj ((show Tryz.prog.funcNamed "pub-paratext/laws.FnUnclosed" = some 6 by kernel_rfl).symm.trans hf) |>.symm
      obtain rfl : fn = Tryz.f6 := (Option.some.inj (Tryz.func6.symm.trans hfn)).symm
      exact ⟨by kernel_rfl, fun j t ht => by
        rw [Tryz.params6] at ht
        have hm : t ∈ [9] := by simpa using Array.mem_of_getElem? ht
        have hall : ([9].all fun u => !Tryz.prog.wantsStandIn u) = true := by kernel_rfl
        exact (show Tryz.prog.wantsStandIn t = false by simpa using List.all_eq_true.1 hall t hm)⟩)
    (by kernel_rfl)
#print axioms fnUnclosed_holds
end Go.Proofs.YtblaoglgknjepaaGreatDoor

/- The given statement FnImagesCardSaid: FnImages returns true for every input, and its arguments read as before. No conditions beyond the statement's own. -/
import Derived.Test.YtfnflaloojpckaaGreatDoorT23
import Derived.Test.YtfnflaloojpckaaGreatDoorC16
import Derived.Test.YtfnflaloojpckaaGreatDoorTie
import Derived.Test.YtfnflaloojpckaaGreatDoorCards
import Derived.WalkKit
import Derived.ProofKit
import Derived.OpenShut
import Derived.ShutString
import Derived.LaidMore
import Derived.Lay
import Derived.SevenTiedAt
import Derived.Stop.Joined
namespace Go.Proofs.YtfnflaloojpckaaGreatDoor
open Go Go.ChangeShapes Go.WideShapes Go.ChangeAt Go.RowKit
open Go.ChangeMaps (open_string shut_string)
set_option maxHeartbeats 8000000

theorem own : ownKnob Tryz.prog.godebug = none := by kernel_rfl

/-- A contract that asks for the table alone: what was there stays. -/
theorem kept_of_inv {W W' : World} {T : Nat} {es : List Value} (hG : W.heap[1]? = some (Go.Eng.cellsOf es T)) (h : Go.Eng.Inv ⟨W, [1]⟩ [ent T es] W') : W.keptBut W' (fun _ => False) := by
  refine ⟨h.os, h.output, fun i hi => ?_⟩
  have e : W'.heap[i]? = W.heap[i]? := by
    by_cases hg : i = 1
    · subst hg
      rw [hG]
      exact h.has 1 _ (by simp)
    · exact h.old i hi (by simp [hg])
  rw [e]
  exact (World.keptBut_refl W (fun _ => False)).2.2 i hi
theorem inv_start {W : World} {T : Nat} {es : List Value} (hG : W.heap[1]? = some (Go.Eng.cellsOf es T)) : Go.Eng.Inv ⟨W, [1]⟩ [ent T es] W :=
  ⟨rfl, rfl, rfl, Nat.le_refl _, fun _ _ _ => rfl, by simp [Go.Eng.ids], fun b o hm => by
    simp at hm
    obtain ⟨rfl, rfl⟩ := hm
    exact hG, fun b hb => .inl (by simpa [Go.Eng.ids] using hb)⟩

theorem size_le {a : ByteArray} (w : a.size ≤ maxLen) : a.data.toList.length ≤ 9223372036854775807 := by
  have h1 : a.data.toList.length = a.size := by rw [Array.length_toList]; rfl
  have h2 : a.size ≤ 2 ^ 63 - 1 := w
  omega
theorem fnImages_walk (a0 : ByteArray) (a1 : ByteArray) (z2 : Int) (w0 : a0.size ≤ maxLen) (w1 : a1.size ≤ maxLen) (w2 : (Lit.int .i64 z2).wf = true) (w : World) (T : Nat) (es : List Value) (hE : EntOK es) (hG : w.heap[1]? = some (Go.Eng.cellsOf es T)) :
    Calls Tryz.prog 3 #[.string a0, .string a1, .int .i64 z2] w fun e w' => e = .returned (.bool true) ∧ w.keptBut w' (fun _ => False) := by
  have hs : ∀ a : ByteArray, Value.string a = Go.Eng.str a.data.toList := fun a => by simp [Go.Eng.str]
  rw [hs a0, hs a1]
  refine ((fnImages_tr T es hE a0.data.toList a1.data.toList z2 (size_le w0) (size_le w1) w2).run ⟨w, [1]⟩ w (inv_start hG)).mono ?_
  rintro e w' ⟨v, H', rfl, ⟨rfl, rfl⟩, hi⟩
  exact ⟨rfl, kept_of_inv hG hi⟩

set_option maxRecDepth 100000 in
theorem fnImages_start (os : Os) : laidMetH Tryz.prog Rows.fnImagesRow.laid ((World.laidAll Tryz.prog os Rows.fnImagesRow.laid).forCall (fun _ _ => 0) ⟨#[], #[.string ByteArray.empty, .string ByteArray.empty, .int .i64 0], []⟩).memory := by
  rw [MakeChecks.laidMetH_plain _ _ _ (by kernel_rfl)]; exact laidMet_laidAll _ (by kernel_rfl) (by kernel_rfl)

set_option maxRecDepth 100000 in
theorem fnImages_lifted (os : Os) (started : os.Started) (H : Type) (enc : TypeId × Value → H) :
    ReturnsInHanded {} Tryz.checked os 3 .any (fun w args => (Rows.fnImagesSpec.pre enc Tryz.prog Tryz.f3 Rows.fnImagesRow.domain false w args ∧ laidMetH Tryz.prog Rows.fnImagesRow.laid w) ∧ sizedMet enc Tryz.prog Tryz.f3 (OpenSpec.ofChange Rows.fnImagesSpec) false w args)
      (Rows.fnImagesSpec.post enc Tryz.prog Tryz.f3 false true false false) := by
  refine returnsInHanded_of_change_and (C := Tryz.checked) (X := fun w _ => laidMetH Tryz.prog Rows.fnImagesRow.laid w) (fun _ _ _ hh h => h.of_heap hh) own started (by kernel_rfl) Tryz.func3
    (ChangeSpec.witness_shaped (enc := enc) (C := Tryz.checked) (os := os) (X := fun w _ => laidMetH Tryz.prog Rows.fnImagesRow.laid w) false (World.laidAll Tryz.prog os Rows.fnImagesRow.laid) #[.string ByteArray.empty, .string ByteArray.empty, .int .i64 0] 8 (World.laidAll_os _ _ _)
      (World.shaped_of_ZipB (by kernel_rfl) (by kernel_rfl)) (by kernel_rfl) (by kernel_rfl) (by kernel_rfl) (fnImages_start os)) ?_
  intro W base args ds gs before hval0 hW _ _ hL _
  have hval : ∀ (j : Nat) t v, Tryz.f3.params[j]? = some t → args[j]? = some v → Value.okWide Tryz.prog W .any base t v := hval0
  have hW' := hW
  obtain ⟨p, q, hA0, hV, rfl, hfz, hnd⟩ := hW
  have hA : DataW.TrodAll enc Tryz.prog W 0 (fun _ => true) true Tryz.f3.params.toList args.toList ds p := hA0
  rw [Tryz.params3] at hA hval
  obtain ⟨v0, vs0, d0, ds0, p0, q0, hargs, rfl, rfl, h0, r0⟩ := trodAll_cons hA
  obtain ⟨v1, vs1, d1, ds1, p1, q1, rfl, rfl, rfl, h1, r1⟩ := trodAll_cons r0
  obtain ⟨v2, vs2, d2, ds2, p2, q2, rfl, rfl, rfl, h2, r2⟩ := trodAll_cons r1
  obtain ⟨rfl, rfl, rfl⟩ := trodAll_nil r2
  obtain rfl : args = #[v0, v1, v2] := by cases args; simp_all
  obtain ⟨rfl, rfl⟩ := trodVars_none hV
  obtain ⟨a0, rfl, rfl, rfl, w0⟩ := open_string Tryz.underlying9 (hval 0 9 v0 rfl rfl) h0
  obtain ⟨a1, rfl, rfl, rfl, w1⟩ := open_string Tryz.underlying9 (hval 1 9 v1 rfl rfl) h1
  obtain ⟨z2, rfl, rfl, rfl, w2⟩ := open_int Tryz.underlying3 (hval 2 3 v2 rfl rfl) h2
  clear hA0 hval0
  simp only [List.append_nil] at hW'
  obtain ⟨T, es, hE, hG⟩ := ent_of_laid (laid := Rows.fnImagesRow.laid) (by kernel_rfl) (.tail _ (.tail _ (.tail _ (.tail _ (.tail _ (.tail _ (.head _))))))) hL
  refine (fnImages_walk a0 a1 z2 w0 w1 w2 W T es hE hG).mono fun e W' ⟨he, hg⟩ => ?_
  subst he
  exact ⟨_, rfl, _, _, _, [], [], [], hW', trodAll_cons_mk (shut_bool Tryz.underlying4 _) trodAll_mk0, trodAll_cons_mk (shut_string Tryz.underlying9 w0) (trodAll_cons_mk (shut_string Tryz.underlying9 w1) (trodAll_cons_mk (shut_int Tryz.underlying3 w2) trodAll_mk0)), rfl, World.keptBut_mono (fun _ h => h.elim) hg, fun h => Bool.noConfusion h⟩

set_option maxRecDepth 100000 in
theorem fnImages_row_holds : Rows.FnImagesSaid :=
  OpenClaim.holds_of_wide 3 Tryz.f3 rfl rfl rfl rfl rfl rfl rfl ⟨rfl, rfl, rfl, rfl, rfl⟩ rfl rfl rfl rfl rfl fnImages_named Tryz.func3 fnImages_closed
    (of_decide_eq_true (by kernel_rfl)) fnImages_wrap
    (fun os started H enc _ => fnImages_lifted os started H enc)

set_option maxRecDepth 100000 in
theorem fnImages_holds : Rows.FnImagesCardSaid :=
  Claim7.holds_tied_plain_at .later [] [.data, .data, .data, .data, .sentinel, .sentinel, .data, .pinned] true (true, "961c339710f164da63f5e98bad15b1dcbf9cc48901a3bb22d0dba7b6ee3d42e1") true fnImages_row_holds (fun _ h => by cases h) (by kernel_rfl) (fun _ h => by cases h) fnImages_row_tie rfl ⟨rfl, rfl⟩ (by kernel_rfl) rfl
    (fun f fn hf hfn => by
      obtain rfl : f = 3 := Option.some.inj ((show Tryz.prog.funcNamed "pub-paratext/laws.FnImages" = some 3 by kernel_rfl).symm.trans hf) |>.symm
      obtain rfl : fn = Tryz.f3 := (Option.some.inj (Tryz.func3.symm.trans hfn)).symm
      exact ⟨by kernel_rfl, fun j t ht => by
        rw [Tryz.params3] at ht
        have hm : t ∈ [9, 9, 3] := by simpa using Array.mem_of_getElem? ht
        have hall : ([9, 9, 3].all fun u => !Tryz.prog.wantsStandIn u) = true := by kernel_rfl
        exact (show Tryz.prog.wantsStandIn t = false by simpa using List.all_eq_true.1 hall t hm)⟩)
    (by kernel_rfl)
#print axioms fnImages_holds
end Go.Proofs.YtfnflaloojpckaaGreatDoor

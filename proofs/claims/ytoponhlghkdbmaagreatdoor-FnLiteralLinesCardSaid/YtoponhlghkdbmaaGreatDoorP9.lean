/- The given statement FnLiteralLinesCardSaid: FnLiteralLines returns true for every input, and its argument reads as before. No conditions beyond the statement's own. -/
import Derived.Test.YtoponhlghkdbmaaGreatDoorL5
import Derived.Test.YtoponhlghkdbmaaGreatDoorC9
import Derived.Test.YtoponhlghkdbmaaGreatDoorTie
import Derived.Test.YtoponhlghkdbmaaGreatDoorCards
import Derived.WalkKit
import Derived.ProofKit
import Derived.OpenShut
import Derived.ShutString
import Derived.SliceStrings
import Derived.Carry
import Derived.LaidMore
import Derived.Lay
import Derived.SevenTiedAt
import Derived.Stop.Joined
namespace Go.Proofs.YtoponhlghkdbmaaGreatDoor
open Go Go.ChangeShapes Go.WideShapes Go.ChangeAt Go.RowKit
open Go.ChangeMaps (open_string shut_string)
set_option maxHeartbeats 8000000

theorem own : ownKnob Tryz.prog.godebug = none := by kernel_rfl

/-- A contract that asks nothing of memory: what was there stays. -/
theorem kept_of_inv {W W' : World} {H' : Go.Eng.Heap} (h : Go.Eng.Inv ⟨W, []⟩ H' W') : W.keptBut W' (fun _ => False) := by
  refine ⟨h.os, h.output, fun i hi => ?_⟩
  have e : W'.heap[i]? = W.heap[i]? := h.old i hi (by simp)
  rw [e]
  exact (World.keptBut_refl W (fun _ => False)).2.2 i hi
theorem laidOut : laidOutB Tryz.prog = true := by kernel_rfl
theorem cells9 : Tryz.prog.cellsOf 9 = 1 := by kernel_rfl
theorem inv_start (W : World) : Go.Eng.Inv ⟨W, []⟩ [] W :=
  ⟨rfl, rfl, rfl, Nat.le_refl _, fun _ _ _ => rfl, List.nodup_nil, fun b o hm => (by simp at hm), fun b hb => (by simp [Go.Eng.ids] at hb)⟩

theorem below_of_inv {W W' : World} {H' : Go.Eng.Heap} (h : Go.Eng.Inv ⟨W, []⟩ H' W') : Below W.heap.size W W' :=
  ⟨h.os, h.tape, h.output, h.size, fun k hk => h.old k hk (by simp)⟩

theorem fnLiteralLines_none (a : Option Addr) (cap : Nat) (w : World) :
    Calls Tryz.prog 4 #[.slice a 0 cap] w fun e w' => e = .returned (.bool true) ∧ Below w.heap.size w w' := by
  refine ((fnLit_nil a cap).run ⟨w, []⟩ w (inv_start w)).mono ?_
  rintro e w' ⟨v, H', rfl, ⟨rfl, _⟩, hi⟩
  exact ⟨rfl, below_of_inv hi⟩

theorem fnLiteralLines_walk (b off cap : Nat) (ss : List ByteArray) (w : World) (hne : ss ≠ []) (hn : ss.length ≤ maxLen) (hsz : ∀ s ∈ ss, s.size ≤ maxLen) (hb : b < w.heap.size)
    (hcell : ∀ j s, ss[j]? = some s → w.cell? ⟨b, off + j, none⟩ = some (.string s)) :
    Calls Tryz.prog 4 #[.slice (some ⟨b, off, none⟩) ss.length cap] w fun e w' => e = .returned (.bool true) ∧ Below w.heap.size w w' := by
  have hr : Go.Eng.Row0 ⟨w, []⟩ b off (ss.map (·.data.toList)) := by
    refine ⟨fun j s hj => ?_, hb, by simp⟩
    rw [List.getElem?_map] at hj
    cases hx : ss[j]? with
    | none => rw [hx] at hj; cases hj
    | some x =>
      rw [hx] at hj
      simp at hj
      subst hj
      rw [hcell j x hx]
  have h := fnLit_calls ⟨w, []⟩ b off cap (ss.map (·.data.toList)) hr (by simpa using hne) (by rw [List.length_map]; exact hn) (fun l hl => by
    obtain ⟨x, hx, rfl⟩ := List.mem_map.1 hl
    have h1 : x.data.toList.length = x.size := by rw [Array.length_toList]; rfl
    have h2 : x.size ≤ 2 ^ 63 - 1 := hsz x hx
    omega) w (inv_start w)
  rw [List.length_map] at h
  refine h.mono ?_
  rintro e w' ⟨v, H', rfl, rfl, hi⟩
  exact ⟨rfl, below_of_inv hi⟩

set_option maxRecDepth 100000 in
theorem fnLiteralLines_start (os : Os) : laidMetH Tryz.prog Rows.fnLiteralLinesRow.laid ((World.laidAll Tryz.prog os Rows.fnLiteralLinesRow.laid).forCall (fun _ _ => 0) ⟨#[], #[.slice none 0 0], []⟩).memory := by
  rw [MakeChecks.laidMetH_plain _ _ _ (by kernel_rfl)]; exact laidMet_laidAll _ (by kernel_rfl) (by kernel_rfl)

set_option maxRecDepth 100000 in
theorem fnLiteralLines_lifted (os : Os) (started : os.Started) (H : Type) (enc : TypeId × Value → H) :
    ReturnsInHanded {} Tryz.checked os 4 .any (fun w args => (Rows.fnLiteralLinesSpec.pre enc Tryz.prog Tryz.f4 Rows.fnLiteralLinesRow.domain false w args ∧ laidMetH Tryz.prog Rows.fnLiteralLinesRow.laid w) ∧ sizedMet enc Tryz.prog Tryz.f4 (OpenSpec.ofChange Rows.fnLiteralLinesSpec) false w args)
      (Rows.fnLiteralLinesSpec.post enc Tryz.prog Tryz.f4 false true false false) := by
  refine returnsInHanded_of_change_and (C := Tryz.checked) (X := fun w _ => laidMetH Tryz.prog Rows.fnLiteralLinesRow.laid w) (fun _ _ _ hh h => h.of_heap hh) own started (by kernel_rfl) Tryz.func4
    (ChangeSpec.witness_shaped (enc := enc) (C := Tryz.checked) (os := os) (X := fun w _ => laidMetH Tryz.prog Rows.fnLiteralLinesRow.laid w) false (World.laidAll Tryz.prog os Rows.fnLiteralLinesRow.laid) #[.slice none 0 0] 8 (World.laidAll_os _ _ _)
      (World.shaped_of_ZipB (by kernel_rfl) (by kernel_rfl)) (by kernel_rfl) (by kernel_rfl) (by kernel_rfl) (fnLiteralLines_start os)) ?_
  intro W base args ds gs before hval0 hW _ _ hL _
  have hval : ∀ (j : Nat) t v, Tryz.f4.params[j]? = some t → args[j]? = some v → Value.okWide Tryz.prog W .any base t v := hval0
  have hW' := hW
  obtain ⟨p, q, hA0, hV, rfl, hfz, hnd⟩ := hW
  have hA : DataW.TrodAll enc Tryz.prog W 0 (fun _ => true) true Tryz.f4.params.toList args.toList ds p := hA0
  rw [Tryz.params4] at hA hval
  obtain ⟨v0, d0, rfl, rfl, h0⟩ := trodAll_one hA
  obtain ⟨rfl, rfl⟩ := trodVars_none hV
  obtain ⟨a0, len, cap, rfl⟩ := okWide_slice Tryz.underlying28 (hval 0 28 v0 rfl rfl)
  have h0k := h0
  obtain ⟨fuel, hf⟩ := h0
  clear hA0 hval0
  simp only [List.append_nil] at hW'
  have hlt : ∀ x ∈ p, x.block < W.heap.size := fun x hx => by simpa using hW'.lt x hx
  have fin : ∀ (W' : World), Below W.heap.size W W' → Rows.fnLiteralLinesSpec.post enc Tryz.prog Tryz.f4 false true false false W #[.slice a0 len cap] (.bool true) W' := by
    intro W' hnx
    refine ⟨_, _, _, [] ++ [], p, [], hW', trodAll_mk1 (shut_bool Tryz.underlying4 _), trodAll_mk1 (Below.trod laidOut (by kernel_rfl) (of_decide_eq_true (by kernel_rfl)) h0k hnx hlt), rfl, hnx.frame _, fun h => Bool.noConfusion h⟩
  rcases open_strings Tryz.underlying28 Tryz.underlying9 cells9 hf with ⟨hcs, hx⟩ | ⟨a, len', cap', ss, hcs, _, hl, hm, hz, hx, hcell, hws⟩
  · simp [Value.cells] at hcs
    obtain ⟨rfl, rfl, rfl⟩ := hcs
    refine (fnLiteralLines_none none 0 W).mono fun e W' ⟨he, hg⟩ => ?_
    subst he
    exact ⟨_, rfl, fin W' hg⟩
  · simp [Value.cells] at hcs
    obtain ⟨rfl, rfl, rfl⟩ := hcs
    simp only [Prod.mk.injEq] at hx
    obtain ⟨rfl, rfl⟩ := hx
    simp only [if_true] at hz
    by_cases hl0 : len = 0
    · subst hl0
      refine (fnLiteralLines_none (some a) cap W).mono fun e W' ⟨he, hg⟩ => ?_
      subst he
      exact ⟨_, rfl, fin W' hg⟩
    · obtain ⟨b, off, spot⟩ := a
      have hspot : spot = none := by simpa [Addr.add] using World.cell?_spot (hcell 0 (by omega))
      subst hspot
      have hbW : b < W.heap.size := hlt (.cell b off) (MemPlace.mem_row.2 ⟨0, by omega, by simp⟩)
      have htl : (ss.take len).length = len := by rw [List.length_take]; omega
      have hw := fnLiteralLines_walk b off cap (ss.take len) W (by intro e; rw [e] at htl; simp at htl; omega) (by rw [htl]; omega) (fun s hs => hws s (List.mem_of_mem_take hs)) hbW (fun j s hj => by
        rw [List.getElem?_take] at hj
        split at hj
        · have h1 := hcell j (List.getElem?_eq_some_iff.1 hj).1
          rw [List.getD, hj] at h1
          rw [← add_plain]
          exact h1
        · cases hj)
      rw [htl] at hw
      refine hw.mono fun e W' ⟨he, hg⟩ => ?_
      subst he
      exact ⟨_, rfl, fin W' hg⟩

set_option maxRecDepth 100000 in
theorem fnLiteralLines_row_holds : Rows.FnLiteralLinesSaid :=
  OpenClaim.holds_of_wide 4 Tryz.f4 rfl rfl rfl rfl rfl rfl rfl ⟨rfl, rfl, rfl, rfl, rfl⟩ rfl rfl rfl rfl rfl fnLiteralLines_named Tryz.func4 fnLiteralLines_closed
    (of_decide_eq_true (by kernel_rfl)) fnLiteralLines_wrap
    (fun os started H enc _ => fnLiteralLines_lifted os started H enc)

set_option maxRecDepth 100000 in
theorem fnLiteralLines_holds : Rows.FnLiteralLinesCardSaid :=
  Claim7.holds_tied_plain_at .later [] [.data, .data, .data, .data, .sentinel, .sentinel, .data, .pinned] true (true, "19be50dda9ffac19a3597d027d140119fb331097f9f0fa9d9eaedb89d2f0dca1") true fnLiteralLines_row_holds (fun _ h => by cases h) (by kernel_rfl) (fun _ h => by cases h) fnLiteralLines_row_tie rfl ⟨rfl, rfl⟩ (by kernel_rfl) rfl
    (fun f fn hf hfn => by
      obtain rfl : f = 4 := Option.some.inj ((show Tryz.prog.funcNamed "pub-paratext/laws.FnLiteralLines" = some 4 by kernel_rfl).symm.trans hf) |>.symm
      obtain rfl : fn = Tryz.f4 := (Option.some.inj (Tryz.func4.symm.trans hfn)).symm
      exact ⟨by kernel_rfl, fun j t ht => by
        rw [Tryz.params4] at ht
        have hm : t ∈ [28] := by simpa using Array.mem_of_getElem? ht
        have hall : ([28].all fun u => !Tryz.prog.wantsStandIn u) = true := by kernel_rfl
        exact (show Tryz.prog.wantsStandIn t = false by simpa using List.all_eq_true.1 hall t hm)⟩)
    (by kernel_rfl)
#print axioms fnLiteralLines_holds
end Go.Proofs.YtoponhlghkdbmaaGreatDoor

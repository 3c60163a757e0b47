/- The given statement FnOpenTagCardSaid: FnOpenTag returns true for every input, and its arguments read as before. No conditions beyond the statement's own. -/
import Derived.Test.YthmgajolaekpdaaGreatDoorEngB
import Derived.Test.YthmgajolaekpdaaGreatDoorT19
import Derived.Test.YthmgajolaekpdaaGreatDoorC15
import Derived.Test.YthmgajolaekpdaaGreatDoorTie
import Derived.Test.YthmgajolaekpdaaGreatDoorCards
import Derived.WalkKit
import Derived.ProofKit
import Derived.OpenShut
import Derived.ShutString
import Derived.SliceStrings
import Derived.ChangeSlices
import Derived.Carry
import Derived.LaidMore
import Derived.Lay
import Derived.SevenTiedAt
import Derived.Stop.Joined
namespace Go.Proofs.YthmgajolaekpdaaGreatDoor
open Go Go.ChangeShapes Go.WideShapes Go.ChangeAt Go.RowKit
open Go.ChangeMaps (open_string shut_string)
set_option maxHeartbeats 8000000

theorem own : ownKnob Tryz.prog.godebug = none := by kernel_rfl
theorem laidOut : laidOutB Tryz.prog = true := by kernel_rfl
theorem inv_start (W : World) : Go.Eng.Inv ⟨W, []⟩ [] W :=
  ⟨rfl, rfl, rfl, Nat.le_refl _, fun _ _ _ => rfl, List.nodup_nil, fun b o hm => (by simp at hm), fun b hb => (by simp [Go.Eng.ids] at hb)⟩
theorem below_of_inv {W W' : World} {H' : Go.Eng.Heap} (h : Go.Eng.Inv ⟨W, []⟩ H' W') : Below W.heap.size W W' :=
  ⟨h.os, h.tape, h.output, h.size, fun k hk => h.old k hk (by simp)⟩
theorem size_le {a : ByteArray} (w : a.size ≤ maxLen) : a.data.toList.length ≤ 9223372036854775807 := by
  have h1 : a.data.toList.length = a.size := by rw [Array.length_toList]; rfl
  have h2 : a.size ≤ 2 ^ 63 - 1 := w
  omega
theorem cellsU8 : Tryz.prog.cellsOf 5 = 1 := by kernel_rfl
theorem row_bytes {H : Type} {enc : TypeId × Value → H} {W : World} {a0 : Option Addr} {len cap : Nat} {d : DataW H} {ps : List MemPlace} (h : DataW.Trod enc Tryz.prog W 0 (fun _ => true) true 30 (.slice a0 len cap) d ps) (hlt : ∀ x ∈ ps, x.block < W.heap.size) :
    ∃ l : List UInt8, l.length = len ∧ len ≤ 9223372036854775807 ∧ (l ≠ [] → ∃ bk o, a0 = some ⟨bk, o, none⟩ ∧ Go.Eng.RowV ⟨W, []⟩ bk o (l.map fun c => Value.int .u8 c.toNat)) := by
  obtain ⟨fuel, hf⟩ := h
  rcases open_ints Tryz.underlying30 Tryz.underlying5 cellsU8 hf with ⟨hcs, hx⟩ | ⟨a, len', cap', zs, hcs, _, hl, hm, hz, hx, hcell, hws⟩
  · simp [Value.cells] at hcs
    obtain ⟨rfl, rfl, rfl⟩ := hcs
    exact ⟨[], rfl, by omega, fun h => absurd rfl h⟩
  · simp [Value.cells] at hcs
    obtain ⟨rfl, rfl, rfl⟩ := hcs
    simp only [Prod.mk.injEq] at hx
    obtain ⟨rfl, rfl⟩ := hx
    simp only [if_true] at hz
    have hmx : cap ≤ 2 ^ 63 - 1 := hm
    refine ⟨(zs.take len).map fun z => UInt8.ofNat z.toNat, by rw [List.length_map, List.length_take]; omega, by omega, fun hne => ?_⟩
    have hl0 : 0 < len := by
      cases len with
      | zero => simp at hne
      | succ k => omega
    obtain ⟨b, off, spot⟩ := a
    have hspot : spot = none := by simpa [Addr.add] using World.cell?_spot (hcell 0 (by omega))
    subst hspot
    refine ⟨b, off, rfl, fun j v hj => ?_, hlt (.cell b off) (MemPlace.mem_row.2 ⟨0, by omega, by simp⟩), by simp⟩
    rw [List.getElem?_map, List.getElem?_map, List.getElem?_take] at hj
    split at hj
    · rename_i hjl
      have hjz : j < zs.length := by omega
      have h1 := hcell j hjz
      have h2 : zs[j]? = some zs[j] := List.getElem?_eq_getElem hjz
      rw [h2] at hj
      have hw := hws zs[j] (List.getElem_mem hjz)
      simp [Lit.wf, IntKind.min, IntKind.max, IntKind.signed, IntKind.bits] at hw
      rw [List.getD, h2] at h1
      have h3 : ((UInt8.ofNat zs[j].toNat).toNat : Int) = zs[j] := by
        rw [UInt8.toNat_ofNat']
        omega
      have hj' := Option.some.inj hj
      subst hj'
      have h4 : (⟨b, off + j, none⟩ : Addr) = (⟨b, off, none⟩ : Addr).add j := by simp [Addr.add]
      show W.cell? ⟨b, off + j, none⟩ = some (Value.int .u8 ((UInt8.ofNat zs[j].toNat).toNat : Int))
      rw [h3, h4, h1]
      rfl
    · cases hj

set_option maxRecDepth 100000 in
theorem fnOpenTag_start (os : Os) : laidMetH Tryz.prog Rows.fnOpenTagRow.laid ((World.laidAll Tryz.prog os Rows.fnOpenTagRow.laid).forCall (fun _ _ => 0) ⟨#[], #[.string ByteArray.empty, .slice none 0 0, .bool false], []⟩).memory := by
  rw [MakeChecks.laidMetH_plain _ _ _ (by kernel_rfl)]; exact laidMet_laidAll _ (by kernel_rfl) (by kernel_rfl)

set_option maxRecDepth 100000 in
theorem fnOpenTag_lifted (os : Os) (started : os.Started) (H : Type) (enc : TypeId × Value → H) :
    ReturnsInHanded {} Tryz.checked os 6 .any (fun w args => (Rows.fnOpenTagSpec.pre enc Tryz.prog Tryz.f6 Rows.fnOpenTagRow.domain false w args ∧ laidMetH Tryz.prog Rows.fnOpenTagRow.laid w) ∧ sizedMet enc Tryz.prog Tryz.f6 (OpenSpec.ofChange Rows.fnOpenTagSpec) false w args)
      (Rows.fnOpenTagSpec.post enc Tryz.prog Tryz.f6 false true false false) := by
  refine returnsInHanded_of_change_and (C := Tryz.checked) (X := fun w _ => laidMetH Tryz.prog Rows.fnOpenTagRow.laid w) (fun _ _ _ hh h => h.of_heap hh) own started (by kernel_rfl) Tryz.func6
    (ChangeSpec.witness_shaped (enc := enc) (C := Tryz.checked) (os := os) (X := fun w _ => laidMetH Tryz.prog Rows.fnOpenTagRow.laid w) false (World.laidAll Tryz.prog os Rows.fnOpenTagRow.laid) #[.string ByteArray.empty, .slice none 0 0, .bool false] 8 (World.laidAll_os _ _ _)
      (World.shaped_of_ZipB (by kernel_rfl) (by kernel_rfl)) (by kernel_rfl) (by kernel_rfl) (by kernel_rfl) (fnOpenTag_start os)) ?_
  intro W base args ds gs before hval0 hW _ _ hL _
  have hval : ∀ (j : Nat) t v, Tryz.f6.params[j]? = some t → args[j]? = some v → Value.okWide Tryz.prog W .any base t v := hval0
  have hW' := hW
  obtain ⟨p, q, hA0, hV, rfl, hfz, hnd⟩ := hW
  have hA : DataW.TrodAll enc Tryz.prog W 0 (fun _ => true) true Tryz.f6.params.toList args.toList ds p := hA0
  rw [Tryz.params6] at hA hval
  clear hA0 hval0
  obtain ⟨v0, vs0, d0, ds0, p0, q0, hargs, rfl, rfl, h0, r0⟩ := trodAll_cons hA
  obtain ⟨v1, vs1, d1, ds1, p1, q1, rfl, rfl, rfl, h1, r1⟩ := trodAll_cons r0
  obtain ⟨v2, vs2, d2, ds2, p2, q2, rfl, rfl, rfl, h2, r2⟩ := trodAll_cons r1
  obtain ⟨rfl, rfl, rfl⟩ := trodAll_nil r2
  obtain rfl : args = #[v0, v1, v2] := by cases args; simp_all
  obtain ⟨rfl, rfl⟩ := trodVars_none hV
  have hlt : ∀ x ∈ (p0 ++ (p1 ++ (p2 ++ []))), x.block < W.heap.size := fun x hx => by simpa using hW'.lt x (by simpa using hx)
  have hlt0 : ∀ x ∈ p0, x.block < W.heap.size := fun x hx => hlt x (by simp [hx])
  have hlt1 : ∀ x ∈ p1, x.block < W.heap.size := fun x hx => hlt x (by simp [hx])
  have hlt2 : ∀ x ∈ p2, x.block < W.heap.size := fun x hx => hlt x (by simp [hx])
  have h0k := h0
  have h1k := h1
  have h2k := h2
  obtain ⟨a0, rfl, _, _, w0⟩ := open_string Tryz.underlying9 (hval 0 9 v0 rfl rfl) h0
  obtain ⟨a1, len1, cap1, rfl⟩ := okWide_slice Tryz.underlying30 (hval 1 30 v1 rfl rfl)
  obtain ⟨l1, hl1, hm1, hr1⟩ := row_bytes h1 hlt1
  obtain ⟨b2, rfl, _, _⟩ := open_bool Tryz.underlying4 (hval 2 4 v2 rfl rfl) h2
  have fin : ∀ (W' : World), Below W.heap.size W W' → Rows.fnOpenTagSpec.post enc Tryz.prog Tryz.f6 false true false false W #[.string a0, .slice a1 len1 cap1, .bool b2] (.bool true) W' := by
    intro W' hnx
    exact ⟨_, _, _, _, _, [], hW', trodAll_mk1 (shut_bool Tryz.underlying4 _), (trodAll_cons_mk (Below.trod laidOut (by kernel_rfl) (of_decide_eq_true (by kernel_rfl)) h0k hnx hlt0) (trodAll_cons_mk (Below.trod laidOut (by kernel_rfl) (of_decide_eq_true (by kernel_rfl)) h1k hnx hlt1) (trodAll_cons_mk (Below.trod laidOut (by kernel_rfl) (of_decide_eq_true (by kernel_rfl)) h2k hnx hlt2) trodAll_mk0))), rfl, hnx.frame _, fun h => Bool.noConfusion h⟩
  subst hl1
  have hs : ∀ a : ByteArray, Value.string a = Go.Eng.str a.data.toList := fun a => by simp [Go.Eng.str]
  have hw := fnOpenTag_calls ⟨W, []⟩ a0.data.toList a1 cap1 l1 b2 (size_le w0) hr1 hm1  [] W (inv_start W)
  rw [← hs a0] at hw
  refine hw.mono ?_
  rintro e W' ⟨v, H', rfl, rfl, hi⟩
  exact ⟨_, rfl, fin W' (below_of_inv hi)⟩

set_option maxRecDepth 100000 in
theorem fnOpenTag_row_holds : Rows.FnOpenTagSaid :=
  OpenClaim.holds_of_wide 6 Tryz.f6 rfl rfl rfl rfl rfl rfl rfl ⟨rfl, rfl, rfl, rfl, rfl⟩ rfl rfl rfl rfl rfl fnOpenTag_named Tryz.func6 fnOpenTag_closed
    (of_decide_eq_true (by kernel_rfl)) fnOpenTag_wrap
    (fun os started H enc _ => fnOpenTag_lifted os started H enc)

set_option maxRecDepth 100000 in
theorem fnOpenTag_holds : Rows.FnOpenTagCardSaid :=
  Claim7.holds_tied_plain_at .later [] [.data, .data, .data, .data, .sentinel, .sentinel, .data, .pinned] true (true, "5e1e4a211c55132d789df510e77d229b650cb4f4020a75678852c747cdd06276") true fnOpenTag_row_holds (fun _ h => by cases h) (by kernel_rfl) (fun _ h => by cases h) fnOpenTag_row_tie rfl ⟨rfl, rfl⟩ (by kernel_rfl) rfl
    (fun f fn hf hfn => by
      obtain rfl : f = 6 := Option.some.inj ((show Tryz.prog.funcNamed "pub-paratext/laws.FnOpenTag" = some 6 by kernel_rfl).symm.trans hf) |>.symm
      obtain rfl : fn = Tryz.f6 := (Option.some.inj (Tryz.func6.symm.trans hfn)).symm
      exact ⟨by kernel_rfl, fun j t ht => by
        rw [Tryz.params6] at ht
        have hm : t ∈ [9, 30, 4] := by simpa using Array.mem_of_getElem? ht
        have hall : ([9, 30, 4].all fun u => !Tryz.prog.wantsStandIn u) = true := by kernel_rfl
        exact (show Tryz.prog.wantsStandIn t = false by simpa using List.all_eq_true.1 hall t hm)⟩)
    (by kernel_rfl)
#print axioms fnOpenTag_holds
end Go.Proofs.YthmgajolaekpdaaGreatDoor

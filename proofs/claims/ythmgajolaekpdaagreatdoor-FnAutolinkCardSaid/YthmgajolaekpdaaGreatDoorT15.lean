/- Steps of the walk of the program and plain facts on what it computes. Conditions: as each theorem states them. -/
import Derived.Test.YthmgajolaekpdaaGreatDoorT08
import Derived.Test.YthmgajolaekpdaaGreatDoorT05
import Derived.Test.YthmgajolaekpdaaGreatDoorT14
namespace Go.Proofs
open Go Go.Eng
set_option maxRecDepth 20000
set_option maxHeartbeats 4000000

/-- Printable characters of ASCII. -/
def Prin (l : List UInt8) : Prop := ∀ c ∈ l, 32 ≤ c.toNat ∧ c.toNat ≤ 126
theorem printableN_tr (l : List UInt8) (most : Nat) (hl : l.length ≤ 2147483647) : Tr Tryz.prog 9 [str l, inat most] [] fun u K => K = [] ∧ ∃ r, u = .bool r ∧ (r = true → Prin l ∧ l.length ≤ most) := by
  by_cases hl2 : most < l.length
  · refine Tr.start (n := 26) (rs := [.tmp 4]) rfl rfl rfl rfl fun B => ?_
    (repeat' (first | refine k_seq ?_ | refine k_region ?_ | refine k_nil ?_ | refine k_then ?_ | refine k_true ?_ | refine k_ret ?_ | refine k_ret_then ?_ | refine s_move ?_ | refine s_assign ?_ | refine s_gtr_t ?_ | refine s_lens ?_))
    exact e_ret [] ⟨rfl, false, rfl, fun h => Bool.noConfusion h⟩ (by repeat (first | exact SubH.nilR _ | refine SubH.pick (by repeat (first | exact HTake.here | apply HTake.there)) ?_))
  refine Tr.start (n := 26) (rs := [.tmp 4]) rfl rfl rfl rfl fun B => ?_
  (repeat' (first | refine k_seq ?_ | refine k_region ?_ | refine k_nil ?_ | refine k_then ?_ | refine k_false ?_ | refine k_skip ?_ | refine s_move ?_ | refine s_assign ?_ | refine s_gtr_f ?_ | refine s_lens ?_))
  refine k_midx (fun _ : Unit => []) (fun _ => []) (fun _ => Prin l) ?_ ?_
  · (repeat' (first | refine k_blk ?_))
    refine k_loop (fun j : Nat => [(0, str l), (11, inat l.length), (12, inat j)]) (fun _ => []) (fun j => j ≤ l.length ∧ Prin (l.take j)) (fun j => l.length - j) 0 ⟨Nat.zero_le _, fun c h => by simp at h⟩ (Knows.spec (by repeat (first | exact trivial | refine ⟨rfl, ?_⟩))) (by repeat (first | exact SubH.nilR _ | refine SubH.pick (by repeat (first | exact HTake.here | apply HTake.there)) ?_)) fun j hj => ?_
    obtain ⟨hj, hA⟩ := hj
    by_cases h : j < l.length
    · obtain ⟨c, hc⟩ : ∃ c, l[j]? = some c := ⟨_, List.getElem?_eq_getElem h⟩
      by_cases n1 : c.toNat < 32
      · (repeat' (first | refine k_seq ?_ | refine k_region ?_ | refine k_nil ?_ | refine k_then ?_ | refine k_true ?_ | refine k_blk ?_ | refine k_skip ?_ | refine k_ret ?_ | refine k_ret_then ?_ | refine k_ret_block ?_ | refine s_gskipf ?_ | refine s_move ?_ | refine s_assign ?_ | refine s_lss_t ?_ | refine s_pickt ?_ | refine s_index ?_))
        exact e_ret [] ⟨rfl, false, rfl, fun h => Bool.noConfusion h⟩ (by repeat (first | exact SubH.nilR _ | refine SubH.pick (by repeat (first | exact HTake.here | apply HTake.there)) ?_))
      by_cases n2 : 126 < c.toNat
      · (repeat' (first | refine k_seq ?_ | refine k_region ?_ | refine k_nil ?_ | refine k_then ?_ | refine k_true ?_ | refine k_blk ?_ | refine k_skip ?_ | refine k_ret ?_ | refine k_ret_then ?_ | refine k_ret_block ?_ | refine s_grun ?_ | refine s_move ?_ | refine s_assign ?_ | refine s_lss_t ?_ | refine s_lss_f ?_ | refine s_gtr_t ?_ | refine s_pickf ?_ | refine s_index ?_))
        exact e_ret [] ⟨rfl, false, rfl, fun h => Bool.noConfusion h⟩ (by repeat (first | exact SubH.nilR _ | refine SubH.pick (by repeat (first | exact HTake.here | apply HTake.there)) ?_))
      · (repeat' (first | refine k_seq ?_ | refine k_region ?_ | refine k_nil ?_ | refine k_then ?_ | refine k_true ?_ | refine k_false ?_ | refine k_blk ?_ | refine k_skip ?_ | refine k_block ?_ | refine s_grun ?_ | refine s_move ?_ | refine s_assign ?_ | refine s_add1 ?_ | refine s_lss_t ?_ | refine s_lss_f ?_ | refine s_gtr_f ?_ | refine s_pickf ?_ | refine s_index ?_))
        exact ⟨j + 1, (Knows.spec (by repeat (first | exact trivial | refine ⟨rfl, ?_⟩))), (by repeat (first | exact SubH.nilR _ | refine SubH.pick (by repeat (first | exact HTake.here | apply HTake.there)) ?_)), ⟨by omega, all_snoc hc hA (by omega)⟩, by omega⟩
    · have : j = l.length := by omega
      subst this
      (repeat' (first | refine k_seq ?_ | refine k_region ?_ | refine k_nil ?_ | refine k_then ?_ | refine k_false ?_ | refine k_exit ?_ | refine k_exit_then ?_ | refine k_hit ?_ | refine s_lss_f ?_))
      rw [List.take_length] at hA
      exact ⟨(), (by repeat (first | exact trivial | refine ⟨rfl, ?_⟩)), (by repeat (first | exact SubH.nilR _ | refine SubH.pick (by repeat (first | exact HTake.here | apply HTake.there)) ?_)), hA⟩
  · rintro _ hA
    (repeat' (first | refine k_seq ?_ | refine k_region ?_ | refine k_nil ?_ | refine k_then ?_ | refine k_ret ?_ | refine s_assign ?_))
    exact e_ret [] ⟨rfl, true, rfl, fun _ => ⟨hA, by omega⟩⟩ (by repeat (first | exact SubH.nilR _ | refine SubH.pick (by repeat (first | exact HTake.here | apply HTake.there)) ?_))

theorem specEsc_tr (l : List UInt8) (hl : l.length ≤ 2147483647) : TrP Tryz.prog 12 [str l] (str (escH l)) := by
  refine Tr.start (n := 38) (rs := [.tmp 2]) rfl rfl rfl rfl fun B => ?_
  (repeat' (first | refine k_seq ?_ | refine k_region ?_ | refine k_nil ?_ | refine k_then ?_ | refine s_assign ?_))
  refine k_mid [(3, str (escH l))] [] ?_ ?_
  · (repeat' (first | refine k_blk ?_))
    refine k_loop (fun j : Nat => [(0, str l), (3, str (escH (l.take j))), (4, inat j)]) (fun _ => []) (fun j => j ≤ l.length) (fun j => l.length - j) 0 (Nat.zero_le _) (Knows.spec (by repeat (first | exact trivial | refine ⟨rfl, ?_⟩))) (by repeat (first | exact SubH.nilR _ | refine SubH.pick (by repeat (first | exact HTake.here | apply HTake.there)) ?_)) fun j hj => ?_
    by_cases h : j < l.length
    · obtain ⟨c, hc⟩ : ∃ c, l[j]? = some c := ⟨_, List.getElem?_eq_getElem h⟩
      have hsn := escH_snoc hc
      have hs1 : (l.take (j + 1)).drop j = [c] := slice1 hc
      have hel : (escH (l.take j)).length ≤ 6 * j := by
        have h1 := escH_len (l.take j)
        rw [List.length_take] at h1; omega
      by_cases n1 : c.toNat = 34
      · have e1 : escB c = [38, 113, 117, 111, 116, 59] := by simp [escB, n1]
        rw [e1] at hsn
        (repeat' (first | refine s_addsx ?_ | refine k_seq ?_ | refine k_region ?_ | refine k_nil ?_ | refine k_then ?_ | refine k_true ?_ | refine k_false ?_ | refine k_blk ?_ | refine k_skip ?_ | refine k_block ?_ | refine s_move ?_ | refine s_assign ?_ | refine s_add1 ?_ | refine s_lss_t ?_ | refine s_eql_t ?_ | refine s_eql_f ?_ | refine s_lens ?_ | refine s_index ?_))
        exact ⟨j + 1, by rw [hsn]; exact (Knows.spec (by repeat (first | exact trivial | refine ⟨rfl, ?_⟩))), (by repeat (first | exact SubH.nilR _ | refine SubH.pick (by repeat (first | exact HTake.here | apply HTake.there)) ?_)), by omega, by omega⟩
      by_cases n2 : c.toNat = 38
      · have e1 : escB c = [38, 97, 109, 112, 59] := by simp [escB, n2]
        rw [e1] at hsn
        (repeat' (first | refine s_addsx ?_ | refine k_seq ?_ | refine k_region ?_ | refine k_nil ?_ | refine k_then ?_ | refine k_true ?_ | refine k_blk ?_ | refine k_skip ?_ | refine k_block ?_ | refine s_move ?_ | refine s_assign ?_ | refine s_add1 ?_ | refine s_lss_t ?_ | refine s_eql_t ?_ | refine s_lens ?_ | refine s_index ?_))
        exact ⟨j + 1, by rw [hsn]; exact (Knows.spec (by repeat (first | exact trivial | refine ⟨rfl, ?_⟩))), (by repeat (first | exact SubH.nilR _ | refine SubH.pick (by repeat (first | exact HTake.here | apply HTake.there)) ?_)), by omega, by omega⟩
      by_cases n3 : c.toNat = 60
      · have e1 : escB c = [38, 108, 116, 59] := by simp [escB, n3]
        rw [e1] at hsn
        (repeat' (first | refine s_addsx ?_ | refine k_seq ?_ | refine k_region ?_ | refine k_nil ?_ | refine k_then ?_ | refine k_true ?_ | refine k_false ?_ | refine k_blk ?_ | refine k_skip ?_ | refine k_block ?_ | refine s_move ?_ | refine s_assign ?_ | refine s_add1 ?_ | refine s_lss_t ?_ | refine s_eql_t ?_ | refine s_eql_f ?_ | refine s_lens ?_ | refine s_index ?_))
        exact ⟨j + 1, by rw [hsn]; exact (Knows.spec (by repeat (first | exact trivial | refine ⟨rfl, ?_⟩))), (by repeat (first | exact SubH.nilR _ | refine SubH.pick (by repeat (first | exact HTake.here | apply HTake.there)) ?_)), by omega, by omega⟩
      by_cases n4 : c.toNat = 62
      · have e1 : escB c = [38, 103, 116, 59] := by simp [escB, n4]
        rw [e1] at hsn
        (repeat' (first | refine s_addsx ?_ | refine k_seq ?_ | refine k_region ?_ | refine k_nil ?_ | refine k_then ?_ | refine k_true ?_ | refine k_false ?_ | refine k_blk ?_ | refine k_skip ?_ | refine k_block ?_ | refine s_move ?_ | refine s_assign ?_ | refine s_add1 ?_ | refine s_lss_t ?_ | refine s_eql_t ?_ | refine s_eql_f ?_ | refine s_lens ?_ | refine s_index ?_))
        exact ⟨j + 1, by rw [hsn]; exact (Knows.spec (by repeat (first | exact trivial | refine ⟨rfl, ?_⟩))), (by repeat (first | exact SubH.nilR _ | refine SubH.pick (by repeat (first | exact HTake.here | apply HTake.there)) ?_)), by omega, by omega⟩
      · have e1 : escB c = [c] := by simp [escB, n1, n2, n3, n4]
        have hl1 : ((l.take (j + 1)).drop j).length = 1 := by rw [hs1]; rfl
        rw [e1, ← hs1] at hsn
        (repeat' (first | refine k_seq ?_ | refine k_region ?_ | refine k_nil ?_ | refine k_then ?_ | refine k_true ?_ | refine k_false ?_ | refine k_blk ?_ | refine k_skip ?_ | refine k_block ?_ | refine s_move ?_ | refine s_assign ?_ | refine s_add1 ?_ | refine s_lss_t ?_ | refine s_eql_f ?_ | refine s_lens ?_ | refine s_index ?_ | refine s_slices ?_ | refine s_adds ?_))
        exact ⟨j + 1, by rw [hsn]; exact (Knows.spec (by repeat (first | exact trivial | refine ⟨rfl, ?_⟩))), (by repeat (first | exact SubH.nilR _ | refine SubH.pick (by repeat (first | exact HTake.here | apply HTake.there)) ?_)), by omega, by omega⟩
    · have : j = l.length := by omega
      subst this
      rw [List.take_length]
      (repeat' (first | refine k_seq ?_ | refine k_region ?_ | refine k_nil ?_ | refine k_then ?_ | refine k_false ?_ | refine k_exit ?_ | refine k_exit_then ?_ | refine k_hit ?_ | refine s_move ?_ | refine s_lss_f ?_ | refine s_lens ?_))
      exact ⟨(by repeat (first | exact trivial | refine ⟨rfl, ?_⟩)), (by repeat (first | exact SubH.nilR _ | refine SubH.pick (by repeat (first | exact HTake.here | apply HTake.there)) ?_))⟩
  · (repeat' (first | refine k_seq ?_ | refine k_region ?_ | refine k_nil ?_ | refine k_then ?_ | refine k_ret ?_ | refine s_move ?_ | refine s_assign ?_))
    exact e_pure ⟨rfl, rfl⟩
end Go.Proofs

namespace Go.Proofs
open Go Go.Eng
set_option maxRecDepth 20000
set_option maxHeartbeats 4000000

theorem specIsLetter_tr (c : Nat) (hc : c < 256) : TrP Tryz.prog 36 [.int .u8 c] (.bool (decide (97 ≤ c ∧ c ≤ 122 ∨ 65 ≤ c ∧ c ≤ 90))) := by
  refine Tr.start (n := 17) (rs := [.tmp 2]) rfl rfl rfl rfl fun B => ?_
  (repeat' (first | refine k_seq ?_ | refine k_region ?_ | refine k_nil ?_ | refine k_then ?_ | refine k_ret ?_ | refine s_grun ?_ | refine s_gskipt ?_ | refine s_gskipf ?_ | refine s_gskipu ?_ | refine s_move ?_ | refine s_assign ?_ | refine s_leq_f ?_ | refine s_geq_t ?_ | refine s_leq ?_ | refine s_geq ?_ | refine s_pickt ?_ | refine s_pickf ?_ | refine Ops.split_run (fun hg => ?_) (fun hg => ?_) | refine Ops.split_skip (fun hg => ?_) (fun hg => ?_)))
  all_goals (refine e_pure ?_; refine ⟨?_, rfl⟩; simp only [oneOr, Value.bool.injEq]; first | (symm; exact decide_eq_true (by omega)) | (symm; exact decide_eq_false (by omega)) | (rw [decide_eq_decide]; omega))
theorem specIsDigit_tr (c : Nat) (hc : c < 256) : TrP Tryz.prog 37 [.int .u8 c] (.bool (decide (48 ≤ c ∧ c ≤ 57))) := by
  refine Tr.start (n := 9) (rs := [.tmp 2]) rfl rfl rfl rfl fun B => ?_
  (repeat' (first | refine k_seq ?_ | refine k_region ?_ | refine k_nil ?_ | refine k_then ?_ | refine k_ret ?_ | refine s_grun ?_ | refine s_gskipt ?_ | refine s_move ?_ | refine s_assign ?_ | refine s_leq ?_ | refine s_geq ?_ | refine s_pickt ?_ | refine s_pickf ?_ | refine Ops.split_run (fun hg => ?_) (fun hg => ?_)))
  all_goals (refine e_pure ?_; refine ⟨?_, rfl⟩; simp only [oneOr, Value.bool.injEq]; first | (symm; exact decide_eq_true (by omega)) | (symm; exact decide_eq_false (by omega)) | (rw [decide_eq_decide]; omega))

def safeL : List UInt8 := [45, 95, 46, 43, 33, 42, 39, 40, 41, 44, 37, 35, 64, 63, 61, 59, 58, 47, 38, 36, 126, 124]
abbrev lodi (c : UInt8) : Prop := (97 ≤ c.toNat ∧ c.toNat ≤ 122 ∨ 65 ≤ c.toNat ∧ c.toNat ≤ 90) ∨ 48 ≤ c.toNat ∧ c.toNat ≤ 57
theorem isSafe_tr (c : UInt8) : TrP Tryz.prog 25 [.int .u8 c.toNat] (.bool (decide (lodi c ∨ c ∈ safeL))) := by
  have hc : c.toNat < 256 := c.toNat_lt
  have hL := specIsLetter_tr c.toNat hc
  have hD := specIsDigit_tr c.toNat hc
  by_cases h1 : 97 ≤ c.toNat ∧ c.toNat ≤ 122 ∨ 65 ≤ c.toNat ∧ c.toNat ≤ 90
  · rw [decide_eq_true h1] at hL
    rw [decide_eq_true (.inl (.inl h1))]
    refine Tr.start (n := 18) (rs := [.tmp 2]) rfl rfl rfl rfl fun B => ?_
    (repeat' (first | refine s_pure (hL) ?_ | refine k_seq ?_ | refine k_region ?_ | refine k_nil ?_ | refine k_then ?_ | refine k_true ?_ | refine k_ret ?_ | refine k_ret_then ?_ | refine s_gskipf ?_ | refine s_move ?_ | refine s_assign ?_ | refine s_pickt ?_))
    exact e_pure ⟨rfl, rfl⟩
  rw [decide_eq_false h1] at hL
  by_cases h2 : 48 ≤ c.toNat ∧ c.toNat ≤ 57
  · rw [decide_eq_true h2] at hD
    rw [decide_eq_true (.inl (.inr h2))]
    refine Tr.start (n := 18) (rs := [.tmp 2]) rfl rfl rfl rfl fun B => ?_
    (repeat' (first | refine s_pure (hL) ?_ | refine s_pure (hD) ?_ | refine k_seq ?_ | refine k_region ?_ | refine k_nil ?_ | refine k_then ?_ | refine k_true ?_ | refine k_ret ?_ | refine k_ret_then ?_ | refine s_grun ?_ | refine s_move ?_ | refine s_assign ?_ | refine s_pickf ?_))
    exact e_pure ⟨rfl, rfl⟩
  rw [decide_eq_false h2] at hD
  have hno : ¬ lodi c := by omega
  by_cases hin : c ∈ safeL
  · rw [decide_eq_true (.inr hin)]
    refine Tr.start (n := 18) (rs := [.tmp 2]) rfl rfl rfl rfl fun B => ?_
    (repeat' (first | refine s_pure (hL) ?_ | refine s_pure (hD) ?_ | refine k_seq ?_ | refine k_region ?_ | refine k_nil ?_ | refine k_then ?_ | refine k_false ?_ | refine k_skip ?_ | refine s_grun ?_ | refine s_move ?_ | refine s_assign ?_ | refine s_pickf ?_))
    refine k_midx (fun _ : Unit => []) (fun _ => []) (fun _ => False) ?_ (fun _ h => h.elim)
    (repeat' (first | refine k_blk ?_))
    refine k_loop (fun j : Nat => [(0, .int .u8 c.toNat), (3, inat j)]) (fun _ => []) (fun j => j ≤ 22 ∧ ∀ d ∈ safeL.take j, d ≠ c) (fun j => 22 - j) 0 ⟨Nat.zero_le _, by simp⟩ (Knows.spec (by repeat (first | exact trivial | refine ⟨rfl, ?_⟩))) (by repeat (first | exact SubH.nilR _ | refine SubH.pick (by repeat (first | exact HTake.here | apply HTake.there)) ?_)) fun j hj => ?_
    obtain ⟨hj, hA⟩ := hj
    by_cases h : j < 22
    · obtain ⟨d, hd⟩ : ∃ d, safeL[j]? = some d := ⟨_, List.getElem?_eq_getElem (by simpa [safeL] using h)⟩
      have hd' : ([45, 95, 46, 43, 33, 42, 39, 40, 41, 44, 37, 35, 64, 63, 61, 59, 58, 47, 38, 36, 126, 124] : List UInt8)[j]? = some d := hd
      by_cases e : d.toNat = c.toNat
      · (repeat' (first | refine k_seq ?_ | refine k_region ?_ | refine k_nil ?_ | refine k_then ?_ | refine k_true ?_ | refine k_blk ?_ | refine k_skip ?_ | refine k_ret ?_ | refine k_ret_then ?_ | refine k_ret_block ?_ | refine s_move ?_ | refine s_assign ?_ | refine s_lss_t ?_ | refine s_eql_t ?_ | refine s_index ?_))
        exact e_pure ⟨rfl, rfl⟩
      · (repeat' (first | refine k_seq ?_ | refine k_region ?_ | refine k_nil ?_ | refine k_then ?_ | refine k_true ?_ | refine k_false ?_ | refine k_blk ?_ | refine k_skip ?_ | refine k_block ?_ | refine s_move ?_ | refine s_assign ?_ | refine s_add1 ?_ | refine s_lss_t ?_ | refine s_eql_f ?_ | refine s_index ?_))
        exact ⟨j + 1, (Knows.spec (by repeat (first | exact trivial | refine ⟨rfl, ?_⟩))), (by repeat (first | exact SubH.nilR _ | refine SubH.pick (by repeat (first | exact HTake.here | apply HTake.there)) ?_)), ⟨by omega, all_snoc (p := fun d => d ≠ c) hd hA (fun h => e (by rw [h]))⟩, by omega⟩
    · have : safeL.take j = safeL := List.take_of_length_le (by show 22 ≤ j; omega)
      rw [this] at hA
      exact absurd rfl (hA c hin)
  · rw [decide_eq_false (by rintro (h | h); exact hno h; exact hin h)]
    refine Tr.start (n := 18) (rs := [.tmp 2]) rfl rfl rfl rfl fun B => ?_
    (repeat' (first | refine s_pure (hL) ?_ | refine s_pure (hD) ?_ | refine k_seq ?_ | refine k_region ?_ | refine k_nil ?_ | refine k_then ?_ | refine k_false ?_ | refine k_skip ?_ | refine s_grun ?_ | refine s_move ?_ | refine s_assign ?_ | refine s_pickf ?_))
    refine k_mid [] [] ?_ ?_
    · (repeat' (first | refine k_blk ?_))
      refine k_loop (fun j : Nat => [(0, .int .u8 c.toNat), (3, inat j)]) (fun _ => []) (fun j => j ≤ 22) (fun j => 22 - j) 0 (Nat.zero_le _) (Knows.spec (by repeat (first | exact trivial | refine ⟨rfl, ?_⟩))) (by repeat (first | exact SubH.nilR _ | refine SubH.pick (by repeat (first | exact HTake.here | apply HTake.there)) ?_)) fun j hj => ?_
      by_cases h : j < 22
      · obtain ⟨d, hd⟩ : ∃ d, safeL[j]? = some d := ⟨_, List.getElem?_eq_getElem (by simpa [safeL] using h)⟩
        have hd' : ([45, 95, 46, 43, 33, 42, 39, 40, 41, 44, 37, 35, 64, 63, 61, 59, 58, 47, 38, 36, 126, 124] : List UInt8)[j]? = some d := hd
        have e : ¬ d.toNat = c.toNat := fun e => hin (by rw [← UInt8.toNat_inj.1 e]; exact List.mem_of_getElem? hd)
        (repeat' (first | refine k_seq ?_ | refine k_region ?_ | refine k_nil ?_ | refine k_then ?_ | refine k_true ?_ | refine k_false ?_ | refine k_blk ?_ | refine k_skip ?_ | refine k_block ?_ | refine s_move ?_ | refine s_assign ?_ | refine s_add1 ?_ | refine s_lss_t ?_ | refine s_eql_f ?_ | refine s_index ?_))
        exact ⟨j + 1, (Knows.spec (by repeat (first | exact trivial | refine ⟨rfl, ?_⟩))), (by repeat (first | exact SubH.nilR _ | refine SubH.pick (by repeat (first | exact HTake.here | apply HTake.there)) ?_)), by omega, by omega⟩
      · have : j = 22 := by omega
        subst this
        (repeat' (first | refine k_seq ?_ | refine k_region ?_ | refine k_nil ?_ | refine k_then ?_ | refine k_false ?_ | refine k_exit ?_ | refine k_exit_then ?_ | refine k_hit ?_ | refine s_move ?_ | refine s_lss_f ?_))
        exact ⟨(by repeat (first | exact trivial | refine ⟨rfl, ?_⟩)), (by repeat (first | exact SubH.nilR _ | refine SubH.pick (by repeat (first | exact HTake.here | apply HTake.there)) ?_))⟩
    · (repeat' (first | refine k_seq ?_ | refine k_region ?_ | refine k_nil ?_ | refine k_then ?_ | refine k_ret ?_ | refine s_assign ?_))
      exact e_pure ⟨rfl, rfl⟩
end Go.Proofs

namespace Go.Proofs
open Go Go.Eng
set_option maxRecDepth 20000
set_option maxHeartbeats 4000000

theorem p_quo8 {P : Program} {L : Eng.Loc} {H : Heap} {x y : Operand} {t ty yt : TypeId} {a b : Nat} (hx : ev L x = some (.int .u8 a)) (hy : ev L y = some (.int .u8 b)) (hb : 0 < b) (ha : a < 256) :
    Pure1 P L H (.binOp .quo t x y yt) ty (.int .u8 ((a / b : Nat) : Int)) :=
  p_bin hx hy fun w => by
    have h0 : ¬ (b : Int) = 0 := by omega
    have h1 : ((a : Int)).tdiv (b : Int) = ((a / b : Nat) : Int) := rfl
    have h2 : a / b ≤ a := Nat.div_le_self a b
    simp only [eqGuard_quo, binOp_quo, Op.intDiv, if_neg h0, pure_bind, h1]
    rw [wrap8_of (by have := Int.natCast_nonneg (a / b); omega) (by have : ((a / b : Nat) : Int) ≤ (a : Int) := Int.ofNat_le.2 h2; omega)]; rfl
theorem p_rem8 {P : Program} {L : Eng.Loc} {H : Heap} {x y : Operand} {t ty yt : TypeId} {a b : Nat} (hx : ev L x = some (.int .u8 a)) (hy : ev L y = some (.int .u8 b)) (hb : 0 < b) (ha : a < 256) :
    Pure1 P L H (.binOp .rem t x y yt) ty (.int .u8 ((a % b : Nat) : Int)) :=
  p_bin hx hy fun w => by
    have h0 : ¬ (b : Int) = 0 := by omega
    have h1 : ((a : Int)).tmod (b : Int) = ((a % b : Nat) : Int) := rfl
    have h2 : a % b ≤ a := Nat.mod_le a b
    simp only [eqGuard_rem, binOp_rem, Op.intDiv, if_neg h0, pure_bind, h1]
    first | rfl | (rw [wrap8_of (by have := Int.natCast_nonneg (a % b); omega) (by have : ((a % b : Nat) : Int) ≤ (a : Int) := Int.ofNat_le.2 h2; omega)]; rfl)
theorem p_slice8 {P : Program} {L : Eng.Loc} {H : Heap} {x lo hi : Operand} {t ty : TypeId} {l l' : List UInt8} {a b : Nat} (ht : P.underlying t = some .string) (hx : ev L x = some (str l))
    (hlo : ev L lo = some (.int .u8 a)) (hhi : ev L hi = some (.int .u8 b)) (hab : a ≤ b) (hb : b ≤ l.length) (hl : l' = (l.take b).drop a) :
    Pure1 P L H (.slice t x (some lo) (some hi) none) ty (str l') := by
  intro ρ w o hρ _ ho _
  subst hl
  have hs : ByteArray.size ⟨l.toArray⟩ = l.length := by simp [ByteArray.size]
  simp [execOp, ho, hρ _ _ hx, hρ _ _ hlo, hρ _ _ hhi, Instr.sliceAt, Instr.slice, underlying, ht, Instr.sliceBounds, Instr.sliceBound, asIntOf, hs, hab, hb, extract_str]

def hexDig : List UInt8 := [48, 49, 50, 51, 52, 53, 54, 55, 56, 57, 65, 66, 67, 68, 69, 70]
def hexB (n : Nat) : List UInt8 := ([37] ++ (hexDig.take (n / 16 + 1)).drop (n / 16)) ++ (hexDig.take (n % 16 + 1)).drop (n % 16)
def urlCheck (c : UInt8) : Bool := !decide (32 < c.toNat ∧ c.toNat < 127 ∧ c.toNat ≠ 60 ∧ c.toNat ≠ 62) || (if c.toNat = 38 then pairB linkPairs c == [38, 97, 109, 112, 59] else if lodi c ∨ c ∈ safeL then pairB linkPairs c == [c] else pairB linkPairs c == hexB c.toNat)
theorem urlCheck_all : (List.range 256).all (fun n => urlCheck (UInt8.ofNat n)) = true := by kernel_rfl
theorem urlCheck_ok (c : UInt8) : urlCheck c = true := by
  have h := List.all_eq_true.1 urlCheck_all c.toNat (List.mem_range.2 c.toNat_lt)
  simpa using h
theorem url_amp {c : UInt8} (h : 32 < c.toNat ∧ c.toNat < 127 ∧ c.toNat ≠ 60 ∧ c.toNat ≠ 62) (e : c.toNat = 38) : pairB linkPairs c = [38, 97, 109, 112, 59] := by
  have := urlCheck_ok c
  unfold urlCheck at this
  rw [decide_eq_true h, if_pos e] at this
  simpa using this
theorem url_safe {c : UInt8} (h : 32 < c.toNat ∧ c.toNat < 127 ∧ c.toNat ≠ 60 ∧ c.toNat ≠ 62) (e : ¬ c.toNat = 38) (hs : lodi c ∨ c ∈ safeL) : pairB linkPairs c = [c] := by
  have := urlCheck_ok c
  unfold urlCheck at this
  rw [decide_eq_true h, if_neg e, if_pos hs] at this
  simpa using this
theorem url_hex {c : UInt8} (h : 32 < c.toNat ∧ c.toNat < 127 ∧ c.toNat ≠ 60 ∧ c.toNat ≠ 62) (e : ¬ c.toNat = 38) (hs : ¬ (lodi c ∨ c ∈ safeL)) : pairB linkPairs c = hexB c.toNat := by
  have := urlCheck_ok c
  unfold urlCheck at this
  rw [decide_eq_true h, if_neg e, if_neg hs] at this
  simpa using this
theorem specURL_tr (l : List UInt8) (hl : l.length ≤ 1000000) (hu : ∀ c ∈ l, 32 < c.toNat ∧ c.toNat < 127 ∧ c.toNat ≠ 60 ∧ c.toNat ≠ 62) : TrP Tryz.prog 11 [str l] (str (pairH linkPairs l)) := by
  refine Tr.start (n := 55) (rs := [.tmp 2]) rfl rfl rfl rfl fun B => ?_
  (repeat' (first | refine k_seq ?_ | refine k_region ?_ | refine k_nil ?_ | refine k_then ?_ | refine s_assign ?_))
  refine k_mid [(3, str (pairH linkPairs l))] [] ?_ ?_
  · (repeat' (first | refine k_blk ?_))
    refine k_loop (fun j : Nat => [(0, str l), (3, str (pairH linkPairs (l.take j))), (4, inat j)]) (fun _ => []) (fun j => j ≤ l.length) (fun j => l.length - j) 0 (Nat.zero_le _) (Knows.spec (by repeat (first | exact trivial | refine ⟨rfl, ?_⟩))) (by repeat (first | exact SubH.nilR _ | refine SubH.pick (by repeat (first | exact HTake.here | apply HTake.there)) ?_)) fun j hj => ?_
    by_cases h : j < l.length
    · obtain ⟨c, hc⟩ : ∃ c, l[j]? = some c := ⟨_, List.getElem?_eq_getElem h⟩
      have hcu := hu c (List.mem_of_getElem? hc)
      have hsn := pairH_snoc (ps := linkPairs) hc
      have hs1 : (l.take (j + 1)).drop j = [c] := slice1 hc
      have hel : (pairH linkPairs (l.take j)).length ≤ 6 * j := by
        have h1 := pairH_len linkOK (l.take j)
        rw [List.length_take] at h1; omega
      have hS := isSafe_tr c
      by_cases n1 : c.toNat = 38
      · rw [url_amp hcu n1] at hsn
        (repeat' (first | refine s_addsx ?_ | refine k_seq ?_ | refine k_region ?_ | refine k_nil ?_ | refine k_then ?_ | refine k_true ?_ | refine k_blk ?_ | refine k_skip ?_ | refine k_block ?_ | refine s_move ?_ | refine s_assign ?_ | refine s_add1 ?_ | refine s_lss_t ?_ | refine s_eql_t ?_ | refine s_lens ?_ | refine s_index ?_))
        exact ⟨j + 1, by rw [hsn]; exact (Knows.spec (by repeat (first | exact trivial | refine ⟨rfl, ?_⟩))), (by repeat (first | exact SubH.nilR _ | refine SubH.pick (by repeat (first | exact HTake.here | apply HTake.there)) ?_)), by omega, by omega⟩
      by_cases n2 : lodi c ∨ c ∈ safeL
      · rw [decide_eq_true n2] at hS
        have hl1 : ((l.take (j + 1)).drop j).length = 1 := by rw [hs1]; rfl
        rw [url_safe hcu n1 n2, ← hs1] at hsn
        (repeat' (first | refine s_pure (hS) ?_ | refine k_seq ?_ | refine k_region ?_ | refine k_nil ?_ | refine k_then ?_ | refine k_true ?_ | refine k_false ?_ | refine k_blk ?_ | refine k_skip ?_ | refine k_block ?_ | refine s_move ?_ | refine s_assign ?_ | refine s_add1 ?_ | refine s_lss_t ?_ | refine s_eql_f ?_ | refine s_lens ?_ | refine s_index ?_ | refine s_slices ?_ | refine s_adds ?_))
        exact ⟨j + 1, by rw [hsn]; exact (Knows.spec (by repeat (first | exact trivial | refine ⟨rfl, ?_⟩))), (by repeat (first | exact SubH.nilR _ | refine SubH.pick (by repeat (first | exact HTake.here | apply HTake.there)) ?_)), by omega, by omega⟩
      · rw [decide_eq_false n2] at hS
        have hd1 : c.toNat / 16 < 16 := by omega
        have hd2 : c.toNat % 16 < 16 := by omega
        rw [url_hex hcu n1 n2] at hsn
        have hsn' : pairH linkPairs (l.take (j + 1)) = ((pairH linkPairs (l.take j) ++ [37]) ++ (hexDig.take (c.toNat / 16 + 1)).drop (c.toNat / 16)) ++ (hexDig.take (c.toNat % 16 + 1)).drop (c.toNat % 16) := by rw [hsn]; simp only [hexB, List.append_assoc]
        have hx1 : ((hexDig.take (c.toNat / 16 + 1)).drop (c.toNat / 16)).length ≤ 1 := by rw [List.length_drop, List.length_take]; omega
        have hx2 : ((hexDig.take (c.toNat % 16 + 1)).drop (c.toNat % 16)).length ≤ 1 := by rw [List.length_drop, List.length_take]; omega
        (repeat' (first | refine s_pure (hS) ?_ | refine k_seq ?_ | refine k_region ?_ | refine k_nil ?_ | refine k_then ?_ | refine k_true ?_ | refine k_false ?_ | refine k_blk ?_ | refine k_skip ?_ | refine s_move ?_ | refine s_assign ?_ | refine s_lss_t ?_ | refine s_eql_f ?_ | refine s_lens ?_ | refine s_index ?_))
        refine Wp.draw_all (id := 5) Mixed.out (by kernel_rfl) ?_
        (repeat' (first | refine OpsS.pure _ (p_add8 (a := c.toNat / 16) (b := 1) (by rfl) (by rfl) rfl (by omega)) (by rfl) ?_ | refine OpsS.pure _ (p_add8 (a := c.toNat % 16) (b := 1) (by rfl) (by rfl) rfl (by omega)) (by rfl) ?_ | refine OpsS.pure _ (p_quo8 (a := c.toNat) (b := 16) (by rfl) (by rfl) (by omega) (by omega)) (by rfl) ?_ | refine OpsS.pure _ (p_rem8 (a := c.toNat) (b := 16) (by rfl) (by rfl) (by omega) (by omega)) (by rfl) ?_ | refine OpsS.pure _ (p_slice8 (l := hexDig) (a := c.toNat / 16) (b := c.toNat / 16 + 1) UStr.out (by rfl) (by rfl) (by rfl) (by omega) (by show _ ≤ 16; omega) rfl) (by rfl) ?_ | refine OpsS.pure _ (p_slice8 (l := hexDig) (a := c.toNat % 16) (b := c.toNat % 16 + 1) UStr.out (by rfl) (by rfl) (by rfl) (by omega) (by show _ ≤ 16; omega) rfl) (by rfl) ?_ | refine OpsS.pure _ (p_add_str (a := pairH linkPairs (l.take j)) (b := [37]) (by rfl) (by rfl) rfl (by simp only [List.length_cons, List.length_nil]; omega)) (by rfl) ?_ | refine OpsS.pure _ (p_add_str (b := (hexDig.take (c.toNat / 16 + 1)).drop (c.toNat / 16)) (by rfl) (by rfl) rfl (by simp only [List.length_append, List.length_cons, List.length_nil]; omega)) (by rfl) ?_ | refine OpsS.pure _ (p_add_str (b := (hexDig.take (c.toNat % 16 + 1)).drop (c.toNat % 16)) (by rfl) (by rfl) rfl (by simp only [List.length_append, List.length_cons, List.length_nil]; omega)) (by rfl) ?_ | refine u_nil ?_ | refine u_move ?_ | refine u_assign ?_ | refine u_index ?_))
        (repeat' (first | refine k_region ?_ | refine k_nil ?_ | refine k_then ?_ | refine k_block ?_ | refine s_move ?_ | refine s_assign ?_ | refine s_add1 ?_))
        exact ⟨j + 1, by rw [hsn']; exact (Knows.spec (by repeat (first | exact trivial | refine ⟨rfl, ?_⟩))), (by repeat (first | exact SubH.nilR _ | refine SubH.pick (by repeat (first | exact HTake.here | apply HTake.there)) ?_)), by omega, by omega⟩
    · have : j = l.length := by omega
      subst this
      rw [List.take_length]
      (repeat' (first | refine k_seq ?_ | refine k_region ?_ | refine k_nil ?_ | refine k_then ?_ | refine k_false ?_ | refine k_exit ?_ | refine k_exit_then ?_ | refine k_hit ?_ | refine s_move ?_ | refine s_lss_f ?_ | refine s_lens ?_))
      exact ⟨(by repeat (first | exact trivial | refine ⟨rfl, ?_⟩)), (by repeat (first | exact SubH.nilR _ | refine SubH.pick (by repeat (first | exact HTake.here | apply HTake.there)) ?_))⟩
  · (repeat' (first | refine k_seq ?_ | refine k_region ?_ | refine k_nil ?_ | refine k_then ?_ | refine k_ret ?_ | refine s_move ?_ | refine s_assign ?_))
    exact e_pure ⟨rfl, rfl⟩

theorem fnAutolink_tr (sc rest : List UInt8) (h1 : sc.length ≤ 9223372036854775807) (h2 : rest.length ≤ 9223372036854775807) :
    Tr Tryz.prog 3 [str sc, str rest] [] fun u K => u = .bool true ∧ K = [] := by
  refine Tr.start (n := 68) (rs := [.tmp 4]) rfl rfl rfl rfl fun B => ?_
  by_cases ha0 : 2147483647 < sc.length
  · (repeat' (first | refine k_seq ?_ | refine k_region ?_ | refine k_nil ?_ | refine k_then ?_ | refine k_true ?_ | refine k_ret ?_ | refine k_ret_then ?_ | refine s_gskipf ?_ | refine s_move ?_ | refine s_assign ?_ | refine s_gtr_t ?_ | refine s_pickt ?_ | refine s_lens ?_))
    exact e_ret [] ⟨rfl, rfl⟩ (by repeat (first | exact SubH.nilR _ | refine SubH.pick (by repeat (first | exact HTake.here | apply HTake.there)) ?_))
  by_cases hb0 : 2147483647 < rest.length
  · (repeat' (first | refine k_seq ?_ | refine k_region ?_ | refine k_nil ?_ | refine k_then ?_ | refine k_true ?_ | refine k_ret ?_ | refine k_ret_then ?_ | refine s_grun ?_ | refine s_move ?_ | refine s_assign ?_ | refine s_gtr_t ?_ | refine s_gtr_f ?_ | refine s_pickf ?_ | refine s_lens ?_))
    exact e_ret [] ⟨rfl, rfl⟩ (by repeat (first | exact SubH.nilR _ | refine SubH.pick (by repeat (first | exact HTake.here | apply HTake.there)) ?_))
  (repeat' (first | refine k_seq ?_ | refine k_region ?_ | refine k_nil ?_ | refine k_then ?_ | refine k_false ?_ | refine k_skip ?_ | refine s_grun ?_ | refine s_move ?_ | refine s_assign ?_ | refine s_gtr_f ?_ | refine s_pickf ?_ | refine s_lens ?_))
  refine s_call (only_tr sc [97, 98, 99, 100, 101, 102, 103, 104, 105, 106, 107, 108, 109, 110, 111, 112, 113, 114, 115, 116, 117, 118, 119, 120, 121, 122, 65, 66, 67, 68, 69, 70, 71, 72, 73, 74, 75, 76, 77, 78, 79, 80, 81, 82, 83, 84, 85, 86, 87, 88, 89, 90] 32 (by omega)) (fun u K hR => ?_)
  obtain ⟨rfl, r, rfl, hA⟩ := hR
  cases r with
  | false =>
    (repeat' (first | refine k_seq ?_ | refine k_region ?_ | refine k_nil ?_ | refine k_then ?_ | refine k_true ?_ | refine k_ret ?_ | refine k_ret_then ?_ | refine s_gskipf ?_ | refine s_move ?_ | refine s_assign ?_ | refine s_pickt ?_ | refine s_notf ?_))
    exact e_ret [] ⟨rfl, rfl⟩ (by repeat (first | exact SubH.nilR _ | refine SubH.pick (by repeat (first | exact HTake.here | apply HTake.there)) ?_))
  | true =>
  obtain ⟨hA1, hA2⟩ := hA rfl
  by_cases hsh : sc.length < 2
  · (repeat' (first | refine k_seq ?_ | refine k_region ?_ | refine k_nil ?_ | refine k_then ?_ | refine k_true ?_ | refine k_ret ?_ | refine k_ret_then ?_ | refine s_grun ?_ | refine s_gskipf ?_ | refine s_move ?_ | refine s_assign ?_ | refine s_lss_t ?_ | refine s_pickt ?_ | refine s_pickf ?_ | refine s_lens ?_ | refine s_nott ?_))
    exact e_ret [] ⟨rfl, rfl⟩ (by repeat (first | exact SubH.nilR _ | refine SubH.pick (by repeat (first | exact HTake.here | apply HTake.there)) ?_))
  (repeat' (first | refine s_grun ?_ | refine s_move ?_ | refine s_lss_f ?_ | refine s_pickf ?_ | refine s_lens ?_ | refine s_nott ?_))
  refine s_call (printableN_tr rest 60 (by omega)) (fun u K hR => ?_)
  obtain ⟨rfl, r, rfl, hB⟩ := hR
  cases r with
  | false =>
    (repeat' (first | refine k_seq ?_ | refine k_region ?_ | refine k_nil ?_ | refine k_then ?_ | refine k_true ?_ | refine k_ret ?_ | refine k_ret_then ?_ | refine s_grun ?_ | refine s_assign ?_ | refine s_pickf ?_ | refine s_notf ?_))
    exact e_ret [] ⟨rfl, rfl⟩ (by repeat (first | exact SubH.nilR _ | refine SubH.pick (by repeat (first | exact HTake.here | apply HTake.there)) ?_))
  | true =>
  obtain ⟨hB1, hB2⟩ := hB rfl
  (repeat' (first | refine k_seq ?_ | refine k_region ?_ | refine k_nil ?_ | refine k_then ?_ | refine k_false ?_ | refine k_skip ?_ | refine s_grun ?_ | refine s_move ?_ | refine s_pickf ?_ | refine s_lens ?_ | refine s_nott ?_))
  refine k_midx (fun _ : Unit => [(0, str sc), (1, str rest)]) (fun _ => []) (fun _ => ∀ c ∈ rest, c.toNat ≠ 32 ∧ c.toNat ≠ 60 ∧ c.toNat ≠ 62) ?_ ?_
  · (repeat' (first | refine k_blk ?_))
    refine k_loop (fun j : Nat => [(0, str sc), (1, str rest), (29, inat rest.length), (30, inat j)]) (fun _ => []) (fun j => j ≤ rest.length ∧ ∀ c ∈ rest.take j, c.toNat ≠ 32 ∧ c.toNat ≠ 60 ∧ c.toNat ≠ 62) (fun j => rest.length - j) 0 ⟨Nat.zero_le _, fun c h => by simp at h⟩ (Knows.spec (by repeat (first | exact trivial | refine ⟨rfl, ?_⟩))) (by repeat (first | exact SubH.nilR _ | refine SubH.pick (by repeat (first | exact HTake.here | apply HTake.there)) ?_)) fun j hj => ?_
    obtain ⟨hj, hC⟩ := hj
    by_cases h : j < rest.length
    · obtain ⟨c, hc⟩ : ∃ c, rest[j]? = some c := ⟨_, List.getElem?_eq_getElem h⟩
      by_cases n1 : c.toNat = 32
      · (repeat' (first | refine k_seq ?_ | refine k_region ?_ | refine k_nil ?_ | refine k_then ?_ | refine k_true ?_ | refine k_blk ?_ | refine k_skip ?_ | refine k_ret ?_ | refine k_ret_then ?_ | refine k_ret_block ?_ | refine s_gskipf ?_ | refine s_move ?_ | refine s_assign ?_ | refine s_lss_t ?_ | refine s_eql_t ?_ | refine s_pickt ?_ | refine s_index ?_))
        exact e_ret [] ⟨rfl, rfl⟩ (by repeat (first | exact SubH.nilR _ | refine SubH.pick (by repeat (first | exact HTake.here | apply HTake.there)) ?_))
      by_cases n2 : c.toNat = 60
      · (repeat' (first | refine k_seq ?_ | refine k_region ?_ | refine k_nil ?_ | refine k_then ?_ | refine k_true ?_ | refine k_blk ?_ | refine k_skip ?_ | refine k_ret ?_ | refine k_ret_then ?_ | refine k_ret_block ?_ | refine s_grun ?_ | refine s_gskipf ?_ | refine s_move ?_ | refine s_assign ?_ | refine s_lss_t ?_ | refine s_eql_t ?_ | refine s_eql_f ?_ | refine s_pickt ?_ | refine s_pickf ?_ | refine s_index ?_))
        exact e_ret [] ⟨rfl, rfl⟩ (by repeat (first | exact SubH.nilR _ | refine SubH.pick (by repeat (first | exact HTake.here | apply HTake.there)) ?_))
      by_cases n3 : c.toNat = 62
      · (repeat' (first | refine k_seq ?_ | refine k_region ?_ | refine k_nil ?_ | refine k_then ?_ | refine k_true ?_ | refine k_blk ?_ | refine k_skip ?_ | refine k_ret ?_ | refine k_ret_then ?_ | refine k_ret_block ?_ | refine s_grun ?_ | refine s_move ?_ | refine s_assign ?_ | refine s_lss_t ?_ | refine s_eql_t ?_ | refine s_eql_f ?_ | refine s_pickf ?_ | refine s_index ?_))
        exact e_ret [] ⟨rfl, rfl⟩ (by repeat (first | exact SubH.nilR _ | refine SubH.pick (by repeat (first | exact HTake.here | apply HTake.there)) ?_))
      · (repeat' (first | refine k_seq ?_ | refine k_region ?_ | refine k_nil ?_ | refine k_then ?_ | refine k_true ?_ | refine k_false ?_ | refine k_blk ?_ | refine k_skip ?_ | refine k_block ?_ | refine s_grun ?_ | refine s_move ?_ | refine s_assign ?_ | refine s_add1 ?_ | refine s_lss_t ?_ | refine s_eql_f ?_ | refine s_pickf ?_ | refine s_index ?_))
        exact ⟨j + 1, (Knows.spec (by repeat (first | exact trivial | refine ⟨rfl, ?_⟩))), (by repeat (first | exact SubH.nilR _ | refine SubH.pick (by repeat (first | exact HTake.here | apply HTake.there)) ?_)), ⟨by omega, all_snoc (p := fun c => c.toNat ≠ 32 ∧ c.toNat ≠ 60 ∧ c.toNat ≠ 62) hc hC ⟨n1, n2, n3⟩⟩, by omega⟩
    · have : j = rest.length := by omega
      subst this
      rw [List.take_length] at hC
      (repeat' (first | refine k_seq ?_ | refine k_region ?_ | refine k_nil ?_ | refine k_then ?_ | refine k_false ?_ | refine k_exit ?_ | refine k_exit_then ?_ | refine k_hit ?_ | refine s_lss_f ?_))
      exact ⟨(), (by repeat (first | exact trivial | refine ⟨rfl, ?_⟩)), (by repeat (first | exact SubH.nilR _ | refine SubH.pick (by repeat (first | exact HTake.here | apply HTake.there)) ?_)), hC⟩
  · rintro _ hC
    have hT : AText sc rest := ⟨by omega, hA1, fun c hc => by
      have := hA2 c hc
      revert this
      have hk : (([97, 98, 99, 100, 101, 102, 103, 104, 105, 106, 107, 108, 109, 110, 111, 112, 113, 114, 115, 116, 117, 118, 119, 120, 121, 122, 65, 66, 67, 68, 69, 70, 71, 72, 73, 74, 75, 76, 77, 78, 79, 80, 81, 82, 83, 84, 85, 86, 87, 88, 89, 90] : List UInt8).all fun c => decide (let8 c.toNat)) = true := by decide
      intro hm
      exact of_decide_eq_true (List.all_eq_true.1 hk c hm), hB2, fun c hc => by
      have a := hB1 c hc
      have b := hC c hc
      omega⟩
    have t1 := htmlAuto_tr hT
    have hus : ∀ c ∈ autoS sc rest, 32 < c.toNat ∧ c.toNat < 127 ∧ c.toNat ≠ 60 ∧ c.toNat ≠ 62 := by
      intro c hc
      simp only [List.mem_append, List.mem_singleton] at hc
      rcases hc with (hc | rfl) | hc
      · have := hT.sch c hc; omega
      · decide
      · exact hT.url c hc
    have l1 := hT.most
    have l2 := hT.len
    have hsl : (autoS sc rest).length ≤ 1000 := by simp; omega
    have t2 := specURL_tr (autoS sc rest) (by omega) hus
    have t3 := specEsc_tr (autoS sc rest) (by omega)
    have k1 := pairH_len linkOK (autoS sc rest)
    have k2 := escH_len (autoS sc rest)
    have heq : paraO (autoOut (autoS sc rest)) = ((([60, 112, 62, 60, 97, 32, 104, 114, 101, 102, 61, 34] ++ pairH linkPairs (autoS sc rest)) ++ [34, 62]) ++ escH (autoS sc rest)) ++ [60, 47, 97, 62, 60, 47, 112, 62, 10] := by simp [paraO]
    generalize hz1 : pairH linkPairs (autoS sc rest) = z1 at *
    generalize hz2 : escH (autoS sc rest) = z2 at *
    (repeat' (first | refine s_addsx ?_ | refine s_callD (t1) ?_ | refine s_pure (t2) ?_ | refine s_pure (t3) ?_ | refine s_eqs_t (hr := heq) ?_ | refine k_seq ?_ | refine k_region ?_ | refine k_nil ?_ | refine k_then ?_ | refine k_ret ?_ | refine s_move ?_ | refine s_assign ?_ | refine s_buildx ?_))
    exact e_ret [] ⟨rfl, rfl⟩ (by repeat (first | exact SubH.nilR _ | refine SubH.pick (by repeat (first | exact HTake.here | apply HTake.there)) ?_))
end Go.Proofs

/- zzIndex and zzContains of one byte. Conditions: a bound on the length. -/
import Derived.Test.YtblaoglgknjepaaGreatDoorW14
namespace Go.Proofs
open Go Go.Eng
set_option maxRecDepth 20000
set_option maxHeartbeats 4000000

theorem slice1 {l : List UInt8} {k : Nat} {d : UInt8} (h : l[k]? = some d) : (l.take (k + 1)).drop k = [d] := by
  obtain ⟨h1, h2⟩ := List.getElem?_eq_some_iff.1 h
  rw [List.take_succ_eq_append_getElem h1, List.drop_append_of_le_length (by simp; omega), List.drop_eq_nil_of_le (by simp; exact Nat.min_le_left _ _)]
  simp [h2]

/-- The place of the first byte 'c', or the length. -/
def fst1 (c : UInt8) : List UInt8 → Nat
  | [] => 0
  | d :: l => if d = c then 0 else fst1 c l + 1
theorem fst1_le (c : UInt8) : ∀ l, fst1 c l ≤ l.length
  | [] => Nat.le_refl _
  | d :: l => by have := fst1_le c l; simp only [fst1, List.length_cons]; split <;> omega
theorem fst1_lt {c : UInt8} : ∀ {l : List UInt8} {k : Nat}, k < fst1 c l → ∃ d, l[k]? = some d ∧ d ≠ c
  | [], k, h => by simp [fst1] at h
  | d :: l, k, h => by
    simp only [fst1] at h
    split at h
    · omega
    · rename_i hd
      cases k with
      | zero => exact ⟨d, rfl, hd⟩
      | succ k => simpa using fst1_lt (l := l) (k := k) (by omega)
theorem fst1_at {c : UInt8} : ∀ {l : List UInt8}, fst1 c l < l.length → l[fst1 c l]? = some c
  | [], h => by simp [fst1] at h
  | d :: l, h => by
    simp only [fst1] at h ⊢
    split
    · rename_i hd; simp [hd]
    · rename_i hd
      rw [if_neg hd] at h
      simpa using fst1_at (l := l) (by simpa using h)

theorem zzIndex_tr (l : List UInt8) (c : UInt8) (hl : l.length ≤ 140737488355328) (r : Int) (hr : r = if fst1 c l < l.length then (fst1 c l : Int) else -1) :
    TrP Tryz.prog 27 [str l, str [c]] (.int .i64 r) := by
  have hle := fst1_le c l
  refine Tr.start (n := 25) (rs := [.tmp 4]) rfl rfl rfl rfl fun B => ?_
  (repeat' (first | refine k_seq ?_ | refine k_region ?_ | refine k_nil ?_ | refine k_then ?_ | refine s_assign ?_))
  refine k_midx (fun _ : Unit => [(0, str l), (1, str [c]), (5, inat l.length)]) (fun _ => []) (fun _ => ¬ fst1 c l < l.length) ?_ ?_
  · (repeat' (first | refine k_blk ?_))
    refine k_loop (fun k : Nat => [(0, str l), (1, str [c]), (5, inat k)]) (fun _ => []) (fun k => k ≤ fst1 c l) (fun k => fst1 c l - k) 0 (by omega) (Knows.spec (by repeat (first | exact trivial | refine ⟨rfl, ?_⟩))) (by repeat (first | exact SubH.nilR _ | refine SubH.pick (by repeat (first | exact HTake.here | apply HTake.there)) ?_)) fun k hk => ?_
    have e1 : [c].length = 1 := rfl
    by_cases hlt : k < l.length
    · by_cases hkf : k < fst1 c l
      · obtain ⟨d, hd1, hd2⟩ := fst1_lt hkf
        have hs : ¬ (l.take (k + [c].length)).drop k = [c] := by rw [e1, slice1 hd1]; simpa using hd2
        (repeat' (first | refine k_seq ?_ | refine k_region ?_ | refine k_nil ?_ | refine k_then ?_ | refine k_true ?_ | refine k_false ?_ | refine k_blk ?_ | refine k_skip ?_ | refine k_block ?_ | refine s_move ?_ | refine s_assign ?_ | refine s_add1 ?_ | refine s_add ?_ | refine s_leq_t ?_ | refine s_lens ?_ | refine s_slices ?_ | refine s_eqs_f ?_))
        exact ⟨k + 1, (Knows.spec (by repeat (first | exact trivial | refine ⟨rfl, ?_⟩))), (by repeat (first | exact SubH.nilR _ | refine SubH.pick (by repeat (first | exact HTake.here | apply HTake.there)) ?_)), by omega, by omega⟩
      · have hkf' : k = fst1 c l := by omega
        subst hkf'
        have hs : (l.take (fst1 c l + [c].length)).drop (fst1 c l) = [c] := by rw [e1, slice1 (fst1_at hlt)]
        rw [if_pos hlt] at hr
        subst hr
        (repeat' (first | refine k_seq ?_ | refine k_region ?_ | refine k_nil ?_ | refine k_then ?_ | refine k_true ?_ | refine k_blk ?_ | refine k_skip ?_ | refine k_ret ?_ | refine k_ret_then ?_ | refine k_ret_block ?_ | refine s_move ?_ | refine s_assign ?_ | refine s_add ?_ | refine s_leq_t ?_ | refine s_lens ?_ | refine s_slices ?_ | refine s_eqs_t ?_))
        exact e_pure ⟨rfl, rfl⟩
    · have : k = l.length := by omega
      subst this
      (repeat' (first | refine k_seq ?_ | refine k_region ?_ | refine k_nil ?_ | refine k_then ?_ | refine k_false ?_ | refine k_exit ?_ | refine k_exit_then ?_ | refine k_hit ?_ | refine s_move ?_ | refine s_add ?_ | refine s_leq_f ?_ | refine s_lens ?_))
      exact ⟨(), (by repeat (first | exact trivial | refine ⟨rfl, ?_⟩)), (by repeat (first | exact SubH.nilR _ | refine SubH.pick (by repeat (first | exact HTake.here | apply HTake.there)) ?_)), by omega⟩
  · intro _ this
    rw [if_neg this] at hr
    subst hr
    (repeat' (first | refine k_seq ?_ | refine k_region ?_ | refine k_nil ?_ | refine k_then ?_ | refine k_ret ?_ | refine s_assign ?_))
    exact e_pure ⟨rfl, rfl⟩

theorem zzContains_tr (l : List UInt8) (c : UInt8) (hl : l.length ≤ 140737488355328) (hn : ¬ fst1 c l < l.length) :
    TrP Tryz.prog 24 [str l, str [c]] (.bool false) := by
  refine Tr.start (n := 9) (rs := [.tmp 4]) rfl rfl rfl rfl fun B => ?_
  (repeat' (first | refine s_pure (zzIndex_tr l c hl (-1) (by rw [if_neg hn])) ?_ | refine k_seq ?_ | refine k_region ?_ | refine k_nil ?_ | refine k_then ?_ | refine k_ret ?_ | refine s_move ?_ | refine s_assign ?_ | refine s_geq_f ?_))
  exact e_pure ⟨rfl, rfl⟩
end Go.Proofs

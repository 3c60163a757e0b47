/- The laws' small helpers (ascii, longest, times, EscapeHTML). Conditions: bounds on the length. -/
import Derived.Test.YtblaoglgknjepaaGreatDoorF8
import Derived.Test.YtblaoglgknjepaaGreatDoorW15
namespace Go.Proofs
open Go Go.Eng
set_option maxRecDepth 20000
set_option maxHeartbeats 4000000

/-- Printable characters of ASCII, and line feeds. -/
def AsciiN (l : List UInt8) : Prop := ∀ (k : Nat) (c : UInt8), l[k]? = some c → c.toNat = 10 ∨ 32 ≤ c.toNat ∧ c.toNat ≤ 126
theorem asciiN_tr (l : List UInt8) (hl : l.length ≤ 2147483647) : Tr Tryz.prog 7 [str l, .bool true] [] fun u K => K = [] ∧ ∃ r, u = .bool r ∧ (r = true → AsciiN l) := by
  refine Tr.start (n := 32) (rs := [.tmp 4]) rfl rfl rfl rfl fun B => ?_
  (repeat' (first | refine k_seq ?_ | refine k_region ?_ | refine k_nil ?_ | refine k_then ?_ | refine s_assign ?_))
  refine k_midx (fun _ : Unit => []) (fun _ => []) (fun _ => AsciiN l) ?_ ?_
  · (repeat' (first | refine k_blk ?_))
    refine k_loop (fun j : Nat => [(0, str l), (1, .bool true), (5, inat j)]) (fun _ => []) (fun j => j ≤ l.length ∧ ∀ (k : Nat) (c : UInt8), k < j → l[k]? = some c → c.toNat = 10 ∨ 32 ≤ c.toNat ∧ c.toNat ≤ 126) (fun j => l.length - j) 0 ⟨Nat.zero_le _, fun k c h => absurd h (Nat.not_lt_zero _)⟩ (Knows.spec (by repeat (first | exact trivial | refine ⟨rfl, ?_⟩))) (by repeat (first | exact SubH.nilR _ | refine SubH.pick (by repeat (first | exact HTake.here | apply HTake.there)) ?_)) fun j hj => ?_
    obtain ⟨hj, hA⟩ := hj
    by_cases h : j < l.length
    · obtain ⟨c, hc⟩ : ∃ c, l[j]? = some c := ⟨_, List.getElem?_eq_getElem h⟩
      have next : (c.toNat = 10 ∨ 32 ≤ c.toNat ∧ c.toNat ≤ 126) → ∀ (k : Nat) (d : UInt8), k < j + 1 → l[k]? = some d → d.toNat = 10 ∨ 32 ≤ d.toNat ∧ d.toNat ≤ 126 := by
        intro hcc k d hk hd
        by_cases hkj : k = j
        · subst hkj
          rw [hc] at hd
          cases hd
          exact hcc
        · exact hA k d (by omega) hd
      by_cases n3 : c.toNat = 10
      · (repeat' (first | refine k_seq ?_ | refine k_region ?_ | refine k_nil ?_ | refine k_then ?_ | refine k_true ?_ | refine k_false ?_ | refine k_blk ?_ | refine k_skip ?_ | refine k_block ?_ | refine s_grun ?_ | refine s_gskipf ?_ | refine s_move ?_ | refine s_assign ?_ | refine s_add1 ?_ | refine s_lss_t ?_ | refine s_eql_t ?_ | refine s_pickt ?_ | refine s_lens ?_ | refine s_index ?_ | refine s_nott ?_))
        exact ⟨j + 1, (Knows.spec (by repeat (first | exact trivial | refine ⟨rfl, ?_⟩))), (by repeat (first | exact SubH.nilR _ | refine SubH.pick (by repeat (first | exact HTake.here | apply HTake.there)) ?_)), ⟨by omega, next (.inl n3)⟩, by omega⟩
      by_cases n1 : c.toNat < 32
      · (repeat' (first | refine k_seq ?_ | refine k_region ?_ | refine k_nil ?_ | refine k_then ?_ | refine k_true ?_ | refine k_blk ?_ | refine k_skip ?_ | refine k_ret ?_ | refine k_ret_then ?_ | refine k_ret_block ?_ | refine s_grun ?_ | refine s_gskipf ?_ | refine s_move ?_ | refine s_assign ?_ | refine s_lss_t ?_ | refine s_eql_f ?_ | refine s_pickt ?_ | refine s_lens ?_ | refine s_index ?_ | refine s_notf ?_))
        exact e_ret [] ⟨rfl, false, rfl, fun h => Bool.noConfusion h⟩ (by repeat (first | exact SubH.nilR _ | refine SubH.pick (by repeat (first | exact HTake.here | apply HTake.there)) ?_))
      by_cases n2 : 126 < c.toNat
      · (repeat' (first | refine k_seq ?_ | refine k_region ?_ | refine k_nil ?_ | refine k_then ?_ | refine k_true ?_ | refine k_blk ?_ | refine k_skip ?_ | refine k_ret ?_ | refine k_ret_then ?_ | refine k_ret_block ?_ | refine s_grun ?_ | refine s_move ?_ | refine s_assign ?_ | refine s_lss_t ?_ | refine s_lss_f ?_ | refine s_gtr_t ?_ | refine s_eql_f ?_ | refine s_pickt ?_ | refine s_pickf ?_ | refine s_lens ?_ | refine s_index ?_ | refine s_notf ?_))
        exact e_ret [] ⟨rfl, false, rfl, fun h => Bool.noConfusion h⟩ (by repeat (first | exact SubH.nilR _ | refine SubH.pick (by repeat (first | exact HTake.here | apply HTake.there)) ?_))
      · (repeat' (first | refine k_seq ?_ | refine k_region ?_ | refine k_nil ?_ | refine k_then ?_ | refine k_true ?_ | refine k_false ?_ | refine k_blk ?_ | refine k_skip ?_ | refine k_block ?_ | refine s_grun ?_ | refine s_gskipt ?_ | refine s_gskipu ?_ | refine s_move ?_ | refine s_assign ?_ | refine s_add1 ?_ | refine s_lss_t ?_ | refine s_lss_f ?_ | refine s_gtr_f ?_ | refine s_pickf ?_ | refine s_lens ?_ | refine s_index ?_))
        exact ⟨j + 1, (Knows.spec (by repeat (first | exact trivial | refine ⟨rfl, ?_⟩))), (by repeat (first | exact SubH.nilR _ | refine SubH.pick (by repeat (first | exact HTake.here | apply HTake.there)) ?_)), ⟨by omega, next (.inr (by omega))⟩, by omega⟩
    · have : j = l.length := by omega
      subst this
      (repeat' (first | refine k_seq ?_ | refine k_region ?_ | refine k_nil ?_ | refine k_then ?_ | refine k_false ?_ | refine k_exit ?_ | refine k_exit_then ?_ | refine k_hit ?_ | refine s_move ?_ | refine s_lss_f ?_ | refine s_lens ?_))
      exact ⟨(), (by repeat (first | exact trivial | refine ⟨rfl, ?_⟩)), (by repeat (first | exact SubH.nilR _ | refine SubH.pick (by repeat (first | exact HTake.here | apply HTake.there)) ?_)), fun k c hk => hA k c (List.getElem?_eq_some_iff.1 hk).1 hk⟩
  · rintro _ hA
    (repeat' (first | refine k_seq ?_ | refine k_region ?_ | refine k_nil ?_ | refine k_then ?_ | refine k_ret ?_ | refine s_assign ?_))
    exact e_ret [] ⟨rfl, true, rfl, fun _ => hA⟩ (by repeat (first | exact SubH.nilR _ | refine SubH.pick (by repeat (first | exact HTake.here | apply HTake.there)) ?_))

theorem longest_tr (l : List UInt8) (hl : l.length ≤ 2147483647) : TrP Tryz.prog 9 [str l, .int .u8 126] (inat (lngF l).1) := by
  refine Tr.start (n := 25) (rs := [.tmp 4]) rfl rfl rfl rfl fun B => ?_
  (repeat' (first | refine k_seq ?_ | refine k_region ?_ | refine k_nil ?_ | refine k_then ?_ | refine s_assign ?_))
  refine k_mid [(5, inat (lngF l).1)] [] ?_ ?_
  · (repeat' (first | refine k_blk ?_))
    refine k_loop (fun j : Nat => [(0, str l), (1, .int .u8 126), (5, inat (lngF (l.take j)).1), (6, inat (lngF (l.take j)).2), (7, inat j)]) (fun _ => []) (fun j => j ≤ l.length) (fun j => l.length - j) 0 (Nat.zero_le _) (Knows.spec (by repeat (first | exact trivial | refine ⟨rfl, ?_⟩))) (by repeat (first | exact SubH.nilR _ | refine SubH.pick (by repeat (first | exact HTake.here | apply HTake.there)) ?_)) fun j hj => ?_
    by_cases h : j < l.length
    · obtain ⟨c, hc⟩ : ∃ c, l[j]? = some c := ⟨_, List.getElem?_eq_getElem h⟩
      have hsn := lngF_snoc hc
      have h1 : (lngF (l.take j)).1 ≤ 0 + (l.take j).length := lng_len (l.take j) (0, 0) (Nat.le_refl _)
      have h2 : (lngF (l.take j)).2 ≤ (lngF (l.take j)).1 := lng_le (l.take j) (0, 0) (Nat.le_refl _)
      rw [List.length_take] at h1
      generalize lngF (l.take j) = z at hsn h1 h2 ⊢
      by_cases h126 : c.toNat = 126
      · have e1 : lngStep z c = (max z.1 (z.2 + 1), z.2 + 1) := by simp [lngStep, h126]
        rw [e1] at hsn
        (repeat' (first | refine s_max ?_ | refine k_seq ?_ | refine k_region ?_ | refine k_nil ?_ | refine k_then ?_ | refine k_true ?_ | refine k_false ?_ | refine k_blk ?_ | refine k_skip ?_ | refine k_block ?_ | refine s_move ?_ | refine s_assign ?_ | refine s_add1 ?_ | refine s_lss_t ?_ | refine s_neq_f ?_ | refine s_lens ?_ | refine s_index ?_))
        exact ⟨j + 1, (by rw [hsn]; exact (Knows.spec (by repeat (first | exact trivial | refine ⟨rfl, ?_⟩)))), (by repeat (first | exact SubH.nilR _ | refine SubH.pick (by repeat (first | exact HTake.here | apply HTake.there)) ?_)), by omega, by omega⟩
      · have e1 : lngStep z c = (max z.1 0, 0) := by simp [lngStep, h126]
        rw [e1] at hsn
        (repeat' (first | refine s_max (b := 0) ?_ | refine k_seq ?_ | refine k_region ?_ | refine k_nil ?_ | refine k_then ?_ | refine k_true ?_ | refine k_blk ?_ | refine k_skip ?_ | refine k_block ?_ | refine s_move ?_ | refine s_assign ?_ | refine s_add1 ?_ | refine s_lss_t ?_ | refine s_neq_t ?_ | refine s_lens ?_ | refine s_index ?_))
        exact ⟨j + 1, (by rw [hsn]; exact (Knows.spec (by repeat (first | exact trivial | refine ⟨rfl, ?_⟩)))), (by repeat (first | exact SubH.nilR _ | refine SubH.pick (by repeat (first | exact HTake.here | apply HTake.there)) ?_)), by omega, by omega⟩
    · have : j = l.length := by omega
      subst this
      rw [List.take_length]
      (repeat' (first | refine k_seq ?_ | refine k_region ?_ | refine k_nil ?_ | refine k_then ?_ | refine k_false ?_ | refine k_exit ?_ | refine k_exit_then ?_ | refine k_hit ?_ | refine s_move ?_ | refine s_lss_f ?_ | refine s_lens ?_))
      exact ⟨(by repeat (first | exact trivial | refine ⟨rfl, ?_⟩)), (by repeat (first | exact SubH.nilR _ | refine SubH.pick (by repeat (first | exact HTake.here | apply HTake.there)) ?_))⟩
  · (repeat' (first | refine k_seq ?_ | refine k_region ?_ | refine k_nil ?_ | refine k_then ?_ | refine k_ret ?_ | refine s_move ?_ | refine s_assign ?_))
    exact e_pure ⟨rfl, rfl⟩

theorem timesC_tr (c : UInt8) (n : Nat) (hn : n ≤ 10000) : TrP Tryz.prog 8 [str [c], inat n] (str (List.replicate n c)) := by
  refine Tr.start (n := 14) (rs := [.tmp 4]) rfl rfl rfl rfl fun B => ?_
  (repeat' (first | refine k_seq ?_ | refine k_region ?_ | refine k_nil ?_ | refine k_then ?_ | refine s_move ?_ | refine s_assign ?_))
  refine k_mid [(5, str (List.replicate n c))] [] ?_ ?_
  · (repeat' (first | refine k_blk ?_))
    refine k_loop (fun j : Nat => [(0, str [c]), (5, str (List.replicate j c)), (6, inat n), (7, inat j)]) (fun _ => []) (fun j => j ≤ n) (fun j => n - j) 0 (Nat.zero_le _) (Knows.spec (by repeat (first | exact trivial | refine ⟨rfl, ?_⟩))) (by repeat (first | exact SubH.nilR _ | refine SubH.pick (by repeat (first | exact HTake.here | apply HTake.there)) ?_)) fun j hj => ?_
    have hlen : (List.replicate j c).length = j := List.length_replicate
    by_cases h : j < n
    · have e1 : List.replicate (j + 1) c = List.replicate j c ++ [c] := List.replicate_succ'
      (repeat' (first | refine s_addsx ?_ | refine k_seq ?_ | refine k_region ?_ | refine k_nil ?_ | refine k_then ?_ | refine k_true ?_ | refine k_blk ?_ | refine k_skip ?_ | refine k_block ?_ | refine s_move ?_ | refine s_assign ?_ | refine s_add1 ?_ | refine s_lss_t ?_))
      exact ⟨j + 1, by rw [e1]; exact (Knows.spec (by repeat (first | exact trivial | refine ⟨rfl, ?_⟩))), (by repeat (first | exact SubH.nilR _ | refine SubH.pick (by repeat (first | exact HTake.here | apply HTake.there)) ?_)), by omega, by omega⟩
    · have : j = n := by omega
      subst this
      (repeat' (first | refine k_seq ?_ | refine k_region ?_ | refine k_nil ?_ | refine k_then ?_ | refine k_false ?_ | refine k_exit ?_ | refine k_exit_then ?_ | refine k_hit ?_ | refine s_lss_f ?_))
      exact ⟨(by repeat (first | exact trivial | refine ⟨rfl, ?_⟩)), (by repeat (first | exact SubH.nilR _ | refine SubH.pick (by repeat (first | exact HTake.here | apply HTake.there)) ?_))⟩
  · (repeat' (first | refine k_seq ?_ | refine k_region ?_ | refine k_nil ?_ | refine k_then ?_ | refine k_ret ?_ | refine s_move ?_ | refine s_assign ?_))
    exact e_pure ⟨rfl, rfl⟩

theorem specEsc_tr (l : List UInt8) (hl : l.length ≤ 2147483647) : TrP Tryz.prog 10 [str l] (str (escH l)) := by
  refine Tr.start (n := 38) (rs := [.tmp 2]) rfl rfl rfl rfl fun B => ?_
  (repeat' (first | refine k_seq ?_ | refine k_region ?_ | refine k_nil ?_ | refine k_then ?_ | refine s_assign ?_))
  refine k_mid [(3, str (escH l))] [] ?_ ?_
  · (repeat' (first | refine k_blk ?_))
    refine k_loop (fun j : Nat => [(0, str l), (3, str (escH (l.take j))), (4, inat j)]) (fun _ => []) (fun j => j ≤ l.length) (fun j => l.length - j) 0 (Nat.zero_le _) (Knows.spec (by repeat (first | exact trivial | refine ⟨rfl, ?_⟩))) (by repeat (first | exact SubH.nilR _ | refine SubH.pick (by repeat (first | exact HTake.here | apply HTake.there)) ?_)) fun j hj => ?_
    by_cases h : j < l.length
    · obtain ⟨c, hc⟩ : ∃ c, l[j]? = some c := ⟨_, List.getElem?_eq_getElem h⟩
      have hsn := escH_snoc hc
      have hs1 : (l.take (j + 1)).drop j = [c] := slice1 hc
      have hel : (escH (l.take j)).length ≤ 6 * j := by
        have h1 := escH_len (l.take j)
        rw [List.length_take] at h1; omega
      by_cases n1 : c.toNat = 34
      · have e1 : escB c = [38, 113, 117, 111, 116, 59] := by simp [escB, n1]
        rw [e1] at hsn
        (repeat' (first | refine s_addsx ?_ | refine k_seq ?_ | refine k_region ?_ | refine k_nil ?_ | refine k_then ?_ | refine k_true ?_ | refine k_false ?_ | refine k_blk ?_ | refine k_skip ?_ | refine k_block ?_ | refine s_move ?_ | refine s_assign ?_ | refine s_add1 ?_ | refine s_lss_t ?_ | refine s_eql_t ?_ | refine s_eql_f ?_ | refine s_lens ?_ | refine s_index ?_))
        exact ⟨j + 1, by rw [hsn]; exact (Knows.spec (by repeat (first | exact trivial | refine ⟨rfl, ?_⟩))), (by repeat (first | exact SubH.nilR _ | refine SubH.pick (by repeat (first | exact HTake.here | apply HTake.there)) ?_)), by omega, by omega⟩
      by_cases n2 : c.toNat = 38
      · have e1 : escB c = [38, 97, 109, 112, 59] := by simp [escB, n2]
        rw [e1] at hsn
        (repeat' (first | refine s_addsx ?_ | refine k_seq ?_ | refine k_region ?_ | refine k_nil ?_ | refine k_then ?_ | refine k_true ?_ | refine k_blk ?_ | refine k_skip ?_ | refine k_block ?_ | refine s_move ?_ | refine s_assign ?_ | refine s_add1 ?_ | refine s_lss_t ?_ | refine s_eql_t ?_ | refine s_lens ?_ | refine s_index ?_))
        exact ⟨j + 1, by rw [hsn]; exact (Knows.spec (by repeat (first | exact trivial | refine ⟨rfl, ?_⟩))), (by repeat (first | exact SubH.nilR _ | refine SubH.pick (by repeat (first | exact HTake.here | apply HTake.there)) ?_)), by omega, by omega⟩
      by_cases n3 : c.toNat = 60
      · have e1 : escB c = [38, 108, 116, 59] := by simp [escB, n3]
        rw [e1] at hsn
        (repeat' (first | refine s_addsx ?_ | refine k_seq ?_ | refine k_region ?_ | refine k_nil ?_ | refine k_then ?_ | refine k_true ?_ | refine k_false ?_ | refine k_blk ?_ | refine k_skip ?_ | refine k_block ?_ | refine s_move ?_ | refine s_assign ?_ | refine s_add1 ?_ | refine s_lss_t ?_ | refine s_eql_t ?_ | refine s_eql_f ?_ | refine s_lens ?_ | refine s_index ?_))
        exact ⟨j + 1, by rw [hsn]; exact (Knows.spec (by repeat (first | exact trivial | refine ⟨rfl, ?_⟩))), (by repeat (first | exact SubH.nilR _ | refine SubH.pick (by repeat (first | exact HTake.here | apply HTake.there)) ?_)), by omega, by omega⟩
      by_cases n4 : c.toNat = 62
      · have e1 : escB c = [38, 103, 116, 59] := by simp [escB, n4]
        rw [e1] at hsn
        (repeat' (first | refine s_addsx ?_ | refine k_seq ?_ | refine k_region ?_ | refine k_nil ?_ | refine k_then ?_ | refine k_true ?_ | refine k_false ?_ | refine k_blk ?_ | refine k_skip ?_ | refine k_block ?_ | refine s_move ?_ | refine s_assign ?_ | refine s_add1 ?_ | refine s_lss_t ?_ | refine s_eql_t ?_ | refine s_eql_f ?_ | refine s_lens ?_ | refine s_index ?_))
        exact ⟨j + 1, by rw [hsn]; exact (Knows.spec (by repeat (first | exact trivial | refine ⟨rfl, ?_⟩))), (by repeat (first | exact SubH.nilR _ | refine SubH.pick (by repeat (first | exact HTake.here | apply HTake.there)) ?_)), by omega, by omega⟩
      · have e1 : escB c = [c] := by simp [escB, n1, n2, n3, n4]
        have hl1 : ((l.take (j + 1)).drop j).length = 1 := by rw [hs1]; rfl
        rw [e1, ← hs1] at hsn
        (repeat' (first | refine k_seq ?_ | refine k_region ?_ | refine k_nil ?_ | refine k_then ?_ | refine k_true ?_ | refine k_false ?_ | refine k_blk ?_ | refine k_skip ?_ | refine k_block ?_ | refine s_move ?_ | refine s_assign ?_ | refine s_add1 ?_ | refine s_lss_t ?_ | refine s_eql_f ?_ | refine s_lens ?_ | refine s_index ?_ | refine s_slices ?_ | refine s_adds ?_))
        exact ⟨j + 1, by rw [hsn]; exact (Knows.spec (by repeat (first | exact trivial | refine ⟨rfl, ?_⟩))), (by repeat (first | exact SubH.nilR _ | refine SubH.pick (by repeat (first | exact HTake.here | apply HTake.there)) ?_)), by omega, by omega⟩
    · have : j = l.length := by omega
      subst this
      rw [List.take_length]
      (repeat' (first | refine k_seq ?_ | refine k_region ?_ | refine k_nil ?_ | refine k_then ?_ | refine k_false ?_ | refine k_exit ?_ | refine k_exit_then ?_ | refine k_hit ?_ | refine s_move ?_ | refine s_lss_f ?_ | refine s_lens ?_))
      exact ⟨(by repeat (first | exact trivial | refine ⟨rfl, ?_⟩)), (by repeat (first | exact SubH.nilR _ | refine SubH.pick (by repeat (first | exact HTake.here | apply HTake.there)) ?_))⟩
  · (repeat' (first | refine k_seq ?_ | refine k_region ?_ | refine k_nil ?_ | refine k_then ?_ | refine k_ret ?_ | refine s_move ?_ | refine s_assign ?_))
    exact e_pure ⟨rfl, rfl⟩
end Go.Proofs

/- laws.FnSeven returns true whatever the arguments. Condition: the text's length is that of a Go string. -/
import Derived.Test.YtoponhlghkdbmaaGreatDoorL2
namespace Go.Proofs
open Go Go.Eng
set_option maxRecDepth 20000
set_option maxHeartbeats 4000000

theorem escH_marks (k : Nat) : escH (List.replicate k 35) = List.replicate k 35 := by
  induction k with
  | zero => rfl
  | succ n ih =>
    simp only [List.replicate_succ, escH, List.flatMap_cons] at ih ⊢
    rw [ih]; rfl

theorem fnSeven_tr (m : Nat) (hm : m < 256) (l : List UInt8) (hl : l.length ≤ 9223372036854775807) : Tr Tryz.prog 5 [.int .u8 m, str l] [] fun u K => u = .bool true ∧ K = [] := by
  by_cases hl0 : 2147483647 < l.length
  · refine Tr.start (n := 42) (rs := [.tmp 4]) rfl rfl rfl rfl fun B => ?_
    (repeat' (first | refine k_seq ?_ | refine k_region ?_ | refine k_nil ?_ | refine k_then ?_ | refine k_true ?_ | refine k_ret ?_ | refine k_ret_then ?_ | refine s_move ?_ | refine s_assign ?_ | refine s_gtr_t ?_ | refine s_lens ?_))
    exact e_ret [] ⟨rfl, rfl⟩ (by repeat (first | exact SubH.nilR _ | refine SubH.pick (by repeat (first | exact HTake.here | apply HTake.there)) ?_))
  have hl1 : l.length ≤ 2147483647 := by omega
  refine Tr.start (n := 42) (rs := [.tmp 4]) rfl rfl rfl rfl fun B => ?_
  (repeat' (first | refine k_seq ?_ | refine k_region ?_ | refine k_nil ?_ | refine k_then ?_ | refine k_false ?_ | refine k_skip ?_ | refine s_move ?_ | refine s_assign ?_ | refine s_gtr_f ?_ | refine s_lens ?_))
  refine s_call (full_tr l hl1) (fun u K hR => ?_)
  obtain ⟨rfl, r, rfl, hF⟩ := hR
  cases r with
  | false =>
    (repeat' (first | refine k_seq ?_ | refine k_region ?_ | refine k_nil ?_ | refine k_then ?_ | refine k_true ?_ | refine k_ret ?_ | refine k_ret_then ?_ | refine s_gskipf ?_ | refine s_move ?_ | refine s_assign ?_ | refine s_pickt ?_ | refine s_notf ?_))
    exact e_ret [] ⟨rfl, rfl⟩ (by repeat (first | exact SubH.nilR _ | refine SubH.pick (by repeat (first | exact HTake.here | apply HTake.there)) ?_))
  | true =>
    have hF := hF rfl
    (repeat' (first | refine s_grun ?_ | refine s_move ?_ | refine s_nott ?_))
    refine s_call (ascii_tr l hl1) (fun u K hR => ?_)
    obtain ⟨rfl, r, rfl, hA⟩ := hR
    cases r with
    | false =>
      (repeat' (first | refine k_seq ?_ | refine k_region ?_ | refine k_nil ?_ | refine k_then ?_ | refine k_true ?_ | refine k_ret ?_ | refine k_ret_then ?_ | refine s_grun ?_ | refine s_gskipf ?_ | refine s_move ?_ | refine s_assign ?_ | refine s_pickt ?_ | refine s_pickf ?_ | refine s_notf ?_))
      exact e_ret [] ⟨rfl, rfl⟩ (by repeat (first | exact SubH.nilR _ | refine SubH.pick (by repeat (first | exact HTake.here | apply HTake.there)) ?_))
    | true =>
      have hA := hA rfl
      by_cases hl2 : 2000 < l.length
      · (repeat' (first | refine k_seq ?_ | refine k_region ?_ | refine k_nil ?_ | refine k_then ?_ | refine k_true ?_ | refine k_ret ?_ | refine k_ret_then ?_ | refine s_grun ?_ | refine s_move ?_ | refine s_assign ?_ | refine s_gtr_t ?_ | refine s_pickf ?_ | refine s_lens ?_ | refine s_nott ?_))
        exact e_ret [] ⟨rfl, rfl⟩ (by repeat (first | exact SubH.nilR _ | refine SubH.pick (by repeat (first | exact HTake.here | apply HTake.there)) ?_))
      · have hk : m % 20 < 20 := Nat.mod_lt _ (by decide)
        have hline := seven_line (7 + m % 20) (by omega) (by omega) l (by omega) hA hF
        have hT := html_tr (sevenT (7 + m % 20) l) hline
        rw [seven_bytes, seven_char] at hT
        have hsl := slash_len l
        have hel := escH_len l
        have heq : [60, 112, 62] ++ escH (List.replicate (7 + m % 20) 35 ++ [32] ++ l) ++ [60, 47, 112, 62, 10] = [60, 112, 62] ++ List.replicate (7 + m % 20) 35 ++ [32] ++ escH l ++ [60, 47, 112, 62, 10] := by
          have e1 : escH (List.replicate (7 + m % 20) 35 ++ [32] ++ l) = List.replicate (7 + m % 20) 35 ++ [32] ++ escH l := by
            have : escH (List.replicate (7 + m % 20) 35 ++ [32] ++ l) = escH (List.replicate (7 + m % 20) 35) ++ escH [32] ++ escH l := by simp [escH]
            rw [this, escH_marks]; rfl
          rw [e1]; simp only [List.append_assoc]
        (repeat' (first | refine k_seq ?_ | refine k_region ?_ | refine k_nil ?_ | refine k_then ?_ | refine k_false ?_ | refine k_skip ?_ | refine s_grun ?_ | refine s_move ?_ | refine s_gtr_f ?_ | refine s_pickf ?_ | refine s_lens ?_ | refine s_nott ?_))
        refine Ops.pure _ (p_rem (k := .u8) (a := m) (b := 20) (by rfl) (by rfl) (by decide)) (by rfl) ?_
        (repeat' (first | refine Ops.pure _ (p_add (a := 7) (b := m % 20) (c := 7 + m % 20) (by rfl) (by rfl) rfl (by omega)) (by rfl) ?_ | refine s_pure (times_tr (7 + m % 20) (by omega)) ?_ | refine s_pure (plain_tr) ?_ | refine s_pure (slashed_tr l (by omega) hF.ne) ?_ | refine s_addsx ?_ | refine k_seq ?_ | refine k_region ?_ | refine k_nil ?_ | refine k_then ?_ | refine s_move ?_ | refine s_assign ?_ | refine s_cv64 ?_))
        refine s_call hT (fun u K hR => ?_)
        obtain ⟨rfl, rfl⟩ := hR
        (repeat' (first | refine s_pure (specEsc_tr l (by omega)) ?_ | refine s_addsx ?_ | refine s_eqs_t (hr := heq) ?_ | refine k_nil ?_ | refine k_then ?_ | refine k_ret ?_ | refine s_move ?_ | refine s_assign ?_))
        exact e_ret [] ⟨rfl, rfl⟩ (by repeat (first | exact SubH.nilR _ | refine SubH.pick (by repeat (first | exact HTake.here | apply HTake.there)) ?_))
end Go.Proofs

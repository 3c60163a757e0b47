/- laws.FnFence returns true whatever the arguments. Conditions: the table of entities, and that the text's length is that of a Go string. -/
import Derived.Test.YtblaoglgknjepaaGreatDoorF9
import Derived.Test.YtblaoglgknjepaaGreatDoorF12
namespace Go.Proofs
open Go Go.Eng
set_option maxRecDepth 20000
set_option maxHeartbeats 4000000

theorem plain_tr : TrP Tryz.prog 12 [] noOpt := by
  refine Tr.start (n := 2) (rs := [.cell 0 28]) rfl rfl rfl rfl fun B => ?_
  (repeat' (first | refine k_seq ?_ | refine k_region ?_ | refine k_nil ?_ | refine k_then ?_ | refine k_ret ?_ | refine s_storea ?_ | refine s_buildx ?_ | refine s_alloc (fun _ => ?_)))
  exact e_ret [] ⟨rfl, rfl⟩ (by repeat (first | exact SubH.nilR _ | refine SubH.pick (by repeat (first | exact HTake.here | apply HTake.there)) ?_))

theorem fenceText {s : List UInt8} {K : Nat} (hl : s.length ≤ 2000) (hA : AsciiN s) (hK : (lngF s).1 < K) : FText K s := by
  refine ⟨by omega, fun d hd => ?_, lng_few hK⟩
  obtain ⟨k, hk⟩ := List.getElem?_of_mem hd
  rcases hA k d hk with h | h
  · exact .inl (UInt8.toNat_inj.1 (h.trans rfl))
  · exact .inr h

theorem fnFence_tr (T : Nat) (es : List Value) (hE : EntOK es) (l : List UInt8) (m : Nat) (hm : m < 256) (hl : l.length ≤ 9223372036854775807) :
    TrD Tryz.prog 3 [str l, .int .u8 m] [ent T es] (.bool true) [ent T es] := by
  refine Tr.start (n := 54) (rs := [.tmp 4]) rfl rfl rfl rfl fun B => ?_
  by_cases hl0 : 2147483647 < l.length
  · (repeat' (first | refine k_seq ?_ | refine k_region ?_ | refine k_nil ?_ | refine k_then ?_ | refine k_true ?_ | refine k_ret ?_ | refine k_ret_then ?_ | refine s_move ?_ | refine s_assign ?_ | refine s_gtr_t ?_ | refine s_lens ?_))
    exact e_ret _ ⟨rfl, rfl⟩ (by repeat (first | exact SubH.nilR _ | refine SubH.pick (by repeat (first | exact HTake.here | apply HTake.there)) ?_))
  have hl1 : l.length ≤ 2147483647 := by omega
  (repeat' (first | refine k_seq ?_ | refine k_region ?_ | refine k_nil ?_ | refine k_then ?_ | refine k_false ?_ | refine k_skip ?_ | refine s_move ?_ | refine s_assign ?_ | refine s_gtr_f ?_ | refine s_lens ?_))
  refine s_call (asciiN_tr l hl1) (fun u K hR => ?_)
  obtain ⟨rfl, r, rfl, hA⟩ := hR
  cases r with
  | false =>
    (repeat' (first | refine k_seq ?_ | refine k_region ?_ | refine k_nil ?_ | refine k_then ?_ | refine k_true ?_ | refine k_ret ?_ | refine k_ret_then ?_ | refine s_gskipf ?_ | refine s_move ?_ | refine s_assign ?_ | refine s_pickt ?_ | refine s_notf ?_))
    exact e_ret _ ⟨rfl, rfl⟩ (by repeat (first | exact SubH.nilR _ | refine SubH.pick (by repeat (first | exact HTake.here | apply HTake.there)) ?_))
  | true =>
  have hA := hA rfl
  by_cases hl2 : 2000 < l.length
  · (repeat' (first | refine k_seq ?_ | refine k_region ?_ | refine k_nil ?_ | refine k_then ?_ | refine k_true ?_ | refine k_ret ?_ | refine k_ret_then ?_ | refine s_grun ?_ | refine s_move ?_ | refine s_assign ?_ | refine s_gtr_t ?_ | refine s_pickf ?_ | refine s_lens ?_ | refine s_nott ?_))
    exact e_ret _ ⟨rfl, rfl⟩ (by repeat (first | exact SubH.nilR _ | refine SubH.pick (by repeat (first | exact HTake.here | apply HTake.there)) ?_))
  have hk : m % 5 < 5 := Nat.mod_lt _ (by decide)
  have hlen : (lngF l).1 ≤ 0 + l.length := lng_len l (0, 0) (Nat.le_refl _)
  obtain ⟨K, hKe⟩ : ∃ K, K = max 3 ((lngF l).1 + 1) + m % 5 := ⟨_, rfl⟩
  have hF := fenceText (K := K) (by omega) hA (by omega)
  have hlines : ∀ x ∈ spl l, FLine K x := fun x hx => hF.line x hx
  have b1 := body_lnd (Body.close (K := K)) (spl l) hlines
  have b2 := body_lnd (Body.nil (K := K)) (spl l) hlines
  rw [spl_lnd, List.append_nil] at b1 b2
  rw [List.append_nil] at b2
  have hel := escH_len l
  have e1 : tildes K ++ [10] ++ l ++ [10] ++ tildes K ++ [10] = tildes K ++ 10 :: (l ++ [10] ++ (tildes K ++ [10])) := by simp
  have e2 : tildes K ++ [10] ++ l ++ [10] = tildes K ++ 10 :: (l ++ [10]) := by simp
  have t1 := htmlF_tr T es hE K _ _ _ e1 b1 (by omega) (by omega) (by simp only [List.length_append, tildes_len, List.length_cons, List.length_nil]; omega)
  have t2 := htmlF_tr T es hE K _ _ _ e2 b2 (by omega) (by omega) (by simp only [List.length_append, tildes_len, List.length_cons, List.length_nil]; omega)
  rw [codeOut_spl] at t1 t2
  have hKl := tildes_len K
  have hcode : 1 ≤ (tildes K).length := by rw [tildes_len]; omega
  (repeat' (first | refine s_pure (longest_tr l hl1) ?_ | refine s_max (a := 3) ?_ | refine k_seq ?_ | refine k_region ?_ | refine k_nil ?_ | refine k_then ?_ | refine k_false ?_ | refine k_skip ?_ | refine s_grun ?_ | refine s_move ?_ | refine s_add1 ?_ | refine s_gtr_f ?_ | refine s_pickf ?_ | refine s_lens ?_ | refine s_nott ?_))
  refine Ops.pure _ (p_rem (k := .u8) (a := m) (b := 5) (by rfl) (by rfl) (by decide)) (by rfl) ?_
  (repeat' (first | refine Ops.pure _ (p_add (a := max 3 ((lngF l).1 + 1)) (b := m % 5) (c := K) (by rfl) (by rfl) hKe (by omega)) (by rfl) ?_ | refine s_pure (timesC_tr 126 K (by omega)) ?_ | refine s_pure (specEsc_tr l hl1) ?_ | refine s_pure (plain_tr) ?_ | refine s_addsx ?_ | refine s_callD (t1) ?_ | refine s_callD (t2) ?_ | refine k_seq ?_ | refine k_region ?_ | refine k_nil ?_ | refine k_then ?_ | refine k_ret ?_ | refine s_grun ?_ | refine s_move ?_ | refine s_assign ?_ | refine s_pickt ?_ | refine s_eqs_t ?_ | refine s_cv64 ?_))
  exact e_ret _ ⟨rfl, rfl⟩ (by repeat (first | exact SubH.nilR _ | refine SubH.pick (by repeat (first | exact HTake.here | apply HTake.there)) ?_))
end Go.Proofs

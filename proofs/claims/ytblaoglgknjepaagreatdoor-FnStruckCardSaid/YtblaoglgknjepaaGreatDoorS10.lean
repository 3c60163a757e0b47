/- laws.FnStruck returns true whatever the arguments. Condition: the texts' lengths are those of Go strings. -/
import Derived.Test.YtblaoglgknjepaaGreatDoorS9
namespace Go.Proofs
open Go Go.Eng
set_option maxRecDepth 20000
set_option maxHeartbeats 4000000

theorem word_tr (l : List UInt8) (hl : l.length ≤ 2147483647) : Tr Tryz.prog 13 [str l] [] fun u K => K = [] ∧ ∃ r, u = .bool r ∧ (r = true → Word l) := by
  by_cases hne : l = []
  · subst hne
    refine Tr.start (n := 9) (rs := [.tmp 2]) rfl rfl rfl rfl fun B => ?_
    (repeat' (first | refine k_seq ?_ | refine k_region ?_ | refine k_nil ?_ | refine k_then ?_ | refine k_ret ?_ | refine s_gskipt ?_ | refine s_move ?_ | refine s_assign ?_ | refine s_pickf ?_ | refine s_nes_f ?_))
    exact e_ret [] ⟨rfl, false, rfl, fun h => Bool.noConfusion h⟩ (by repeat (first | exact SubH.nilR _ | refine SubH.pick (by repeat (first | exact HTake.here | apply HTake.there)) ?_))
  refine Tr.start (n := 9) (rs := [.tmp 2]) rfl rfl rfl rfl fun B => ?_
  (repeat' (first | refine k_seq ?_ | refine k_region ?_ | refine k_nil ?_ | refine k_then ?_ | refine s_grun ?_ | refine s_move ?_ | refine s_assign ?_ | refine s_nes_t ?_))
  refine s_call (only_tr l [97, 98, 122, 48, 49, 57] 20 hl) (fun u K hR => ?_)
  obtain ⟨rfl, r, rfl, hA⟩ := hR
  cases r with
  | false =>
    (repeat' (first | refine k_nil ?_ | refine k_then ?_ | refine k_ret ?_ | refine s_assign ?_ | refine s_pickt ?_))
    exact e_ret [] ⟨rfl, false, rfl, fun h => Bool.noConfusion h⟩ (by repeat (first | exact SubH.nilR _ | refine SubH.pick (by repeat (first | exact HTake.here | apply HTake.there)) ?_))
  | true =>
    obtain ⟨h1, h2⟩ := hA rfl
    have hW : Word l := ⟨hne, h1, fun d hd => by
      have := h2 d hd
      simp only [List.mem_cons, List.not_mem_nil, or_false] at this
      rcases this with h | h | h | h | h | h <;> (subst h; decide)⟩
    (repeat' (first | refine k_nil ?_ | refine k_then ?_ | refine k_ret ?_ | refine s_assign ?_ | refine s_pickt ?_))
    exact e_ret [] ⟨rfl, true, rfl, fun _ => hW⟩ (by repeat (first | exact SubH.nilR _ | refine SubH.pick (by repeat (first | exact HTake.here | apply HTake.there)) ?_))

theorem fnStruck_tr (a b c : List UInt8) (two : Bool) (hla : a.length ≤ 9223372036854775807) (hlb : b.length ≤ 9223372036854775807) (hlc : c.length ≤ 9223372036854775807) :
    Tr Tryz.prog 5 [str a, str b, str c, .bool two] [] fun u K => u = .bool true ∧ K = [] := by
  refine Tr.start (n := 71) (rs := [.tmp 8]) rfl rfl rfl rfl fun B => ?_
  by_cases ha0 : 2147483647 < a.length
  · (repeat' (first | refine k_seq ?_ | refine k_region ?_ | refine k_nil ?_ | refine k_then ?_ | refine k_true ?_ | refine k_ret ?_ | refine k_ret_then ?_ | refine s_gskipf ?_ | refine s_move ?_ | refine s_assign ?_ | refine s_gtr_t ?_ | refine s_pickt ?_ | refine s_lens ?_))
    exact e_ret [] ⟨rfl, rfl⟩ (by repeat (first | exact SubH.nilR _ | refine SubH.pick (by repeat (first | exact HTake.here | apply HTake.there)) ?_))
  by_cases hb0 : 2147483647 < b.length
  · (repeat' (first | refine k_seq ?_ | refine k_region ?_ | refine k_nil ?_ | refine k_then ?_ | refine k_true ?_ | refine k_ret ?_ | refine k_ret_then ?_ | refine s_grun ?_ | refine s_gskipf ?_ | refine s_move ?_ | refine s_assign ?_ | refine s_gtr_t ?_ | refine s_gtr_f ?_ | refine s_pickt ?_ | refine s_pickf ?_ | refine s_lens ?_))
    exact e_ret [] ⟨rfl, rfl⟩ (by repeat (first | exact SubH.nilR _ | refine SubH.pick (by repeat (first | exact HTake.here | apply HTake.there)) ?_))
  by_cases hc0 : 2147483647 < c.length
  · (repeat' (first | refine k_seq ?_ | refine k_region ?_ | refine k_nil ?_ | refine k_then ?_ | refine k_true ?_ | refine k_ret ?_ | refine k_ret_then ?_ | refine s_grun ?_ | refine s_move ?_ | refine s_assign ?_ | refine s_gtr_t ?_ | refine s_gtr_f ?_ | refine s_pickf ?_ | refine s_lens ?_))
    exact e_ret [] ⟨rfl, rfl⟩ (by repeat (first | exact SubH.nilR _ | refine SubH.pick (by repeat (first | exact HTake.here | apply HTake.there)) ?_))
  (repeat' (first | refine k_seq ?_ | refine k_region ?_ | refine k_nil ?_ | refine k_then ?_ | refine k_false ?_ | refine k_skip ?_ | refine s_grun ?_ | refine s_move ?_ | refine s_assign ?_ | refine s_gtr_f ?_ | refine s_pickf ?_ | refine s_lens ?_))
  refine s_call (word_tr a (by omega)) (fun u K hR => ?_)
  obtain ⟨rfl, r, rfl, hA⟩ := hR
  cases r with
  | false =>
    (repeat' (first | refine k_seq ?_ | refine k_region ?_ | refine k_nil ?_ | refine k_then ?_ | refine k_true ?_ | refine k_ret ?_ | refine k_ret_then ?_ | refine s_gskipf ?_ | refine s_move ?_ | refine s_assign ?_ | refine s_pickt ?_ | refine s_notf ?_))
    exact e_ret [] ⟨rfl, rfl⟩ (by repeat (first | exact SubH.nilR _ | refine SubH.pick (by repeat (first | exact HTake.here | apply HTake.there)) ?_))
  | true =>
  have ha := hA rfl
  (repeat' (first | refine s_grun ?_ | refine s_move ?_ | refine s_nott ?_))
  refine s_call (word_tr b (by omega)) (fun u K hR => ?_)
  obtain ⟨rfl, r, rfl, hB⟩ := hR
  cases r with
  | false =>
    (repeat' (first | refine k_seq ?_ | refine k_region ?_ | refine k_nil ?_ | refine k_then ?_ | refine k_true ?_ | refine k_ret ?_ | refine k_ret_then ?_ | refine s_grun ?_ | refine s_gskipf ?_ | refine s_move ?_ | refine s_assign ?_ | refine s_pickt ?_ | refine s_pickf ?_ | refine s_notf ?_))
    exact e_ret [] ⟨rfl, rfl⟩ (by repeat (first | exact SubH.nilR _ | refine SubH.pick (by repeat (first | exact HTake.here | apply HTake.there)) ?_))
  | true =>
  have hb := hB rfl
  (repeat' (first | refine s_grun ?_ | refine s_move ?_ | refine s_pickf ?_ | refine s_nott ?_))
  refine s_call (word_tr c (by omega)) (fun u K hR => ?_)
  obtain ⟨rfl, r, rfl, hC⟩ := hR
  cases r with
  | false =>
    (repeat' (first | refine k_seq ?_ | refine k_region ?_ | refine k_nil ?_ | refine k_then ?_ | refine k_true ?_ | refine k_ret ?_ | refine k_ret_then ?_ | refine s_grun ?_ | refine s_assign ?_ | refine s_pickf ?_ | refine s_notf ?_))
    exact e_ret [] ⟨rfl, rfl⟩ (by repeat (first | exact SubH.nilR _ | refine SubH.pick (by repeat (first | exact HTake.here | apply HTake.there)) ?_))
  | true =>
  have hc := hC rfl
  obtain ⟨a0, ar, ha0', haw⟩ := ha.cons
  obtain ⟨cp, cz, hcz, hczw⟩ := hc.snoc
  have l1 := ha.len
  have l2 := hb.len
  have l3 := hc.len
  have heq : paraO ((a ++ [32]) ++ ([60, 100, 101, 108, 62] ++ b ++ [60, 47, 100, 101, 108, 62]) ++ (32 :: c)) = [60, 112, 62] ++ a ++ [32, 60, 100, 101, 108, 62] ++ b ++ [60, 47, 100, 101, 108, 62, 32] ++ c ++ [60, 47, 112, 62, 10] := by simp [paraO]
  have hall : ∀ n, ∀ d ∈ delText a b c n, wch d.toNat ∨ d.toNat = 32 ∨ d.toNat = 126 := by
    intro n d hd
    unfold delText at hd
    simp only [List.mem_append, List.mem_cons, List.not_mem_nil, or_false] at hd
    rcases hd with (((((h | h) | h) | h) | h) | h) | h
    · exact .inl (ha.c d h)
    · subst h; exact .inr (.inl rfl)
    · rw [List.eq_of_mem_replicate h]; exact .inr (.inr rfl)
    · exact .inl (hb.c d h)
    · rw [List.eq_of_mem_replicate h]; exact .inr (.inr rfl)
    · subst h; exact .inr (.inl rfl)
    · exact .inl (hc.c d h)
  have hlit : ∀ n, n ≤ 2 → TrD Tryz.prog 11 [optO false false, str (delText a b c n)] [] (str (paraO (delText a b c n))) [] := fun n hn => by
    refine litHTML_tr (c := a0) (z := cz) (s := ar ++ [32] ++ List.replicate n 126 ++ b ++ List.replicate n 126 ++ [32] ++ c) (p := a ++ [32] ++ List.replicate n 126 ++ b ++ List.replicate n 126 ++ [32] ++ cp) ?_ haw ?_ hczw (hall n) ?_
    · unfold delText; rw [ha0']; simp
    · unfold delText; rw [hcz]; simp
    · unfold delText; simp only [List.length_append, List.length_replicate, List.length_cons, List.length_nil]; omega
  cases two with
  | false =>
    have t1 : TrD Tryz.prog 11 [optO true false, str (a ++ [32] ++ [126] ++ b ++ [126] ++ [32] ++ c)] [] _ [] := delHTML_tr ha hb hc 1 (.inl rfl)
    have t2 : TrD Tryz.prog 11 [optO false false, str (a ++ [32] ++ [126] ++ b ++ [126] ++ [32] ++ c)] [] (str ([60, 112, 62] ++ (a ++ [32] ++ [126] ++ b ++ [126] ++ [32] ++ c) ++ [60, 47, 112, 62, 10])) [] := hlit 1 (by omega)
    (repeat' (first | refine s_addsx ?_ | refine s_callD (t1) ?_ | refine s_callD (t2) ?_ | refine s_eqs_t (hr := heq) ?_ | refine k_seq ?_ | refine k_region ?_ | refine k_nil ?_ | refine k_then ?_ | refine k_false ?_ | refine k_skip ?_ | refine k_ret ?_ | refine s_grun ?_ | refine s_move ?_ | refine s_assign ?_ | refine s_pickt ?_ | refine s_pickf ?_ | refine s_eqs_t ?_ | refine s_nott ?_ | refine s_buildx ?_))
    exact e_ret [] ⟨rfl, rfl⟩ (by repeat (first | exact SubH.nilR _ | refine SubH.pick (by repeat (first | exact HTake.here | apply HTake.there)) ?_))
  | true =>
    have t1 : TrD Tryz.prog 11 [optO true false, str (a ++ [32] ++ [126, 126] ++ b ++ [126, 126] ++ [32] ++ c)] [] _ [] := delHTML_tr ha hb hc 2 (.inr rfl)
    have t2 : TrD Tryz.prog 11 [optO false false, str (a ++ [32] ++ [126, 126] ++ b ++ [126, 126] ++ [32] ++ c)] [] (str ([60, 112, 62] ++ (a ++ [32] ++ [126, 126] ++ b ++ [126, 126] ++ [32] ++ c) ++ [60, 47, 112, 62, 10])) [] := hlit 2 (by omega)
    (repeat' (first | refine s_addsx ?_ | refine s_callD (t1) ?_ | refine s_callD (t2) ?_ | refine s_eqs_t (hr := heq) ?_ | refine k_seq ?_ | refine k_region ?_ | refine k_nil ?_ | refine k_then ?_ | refine k_true ?_ | refine k_false ?_ | refine k_skip ?_ | refine k_ret ?_ | refine s_grun ?_ | refine s_move ?_ | refine s_assign ?_ | refine s_pickt ?_ | refine s_pickf ?_ | refine s_eqs_t ?_ | refine s_nott ?_ | refine s_buildx ?_))
    exact e_ret [] ⟨rfl, rfl⟩ (by repeat (first | exact SubH.nilR _ | refine SubH.pick (by repeat (first | exact HTake.here | apply HTake.there)) ?_))
end Go.Proofs

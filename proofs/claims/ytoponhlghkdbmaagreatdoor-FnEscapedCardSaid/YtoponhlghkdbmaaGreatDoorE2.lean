/- laws.FnEscaped returns true whatever the argument. Condition: the text's length is that of a Go string. -/
import Derived.Test.YtoponhlghkdbmaaGreatDoorE1
namespace Go.Proofs
open Go Go.Eng
set_option maxRecDepth 20000
set_option maxHeartbeats 4000000

theorem SubH.nil1 {a : Blk} : SubH [a] [a, []] := ⟨[], by simp⟩

theorem printable_tr (l : List UInt8) (hl : l.length ≤ 2147483647) : Tr Tryz.prog 6 [str l, inat 200] [] fun u K => K = [] ∧ ∃ r, u = .bool r ∧ (r = true → Ascii l ∧ l.length ≤ 200) := by
  by_cases hl2 : 200 < l.length
  · refine Tr.start (n := 26) (rs := [.tmp 4]) rfl rfl rfl rfl fun B => ?_
    (repeat' (first | refine k_seq ?_ | refine k_region ?_ | refine k_nil ?_ | refine k_then ?_ | refine k_true ?_ | refine k_ret ?_ | refine k_ret_then ?_ | refine s_move ?_ | refine s_assign ?_ | refine s_gtr_t ?_ | refine s_lens ?_))
    exact e_ret [] ⟨rfl, false, rfl, fun h => Bool.noConfusion h⟩ (by repeat (first | exact SubH.nilR _ | refine SubH.pick (by repeat (first | exact HTake.here | apply HTake.there)) ?_))
  refine Tr.start (n := 26) (rs := [.tmp 4]) rfl rfl rfl rfl fun B => ?_
  (repeat' (first | refine k_seq ?_ | refine k_region ?_ | refine k_nil ?_ | refine k_then ?_ | refine k_false ?_ | refine k_skip ?_ | refine s_move ?_ | refine s_assign ?_ | refine s_gtr_f ?_ | refine s_lens ?_))
  refine k_midx (fun _ : Unit => []) (fun _ => []) (fun _ => Ascii l) ?_ ?_
  · (repeat' (first | refine k_blk ?_))
    refine k_loop (fun j : Nat => [(0, str l), (11, inat l.length), (12, inat j)]) (fun _ => []) (fun j => j ≤ l.length ∧ ∀ (k : Nat) (c : UInt8), k < j → l[k]? = some c → 32 ≤ c.toNat ∧ c.toNat ≤ 126) (fun j => l.length - j) 0 ⟨Nat.zero_le _, fun k c h => absurd h (Nat.not_lt_zero _)⟩ (Knows.spec (by repeat (first | exact trivial | refine ⟨rfl, ?_⟩))) (by repeat (first | exact SubH.nilR _ | refine SubH.pick (by repeat (first | exact HTake.here | apply HTake.there)) ?_)) fun j hj => ?_
    obtain ⟨hj, hA⟩ := hj
    by_cases h : j < l.length
    · obtain ⟨c, hc⟩ : ∃ c, l[j]? = some c := ⟨_, List.getElem?_eq_getElem h⟩
      by_cases n1 : c.toNat < 32
      · (repeat' (first | refine k_seq ?_ | refine k_region ?_ | refine k_nil ?_ | refine k_then ?_ | refine k_true ?_ | refine k_blk ?_ | refine k_skip ?_ | refine k_ret ?_ | refine k_ret_then ?_ | refine k_ret_block ?_ | refine s_gskipf ?_ | refine s_move ?_ | refine s_assign ?_ | refine s_lss_t ?_ | refine s_pickt ?_ | refine s_index ?_))
        exact e_ret [] ⟨rfl, false, rfl, fun h => Bool.noConfusion h⟩ (by repeat (first | exact SubH.nilR _ | refine SubH.pick (by repeat (first | exact HTake.here | apply HTake.there)) ?_))
      by_cases n2 : 126 < c.toNat
      · (repeat' (first | refine k_seq ?_ | refine k_region ?_ | refine k_nil ?_ | refine k_then ?_ | refine k_true ?_ | refine k_blk ?_ | refine k_skip ?_ | refine k_ret ?_ | refine k_ret_then ?_ | refine k_ret_block ?_ | refine s_grun ?_ | refine s_move ?_ | refine s_assign ?_ | refine s_lss_t ?_ | refine s_lss_f ?_ | refine s_gtr_t ?_ | refine s_pickf ?_ | refine s_index ?_))
        exact e_ret [] ⟨rfl, false, rfl, fun h => Bool.noConfusion h⟩ (by repeat (first | exact SubH.nilR _ | refine SubH.pick (by repeat (first | exact HTake.here | apply HTake.there)) ?_))
      · (repeat' (first | refine k_seq ?_ | refine k_region ?_ | refine k_nil ?_ | refine k_then ?_ | refine k_true ?_ | refine k_false ?_ | refine k_blk ?_ | refine k_skip ?_ | refine k_block ?_ | refine s_grun ?_ | refine s_move ?_ | refine s_assign ?_ | refine s_add1 ?_ | refine s_lss_t ?_ | refine s_lss_f ?_ | refine s_gtr_f ?_ | refine s_pickf ?_ | refine s_index ?_))
        refine ⟨j + 1, (Knows.spec (by repeat (first | exact trivial | refine ⟨rfl, ?_⟩))), (by repeat (first | exact SubH.nilR _ | refine SubH.pick (by repeat (first | exact HTake.here | apply HTake.there)) ?_)), ⟨by omega, fun k d hk hd => ?_⟩, by omega⟩
        by_cases hkj : k = j
        · subst hkj
          rw [hc] at hd
          cases hd
          omega
        · exact hA k d (by omega) hd
    · have : j = l.length := by omega
      subst this
      (repeat' (first | refine k_seq ?_ | refine k_region ?_ | refine k_nil ?_ | refine k_then ?_ | refine k_false ?_ | refine k_exit ?_ | refine k_exit_then ?_ | refine k_hit ?_ | refine s_lss_f ?_))
      exact ⟨(), (by repeat (first | exact trivial | refine ⟨rfl, ?_⟩)), (by repeat (first | exact SubH.nilR _ | refine SubH.pick (by repeat (first | exact HTake.here | apply HTake.there)) ?_)), fun k c hk => hA k c (List.getElem?_eq_some_iff.1 hk).1 hk⟩
  · rintro _ hA
    (repeat' (first | refine k_seq ?_ | refine k_region ?_ | refine k_nil ?_ | refine k_then ?_ | refine k_ret ?_ | refine s_assign ?_))
    exact e_ret [] ⟨rfl, true, rfl, fun _ => ⟨hA, by omega⟩⟩ (by repeat (first | exact SubH.nilR _ | refine SubH.pick (by repeat (first | exact HTake.here | apply HTake.there)) ?_))

theorem filled_tr (l : List UInt8) (hl : l.length ≤ 2147483647) : Tr Tryz.prog 7 [str l] [] fun u K => K = [] ∧ ∃ r, u = .bool r ∧ (r = true → Filled l) := by
  cases hl0 : l with
  | nil =>
    refine Tr.start (n := 18) (rs := [.tmp 2]) rfl rfl rfl rfl fun B => ?_
    (repeat' (first | refine k_seq ?_ | refine k_region ?_ | refine k_nil ?_ | refine k_then ?_ | refine k_ret ?_ | refine s_gskipt ?_ | refine s_move ?_ | refine s_assign ?_ | refine s_pickf ?_ | refine s_nes_f ?_))
    exact e_ret [] ⟨rfl, false, rfl, fun h => Bool.noConfusion h⟩ (by repeat (first | exact SubH.nilR _ | refine SubH.pick (by repeat (first | exact HTake.here | apply HTake.there)) ?_))
  | cons a l' =>
    rw [← hl0]
    have hne : ¬ l = [] := by rw [hl0]; simp
    have hp : 1 ≤ l.length := by rw [hl0]; simp
    have hc : l[0]? = some a := by rw [hl0]; rfl
    obtain ⟨d, hd⟩ : ∃ d, l[l.length - 1]? = some d := ⟨_, List.getElem?_eq_getElem (by omega)⟩
    by_cases h1 : a.toNat = 32
    · refine Tr.start (n := 18) (rs := [.tmp 2]) rfl rfl rfl rfl fun B => ?_
      (repeat' (first | refine k_seq ?_ | refine k_region ?_ | refine k_nil ?_ | refine k_then ?_ | refine k_ret ?_ | refine s_grun ?_ | refine s_gskipt ?_ | refine s_move ?_ | refine s_assign ?_ | refine s_neq_f ?_ | refine s_pickt ?_ | refine s_pickf ?_ | refine s_index ?_ | refine s_nes_t ?_))
      exact e_ret [] ⟨rfl, false, rfl, fun h => Bool.noConfusion h⟩ (by repeat (first | exact SubH.nilR _ | refine SubH.pick (by repeat (first | exact HTake.here | apply HTake.there)) ?_))
    · by_cases h2 : d.toNat = 32
      · refine Tr.start (n := 18) (rs := [.tmp 2]) rfl rfl rfl rfl fun B => ?_
        (repeat' (first | refine k_seq ?_ | refine k_region ?_ | refine k_nil ?_ | refine k_then ?_ | refine k_ret ?_ | refine s_grun ?_ | refine s_move ?_ | refine s_assign ?_ | refine s_sub1 ?_ | refine s_neq_t ?_ | refine s_neq_f ?_ | refine s_pickt ?_ | refine s_lens ?_ | refine s_index ?_ | refine s_nes_t ?_))
        exact e_ret [] ⟨rfl, false, rfl, fun h => Bool.noConfusion h⟩ (by repeat (first | exact SubH.nilR _ | refine SubH.pick (by repeat (first | exact HTake.here | apply HTake.there)) ?_))
      · have hF : Filled l := ⟨hne, fun c h => by rw [hc] at h; cases h; exact h1, fun c h => by rw [hd] at h; cases h; exact h2⟩
        refine Tr.start (n := 18) (rs := [.tmp 2]) rfl rfl rfl rfl fun B => ?_
        (repeat' (first | refine k_seq ?_ | refine k_region ?_ | refine k_nil ?_ | refine k_then ?_ | refine k_ret ?_ | refine s_grun ?_ | refine s_move ?_ | refine s_assign ?_ | refine s_sub1 ?_ | refine s_neq_t ?_ | refine s_pickt ?_ | refine s_lens ?_ | refine s_index ?_ | refine s_nes_t ?_))
        exact e_ret [] ⟨rfl, true, rfl, fun _ => hF⟩ (by repeat (first | exact SubH.nilR _ | refine SubH.pick (by repeat (first | exact HTake.here | apply HTake.there)) ?_))

theorem escaped_tr (l : List UInt8) (hl : l.length ≤ 1000000) (hne : l ≠ []) : TrP Tryz.prog 9 [str l] (str (slash l)) := by
  have hl0 : 1 ≤ l.length := by cases l with | nil => exact absurd rfl hne | cons _ _ => simp
  refine Tr.start (n := 21) (rs := [.tmp 2]) rfl rfl rfl rfl fun B => ?_
  (repeat' (first | refine k_seq ?_ | refine k_region ?_ | refine k_nil ?_ | refine k_then ?_ | refine s_move ?_ | refine s_assign ?_ | refine s_lens ?_ | refine s_alloc (fun _ => ?_)))
  rename_i b
  refine k_midx (fun x : EB => [(3, lp b)]) (fun x => [bldb b x.p x.v, x.R]) (fun x => (x.p = .pointer none ∨ x.p = lp b) ∧ Bys x.v (slash l) x.R) ?_ ?_
  · (repeat' (first | refine k_blk ?_))
    refine k_loop (fun x : EB => [(0, str l), (3, lp b), (6, inat l.length), (7, inat x.j)]) (fun x => [bldb b x.p x.v, x.R]) (fun x => x.j ≤ l.length ∧ (x.p = .pointer none ∨ x.p = lp b) ∧ Bys x.v (slash (l.take x.j)) x.R) (fun x => l.length - x.j) ⟨0, .pointer none, .slice none 0 0, []⟩
      ⟨Nat.zero_le _, .inl rfl, Own.nil _ _⟩ (Knows.spec (by repeat (first | exact trivial | refine ⟨rfl, ?_⟩))) (SubH.trans (H' := [_]) (by repeat (first | exact SubH.nilR _ | refine SubH.pick (by repeat (first | exact HTake.here | apply HTake.there)) ?_)) SubH.nil1) fun x hx => ?_
    obtain ⟨j, p, v, R⟩ := x
    obtain ⟨x1, xp, x2⟩ := hx
    simp only at x1 xp x2 ⊢
    by_cases hj : j < l.length
    · obtain ⟨c, hc⟩ : ∃ c, l[j]? = some c := ⟨_, List.getElem?_eq_getElem hj⟩
      have hsn := slash_snoc hc
      have hsl : (slash (l.take j)).length ≤ 2 * j := by
        have h1 := slash_len (l.take j)
        rw [List.length_take] at h1; omega
      have hP := specIsPunct_tr c.toNat c.toNat_lt
      by_cases hp : isP c = true
      · have e1 : slashB c = [92] ++ [c] := by simp [slashB, hp]
        rw [e1, ← List.append_assoc] at hsn
        unfold isP at hp
        rw [hp] at hP
        (repeat' (first | refine s_pure (hP) ?_ | refine k_seq ?_ | refine k_region ?_ | refine k_nil ?_ | refine k_then ?_ | refine k_true ?_ | refine k_blk ?_ | refine k_skip ?_ | refine s_move ?_ | refine s_assign ?_ | refine s_lss_t ?_ | refine s_index ?_))
        refine s_call (bldByte_tr b p v (slash (l.take j)) R 92 xp x2 (by omega)) (fun u K hR => ?_)
        obtain ⟨rfl, v2, R2, h2, rfl⟩ := hR
        (repeat' (first | refine k_region ?_ | refine k_nil ?_ | refine k_then ?_ | refine s_move ?_ | refine s_index ?_))
        refine s_call (bldByte_tr b (lp b) v2 (slash (l.take j) ++ [92]) R2 c (.inr rfl) h2 (by simp only [List.length_append, List.length_cons, List.length_nil]; omega)) (fun u K hR => ?_)
        obtain ⟨rfl, v3, R3, h3, rfl⟩ := hR
        (repeat' (first | refine k_region ?_ | refine k_nil ?_ | refine k_then ?_ | refine k_block ?_ | refine s_move ?_ | refine s_add1 ?_))
        exact ⟨⟨j + 1, lp b, v3, R3⟩, (Knows.spec (by repeat (first | exact trivial | refine ⟨rfl, ?_⟩))), (by repeat (first | exact SubH.nilR _ | refine SubH.pick (by repeat (first | exact HTake.here | apply HTake.there)) ?_)), ⟨by simp only; omega, .inr rfl, by simp only; rw [hsn]; exact h3⟩, by simp only; omega⟩
      · have e1 : slashB c = [c] := by simp [slashB, hp]
        rw [e1] at hsn
        have hp' : isP c = false := by simpa using hp
        unfold isP at hp'
        rw [hp'] at hP
        (repeat' (first | refine s_pure (hP) ?_ | refine k_seq ?_ | refine k_region ?_ | refine k_nil ?_ | refine k_then ?_ | refine k_true ?_ | refine k_false ?_ | refine k_blk ?_ | refine k_skip ?_ | refine s_move ?_ | refine s_assign ?_ | refine s_lss_t ?_ | refine s_index ?_))
        refine s_call (bldByte_tr b p v (slash (l.take j)) R c xp x2 (by omega)) (fun u K hR => ?_)
        obtain ⟨rfl, v3, R3, h3, rfl⟩ := hR
        (repeat' (first | refine k_region ?_ | refine k_nil ?_ | refine k_then ?_ | refine k_block ?_ | refine s_move ?_ | refine s_add1 ?_))
        exact ⟨⟨j + 1, lp b, v3, R3⟩, (Knows.spec (by repeat (first | exact trivial | refine ⟨rfl, ?_⟩))), (by repeat (first | exact SubH.nilR _ | refine SubH.pick (by repeat (first | exact HTake.here | apply HTake.there)) ?_)), ⟨by simp only; omega, .inr rfl, by simp only; rw [hsn]; exact h3⟩, by simp only; omega⟩
    · have : j = l.length := by omega
      subst this
      rw [List.take_length] at x2
      (repeat' (first | refine k_seq ?_ | refine k_region ?_ | refine k_nil ?_ | refine k_then ?_ | refine k_false ?_ | refine k_exit ?_ | refine k_exit_then ?_ | refine k_hit ?_ | refine s_lss_f ?_))
      exact ⟨⟨0, p, v, R⟩, (by repeat (first | exact trivial | refine ⟨rfl, ?_⟩)), (by repeat (first | exact SubH.nilR _ | refine SubH.pick (by repeat (first | exact HTake.here | apply HTake.there)) ?_)), xp, x2⟩
  · rintro ⟨_, p, v, R⟩ ⟨hp, hx⟩
    simp only at hp hx ⊢
    have hge := slash_ge l
    have hsl := slash_len l
    (repeat' (first | refine k_seq ?_ | refine k_region ?_))
    refine s_call (bldString_tr b p v (slash l) R hx (fun e => by have h := congrArg List.length e; simp only [List.length_nil] at h; omega) (by omega)) (fun u K hR => ?_)
    obtain ⟨rfl, rfl⟩ := hR
    (repeat' (first | refine k_nil ?_ | refine k_then ?_ | refine k_ret ?_ | refine s_assign ?_))
    exact e_pure ⟨rfl, rfl⟩

theorem fnEscaped_tr (l : List UInt8) (hl : l.length ≤ 9223372036854775807) : Tr Tryz.prog 3 [str l] [] fun u K => u = .bool true ∧ K = [] := by
  by_cases hl0 : 2147483647 < l.length
  · refine Tr.start (n := 23) (rs := [.tmp 2]) rfl rfl rfl rfl fun B => ?_
    (repeat' (first | refine k_seq ?_ | refine k_region ?_ | refine k_nil ?_ | refine k_then ?_ | refine k_true ?_ | refine k_ret ?_ | refine k_ret_then ?_ | refine s_move ?_ | refine s_assign ?_ | refine s_gtr_t ?_ | refine s_lens ?_))
    exact e_ret [] ⟨rfl, rfl⟩ (by repeat (first | exact SubH.nilR _ | refine SubH.pick (by repeat (first | exact HTake.here | apply HTake.there)) ?_))
  have hl1 : l.length ≤ 2147483647 := by omega
  refine Tr.start (n := 23) (rs := [.tmp 2]) rfl rfl rfl rfl fun B => ?_
  (repeat' (first | refine k_seq ?_ | refine k_region ?_ | refine k_nil ?_ | refine k_then ?_ | refine k_false ?_ | refine k_skip ?_ | refine s_move ?_ | refine s_assign ?_ | refine s_gtr_f ?_ | refine s_lens ?_))
  refine s_call (printable_tr l hl1) (fun u K hR => ?_)
  obtain ⟨rfl, r, rfl, hA⟩ := hR
  cases r with
  | false =>
    (repeat' (first | refine k_seq ?_ | refine k_region ?_ | refine k_nil ?_ | refine k_then ?_ | refine k_true ?_ | refine k_ret ?_ | refine k_ret_then ?_ | refine s_gskipf ?_ | refine s_move ?_ | refine s_assign ?_ | refine s_pickt ?_ | refine s_notf ?_))
    exact e_ret [] ⟨rfl, rfl⟩ (by repeat (first | exact SubH.nilR _ | refine SubH.pick (by repeat (first | exact HTake.here | apply HTake.there)) ?_))
  | true =>
    obtain ⟨hA, hlen⟩ := hA rfl
    (repeat' (first | refine s_grun ?_ | refine s_move ?_ | refine s_nott ?_))
    refine s_call (filled_tr l hl1) (fun u K hR => ?_)
    obtain ⟨rfl, r, rfl, hF⟩ := hR
    cases r with
    | false =>
      (repeat' (first | refine k_seq ?_ | refine k_region ?_ | refine k_nil ?_ | refine k_then ?_ | refine k_true ?_ | refine k_ret ?_ | refine k_ret_then ?_ | refine s_grun ?_ | refine s_assign ?_ | refine s_pickf ?_ | refine s_notf ?_))
      exact e_ret [] ⟨rfl, rfl⟩ (by repeat (first | exact SubH.nilR _ | refine SubH.pick (by repeat (first | exact HTake.here | apply HTake.there)) ?_))
    | true =>
      have hF := hF rfl
      have hT := html_tr (slashT l) (esc_line l (by omega) hA hF)
      rw [slashT_bytes, slashT_char] at hT
      have hel := escH_len l
      (repeat' (first | refine s_pure (escaped_tr l (by omega) hF.ne) ?_ | refine k_seq ?_ | refine k_region ?_ | refine k_nil ?_ | refine k_then ?_ | refine k_false ?_ | refine k_skip ?_ | refine s_grun ?_ | refine s_move ?_ | refine s_pickf ?_ | refine s_nott ?_ | refine s_buildx ?_))
      refine s_call hT (fun u K hR => ?_)
      obtain ⟨rfl, rfl⟩ := hR
      (repeat' (first | refine s_pure (specEsc_tr l (by omega)) ?_ | refine s_addsx ?_ | refine s_eqs_t (hr := rfl) ?_ | refine k_nil ?_ | refine k_then ?_ | refine k_ret ?_ | refine s_move ?_ | refine s_assign ?_))
      exact e_ret [] ⟨rfl, rfl⟩ (by repeat (first | exact SubH.nilR _ | refine SubH.pick (by repeat (first | exact HTake.here | apply HTake.there)) ?_))
end Go.Proofs

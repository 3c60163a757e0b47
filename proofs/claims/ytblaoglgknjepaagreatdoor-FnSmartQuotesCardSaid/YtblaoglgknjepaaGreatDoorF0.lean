/- The HTML escaper's WriteString (over bytes.Buffer alone). Conditions: a bound on the length. -/
import Derived.Test.YtblaoglgknjepaaGreatDoorB1
import Derived.Test.YtblaoglgknjepaaGreatDoorW7
namespace Go.Proofs
open Go Go.Eng
set_option maxRecDepth 20000
set_option maxHeartbeats 4000000

/-- A byte as HTML text. -/
def escB (c : UInt8) : List UInt8 := if c.toNat = 34 then [38, 113, 117, 111, 116, 59] else if c.toNat = 38 then [38, 97, 109, 112, 59] else if c.toNat = 60 then [38, 108, 116, 59] else if c.toNat = 62 then [38, 103, 116, 59] else [c]
abbrev escH (l : List UInt8) : List UInt8 := l.flatMap escB
theorem escB_len (c : UInt8) : (escB c).length ≤ 6 := by
  unfold escB
  by_cases h1 : c.toNat = 34
  · simp [h1]
  by_cases h2 : c.toNat = 38
  · simp [h2]
  by_cases h3 : c.toNat = 60
  · simp [h3]
  by_cases h4 : c.toNat = 62
  · simp [h4]
  simp [h1, h2, h3, h4]
theorem escH_len (l : List UInt8) : (escH l).length ≤ 6 * l.length := by
  induction l with
  | nil => simp
  | cons c l ih => have := escB_len c; simp only [escH, List.flatMap_cons, List.length_append, List.length_cons] at ih ⊢; omega
theorem escH_snoc {s : List UInt8} {j : Nat} {c : UInt8} (h : s[j]? = some c) : escH (s.take (j + 1)) = escH (s.take j) ++ escB c := by
  obtain ⟨h1, h2⟩ := List.getElem?_eq_some_iff.1 h
  rw [List.take_succ_eq_append_getElem h1, h2]; simp [escH]

abbrev escRow (g : Nat) : Blk := [(g, cellsOf [str [34], str [38, 113, 117, 111, 116, 59], str [38], str [38, 97, 109, 112, 59], str [60], str [38, 108, 116, 59], str [62], str [38, 103, 116, 59]] 9)]
theorem htmlEscaper_tr : Tr Tryz.prog 243 [] [] fun u K => ∃ g, u = .slice (some ⟨g, 0, none⟩) 8 8 ∧ K = [escRow g] := by
  refine Tr.start (n := 2) (rs := [.tmp 0]) rfl rfl rfl rfl fun B => ?_
  (repeat' (first | refine k_seq ?_ | refine k_region ?_ | refine k_nil ?_ | refine k_then ?_ | refine k_ret ?_ | refine s_assign ?_ | refine s_bsln (fun _ => ?_)))
  rename_i g
  exact e_ret [escRow g] ⟨g, rfl, rfl⟩ (by repeat (first | exact SubH.nilR _ | refine SubH.pick (by repeat (first | exact HTake.here | apply HTake.there)) ?_))

structure PW where
  j : Nat
  v : Value
  R : Blk
  lr : Int

theorem pairsWrite_tr (g b : Nat) (v : Value) (l : List UInt8) (R : Blk) (lr : Int) (s : List UInt8) (hR : BRow v l R) (hlim : l.length + 6 * s.length ≤ 1000000) :
    Tr Tryz.prog 244 [.slice (some ⟨g, 0, none⟩) 8 8, lp b, str s] [escRow g, bufb b v lr, R] fun u K => u = unit ∧ ∃ v' R' lr', BRow v' (l ++ escH s) R' ∧ K = [escRow g, bufb b v' lr', R'] := by
  refine Tr.start (n := 41) (rs := []) rfl rfl rfl rfl fun B => ?_
  (repeat' (first | refine k_seq ?_ | refine k_region ?_ | refine k_nil ?_ | refine k_then ?_ | refine k_blk ?_ | refine k_scope ?_ | refine k_label ?_ | refine s_assign ?_))
  refine k_loop (fun x : PW => [(0, .slice (some ⟨g, 0, none⟩) 8 8), (1, lp b), (2, str s), (6, inat x.j)]) (fun x => [escRow g, bufb b x.v x.lr, x.R])
    (fun x => x.j ≤ s.length ∧ BRow x.v (l ++ escH (s.take x.j)) x.R) (fun x => s.length - x.j) ⟨0, v, R, lr⟩ ⟨Nat.zero_le _, by simpa using hR⟩ (Knows.spec (by repeat (first | exact trivial | refine ⟨rfl, ?_⟩))) (by repeat (first | exact SubH.nilR _ | refine SubH.pick (by repeat (first | exact HTake.here | apply HTake.there)) ?_)) fun x hx => ?_
  obtain ⟨j, v, R, lr⟩ := x
  obtain ⟨x1, x2⟩ := hx
  simp only at x1 x2 ⊢
  have hb : (l ++ escH (s.take j)).length ≤ l.length + 6 * j := by
    have := escH_len (s.take j)
    rw [List.length_append]; rw [List.length_take] at this; omega
  by_cases hj : j < s.length
  · obtain ⟨c, hc⟩ : ∃ c, s[j]? = some c := ⟨_, List.getElem?_eq_getElem hj⟩
    have hsn := escH_snoc hc
    have h34 : ((34 : UInt8).toNat) = 34 := rfl
    have h38 : ((38 : UInt8).toNat) = 38 := rfl
    have h60 : ((60 : UInt8).toNat) = 60 := rfl
    have h62 : ((62 : UInt8).toNat) = 62 := rfl
    (repeat' (first | refine k_seq ?_ | refine k_region ?_ | refine k_nil ?_ | refine k_then ?_ | refine k_true ?_ | refine k_blk ?_ | refine k_skip ?_ | refine s_move ?_ | refine s_assign ?_ | refine s_lss_t ?_ | refine s_lens ?_))
    refine k_loop (fun k : Nat => [(0, .slice (some ⟨g, 0, none⟩) 8 8), (1, lp b), (2, str s), (6, inat j), (7, inat k)]) (fun _ => [escRow g, bufb b v lr, R])
      (fun k => k = 0 ∨ (k = 2 ∧ ¬ c.toNat = 34) ∨ (k = 4 ∧ ¬ c.toNat = 34 ∧ ¬ c.toNat = 38) ∨ (k = 6 ∧ ¬ c.toNat = 34 ∧ ¬ c.toNat = 38 ∧ ¬ c.toNat = 60) ∨ (k = 8 ∧ ¬ c.toNat = 34 ∧ ¬ c.toNat = 38 ∧ ¬ c.toNat = 60 ∧ ¬ c.toNat = 62)) (fun k => 8 - k) 0 (.inl rfl) (Knows.spec (by repeat (first | exact trivial | refine ⟨rfl, ?_⟩))) (by repeat (first | exact SubH.nilR _ | refine SubH.pick (by repeat (first | exact HTake.here | apply HTake.there)) ?_)) fun k hk => ?_
    have z34 : ([34] : List UInt8)[0]? = some 34 := rfl
    have z38 : ([38] : List UInt8)[0]? = some 38 := rfl
    have z60 : ([60] : List UInt8)[0]? = some 60 := rfl
    have z62 : ([62] : List UInt8)[0]? = some 62 := rfl
    rcases hk with rfl | ⟨rfl, n1⟩ | ⟨rfl, n1, n2⟩ | ⟨rfl, n1, n2, n3⟩ | ⟨rfl, n1, n2, n3, n4⟩
    · by_cases hc0 : c.toNat = 34
      · have e1 : escB c = [38, 113, 117, 111, 116, 59] := by simp [escB, hc0]
        (repeat' (first | refine Wp.draw_all (id := 6) Mixed.out (by kernel_rfl) ?_ | refine k_seq ?_ | refine k_region ?_ | refine k_nil ?_ | refine k_then ?_ | refine k_true ?_ | refine k_blk ?_ | refine k_skip ?_ | refine s_move ?_ | refine s_load ?_ | refine s_add1 ?_ | refine s_lss_t ?_ | refine s_len ?_ | refine s_idxa ?_ | refine u_nil ?_ | refine u_move ?_ | refine u_load ?_ | refine u_eql_t ?_ | refine u_index ?_ | refine u_idxa ?_))
        refine s_call (writeString_tr b v (l ++ escH (s.take j)) R lr [38, 113, 117, 111, 116, 59] x2 (by simp) (by simp) (by rw [show ([38, 113, 117, 111, 116, 59] : List UInt8).length = 6 from rfl]; omega)) (fun u K hR => ?_)
        obtain ⟨rfl, v', R', h9, rfl⟩ := hR
        (repeat' (first | refine k_region ?_ | refine k_nil ?_ | refine k_then ?_ | refine k_exit ?_ | refine k_exit_then ?_ | refine k_hit ?_ | refine k_miss ?_ | refine s_move ?_ | refine s_assign ?_ | refine s_add1 ?_))
        exact ⟨⟨j + 1, v', R', 0⟩, (Knows.spec (by repeat (first | exact trivial | refine ⟨rfl, ?_⟩))), (by repeat (first | exact SubH.nilR _ | refine SubH.pick (by repeat (first | exact HTake.here | apply HTake.there)) ?_)), ⟨by simp only; omega, by simp only; rw [hsn, e1, ← List.append_assoc]; exact h9⟩, by simp only; omega⟩
      · (repeat' (first | refine Wp.draw_all (id := 6) Mixed.out (by kernel_rfl) ?_ | refine k_seq ?_ | refine k_region ?_ | refine k_nil ?_ | refine k_then ?_ | refine k_true ?_ | refine k_false ?_ | refine k_blk ?_ | refine k_skip ?_ | refine k_block ?_ | refine s_move ?_ | refine s_assign ?_ | refine s_add2 ?_ | refine s_lss_t ?_ | refine s_len ?_ | refine u_nil ?_ | refine u_move ?_ | refine u_load ?_ | refine u_eql_f ?_ | refine u_index ?_ | refine u_idxa ?_))
        exact ⟨2, (Knows.spec (by repeat (first | exact trivial | refine ⟨rfl, ?_⟩))), (by repeat (first | exact SubH.nilR _ | refine SubH.pick (by repeat (first | exact HTake.here | apply HTake.there)) ?_)), .inr (.inl ⟨rfl, hc0⟩), by omega⟩
    · by_cases hc0 : c.toNat = 38
      · have e1 : escB c = [38, 97, 109, 112, 59] := by simp [escB, hc0]
        (repeat' (first | refine Wp.draw_all (id := 6) Mixed.out (by kernel_rfl) ?_ | refine k_seq ?_ | refine k_region ?_ | refine k_nil ?_ | refine k_then ?_ | refine k_true ?_ | refine k_blk ?_ | refine k_skip ?_ | refine s_move ?_ | refine s_load ?_ | refine s_add1 ?_ | refine s_lss_t ?_ | refine s_len ?_ | refine s_idxa ?_ | refine u_nil ?_ | refine u_move ?_ | refine u_load ?_ | refine u_eql_t ?_ | refine u_index ?_ | refine u_idxa ?_))
        refine s_call (writeString_tr b v (l ++ escH (s.take j)) R lr [38, 97, 109, 112, 59] x2 (by simp) (by simp) (by rw [show ([38, 97, 109, 112, 59] : List UInt8).length = 5 from rfl]; omega)) (fun u K hR => ?_)
        obtain ⟨rfl, v', R', h9, rfl⟩ := hR
        (repeat' (first | refine k_region ?_ | refine k_nil ?_ | refine k_then ?_ | refine k_exit ?_ | refine k_exit_then ?_ | refine k_hit ?_ | refine k_miss ?_ | refine s_move ?_ | refine s_assign ?_ | refine s_add1 ?_))
        exact ⟨⟨j + 1, v', R', 0⟩, (Knows.spec (by repeat (first | exact trivial | refine ⟨rfl, ?_⟩))), (by repeat (first | exact SubH.nilR _ | refine SubH.pick (by repeat (first | exact HTake.here | apply HTake.there)) ?_)), ⟨by simp only; omega, by simp only; rw [hsn, e1, ← List.append_assoc]; exact h9⟩, by simp only; omega⟩
      · (repeat' (first | refine Wp.draw_all (id := 6) Mixed.out (by kernel_rfl) ?_ | refine k_seq ?_ | refine k_region ?_ | refine k_nil ?_ | refine k_then ?_ | refine k_true ?_ | refine k_false ?_ | refine k_blk ?_ | refine k_skip ?_ | refine k_block ?_ | refine s_move ?_ | refine s_assign ?_ | refine s_add2 ?_ | refine s_lss_t ?_ | refine s_len ?_ | refine u_nil ?_ | refine u_move ?_ | refine u_load ?_ | refine u_eql_f ?_ | refine u_index ?_ | refine u_idxa ?_))
        exact ⟨4, (Knows.spec (by repeat (first | exact trivial | refine ⟨rfl, ?_⟩))), (by repeat (first | exact SubH.nilR _ | refine SubH.pick (by repeat (first | exact HTake.here | apply HTake.there)) ?_)), .inr (.inr (.inl ⟨rfl, n1, hc0⟩)), by omega⟩
    · by_cases hc0 : c.toNat = 60
      · have e1 : escB c = [38, 108, 116, 59] := by simp [escB, hc0]
        (repeat' (first | refine Wp.draw_all (id := 6) Mixed.out (by kernel_rfl) ?_ | refine k_seq ?_ | refine k_region ?_ | refine k_nil ?_ | refine k_then ?_ | refine k_true ?_ | refine k_blk ?_ | refine k_skip ?_ | refine s_move ?_ | refine s_load ?_ | refine s_add1 ?_ | refine s_lss_t ?_ | refine s_len ?_ | refine s_idxa ?_ | refine u_nil ?_ | refine u_move ?_ | refine u_load ?_ | refine u_eql_t ?_ | refine u_index ?_ | refine u_idxa ?_))
        refine s_call (writeString_tr b v (l ++ escH (s.take j)) R lr [38, 108, 116, 59] x2 (by simp) (by simp) (by rw [show ([38, 108, 116, 59] : List UInt8).length = 4 from rfl]; omega)) (fun u K hR => ?_)
        obtain ⟨rfl, v', R', h9, rfl⟩ := hR
        (repeat' (first | refine k_region ?_ | refine k_nil ?_ | refine k_then ?_ | refine k_exit ?_ | refine k_exit_then ?_ | refine k_hit ?_ | refine k_miss ?_ | refine s_move ?_ | refine s_assign ?_ | refine s_add1 ?_))
        exact ⟨⟨j + 1, v', R', 0⟩, (Knows.spec (by repeat (first | exact trivial | refine ⟨rfl, ?_⟩))), (by repeat (first | exact SubH.nilR _ | refine SubH.pick (by repeat (first | exact HTake.here | apply HTake.there)) ?_)), ⟨by simp only; omega, by simp only; rw [hsn, e1, ← List.append_assoc]; exact h9⟩, by simp only; omega⟩
      · (repeat' (first | refine Wp.draw_all (id := 6) Mixed.out (by kernel_rfl) ?_ | refine k_seq ?_ | refine k_region ?_ | refine k_nil ?_ | refine k_then ?_ | refine k_true ?_ | refine k_false ?_ | refine k_blk ?_ | refine k_skip ?_ | refine k_block ?_ | refine s_move ?_ | refine s_assign ?_ | refine s_add2 ?_ | refine s_lss_t ?_ | refine s_len ?_ | refine u_nil ?_ | refine u_move ?_ | refine u_load ?_ | refine u_eql_f ?_ | refine u_index ?_ | refine u_idxa ?_))
        exact ⟨6, (Knows.spec (by repeat (first | exact trivial | refine ⟨rfl, ?_⟩))), (by repeat (first | exact SubH.nilR _ | refine SubH.pick (by repeat (first | exact HTake.here | apply HTake.there)) ?_)), .inr (.inr (.inr (.inl ⟨rfl, n1, n2, hc0⟩))), by omega⟩
    · by_cases hc0 : c.toNat = 62
      · have e1 : escB c = [38, 103, 116, 59] := by simp [escB, hc0]
        (repeat' (first | refine Wp.draw_all (id := 6) Mixed.out (by kernel_rfl) ?_ | refine k_seq ?_ | refine k_region ?_ | refine k_nil ?_ | refine k_then ?_ | refine k_true ?_ | refine k_blk ?_ | refine k_skip ?_ | refine s_move ?_ | refine s_load ?_ | refine s_add1 ?_ | refine s_lss_t ?_ | refine s_len ?_ | refine s_idxa ?_ | refine u_nil ?_ | refine u_move ?_ | refine u_load ?_ | refine u_eql_t ?_ | refine u_index ?_ | refine u_idxa ?_))
        refine s_call (writeString_tr b v (l ++ escH (s.take j)) R lr [38, 103, 116, 59] x2 (by simp) (by simp) (by rw [show ([38, 103, 116, 59] : List UInt8).length = 4 from rfl]; omega)) (fun u K hR => ?_)
        obtain ⟨rfl, v', R', h9, rfl⟩ := hR
        (repeat' (first | refine k_region ?_ | refine k_nil ?_ | refine k_then ?_ | refine k_exit ?_ | refine k_exit_then ?_ | refine k_hit ?_ | refine k_miss ?_ | refine s_move ?_ | refine s_assign ?_ | refine s_add1 ?_))
        exact ⟨⟨j + 1, v', R', 0⟩, (Knows.spec (by repeat (first | exact trivial | refine ⟨rfl, ?_⟩))), (by repeat (first | exact SubH.nilR _ | refine SubH.pick (by repeat (first | exact HTake.here | apply HTake.there)) ?_)), ⟨by simp only; omega, by simp only; rw [hsn, e1, ← List.append_assoc]; exact h9⟩, by simp only; omega⟩
      · (repeat' (first | refine Wp.draw_all (id := 6) Mixed.out (by kernel_rfl) ?_ | refine k_seq ?_ | refine k_region ?_ | refine k_nil ?_ | refine k_then ?_ | refine k_true ?_ | refine k_false ?_ | refine k_blk ?_ | refine k_skip ?_ | refine k_block ?_ | refine s_move ?_ | refine s_assign ?_ | refine s_add2 ?_ | refine s_lss_t ?_ | refine s_len ?_ | refine u_nil ?_ | refine u_move ?_ | refine u_load ?_ | refine u_eql_f ?_ | refine u_index ?_ | refine u_idxa ?_))
        exact ⟨8, (Knows.spec (by repeat (first | exact trivial | refine ⟨rfl, ?_⟩))), (by repeat (first | exact SubH.nilR _ | refine SubH.pick (by repeat (first | exact HTake.here | apply HTake.there)) ?_)), .inr (.inr (.inr (.inr ⟨rfl, n1, n2, n3, hc0⟩))), by omega⟩
    · have e1 : escB c = [c] := by simp [escB, n1, n2, n3, n4]
      (repeat' (first | refine k_seq ?_ | refine k_region ?_ | refine k_nil ?_ | refine k_then ?_ | refine k_false ?_ | refine k_exit ?_ | refine k_exit_then ?_ | refine k_hit ?_ | refine s_move ?_ | refine s_lss_f ?_ | refine s_len ?_ | refine s_index ?_))
      refine s_call (writeByte_tr b v (l ++ escH (s.take j)) R lr c x2 (by omega)) (fun u K hR => ?_)
      obtain ⟨rfl, v', R', h9, rfl⟩ := hR
      (repeat' (first | refine k_region ?_ | refine k_nil ?_ | refine k_then ?_ | refine k_block ?_ | refine s_move ?_ | refine s_assign ?_ | refine s_add1 ?_))
      exact ⟨⟨j + 1, v', R', 0⟩, (Knows.spec (by repeat (first | exact trivial | refine ⟨rfl, ?_⟩))), (by repeat (first | exact SubH.nilR _ | refine SubH.pick (by repeat (first | exact HTake.here | apply HTake.there)) ?_)), ⟨by simp only; omega, by simp only; rw [hsn, e1, ← List.append_assoc]; exact h9⟩, by simp only; omega⟩
  · have : j = s.length := by omega
    subst this
    rw [List.take_length] at x2
    (repeat' (first | refine k_seq ?_ | refine k_region ?_ | refine k_nil ?_ | refine k_then ?_ | refine k_false ?_ | refine k_exit ?_ | refine k_exit_then ?_ | refine k_hit ?_ | refine k_nogo ?_ | refine s_move ?_ | refine s_lss_f ?_ | refine s_lens ?_))
    exact e_norm _ ⟨rfl, v, R, lr, x2, rfl⟩ (by repeat (first | exact SubH.nilR _ | refine SubH.pick (by repeat (first | exact HTake.here | apply HTake.there)) ?_))
end Go.Proofs

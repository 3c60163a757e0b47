/- laws.FnLiteralLines returns true whatever the argument. Condition: the argument's row is that of the memory found. -/
import Derived.Test.YtoponhlghkdbmaaGreatDoorL3
import Derived.Test.YtoponhlghkdbmaaGreatDoorEngB
namespace Go.Proofs
open Go Go.Eng
set_option maxRecDepth 20000
set_option maxHeartbeats 4000000

theorem jn_snoc : ∀ (l : List (List UInt8)) (x : List UInt8), l ≠ [] → jn (l ++ [x]) = jn l ++ 10 :: x
  | [], x, h => absurd rfl h
  | [a], x, _ => by rw [jn_one]; show jn (a :: x :: []) = _; rw [jn_cons, jn_one]
  | a :: b :: r, x, _ => by
    have ih := jn_snoc (b :: r) x (by simp)
    show jn (a :: b :: (r ++ [x])) = _
    rw [jn_cons, jn_cons]
    have ih' : jn (b :: (r ++ [x])) = jn (b :: r) ++ 10 :: x := ih
    rw [ih']; simp
theorem escH_jn : ∀ (ss : List (List UInt8)), escH (jn ss) = jn (ss.map escH)
  | [] => rfl
  | [a] => by rw [jn_one]; exact (jn_one _).symm
  | a :: b :: r => by
    have ih := escH_jn (b :: r)
    rw [jn_cons]
    have e1 : escH (a ++ 10 :: jn (b :: r)) = escH a ++ 10 :: escH (jn (b :: r)) := by
      simp only [escH, List.flatMap_append, List.flatMap_cons]; rfl
    rw [e1, ih]
    exact (jn_cons (escH a) (escH b) (r.map escH)).symm
theorem jn_len : ∀ (ss : List (List UInt8)) (m : Nat), (∀ s ∈ ss, s.length ≤ m) → (jn ss).length ≤ (m + 1) * ss.length
  | [], m, _ => by simp [jn, Lib.join_nil]
  | [a], m, h => by have := h a (by simp); rw [jn_one]; simp; omega
  | a :: b :: r, m, h => by
    have ih := jn_len (b :: r) m (fun s hs => h s (List.mem_cons_of_mem _ hs))
    have := h a (by simp)
    rw [jn_cons]
    simp only [List.length_append, List.length_cons] at ih ⊢
    rw [Nat.mul_add, Nat.mul_one]
    omega

theorem SubH.all (H : Heap) : SubH H [] := ⟨H, by simp⟩
/-- joined, with a line feed between. -/
theorem joined_tr (v : Value) (xs : List (List UInt8)) (R : Blk) (hS : Strs v xs R) (hne : xs ≠ []) (hn : xs.length ≤ 100) (hlen : ∀ x ∈ xs, x.length ≤ 10000) :
    TrD Tryz.prog 16 [v, str [10]] [R] (str (jn xs)) [R] := by
  have hp := List.length_pos_iff.2 hne
  have hS' : Own 9 1 v (xs.length - 1 + 1) (xs.map str) R := by rw [show xs.length - 1 + 1 = xs.length by omega]; exact hS
  obtain ⟨g, cap, cur, rfl, rfl, k1, k2, k3, k4⟩ := hS'.pos
  rw [show xs.length - 1 + 1 = xs.length by omega] at k1 k4 ⊢
  rw [Nat.mul_one] at k4
  have hc : ∀ j x, xs[j]? = some x → cur[0 + j * 1]? = some (str x) := by
    intro j x hj
    have hjl := (List.getElem?_eq_some_iff.1 hj).1
    have h1 : (cur.take xs.length)[j]? = some (str x) := by rw [k4, List.getElem?_map, hj]; rfl
    rw [List.getElem?_take, if_pos hjl] at h1
    rw [show 0 + j * 1 = j by omega]; exact h1
  refine Tr.start (n := 25) (rs := [.tmp 4]) rfl rfl rfl rfl fun B => ?_
  (repeat' (first | refine k_seq ?_ | refine k_region ?_ | refine k_nil ?_ | refine k_then ?_ | refine s_move ?_ | refine s_assign ?_ | refine s_len ?_))
  refine k_mid [(5, str (jn xs))] [[(g, cellsOf cur 9)]] ?_ ?_
  · (repeat' (first | refine k_blk ?_))
    refine k_loop (fun j : Nat => [(1, str [10]), (5, str (jn (xs.take j))), (8, .slice (some ⟨g, 0, none⟩) xs.length cap), (9, inat xs.length), (10, inat j)]) (fun _ => [[(g, cellsOf cur 9)]]) (fun j => j ≤ xs.length) (fun j => xs.length - j) 0 (Nat.zero_le _) (Knows.spec (by repeat (first | exact trivial | refine ⟨rfl, ?_⟩))) (by repeat (first | exact SubH.nilR _ | refine SubH.pick (by repeat (first | exact HTake.here | apply HTake.there)) ?_)) fun j hj => ?_
    by_cases h : j < xs.length
    · have hx : xs[j]? = some xs[j] := List.getElem?_eq_getElem h
      generalize xs[j] = x at hx
      have hcx := hc j x hx
      have htk : xs.take (j + 1) = xs.take j ++ [x] := by rw [List.take_add_one, hx]; rfl
      have hl1 : (jn (xs.take j)).length ≤ 10001 * j := by
        have := jn_len (xs.take j) 10000 (fun s hs => hlen s (List.mem_of_mem_take hs))
        rw [List.length_take] at this
        have h2 : min j xs.length = j := by omega
        rw [h2] at this; exact this
      have hl2 := hlen x (List.mem_of_getElem? hx)
      by_cases h0 : 0 < j
      · have e1 : jn (xs.take (j + 1)) = jn (xs.take j) ++ [10] ++ x := by
          rw [htk, jn_snoc _ _ (by intro e; have h3 := congrArg List.length e; rw [List.length_take, List.length_nil] at h3; omega)]; simp
        (repeat' (first | refine s_load (hc := hcx) ?_ | refine s_addsx ?_ | refine k_seq ?_ | refine k_region ?_ | refine k_nil ?_ | refine k_then ?_ | refine k_true ?_ | refine k_blk ?_ | refine k_skip ?_ | refine k_block ?_ | refine s_move ?_ | refine s_assign ?_ | refine s_add1 ?_ | refine s_lss_t ?_ | refine s_gtr_t ?_ | refine s_idxa ?_))
        exact ⟨j + 1, (by rw [e1]; exact (Knows.spec (by repeat (first | exact trivial | refine ⟨rfl, ?_⟩)))), (by repeat (first | exact SubH.nilR _ | refine SubH.pick (by repeat (first | exact HTake.here | apply HTake.there)) ?_)), by omega, by omega⟩
      · have hj0 : j = 0 := by omega
        subst hj0
        have e1 : jn (xs.take (0 + 1)) = jn (xs.take 0) ++ x := by rw [htk]; simp [jn_one]; rfl
        (repeat' (first | refine s_load (hc := hcx) ?_ | refine k_seq ?_ | refine k_region ?_ | refine k_nil ?_ | refine k_then ?_ | refine k_true ?_ | refine k_false ?_ | refine k_blk ?_ | refine k_skip ?_ | refine k_block ?_ | refine s_move ?_ | refine s_assign ?_ | refine s_add1 ?_ | refine s_lss_t ?_ | refine s_gtr_f ?_ | refine s_idxa ?_ | refine s_adds ?_))
        exact ⟨0 + 1, (by rw [e1]; exact (Knows.spec (by repeat (first | exact trivial | refine ⟨rfl, ?_⟩)))), (by repeat (first | exact SubH.nilR _ | refine SubH.pick (by repeat (first | exact HTake.here | apply HTake.there)) ?_)), by omega, by omega⟩
    · have : j = xs.length := by omega
      subst this
      rw [List.take_length]
      (repeat' (first | refine k_seq ?_ | refine k_region ?_ | refine k_nil ?_ | refine k_then ?_ | refine k_false ?_ | refine k_exit ?_ | refine k_exit_then ?_ | refine k_hit ?_ | refine s_lss_f ?_))
      exact ⟨(by repeat (first | exact trivial | refine ⟨rfl, ?_⟩)), (by repeat (first | exact SubH.nilR _ | refine SubH.pick (by repeat (first | exact HTake.here | apply HTake.there)) ?_))⟩
  · (repeat' (first | refine k_seq ?_ | refine k_region ?_ | refine k_nil ?_ | refine k_then ?_ | refine k_ret ?_ | refine s_move ?_ | refine s_assign ?_))
    exact e_ret _ ⟨rfl, rfl⟩ (by repeat (first | exact SubH.nilR _ | refine SubH.pick (by repeat (first | exact HTake.here | apply HTake.there)) ?_))

theorem fits2_nil (a : Option Addr) (cap : Nat) : TrP Tryz.prog 11 [.slice a 0 cap] (.bool true) := by
  refine Tr.start (n := 18) (rs := [.tmp 2]) rfl rfl rfl rfl fun B => ?_
  (repeat' (first | refine k_seq ?_ | refine k_region ?_ | refine k_nil ?_ | refine k_then ?_ | refine k_false ?_ | refine k_skip ?_ | refine s_move ?_ | refine s_assign ?_ | refine s_gtr_f ?_ | refine s_len ?_))
  refine k_mid [] [] ?_ ?_
  · (repeat' (first | refine k_blk ?_))
    refine k_loop (fun _ : Unit => [(9, inat 0), (10, inat 0)]) (fun _ => []) (fun _ => True) (fun _ => 0) () trivial (Knows.spec (by repeat (first | exact trivial | refine ⟨rfl, ?_⟩))) (by repeat (first | exact SubH.nilR _ | refine SubH.pick (by repeat (first | exact HTake.here | apply HTake.there)) ?_)) fun k hk => ?_
    (repeat' (first | refine k_seq ?_ | refine k_region ?_ | refine k_nil ?_ | refine k_then ?_ | refine k_false ?_ | refine k_exit ?_ | refine k_exit_then ?_ | refine k_hit ?_ | refine s_lss_f ?_))
    exact ⟨(by repeat (first | exact trivial | refine ⟨rfl, ?_⟩)), (by repeat (first | exact SubH.nilR _ | refine SubH.pick (by repeat (first | exact HTake.here | apply HTake.there)) ?_))⟩
  · (repeat' (first | refine k_seq ?_ | refine k_region ?_ | refine k_nil ?_ | refine k_then ?_ | refine k_ret ?_ | refine s_assign ?_))
    exact e_pure ⟨rfl, rfl⟩

theorem fits2_calls (B : Base) (bk o cap : Nat) (ss : List (List UInt8)) (h0 : Row0 B bk o ss) (hn : ss.length ≤ 9223372036854775807) (hss : ∀ s ∈ ss, s.length ≤ 9223372036854775807) (H : Heap) (w : World) (hw : Inv B H w) :
    Calls Tryz.prog 11 ([.slice (some ⟨bk, o, none⟩) ss.length cap] : List Value).toArray w fun e w' => ∃ v H', e = .returned v ∧ (H' = H ∧ ∃ r, v = .bool r ∧ (r = true → ∀ s ∈ ss, s.length ≤ 2147483647)) ∧ Inv B H' w' := by
  refine calls_start (fn := Tryz.f11) (n := 18) (rs := [.tmp 2]) (R := fun v H' => H' = H ∧ ∃ r, v = .bool r ∧ (r = true → ∀ s ∈ ss, s.length ≤ 2147483647)) Tryz.func11 rfl rfl rfl rfl ?_ hw
  by_cases hl : 2147483647 < ss.length
  · (repeat' (first | refine k_seq ?_ | refine k_region ?_ | refine k_nil ?_ | refine k_then ?_ | refine k_true ?_ | refine k_ret ?_ | refine k_ret_then ?_ | refine s_move ?_ | refine s_assign ?_ | refine s_gtr_t ?_ | refine s_len ?_))
    exact e_ret H ⟨rfl, false, rfl, fun h => Bool.noConfusion h⟩ (SubH.refl H)
  (repeat' (first | refine k_seq ?_ | refine k_region ?_ | refine k_nil ?_ | refine k_then ?_ | refine k_false ?_ | refine k_skip ?_ | refine s_move ?_ | refine s_assign ?_ | refine s_gtr_f ?_ | refine s_len ?_))
  refine k_midx (fun _ : Unit => []) (fun _ => H) (fun _ => ∀ s ∈ ss, s.length ≤ 2147483647) ?_ ?_
  · (repeat' (first | refine k_blk ?_))
    refine k_loop (fun j : Nat => [(8, .slice (some ⟨bk, o, none⟩) ss.length cap), (9, inat ss.length), (10, inat j)]) (fun _ => H) (fun j => j ≤ ss.length ∧ ∀ s ∈ ss.take j, s.length ≤ 2147483647) (fun j => ss.length - j) 0 ⟨Nat.zero_le _, by simp⟩ (Knows.spec (by repeat (first | exact trivial | refine ⟨rfl, ?_⟩))) (SubH.refl H) fun j hj => ?_
    obtain ⟨hj, hA⟩ := hj
    by_cases h : j < ss.length
    · have hx : ss[j]? = some ss[j] := List.getElem?_eq_getElem h
      generalize ss[j] = x at hx
      have hxl := hss x (List.mem_of_getElem? hx)
      by_cases h2 : 2147483647 < x.length
      · (repeat' (first | refine s_load0 h0 hx ?_ | refine k_seq ?_ | refine k_region ?_ | refine k_nil ?_ | refine k_then ?_ | refine k_true ?_ | refine k_blk ?_ | refine k_skip ?_ | refine k_ret ?_ | refine k_ret_then ?_ | refine k_ret_block ?_ | refine s_move ?_ | refine s_assign ?_ | refine s_lss_t ?_ | refine s_gtr_t ?_ | refine s_lens ?_ | refine s_idxa ?_))
        exact e_ret H ⟨rfl, false, rfl, fun h => Bool.noConfusion h⟩ (SubH.refl H)
      · (repeat' (first | refine s_load0 h0 hx ?_ | refine k_seq ?_ | refine k_region ?_ | refine k_nil ?_ | refine k_then ?_ | refine k_true ?_ | refine k_false ?_ | refine k_blk ?_ | refine k_skip ?_ | refine k_block ?_ | refine s_move ?_ | refine s_assign ?_ | refine s_add1 ?_ | refine s_lss_t ?_ | refine s_gtr_f ?_ | refine s_lens ?_ | refine s_idxa ?_))
        refine ⟨j + 1, (Knows.spec (by repeat (first | exact trivial | refine ⟨rfl, ?_⟩))), SubH.refl H, ⟨by omega, fun s hs => ?_⟩, by omega⟩
        rw [List.take_add_one, hx] at hs
        rcases List.mem_append.1 hs with hs | hs
        · exact hA s hs
        · simp at hs; subst hs; omega
    · have : j = ss.length := by omega
      subst this
      rw [List.take_length] at hA
      (repeat' (first | refine k_seq ?_ | refine k_region ?_ | refine k_nil ?_ | refine k_then ?_ | refine k_false ?_ | refine k_exit ?_ | refine k_exit_then ?_ | refine k_hit ?_ | refine s_lss_f ?_))
      exact ⟨(), (by repeat (first | exact trivial | refine ⟨rfl, ?_⟩)), SubH.refl H, hA⟩
  · rintro _ hA
    (repeat' (first | refine k_seq ?_ | refine k_region ?_ | refine k_nil ?_ | refine k_then ?_ | refine k_ret ?_ | refine s_assign ?_))
    exact e_ret H ⟨rfl, true, rfl, fun _ => hA⟩ (SubH.refl H)

structure LL where
  j : Nat
  vt : Value
  Rt : Blk
  vw : Value
  Rw : Blk
theorem SubH.nil0 : SubH [] [[], []] := ⟨[], by simp⟩

theorem fnLit_nil (a : Option Addr) (cap : Nat) : Tr Tryz.prog 4 [.slice a 0 cap] [] fun u K => u = .bool true ∧ K = [] := by
  refine Tr.start (n := 57) (rs := [.tmp 2]) rfl rfl rfl rfl fun B => ?_
  (repeat' (first | refine s_pure (fits2_nil a cap) ?_ | refine k_seq ?_ | refine k_region ?_ | refine k_nil ?_ | refine k_then ?_ | refine k_true ?_ | refine k_false ?_ | refine k_skip ?_ | refine k_ret ?_ | refine k_ret_then ?_ | refine s_gskipf ?_ | refine s_move ?_ | refine s_assign ?_ | refine s_eql_t ?_ | refine s_pickt ?_ | refine s_len ?_ | refine s_nott ?_))
  exact e_ret [] ⟨rfl, rfl⟩ (by repeat (first | exact SubH.nilR _ | refine SubH.pick (by repeat (first | exact HTake.here | apply HTake.there)) ?_))

theorem fnLit_calls (B : Base) (bk o cap : Nat) (ss : List (List UInt8)) (h0 : Row0 B bk o ss) (hne : ss ≠ []) (hn : ss.length ≤ 9223372036854775807) (hss : ∀ s ∈ ss, s.length ≤ 9223372036854775807) (w : World) (hw : Inv B [] w) :
    Calls Tryz.prog 4 ([.slice (some ⟨bk, o, none⟩) ss.length cap] : List Value).toArray w fun e w' => ∃ v H', e = .returned v ∧ v = .bool true ∧ Inv B H' w' := by
  refine calls_start (fn := Tryz.f4) (n := 57) (rs := [.tmp 2]) (R := fun v H' => v = .bool true) Tryz.func4 rfl rfl rfl rfl ?_ hw
  have hp := List.length_pos_iff.2 hne
  (repeat' (first | refine k_seq ?_ | refine k_region ?_ | refine k_nil ?_ | refine k_then ?_ | refine s_move ?_ | refine s_assign ?_))
  refine s_callB (R := fun v H' => H' = [] ∧ ∃ r, v = .bool r ∧ (r = true → ∀ s ∈ ss, s.length ≤ 2147483647)) (fun w hw => fits2_calls B bk o cap ss h0 hn hss [] w hw) (fun v H' hR => ?_)
  obtain ⟨rfl, r, rfl, hfit⟩ := hR
  cases r with
  | false =>
    (repeat' (first | refine k_seq ?_ | refine k_region ?_ | refine k_nil ?_ | refine k_then ?_ | refine k_true ?_ | refine k_ret ?_ | refine k_ret_then ?_ | refine s_assign ?_ | refine s_notf ?_))
    exact e_ret [] rfl (by repeat (first | exact SubH.nilR _ | refine SubH.pick (by repeat (first | exact HTake.here | apply HTake.there)) ?_))
  | true =>
  have hfit := hfit rfl
  by_cases h50 : 50 < ss.length
  · (repeat' (first | refine k_seq ?_ | refine k_region ?_ | refine k_nil ?_ | refine k_then ?_ | refine k_true ?_ | refine k_false ?_ | refine k_skip ?_ | refine k_ret ?_ | refine k_ret_then ?_ | refine s_grun ?_ | refine s_move ?_ | refine s_assign ?_ | refine s_gtr_t ?_ | refine s_eql_f ?_ | refine s_pickf ?_ | refine s_len ?_ | refine s_nott ?_))
    exact e_ret [] rfl (by repeat (first | exact SubH.nilR _ | refine SubH.pick (by repeat (first | exact HTake.here | apply HTake.there)) ?_))
  (repeat' (first | refine k_seq ?_ | refine k_region ?_ | refine k_nil ?_ | refine k_then ?_ | refine k_false ?_ | refine k_skip ?_ | refine s_grun ?_ | refine s_move ?_ | refine s_assign ?_ | refine s_gtr_f ?_ | refine s_eql_f ?_ | refine s_pickf ?_ | refine s_len ?_ | refine s_nott ?_))
  refine k_midx (fun x : LL => [(3, x.vt), (4, x.vw)]) (fun x => [x.Rt, x.Rw]) (fun x => Strs x.vt (ss.map slash) x.Rt ∧ Strs x.vw (ss.map escH) x.Rw ∧ ∀ s ∈ ss, s.length ≤ 200 ∧ Ascii s ∧ Filled s) ?_ ?_
  · (repeat' (first | refine k_blk ?_))
    refine k_loop (fun x : LL => [(3, x.vt), (4, x.vw), (18, .slice (some ⟨bk, o, none⟩) ss.length cap), (19, inat ss.length), (20, inat x.j)]) (fun x => [x.Rt, x.Rw])
      (fun x => x.j ≤ ss.length ∧ Strs x.vt ((ss.take x.j).map slash) x.Rt ∧ Strs x.vw ((ss.take x.j).map escH) x.Rw ∧ ∀ s ∈ ss.take x.j, s.length ≤ 200 ∧ Ascii s ∧ Filled s) (fun x => ss.length - x.j) ⟨0, .slice none 0 0, [], .slice none 0 0, []⟩ ⟨Nat.zero_le _, Own.nil _ _, Own.nil _ _, by simp⟩ (Knows.spec (by repeat (first | exact trivial | refine ⟨rfl, ?_⟩))) SubH.nil0 fun x hx => ?_
    obtain ⟨j, vt, Rt, vw, Rw⟩ := x
    obtain ⟨x1, x2, x3, hA⟩ := hx
    simp only at x1 x2 x3 hA ⊢
    by_cases h : j < ss.length
    · have hx : ss[j]? = some ss[j] := List.getElem?_eq_getElem h
      generalize ss[j] = s at hx
      have hsl := hfit s (List.mem_of_getElem? hx)
      have htk : ss.take (j + 1) = ss.take j ++ [s] := by rw [List.take_add_one, hx]; rfl
      (repeat' (first | refine s_load0 h0 hx ?_ | refine k_seq ?_ | refine k_region ?_ | refine k_nil ?_ | refine k_then ?_ | refine k_true ?_ | refine k_blk ?_ | refine k_skip ?_ | refine s_move ?_ | refine s_assign ?_ | refine s_lss_t ?_ | refine s_idxa ?_))
      refine s_call (full_tr s hsl) (fun u K hR => ?_)
      obtain ⟨rfl, r, rfl, hF⟩ := hR
      cases r with
      | false =>
        (repeat' (first | refine k_seq ?_ | refine k_region ?_ | refine k_nil ?_ | refine k_then ?_ | refine k_true ?_ | refine k_ret ?_ | refine k_ret_then ?_ | refine k_ret_block ?_ | refine s_gskipf ?_ | refine s_move ?_ | refine s_assign ?_ | refine s_pickt ?_ | refine s_notf ?_))
        exact e_ret [] rfl (SubH.all _)
      | true =>
      have hF := hF rfl
      (repeat' (first | refine s_grun ?_ | refine s_move ?_ | refine s_nott ?_))
      refine s_call (ascii_tr s hsl) (fun u K hR => ?_)
      obtain ⟨rfl, r, rfl, hAs⟩ := hR
      cases r with
      | false =>
        (repeat' (first | refine k_seq ?_ | refine k_region ?_ | refine k_nil ?_ | refine k_then ?_ | refine k_true ?_ | refine k_ret ?_ | refine k_ret_then ?_ | refine k_ret_block ?_ | refine s_grun ?_ | refine s_gskipf ?_ | refine s_move ?_ | refine s_assign ?_ | refine s_pickt ?_ | refine s_pickf ?_ | refine s_notf ?_))
        exact e_ret [] rfl (SubH.all _)
      | true =>
      have hAs := hAs rfl
      by_cases h200 : 200 < s.length
      · (repeat' (first | refine k_seq ?_ | refine k_region ?_ | refine k_nil ?_ | refine k_then ?_ | refine k_true ?_ | refine k_ret ?_ | refine k_ret_then ?_ | refine k_ret_block ?_ | refine s_grun ?_ | refine s_move ?_ | refine s_assign ?_ | refine s_gtr_t ?_ | refine s_pickf ?_ | refine s_lens ?_ | refine s_nott ?_))
        exact e_ret [] rfl (SubH.all _)
      have hlt : ((ss.take j).map slash).length = j := by rw [List.length_map, List.length_take]; omega
      have hlw : ((ss.take j).map escH).length = j := by rw [List.length_map, List.length_take]; omega
      (repeat' (first | refine s_pure (slashed_tr s (by omega) hF.ne) ?_ | refine k_region ?_ | refine k_nil ?_ | refine k_then ?_ | refine k_false ?_ | refine k_skip ?_ | refine s_grun ?_ | refine s_move ?_ | refine s_gtr_f ?_ | refine s_pickf ?_ | refine s_lens ?_ | refine s_nott ?_ | refine s_bsl1 (fun _ => ?_)))
      refine s_app x2 (by omega) (fun v2 R2 h2 => ?_)
      have h2' : Strs v2 ((ss.take (j + 1)).map slash) R2 := by
        rw [htk, List.map_append]
        unfold Strs
        rw [List.map_append, List.length_append]
        exact h2
      (repeat' (first | refine s_pure (specEsc_tr s (by omega)) ?_ | refine s_move ?_ | refine s_bsl1 (fun _ => ?_)))
      refine s_app x3 (by omega) (fun v3 R3 h3 => ?_)
      have h3' : Strs v3 ((ss.take (j + 1)).map escH) R3 := by
        rw [htk, List.map_append]
        unfold Strs
        rw [List.map_append, List.length_append]
        exact h3
      (repeat' (first | refine k_region ?_ | refine k_nil ?_ | refine k_then ?_ | refine k_block ?_ | refine s_move ?_ | refine s_assign ?_ | refine s_add1 ?_))
      refine ⟨⟨j + 1, v2, R2, v3, R3⟩, (Knows.spec (by repeat (first | exact trivial | refine ⟨rfl, ?_⟩))), (by repeat (first | exact SubH.nilR _ | refine SubH.pick (by repeat (first | exact HTake.here | apply HTake.there)) ?_)), ⟨by simp only; omega, h2', h3', fun t ht => ?_⟩, by simp only; omega⟩
      simp only [htk] at ht
      rcases List.mem_append.1 ht with ht | ht
      · exact hA t ht
      · simp at ht; subst ht; exact ⟨by omega, hAs, hF⟩
    · have : j = ss.length := by omega
      subst this
      rw [List.take_length] at x2 x3 hA
      (repeat' (first | refine k_seq ?_ | refine k_region ?_ | refine k_nil ?_ | refine k_then ?_ | refine k_false ?_ | refine k_exit ?_ | refine k_exit_then ?_ | refine k_hit ?_ | refine s_lss_f ?_))
      exact ⟨⟨0, vt, Rt, vw, Rw⟩, (by repeat (first | exact trivial | refine ⟨rfl, ?_⟩)), (by repeat (first | exact SubH.nilR _ | refine SubH.pick (by repeat (first | exact HTake.here | apply HTake.there)) ?_)), x2, x3, hA⟩
  · rintro ⟨_, vt, Rt, vw, Rw⟩ ⟨x2, x3, hA⟩
    simp only at x2 x3 hA ⊢
    have hm1 : ss.map slash ≠ [] := by simpa using hne
    have hm2 : ss.map escH ≠ [] := by simpa using hne
    have hT := html_tr (ss.map slash) (toksOf ss) (lit_lines ss hne (by omega) hA)
    rw [toksOf_bytes, toksOf_char, escH_jn] at hT
    have hjl : (jn (ss.map escH)).length ≤ 100000 := by
      have := jn_len (ss.map escH) 1200 (fun x hx => by
        obtain ⟨s, hs, rfl⟩ := List.mem_map.1 hx
        have h1 := escH_len s
        have h2 := (hA s hs).1
        omega)
      rw [List.length_map] at this
      omega
    have hj1 := joined_tr vt (ss.map slash) Rt x2 hm1 (by rw [List.length_map]; omega) (fun x hx => by
      obtain ⟨s, hs, rfl⟩ := List.mem_map.1 hx
      have h1 := slash_len s
      have h2 := (hA s hs).1
      omega)
    have hj2 := joined_tr vw (ss.map escH) Rw x3 hm2 (by rw [List.length_map]; omega) (fun x hx => by
      obtain ⟨s, hs, rfl⟩ := List.mem_map.1 hx
      have h1 := escH_len s
      have h2 := (hA s hs).1
      omega)
    (repeat' (first | refine s_pure (plain_tr) ?_ | refine s_callD (hj1) ?_ | refine k_seq ?_ | refine k_region ?_ | refine s_move ?_))
    refine s_call hT (fun u K hR => ?_)
    obtain ⟨rfl, rfl⟩ := hR
    (repeat' (first | refine s_callD (hj2) ?_ | refine s_addsx ?_ | refine s_eqs_t (hr := rfl) ?_ | refine k_nil ?_ | refine k_then ?_ | refine k_ret ?_ | refine s_move ?_ | refine s_assign ?_))
    exact e_ret [] rfl (SubH.all _)
end Go.Proofs

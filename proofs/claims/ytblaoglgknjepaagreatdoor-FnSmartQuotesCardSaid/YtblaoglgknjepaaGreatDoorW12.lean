/- pos, blocks, newText, Join of one, and the paragraph's build of lines. Conditions: how the text begins. -/
import Derived.Test.YtblaoglgknjepaaGreatDoorW11
import Derived.Test.YtblaoglgknjepaaGreatDoorJ1
import Derived.Test.YtblaoglgknjepaaGreatDoorEngB
namespace Go.Proofs
open Go Go.Eng
set_option maxRecDepth 20000
set_option maxHeartbeats 4000000

theorem skipSpace_no (l : List UInt8) (i : Nat) (hl : l.length ≤ 140737488355328) (hi : i < l.length) (h1 : at0 l i ≠ 32) (h2 : at0 l i ≠ 9) (h3 : at0 l i ≠ 10) :
    TrP Tryz.prog 88 [str l, inat i] (inat i) := by
  refine Tr.start (n := 30) (rs := [.tmp 4]) rfl rfl rfl rfl fun B => ?_
  obtain ⟨c, hc⟩ := get_some hi
  rw [at0_some hc] at h1 h2 h3
  (repeat' (first | refine k_seq ?_ | refine k_region ?_ | refine k_nil ?_ | refine k_then ?_ | refine k_blk ?_ | refine s_assign ?_))
  refine k_loop (fun _ : Nat => [(0, Eng.str l), (1, inat i)]) (fun _ => []) (fun _ => True) (fun _ => 0) 0 trivial (Knows.spec (by repeat (first | exact trivial | refine ⟨rfl, ?_⟩))) (by repeat (first | exact SubH.nilR _ | refine SubH.pick (by repeat (first | exact HTake.here | apply HTake.there)) ?_)) fun k hk => ?_
  (repeat' (first | refine k_seq ?_ | refine k_region ?_ | refine k_nil ?_ | refine k_then ?_ | refine k_false ?_ | refine k_exit ?_ | refine k_exit_then ?_ | refine k_hit ?_ | refine k_ret ?_ | refine s_grun ?_ | refine s_move ?_ | refine s_assign ?_ | refine s_lss_t ?_ | refine s_eql_f ?_ | refine s_pickt ?_ | refine s_pickf ?_ | refine s_lens ?_ | refine s_index ?_))
  exact e_pure ⟨rfl, rfl⟩

theorem linkLabel_no (p : Nat) (l : List UInt8) (i : Nat) (hl : l.length ≤ 140737488355328) (hi : i < l.length) (h1 : at0 l i ≠ 91) :
    TrP Tryz.prog 91 [lp p, str l, inat i] (.tuple #[str [], .int .i64 0, .bool false]) := by
  refine Tr.start (n := 69) (rs := [.tmp 6, .tmp 7, .tmp 8]) rfl rfl rfl rfl fun B => ?_
  obtain ⟨c, hc⟩ := get_some hi
  rw [at0_some hc] at h1
  (repeat' (first | refine k_seq ?_ | refine k_region ?_ | refine k_nil ?_ | refine k_then ?_ | refine k_true ?_ | refine k_ret ?_ | refine k_ret_then ?_ | refine s_grun ?_ | refine s_move ?_ | refine s_assign ?_ | refine s_geq_f ?_ | refine s_neq_t ?_ | refine s_pickf ?_ | refine s_lens ?_ | refine s_index ?_))
  exact e_pure ⟨rfl, rfl⟩

theorem linkRef_no (p : Nat) (l : List UInt8) (hl : l.length ≤ 140737488355328) (hi : 0 < l.length) (h1 : at0 l 0 ≠ 32) (h2 : at0 l 0 ≠ 9) (h3 : at0 l 0 ≠ 10) (h4 : at0 l 0 ≠ 91) :
    TrP Tryz.prog 269 [.iface 83 (lp p), str l] (.tuple #[.int .i64 0, .bool false]) := by
  refine Tr.start (n := 200) (rs := [.tmp 4, .tmp 5]) rfl rfl rfl rfl fun B => ?_
  (repeat' (first | refine s_pure (skipSpace_no l 0 hl hi h1 h2 h3) ?_ | refine s_pure (linkLabel_no p l 0 hl hi h4) ?_ | refine k_seq ?_ | refine k_region ?_ | refine k_nil ?_ | refine k_then ?_ | refine k_true ?_ | refine k_ret ?_ | refine k_ret_then ?_ | refine s_gskipf ?_ | refine s_move ?_ | refine s_assign ?_ | refine s_pickt ?_ | refine s_ext ?_ | refine s_notf ?_ | refine s_as ?_))
  exact e_pure ⟨rfl, rfl⟩

theorem Seg.two : ∀ {cs : List Value} {o : Nat} {a b : Value}, cs[o]? = some a → cs[o + 1]? = some b → Seg cs o 2 [a, b]
  | [], _, _, _, h, _ => by simp at h
  | [c], 0, a, b, _, h => by simp at h
  | c :: d :: cs, 0, a, b, h1, h2 => by
    simp at h1 h2
    subst h1 h2
    exact .take (.take .stop)
  | c :: cs, o + 1, a, b, h1, h2 => .drop (Seg.two (by simpa using h1) (by simpa using h2))

theorem pos_tr (p g m cap : Nat) (s : PS) (cs : List Value) (a b : Nat) (hm : 1 ≤ m) (hm2 : m ≤ 140737488355328) (ha : cs[0 + (m - 1) * 4 + 2]? = some (inat a)) (hb : cs[0 + (m - 1) * 4 + 2 + 1]? = some (inat b)) (hs : s.stack = stk g m cap) :
    TrD Tryz.prog 238 [lp p] [s.blk p, stb g cs] (.agg #[inat a, inat b]) [s.blk p, stb g cs] := by
  obtain ⟨par, root, links, lineno, stack, depth, corner, sv, em, list, lists, texts, bt⟩ := s
  subst hs
  refine Tr.start (n := 19) (rs := [.cell 2 78]) rfl rfl rfl rfl fun B => ?_
  (repeat' (first | refine Wp.draw_all (id := 1) Mixed.out (by kernel_rfl) ?_ | refine s_loada (hc := Seg.two ha hb) ?_ | refine k_seq ?_ | refine k_region ?_ | refine k_nil ?_ | refine k_then ?_ | refine k_ret ?_ | refine s_move ?_ | refine s_field ?_ | refine s_nilp ?_ | refine s_storea ?_ | refine s_alloc (fun _ => ?_) | refine u_nil ?_ | refine u_move ?_ | refine u_assign ?_ | refine u_load ?_ | refine u_field ?_ | refine u_nilp ?_ | refine u_sub1 ?_ | refine u_len ?_ | refine u_idxa ?_))
  exact e_ret _ ⟨rfl, rfl⟩ (by repeat (first | exact SubH.nilR _ | refine SubH.pick (by repeat (first | exact HTake.here | apply HTake.there)) ?_))

theorem blocks_tr (p g m cap : Nat) (s : PS) (cs : List Value) (v : Value) (hm : 1 ≤ m) (hm2 : m ≤ 140737488355328) (ha : cs[0 + (m - 1) * 4 + 1]? = some v) (hs : s.stack = stk g m cap) :
    TrD Tryz.prog 237 [lp p] [s.blk p, stb g cs] v [s.blk p, stb g cs] := by
  obtain ⟨par, root, links, lineno, stack, depth, corner, sv, em, list, lists, texts, bt⟩ := s
  subst hs
  refine Tr.start (n := 19) (rs := [.tmp 2]) rfl rfl rfl rfl fun B => ?_
  (repeat' (first | refine Wp.draw_all (id := 1) Mixed.out (by kernel_rfl) ?_ | refine s_load (hc := ha) ?_ | refine k_seq ?_ | refine k_region ?_ | refine k_nil ?_ | refine k_then ?_ | refine k_ret ?_ | refine s_move ?_ | refine s_assign ?_ | refine s_field ?_ | refine s_nilp ?_ | refine u_nil ?_ | refine u_move ?_ | refine u_assign ?_ | refine u_load ?_ | refine u_field ?_ | refine u_nilp ?_ | refine u_sub1 ?_ | refine u_len ?_ | refine u_idxa ?_))
  exact e_ret _ ⟨rfl, rfl⟩ (by repeat (first | exact SubH.nilR _ | refine SubH.pick (by repeat (first | exact HTake.here | apply HTake.there)) ?_))

/-- A text that is not yet parsed into inlines. -/
abbrev txb (t : Nat) (a b : Nat) (il : Value) (raw : List UInt8) : Blk := [(t, cellsOf [inat a, inat b, il, str raw] 80)]
abbrev Ptrs (v : Value) (l : List Nat) (Bk : Blk) : Prop := Own 75 1 v l.length (l.map lp) Bk

theorem newText_tr (p : Nat) (s : PS) (ts : List Nat) (TB : Blk) (a b : Nat) (raw : List UInt8) (hT : Ptrs s.texts ts TB) (htl : ts.length ≤ 1000000) :
    Tr Tryz.prog 107 [lp p, .agg #[inat a, inat b], str raw] [s.blk p, TB] fun u K => ∃ t v' TB', u = lp t ∧ Ptrs v' (ts ++ [t]) TB' ∧ K = [({ s with texts := v' } : PS).blk p, TB', txb t a b (.slice none 0 0) raw] := by
  obtain ⟨par, root, links, lineno, stack, depth, corner, sv, em, list, lists, texts, bt⟩ := s
  refine Tr.start (n := 23) (rs := [.tmp 6]) rfl rfl rfl rfl fun B => ?_
  (repeat' (first | refine k_seq ?_ | refine k_region ?_ | refine k_nil ?_ | refine k_then ?_ | refine s_move ?_ | refine s_assign ?_ | refine s_load ?_ | refine s_field ?_ | refine s_nilp ?_ | refine s_loada ?_ | refine s_buildx ?_ | refine s_box (fun _ => ?_) | refine s_bsl1 (fun _ => ?_)))
  rename_i r1 t r2
  refine s_app hT (by omega) (fun v' Bk' hT' => ?_)
  obtain ⟨g2, cap2, cur2, rfl, rfl, h1, h2, h3, h4⟩ := hT'.pos
  (repeat' (first | refine k_seq ?_ | refine k_region ?_ | refine k_nil ?_ | refine k_then ?_ | refine k_ret ?_ | refine s_move ?_ | refine s_assign ?_ | refine s_field ?_ | refine s_nilp ?_ | refine s_store ?_))
  have hT2 : Ptrs (.slice (some ⟨g2, 0, none⟩) (ts.length + 1) cap2) (ts ++ [t]) [(g2, cellsOf cur2 75)] := by simpa [Ptrs] using hT'
  exact e_ret _ ⟨t, _, _, rfl, hT2, rfl⟩ (by repeat (first | exact SubH.nilR _ | refine SubH.pick (by repeat (first | exact HTake.here | apply HTake.there)) ?_))

theorem join1_tr (v : Value) (l sep : List UInt8) (Bt : Blk) (h : Strs v [l] Bt) : TrD Tryz.prog 150 [v, str sep] [Bt] (str l) [Bt] := by
  obtain ⟨g2, cap2, cur2, rfl, rfl, h1, h2, h3, h4⟩ := (show Own 9 1 v (0 + 1) [str l] Bt from h).pos
  have hc : cur2[0 + 0 * 1]? = some (str l) := h.get rfl
  refine Tr.start (n := 75) (rs := [.tmp 4]) rfl rfl rfl rfl fun B => ?_
  (repeat' (first | refine s_load (hc := hc) ?_ | refine k_seq ?_ | refine k_region ?_ | refine k_nil ?_ | refine k_then ?_ | refine k_true ?_ | refine k_false ?_ | refine k_blk ?_ | refine k_ret ?_ | refine k_ret_then ?_ | refine k_ret_block ?_ | refine s_move ?_ | refine s_assign ?_ | refine s_eql_t ?_ | refine s_eql_f ?_ | refine s_len ?_ | refine s_idxz ?_))
  exact e_ret _ ⟨rfl, rfl⟩ (by repeat (first | exact SubH.nilR _ | refine SubH.pick (by repeat (first | exact HTake.here | apply HTake.there)) ?_))

abbrev pgb (q : Nat) (a b t : Nat) : Blk := [(q, cellsOf [inat a, inat b, lp t] 122)]

/-- A paragraph of lines. -/
theorem build_para (p g m cap pb : Nat) (s : PS) (cs : List Value) (tv : Value) (Bt : Blk) (tx : List UInt8) (ts : List Nat) (TB : Blk) (a b : Nat) (hl : tx.length ≤ 140737488355328) (hi : 0 < tx.length) (h1 : at0 tx 0 ≠ 32) (h2 : at0 tx 0 ≠ 9) (h3 : at0 tx 0 ≠ 10) (h4 : at0 tx 0 ≠ 91)
    (hm : 1 ≤ m) (hm2 : m ≤ 140737488355328) (ha : cs[0 + (m - 1) * 4 + 2]? = some (inat a)) (hb : cs[0 + (m - 1) * 4 + 2 + 1]? = some (inat b)) (ha2 : a ≤ 100000000) (hs : s.stack = stk g m cap)
    (hT : Ptrs s.texts ts TB) (htl : ts.length ≤ 1000000) (ls : List (List UInt8)) (hS : Strs tv ls Bt) (htx : Lib.join ls [10] = tx) (hl0 : ls ≠ []) (hll : ls.length ≤ 1000000) (hlt : tx.length ≤ 1000000000) :
    Tr Tryz.prog 266 [lp pb, .iface 83 (lp p)] [s.blk p, stb g cs, pbb pb tv, Bt, TB] fun u K => ∃ q t v' TB', u = .iface 120 (lp q) ∧ Ptrs v' (ts ++ [t]) TB' ∧
      K = [({ s with texts := v' } : PS).blk p, stb g cs, TB', txb t a (a + ls.length - 1) (.slice none 0 0) tx, pgb q a (a + ls.length - 1) t] := by
  obtain ⟨par, root, links, lineno, stack, depth, corner, sv, em, list, lists, texts, bt⟩ := s
  subst hs
  obtain ⟨k, hk⟩ : ∃ k, ls.length = k + 1 := ⟨ls.length - 1, by have := List.length_pos_iff.2 hl0; omega⟩
  rw [hk]
  obtain ⟨g2, cap2, cur2, rfl, rfl, k1, k2, k3, k4⟩ := (show Own 9 1 tv (k + 1) (ls.map str) Bt from hk ▸ hS).pos
  have hj := joinRow_tr g2 (k + 1) cap2 cur2 ls [10] hk k1 (by omega) (by rw [← k4, Nat.mul_one]) (by omega) (by rw [htx]; exact hlt)
  rw [htx] at hj
  have hne : ¬ tx = [] := by intro h; subst h; simp at hi
  refine Tr.start (n := 67) (rs := [.tmp 4]) rfl rfl rfl rfl fun B => ?_
  (repeat' (first | refine s_callD (hj) ?_ | refine k_seq ?_ | refine k_region ?_ | refine k_nil ?_ | refine k_then ?_ | refine k_false ?_ | refine k_skip ?_ | refine s_move ?_ | refine s_assign ?_ | refine s_load ?_ | refine s_field ?_ | refine s_nilp ?_ | refine s_nep0 ?_))
  refine k_mid [(0, lp pb), (1, .iface 83 (lp p)), (5, str tx)] [(⟨par, root, links, lineno, stk g m cap, depth, corner, sv, em, list, lists, texts, bt⟩ : PS).blk p, stb g cs, pbb pb (.slice (some ⟨g2, 0, none⟩) (k + 1) cap2), [(g2, cellsOf cur2 9)], TB] ?_ ?_
  · (repeat' (first | refine k_blk ?_))
    refine k_loop (fun _ : Nat => [(0, lp pb), (1, .iface 83 (lp p)), (5, str tx)]) (fun _ => [(⟨par, root, links, lineno, stk g m cap, depth, corner, sv, em, list, lists, texts, bt⟩ : PS).blk p, stb g cs, pbb pb (.slice (some ⟨g2, 0, none⟩) (k + 1) cap2), [(g2, cellsOf cur2 9)], TB]) (fun _ => True) (fun _ => 0) 0 trivial (Knows.spec (by repeat (first | exact trivial | refine ⟨rfl, ?_⟩))) (by repeat (first | exact SubH.nilR _ | refine SubH.pick (by repeat (first | exact HTake.here | apply HTake.there)) ?_)) fun k hk => ?_
    (repeat' (first | refine s_pure (linkRef_no p tx hl hi h1 h2 h3 h4) ?_ | refine k_seq ?_ | refine k_region ?_ | refine k_nil ?_ | refine k_then ?_ | refine k_true ?_ | refine k_blk ?_ | refine k_skip ?_ | refine k_exit ?_ | refine k_exit_then ?_ | refine k_hit ?_ | refine k_miss ?_ | refine s_move ?_ | refine s_assign ?_ | refine s_ext ?_ | refine s_nes_t ?_ | refine s_notf ?_))
    exact ⟨(by repeat (first | exact trivial | refine ⟨rfl, ?_⟩)), (by repeat (first | exact SubH.nilR _ | refine SubH.pick (by repeat (first | exact HTake.here | apply HTake.there)) ?_))⟩
  · (repeat' (first | refine Wp.draw_tail (id := 11) 7 Mixed.out (by kernel_rfl) ?_ | refine s_invD (pos_tr p g m cap _ cs a b hm hm2 ha hb rfl) ?_ | refine k_seq ?_ | refine k_region ?_ | refine k_nil ?_ | refine k_then ?_ | refine k_false ?_ | refine k_skip ?_ | refine s_move ?_ | refine s_field ?_ | refine s_sub1 ?_ | refine s_add ?_ | refine s_eqs_f ?_ | refine s_store ?_ | refine s_storea ?_ | refine s_alloc (fun _ => ?_) | refine u_nil ?_ | refine u_move ?_ | refine u_load ?_ | refine u_field ?_ | refine u_nilp ?_ | refine u_len ?_))
    rename_i r8
    refine Wp.draw_held (id := 12) [[(r8, cellsOf [inat a, inat (a + (k + 1) - 1)] 78)]] 9 Mixed.out (by repeat (first | exact SubH.nilR _ | refine SubH.pick (by repeat (first | exact HTake.here | apply HTake.there)) ?_)) rfl ?_
    refine OpsH.first 0 _ (by kernel_rfl) rfl (by kernel_rfl) (by kernel_rfl) rfl (by first | exact p_move rfl | exact p_assign rfl | exact p_extract rfl rfl | exact q_fieldAddr rfl | exact p_nilCheck rfl | exact q_load rfl (by repeat (first | exact HMem.here | apply HMem.skip | apply HMem.there)) rfl | exact q_load_agg rfl (by repeat (first | exact HMem.here | apply HMem.skip | apply HMem.there)) (by repeat constructor) | exact q_len_slice rfl | exact q_len_str rfl | exact q_indexAddr rfl rfl (by omega) | exact q_slice_str rfl rfl rfl (by omega) (by omega) | exact q_makeInterface rfl | exact q_assert rfl | exact p_build rfl (by repeat' (first | exact BFill.nil | refine' BFill.one (by rfl) (by rfl) (by repeat constructor) ?_ | refine' BFill.agg (by rfl) (by rfl) (by repeat constructor) ?_))) ?_
    refine OpsH.first 1 _ (by kernel_rfl) rfl (by kernel_rfl) (by kernel_rfl) rfl (by first | exact p_move rfl | exact p_assign rfl | exact p_extract rfl rfl | exact q_fieldAddr rfl | exact p_nilCheck rfl | exact q_load rfl (by repeat (first | exact HMem.here | apply HMem.skip | apply HMem.there)) rfl | exact q_load_agg rfl (by repeat (first | exact HMem.here | apply HMem.skip | apply HMem.there)) (by repeat constructor) | exact q_len_slice rfl | exact q_len_str rfl | exact q_indexAddr rfl rfl (by omega) | exact q_slice_str rfl rfl rfl (by omega) (by omega) | exact q_makeInterface rfl | exact q_assert rfl | exact p_build rfl (by repeat' (first | exact BFill.nil | refine' BFill.one (by rfl) (by rfl) (by repeat constructor) ?_ | refine' BFill.agg (by rfl) (by rfl) (by repeat constructor) ?_))) ?_
    refine OpsH.first 2 _ (by kernel_rfl) rfl (by kernel_rfl) (by kernel_rfl) rfl (by first | exact p_move rfl | exact p_assign rfl | exact p_extract rfl rfl | exact q_fieldAddr rfl | exact p_nilCheck rfl | exact q_load rfl (by repeat (first | exact HMem.here | apply HMem.skip | apply HMem.there)) rfl | exact q_load_agg rfl (by repeat (first | exact HMem.here | apply HMem.skip | apply HMem.there)) (by repeat constructor) | exact q_len_slice rfl | exact q_len_str rfl | exact q_indexAddr rfl rfl (by omega) | exact q_slice_str rfl rfl rfl (by omega) (by omega) | exact q_makeInterface rfl | exact q_assert rfl | exact p_build rfl (by repeat' (first | exact BFill.nil | refine' BFill.one (by rfl) (by rfl) (by repeat constructor) ?_ | refine' BFill.agg (by rfl) (by rfl) (by repeat constructor) ?_))) ?_
    refine OpsH.first 3 _ (by kernel_rfl) rfl (by kernel_rfl) (by kernel_rfl) rfl (by first | exact p_move rfl | exact p_assign rfl | exact p_extract rfl rfl | exact q_fieldAddr rfl | exact p_nilCheck rfl | exact q_load rfl (by repeat (first | exact HMem.here | apply HMem.skip | apply HMem.there)) rfl | exact q_load_agg rfl (by repeat (first | exact HMem.here | apply HMem.skip | apply HMem.there)) (by repeat constructor) | exact q_len_slice rfl | exact q_len_str rfl | exact q_indexAddr rfl rfl (by omega) | exact q_slice_str rfl rfl rfl (by omega) (by omega) | exact q_makeInterface rfl | exact q_assert rfl | exact p_build rfl (by repeat' (first | exact BFill.nil | refine' BFill.one (by rfl) (by rfl) (by repeat constructor) ?_ | refine' BFill.agg (by rfl) (by rfl) (by repeat constructor) ?_))) ?_
    refine OpsH.only 4 _ (by kernel_rfl) rfl ?_
    refine s_inv (newText_tr p _ ts TB a (a + (k + 1) - 1) tx hT htl) (fun u K hR => ?_)
    obtain ⟨t, v', TB', rfl, hT', rfl⟩ := hR
    (repeat' (first | refine k_nil ?_ | refine k_then ?_))
    refine ⟨(by repeat (first | exact SubH.nilR _ | refine SubH.pick (by repeat (first | exact HTake.here | apply HTake.there)) ?_)), ?_⟩
    refine OpsH.first 5 _ (by kernel_rfl) rfl (by kernel_rfl) (by kernel_rfl) rfl (by first | exact p_move rfl | exact p_assign rfl | exact p_extract rfl rfl | exact q_fieldAddr rfl | exact p_nilCheck rfl | exact q_load rfl (by repeat (first | exact HMem.here | apply HMem.skip | apply HMem.there)) rfl | exact q_load_agg rfl (by repeat (first | exact HMem.here | apply HMem.skip | apply HMem.there)) (by repeat constructor) | exact q_len_slice rfl | exact q_len_str rfl | exact q_indexAddr rfl rfl (by omega) | exact q_slice_str rfl rfl rfl (by omega) (by omega) | exact q_makeInterface rfl | exact q_assert rfl | exact p_build rfl (by repeat' (first | exact BFill.nil | refine' BFill.one (by rfl) (by rfl) (by repeat constructor) ?_ | refine' BFill.agg (by rfl) (by rfl) (by repeat constructor) ?_))) ?_
    refine OpsH.only 6 _ (by kernel_rfl) rfl ?_
    (repeat' (first | refine k_nil ?_ | refine k_then ?_ | refine s_box (fun _ => ?_)))
    refine ⟨(by repeat (first | exact SubH.nilR _ | refine SubH.pick (by repeat (first | exact HTake.here | apply HTake.there)) ?_)), ?_⟩
    rename_i q
    refine OpsH.first 7 _ (by kernel_rfl) rfl (by kernel_rfl) (by kernel_rfl) rfl (by first | exact p_move rfl | exact p_assign rfl | exact p_extract rfl rfl | exact q_fieldAddr rfl | exact p_nilCheck rfl | exact q_load rfl (by repeat (first | exact HMem.here | apply HMem.skip | apply HMem.there)) rfl | exact q_load_agg rfl (by repeat (first | exact HMem.here | apply HMem.skip | apply HMem.there)) (by repeat constructor) | exact q_len_slice rfl | exact q_len_str rfl | exact q_indexAddr rfl rfl (by omega) | exact q_slice_str rfl rfl rfl (by omega) (by omega) | exact q_makeInterface rfl | exact q_assert rfl | exact p_build rfl (by repeat' (first | exact BFill.nil | refine' BFill.one (by rfl) (by rfl) (by repeat constructor) ?_ | refine' BFill.agg (by rfl) (by rfl) (by repeat constructor) ?_))) ?_
    refine OpsH.first 8 _ (by kernel_rfl) rfl (by kernel_rfl) (by kernel_rfl) rfl (by first | exact p_move rfl | exact p_assign rfl | exact p_extract rfl rfl | exact q_fieldAddr rfl | exact p_nilCheck rfl | exact q_load rfl (by repeat (first | exact HMem.here | apply HMem.skip | apply HMem.there)) rfl | exact q_load_agg rfl (by repeat (first | exact HMem.here | apply HMem.skip | apply HMem.there)) (by repeat constructor) | exact q_len_slice rfl | exact q_len_str rfl | exact q_indexAddr rfl rfl (by omega) | exact q_slice_str rfl rfl rfl (by omega) (by omega) | exact q_makeInterface rfl | exact q_assert rfl | exact p_build rfl (by repeat' (first | exact BFill.nil | refine' BFill.one (by rfl) (by rfl) (by repeat constructor) ?_ | refine' BFill.agg (by rfl) (by rfl) (by repeat constructor) ?_))) ?_
    refine OpsH.nil (by kernel_rfl) ?_
    (repeat' (first | refine k_ret ?_))
    exact e_ret _ ⟨q, t, v', TB', rfl, hT', rfl⟩ (by repeat (first | exact SubH.nilR _ | refine SubH.pick (by repeat (first | exact HTake.here | apply HTake.there)) ?_))
end Go.Proofs

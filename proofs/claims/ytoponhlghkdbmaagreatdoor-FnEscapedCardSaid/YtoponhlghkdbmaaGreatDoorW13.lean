/- closeBlock of a paragraph, and the root's build. Conditions: bounds. -/
import Derived.Test.YtoponhlghkdbmaaGreatDoorW12
namespace Go.Proofs
open Go Go.Eng
set_option maxRecDepth 20000
set_option maxHeartbeats 4000000

abbrev Blks (v : Value) (l : List Value) (Bk : Blk) : Prop := Own 50 1 v l.length l Bk

theorem closePara (p g cap pb : Nat) (s : PS) (cur : List Value) (tv : Value) (Bt : Blk) (tx : List UInt8) (ts : List Nat) (TB : Blk) (bty : Nat) (bv e2 e3 f1 : Value) (a b : Nat) (hl : tx.length ≤ 140737488355328) (hi : 0 < tx.length) (h1 : at0 tx 0 ≠ 32) (h2 : at0 tx 0 ≠ 9) (h3 : at0 tx 0 ≠ 10) (h4 : at0 tx 0 ≠ 91) (ha2 : a ≤ 100000000)
    (hO : Stk (stk g 2 cap) 2 [.iface bty bv, .slice none 0 0, e2, e3, .iface 139 (lp pb), f1, inat a, inat b] (stb g cur)) (hs : s.stack = stk g 2 cap)
    (hT : Ptrs s.texts ts TB) (htl : ts.length ≤ 1000000) (hS : Strs tv [tx] Bt) :
    Tr Tryz.prog 39 [lp p] [s.blk p, stb g cur, pbb pb tv, Bt, TB] fun u K => ∃ q t v' TB' cur' iv IB, u = .iface 130 (lp q) ∧ Ptrs v' (ts ++ [t]) TB' ∧
      Stk (stk g 1 cap) 1 [.iface bty bv, iv, e2, e3] (stb g cur') ∧ Blks iv [.iface 130 (lp q)] IB ∧
      K = [({ s with stack := stk g 1 cap, texts := v' } : PS).blk p, stb g cur', TB', txb t a (a + 1 - 1) (.slice none 0 0) tx, pgb q a (a + 1 - 1) t, IB] := by
  obtain ⟨par, root, links, lineno, stack, depth, corner, sv, em, list, lists, texts, bt⟩ := s
  subst hs
  obtain ⟨v1, v2, v3, v4⟩ := hO.view
  have c0 : cur[0 + (2 - 1) * 4 + 0]? = some (.iface 139 (lp pb)) := hO.get rfl
  have c2 : cur[0 + (2 - 1) * 4 + 2]? = some (inat a) := hO.get rfl
  have c3 : cur[0 + (2 - 1) * 4 + 2 + 1]? = some (inat b) := hO.get rfl
  have c4 : cur[0 + (2 - 1 - 1) * 4 + 1]? = some (.slice none 0 0) := hO.get rfl
  refine Tr.start (n := 118) (rs := [.tmp 2]) rfl rfl rfl rfl fun B => ?_
  (repeat' (first | refine Wp.draw_all (id := 1) Mixed.out (by kernel_rfl) ?_ | refine s_load (hc := c0) ?_ | refine k_seq ?_ | refine k_region ?_ | refine k_nil ?_ | refine k_then ?_ | refine k_false ?_ | refine k_skip ?_ | refine s_move ?_ | refine s_assign ?_ | refine s_field ?_ | refine s_nilp ?_ | refine s_mki ?_ | refine s_eqif ?_ | refine u_nil ?_ | refine u_move ?_ | refine u_assign ?_ | refine u_load ?_ | refine u_field ?_ | refine u_nilp ?_ | refine u_sub1 ?_ | refine u_len ?_ | refine u_idxa ?_))
  refine s_inv (build_para p g 2 cap pb _ cur tv Bt tx ts TB a b hl hi h1 h2 h3 h4 (by omega) (by omega) c2 c3 ha2 rfl hT htl hS) (fun u K hR => ?_)
  obtain ⟨q, t, v', TB', rfl, hT', rfl⟩ := hR
  (repeat' (first | refine Wp.draw_tail (id := 10) 12 Mixed.out (by kernel_rfl) ?_ | refine Wp.draw_all (id := 12) Mixed.out (by kernel_rfl) ?_ | refine s_load (hc := c4) ?_ | refine k_seq ?_ | refine k_region ?_ | refine k_nil ?_ | refine k_then ?_ | refine k_true ?_ | refine k_false ?_ | refine k_skip ?_ | refine s_move ?_ | refine s_assign ?_ | refine s_load ?_ | refine s_field ?_ | refine s_nilp ?_ | refine s_gtr_t ?_ | refine s_len ?_ | refine s_ext ?_ | refine s_asno ?_ | refine s_store ?_ | refine s_bsl1 (fun _ => ?_) | refine u_nil ?_ | refine u_move ?_ | refine u_assign ?_ | refine u_load ?_ | refine u_field ?_ | refine u_nilp ?_ | refine u_sub1 ?_ | refine u_len ?_ | refine u_slicehi ?_ | refine u_idxa ?_))
  refine s_nilblk ?_
  refine s_app (Own.nil _ _) (by omega) (fun v'' Bk' hB => ?_)
  obtain ⟨g', cap', cur', rfl, rfl, k1, k2, k3, k4⟩ := hB.pos
  (repeat' (first | refine s_storeg ?_ | refine k_seq ?_ | refine k_region ?_ | refine k_nil ?_ | refine k_then ?_ | refine k_ret ?_ | refine s_move ?_ | refine s_assign ?_ | refine s_field ?_ | refine s_nilp ?_))
  have hq : cur.take (0 + 4) = [] ++ [.iface bty bv, .slice none 0 0, e2, e3] := by
    have : cur.take (0 + 4) = (cur.take (2 * 4)).take 4 := by rw [List.take_take]; rfl
    rw [this, v4]; rfl
  have h6 := take_set_tail (z := 4) (k := 1) (.slice (some ⟨g', 0, none⟩) (0 + 1) cap') rfl hq rfl
  have h9 := Own.mk' (E := 98) (g := g) (m := 1) (cur := cur.set (0 + 1) (.slice (some ⟨g', 0, none⟩) (0 + 1) cap')) (by omega : 1 ≤ cap) v2 (by simpa using v3)
  have h10 : (cur.set (0 + 1) (.slice (some ⟨g', 0, none⟩) (0 + 1) cap')).take (1 * 4) = [.iface bty bv, .slice (some ⟨g', 0, none⟩) (0 + 1) cap', e2, e3] := h6
  rw [h10] at h9
  exact e_ret _ ⟨q, t, v', TB', _, _, _, rfl, hT', h9, hB, rfl⟩ (by repeat (first | exact SubH.nilR _ | refine SubH.pick (by repeat (first | exact HTake.here | apply HTake.there)) ?_))

abbrev docb (d a b : Nat) (iv lk : Value) : Blk := [(d, cellsOf [inat a, inat b, iv, lk] 330)]

theorem rootBuild (p rb g m cap : Nat) (s : PS) (cs : List Value) (a b : Nat) (ia : Option Addr) (im ic : Nat) (lk : Option Nat) (hlk : s.links = .map lk) (hm : 1 ≤ m) (hm2 : m ≤ 140737488355328) (h1 : cs[0 + (m - 1) * 4 + 1]? = some (.slice ia im ic)) (h2 : cs[0 + (m - 1) * 4 + 2]? = some (inat a)) (h3 : cs[0 + (m - 1) * 4 + 2 + 1]? = some (inat b)) (hs : s.stack = stk g m cap) :
    Tr Tryz.prog 228 [lp rb, .iface 93 (lp p)] [s.blk p, stb g cs] fun u K => ∃ d, u = .iface 36 (lp d) ∧ K = [s.blk p, stb g cs, docb d a b (.slice ia im ic) (.map lk)] := by
  have e1 := pos_tr p g m cap s cs a b hm hm2 h2 h3 hs
  have e2 := blocks_tr p g m cap s cs (.slice ia im ic) hm hm2 h1 hs
  obtain ⟨par, root, links, lineno, stack, depth, corner, sv, em, list, lists, texts, bt⟩ := s
  subst hs
  subst hlk
  refine Tr.start (n := 17) (rs := [.tmp 4]) rfl rfl rfl rfl fun B => ?_
  (repeat' (first | refine k_seq ?_ | refine k_region ?_ | refine k_nil ?_ | refine k_then ?_ | refine s_assign ?_))
  refine Wp.draw_held (id := 1) [(⟨par, root, .map lk, lineno, stk g m cap, depth, corner, sv, em, list, lists, texts, bt⟩ : PS).blk p, stb g cs] 13 Mixed.out (by repeat (first | exact SubH.nilR _ | refine SubH.pick (by repeat (first | exact HTake.here | apply HTake.there)) ?_)) rfl ?_
  refine OpsH.first 0 _ (by kernel_rfl) rfl (by kernel_rfl) (by kernel_rfl) rfl (by first | exact p_move rfl | exact p_assign rfl | exact p_extract rfl rfl | exact q_fieldAddr rfl | exact p_nilCheck rfl | exact q_load rfl (by repeat (first | exact HMem.here | apply HMem.skip | apply HMem.there)) rfl | exact q_load_agg rfl (by repeat (first | exact HMem.here | apply HMem.skip | apply HMem.there)) (by repeat constructor) | exact q_len_slice rfl | exact q_len_str rfl | exact q_indexAddr rfl rfl (by omega) | exact q_slice_str rfl rfl rfl (by omega) (by omega) | exact q_makeInterface rfl | exact q_assert rfl | exact p_build rfl (by repeat' (first | exact BFill.nil | refine' BFill.one (by rfl) (by rfl) (by repeat constructor) ?_ | refine' BFill.agg (by rfl) (by rfl) (by repeat constructor) ?_))) ?_
  refine OpsH.first 2 _ (by kernel_rfl) rfl (by kernel_rfl) (by kernel_rfl) rfl (by first | exact p_move rfl | exact p_assign rfl | exact p_extract rfl rfl | exact q_fieldAddr rfl | exact p_nilCheck rfl | exact q_load rfl (by repeat (first | exact HMem.here | apply HMem.skip | apply HMem.there)) rfl | exact q_load_agg rfl (by repeat (first | exact HMem.here | apply HMem.skip | apply HMem.there)) (by repeat constructor) | exact q_len_slice rfl | exact q_len_str rfl | exact q_indexAddr rfl rfl (by omega) | exact q_slice_str rfl rfl rfl (by omega) (by omega) | exact q_makeInterface rfl | exact q_assert rfl | exact p_build rfl (by repeat' (first | exact BFill.nil | refine' BFill.one (by rfl) (by rfl) (by repeat constructor) ?_ | refine' BFill.agg (by rfl) (by rfl) (by repeat constructor) ?_))) ?_
  refine OpsH.first 4 _ (by kernel_rfl) rfl (by kernel_rfl) (by kernel_rfl) rfl (by first | exact p_move rfl | exact p_assign rfl | exact p_extract rfl rfl | exact q_fieldAddr rfl | exact p_nilCheck rfl | exact q_load rfl (by repeat (first | exact HMem.here | apply HMem.skip | apply HMem.there)) rfl | exact q_load_agg rfl (by repeat (first | exact HMem.here | apply HMem.skip | apply HMem.there)) (by repeat constructor) | exact q_len_slice rfl | exact q_len_str rfl | exact q_indexAddr rfl rfl (by omega) | exact q_slice_str rfl rfl rfl (by omega) (by omega) | exact q_makeInterface rfl | exact q_assert rfl | exact p_build rfl (by repeat' (first | exact BFill.nil | refine' BFill.one (by rfl) (by rfl) (by repeat constructor) ?_ | refine' BFill.agg (by rfl) (by rfl) (by repeat constructor) ?_))) ?_
  refine OpsH.first 5 _ (by kernel_rfl) rfl (by kernel_rfl) (by kernel_rfl) rfl (by first | exact p_move rfl | exact p_assign rfl | exact p_extract rfl rfl | exact q_fieldAddr rfl | exact p_nilCheck rfl | exact q_load rfl (by repeat (first | exact HMem.here | apply HMem.skip | apply HMem.there)) rfl | exact q_load_agg rfl (by repeat (first | exact HMem.here | apply HMem.skip | apply HMem.there)) (by repeat constructor) | exact q_len_slice rfl | exact q_len_str rfl | exact q_indexAddr rfl rfl (by omega) | exact q_slice_str rfl rfl rfl (by omega) (by omega) | exact q_makeInterface rfl | exact q_assert rfl | exact p_build rfl (by repeat' (first | exact BFill.nil | refine' BFill.one (by rfl) (by rfl) (by repeat constructor) ?_ | refine' BFill.agg (by rfl) (by rfl) (by repeat constructor) ?_))) ?_
  refine OpsH.first 6 _ (by kernel_rfl) rfl (by kernel_rfl) (by kernel_rfl) rfl (by first | exact p_move rfl | exact p_assign rfl | exact p_extract rfl rfl | exact q_fieldAddr rfl | exact p_nilCheck rfl | exact q_load rfl (by repeat (first | exact HMem.here | apply HMem.skip | apply HMem.there)) rfl | exact q_load_agg rfl (by repeat (first | exact HMem.here | apply HMem.skip | apply HMem.there)) (by repeat constructor) | exact q_len_slice rfl | exact q_len_str rfl | exact q_indexAddr rfl rfl (by omega) | exact q_slice_str rfl rfl rfl (by omega) (by omega) | exact q_makeInterface rfl | exact q_assert rfl | exact p_build rfl (by repeat' (first | exact BFill.nil | refine' BFill.one (by rfl) (by rfl) (by repeat constructor) ?_ | refine' BFill.agg (by rfl) (by rfl) (by repeat constructor) ?_))) ?_
  refine OpsH.first 7 _ (by kernel_rfl) rfl (by kernel_rfl) (by kernel_rfl) rfl (by first | exact p_move rfl | exact p_assign rfl | exact p_extract rfl rfl | exact q_fieldAddr rfl | exact p_nilCheck rfl | exact q_load rfl (by repeat (first | exact HMem.here | apply HMem.skip | apply HMem.there)) rfl | exact q_load_agg rfl (by repeat (first | exact HMem.here | apply HMem.skip | apply HMem.there)) (by repeat constructor) | exact q_len_slice rfl | exact q_len_str rfl | exact q_indexAddr rfl rfl (by omega) | exact q_slice_str rfl rfl rfl (by omega) (by omega) | exact q_makeInterface rfl | exact q_assert rfl | exact p_build rfl (by repeat' (first | exact BFill.nil | refine' BFill.one (by rfl) (by rfl) (by repeat constructor) ?_ | refine' BFill.agg (by rfl) (by rfl) (by repeat constructor) ?_))) ?_
  refine OpsH.first 8 _ (by kernel_rfl) rfl (by kernel_rfl) (by kernel_rfl) rfl (by first | exact p_move rfl | exact p_assign rfl | exact p_extract rfl rfl | exact q_fieldAddr rfl | exact p_nilCheck rfl | exact q_load rfl (by repeat (first | exact HMem.here | apply HMem.skip | apply HMem.there)) rfl | exact q_load_agg rfl (by repeat (first | exact HMem.here | apply HMem.skip | apply HMem.there)) (by repeat constructor) | exact q_len_slice rfl | exact q_len_str rfl | exact q_indexAddr rfl rfl (by omega) | exact q_slice_str rfl rfl rfl (by omega) (by omega) | exact q_makeInterface rfl | exact q_assert rfl | exact p_build rfl (by repeat' (first | exact BFill.nil | refine' BFill.one (by rfl) (by rfl) (by repeat constructor) ?_ | refine' BFill.agg (by rfl) (by rfl) (by repeat constructor) ?_))) ?_
  refine OpsH.only 1 _ (by kernel_rfl) rfl ?_
  (repeat' (first | refine s_invD (e1) ?_ | refine k_nil ?_ | refine k_then ?_))
  refine ⟨(by repeat (first | exact SubH.nilR _ | refine SubH.pick (by repeat (first | exact HTake.here | apply HTake.there)) ?_)), ?_⟩
  refine OpsH.only 3 _ (by kernel_rfl) rfl ?_
  (repeat' (first | refine s_invD (e2) ?_ | refine k_nil ?_ | refine k_then ?_))
  refine ⟨(by repeat (first | exact SubH.nilR _ | refine SubH.pick (by repeat (first | exact HTake.here | apply HTake.there)) ?_)), ?_⟩
  refine OpsH.first 9 _ (by kernel_rfl) rfl (by kernel_rfl) (by kernel_rfl) rfl (by first | exact p_move rfl | exact p_assign rfl | exact p_extract rfl rfl | exact q_fieldAddr rfl | exact p_nilCheck rfl | exact q_load rfl (by repeat (first | exact HMem.here | apply HMem.skip | apply HMem.there)) rfl | exact q_load_agg rfl (by repeat (first | exact HMem.here | apply HMem.skip | apply HMem.there)) (by repeat constructor) | exact q_len_slice rfl | exact q_len_str rfl | exact q_indexAddr rfl rfl (by omega) | exact q_slice_str rfl rfl rfl (by omega) (by omega) | exact q_makeInterface rfl | exact q_assert rfl | exact p_build rfl (by repeat' (first | exact BFill.nil | refine' BFill.one (by rfl) (by rfl) (by repeat constructor) ?_ | refine' BFill.agg (by rfl) (by rfl) (by repeat constructor) ?_))) ?_
  refine OpsH.only 10 _ (by kernel_rfl) rfl ?_
  (repeat' (first | refine k_nil ?_ | refine k_then ?_ | refine s_box (fun _ => ?_)))
  refine ⟨(by repeat (first | exact SubH.nilR _ | refine SubH.pick (by repeat (first | exact HTake.here | apply HTake.there)) ?_)), ?_⟩
  refine OpsH.first 11 _ (by kernel_rfl) rfl (by kernel_rfl) (by kernel_rfl) rfl (by first | exact p_move rfl | exact p_assign rfl | exact p_extract rfl rfl | exact q_fieldAddr rfl | exact p_nilCheck rfl | exact q_load rfl (by repeat (first | exact HMem.here | apply HMem.skip | apply HMem.there)) rfl | exact q_load_agg rfl (by repeat (first | exact HMem.here | apply HMem.skip | apply HMem.there)) (by repeat constructor) | exact q_len_slice rfl | exact q_len_str rfl | exact q_indexAddr rfl rfl (by omega) | exact q_slice_str rfl rfl rfl (by omega) (by omega) | exact q_makeInterface rfl | exact q_assert rfl | exact p_build rfl (by repeat' (first | exact BFill.nil | refine' BFill.one (by rfl) (by rfl) (by repeat constructor) ?_ | refine' BFill.agg (by rfl) (by rfl) (by repeat constructor) ?_))) ?_
  refine OpsH.first 12 _ (by kernel_rfl) rfl (by kernel_rfl) (by kernel_rfl) rfl (by first | exact p_move rfl | exact p_assign rfl | exact p_extract rfl rfl | exact q_fieldAddr rfl | exact p_nilCheck rfl | exact q_load rfl (by repeat (first | exact HMem.here | apply HMem.skip | apply HMem.there)) rfl | exact q_load_agg rfl (by repeat (first | exact HMem.here | apply HMem.skip | apply HMem.there)) (by repeat constructor) | exact q_len_slice rfl | exact q_len_str rfl | exact q_indexAddr rfl rfl (by omega) | exact q_slice_str rfl rfl rfl (by omega) (by omega) | exact q_makeInterface rfl | exact q_assert rfl | exact p_build rfl (by repeat' (first | exact BFill.nil | refine' BFill.one (by rfl) (by rfl) (by repeat constructor) ?_ | refine' BFill.agg (by rfl) (by rfl) (by repeat constructor) ?_))) ?_
  refine OpsH.nil (by kernel_rfl) ?_
  (repeat' (first | refine k_ret ?_))
  exact e_ret _ ⟨_, rfl, rfl⟩ (by repeat (first | exact SubH.nilR _ | refine SubH.pick (by repeat (first | exact HTake.here | apply HTake.there)) ?_))
end Go.Proofs

/- closeBlock of a paragraph, and the root's build. Conditions: bounds. closeBlock of the root, and trimStack to nothing. Conditions: bounds. zzIndex and zzContains of one byte. Conditions: a bound on the length. htmlEntity over the table of entities, and strings.Builder's contracts. Conditions: the table holds texts of 1 to 8 bytes; bounds on the length. Lines of a text, runs of tildes, and texts between fences: plain facts on lists. No conditions beyond those that each states. -/
import Derived.Test.YthmgajolaekpdaaGreatDoorT04
import Derived.Test.YthmgajolaekpdaaGreatDoorT03
import Derived.Test.YthmgajolaekpdaaGreatDoorEngB
namespace Go.Proofs
open Go Go.Eng
set_option maxRecDepth 20000
set_option maxHeartbeats 4000000

abbrev Blks (v : Value) (l : List Value) (Bk : Blk) : Prop := Own 61 1 v l.length l Bk

theorem closePara (p g cap pb : Nat) (s : PS) (cur : List Value) (tv : Value) (Bt : Blk) (tx : List UInt8) (ts : List Nat) (TB : Blk) (bty : Nat) (bv e2 e3 f1 : Value) (a b : Nat) (hl : tx.length ≤ 140737488355328) (hi : 0 < tx.length) (h1 : at0 tx 0 ≠ 32) (h2 : at0 tx 0 ≠ 9) (h3 : at0 tx 0 ≠ 10) (h4 : at0 tx 0 ≠ 91) (ha2 : a ≤ 100000000)
    (hO : Stk (stk g 2 cap) 2 [.iface bty bv, .slice none 0 0, e2, e3, .iface 155 (lp pb), f1, inat a, inat b] (stb g cur)) (hs : s.stack = stk g 2 cap)
    (hT : Ptrs s.texts ts TB) (htl : ts.length ≤ 1000000) (ls : List (List UInt8)) (hS : Strs tv ls Bt) (htx : Lib.join ls [10] = tx) (hl0 : ls ≠ []) (hll : ls.length ≤ 1000000) (hlt : tx.length ≤ 1000000000) :
    Tr Tryz.prog 57 [lp p] [s.blk p, stb g cur, pbb pb tv, Bt, TB] fun u K => ∃ q t v' TB' cur' iv IB, u = .iface 146 (lp q) ∧ Ptrs v' (ts ++ [t]) TB' ∧
      Stk (stk g 1 cap) 1 [.iface bty bv, iv, e2, e3] (stb g cur') ∧ Blks iv [.iface 146 (lp q)] IB ∧
      K = [({ s with stack := stk g 1 cap, texts := v' } : PS).blk p, stb g cur', TB', txb t a (a + ls.length - 1) (.slice none 0 0) tx, pgb q a (a + ls.length - 1) t, IB] := by
  obtain ⟨par, root, links, lineno, stack, depth, corner, sv, em, list, lists, texts, bt⟩ := s
  subst hs
  obtain ⟨v1, v2, v3, v4⟩ := hO.view
  have c0 : cur[0 + (2 - 1) * 4 + 0]? = some (.iface 155 (lp pb)) := hO.get rfl
  have c2 : cur[0 + (2 - 1) * 4 + 2]? = some (inat a) := hO.get rfl
  have c3 : cur[0 + (2 - 1) * 4 + 2 + 1]? = some (inat b) := hO.get rfl
  have c4 : cur[0 + (2 - 1 - 1) * 4 + 1]? = some (.slice none 0 0) := hO.get rfl
  refine Tr.start (n := 118) (rs := [.tmp 2]) rfl rfl rfl rfl fun B => ?_
  (repeat' (first | refine Wp.draw_all (id := 1) Mixed.out (by kernel_rfl) ?_ | refine s_load (hc := c0) ?_ | refine k_seq ?_ | refine k_region ?_ | refine k_nil ?_ | refine k_then ?_ | refine k_false ?_ | refine k_skip ?_ | refine s_move ?_ | refine s_assign ?_ | refine s_field ?_ | refine s_nilp ?_ | refine s_mki ?_ | refine s_eqif ?_ | refine u_nil ?_ | refine u_move ?_ | refine u_assign ?_ | refine u_load ?_ | refine u_field ?_ | refine u_nilp ?_ | refine u_sub1 ?_ | refine u_len ?_ | refine u_idxa ?_))
  refine s_inv (build_para p g 2 cap pb _ cur tv Bt tx ts TB a b hl hi h1 h2 h3 h4 (by omega) (by omega) c2 c3 ha2 rfl hT htl ls hS htx hl0 hll hlt) (fun u K hR => ?_)
  obtain ⟨q, t, v', TB', rfl, hT', rfl⟩ := hR
  (repeat' (first | refine Wp.draw_tail (id := 10) 12 Mixed.out (by kernel_rfl) ?_ | refine Wp.draw_all (id := 12) Mixed.out (by kernel_rfl) ?_ | refine s_load (hc := c4) ?_ | refine k_seq ?_ | refine k_region ?_ | refine k_nil ?_ | refine k_then ?_ | refine k_true ?_ | refine k_false ?_ | refine k_skip ?_ | refine s_move ?_ | refine s_assign ?_ | refine s_load ?_ | refine s_field ?_ | refine s_nilp ?_ | refine s_gtr_t ?_ | refine s_len ?_ | refine s_ext ?_ | refine s_asno ?_ | refine s_store ?_ | refine s_bsl1 (fun _ => ?_) | refine u_nil ?_ | refine u_move ?_ | refine u_assign ?_ | refine u_load ?_ | refine u_field ?_ | refine u_nilp ?_ | refine u_sub1 ?_ | refine u_len ?_ | refine u_slicehi ?_ | refine u_idxa ?_))
  refine s_nilblk ?_
  refine s_app (Own.nil _ _) (by omega) (fun v'' Bk' hB => ?_)
  obtain ⟨g', cap', cur', rfl, rfl, k1, k2, k3, k4⟩ := hB.pos
  (repeat' (first | refine s_storeg ?_ | refine k_seq ?_ | refine k_region ?_ | refine k_nil ?_ | refine k_then ?_ | refine k_ret ?_ | refine s_move ?_ | refine s_assign ?_ | refine s_field ?_ | refine s_nilp ?_))
  have hq : cur.take (0 + 4) = [] ++ [.iface bty bv, .slice none 0 0, e2, e3] := by
    have : cur.take (0 + 4) = (cur.take (2 * 4)).take 4 := by rw [List.take_take]; rfl
    rw [this, v4]; rfl
  have h6 := take_set_tail (z := 4) (k := 1) (.slice (some ⟨g', 0, none⟩) (0 + 1) cap') rfl hq rfl
  have h9 := Own.mk' (E := 114) (g := g) (m := 1) (cur := cur.set (0 + 1) (.slice (some ⟨g', 0, none⟩) (0 + 1) cap')) (by omega : 1 ≤ cap) v2 (by simpa using v3)
  have h10 : (cur.set (0 + 1) (.slice (some ⟨g', 0, none⟩) (0 + 1) cap')).take (1 * 4) = [.iface bty bv, .slice (some ⟨g', 0, none⟩) (0 + 1) cap', e2, e3] := h6
  rw [h10] at h9
  exact e_ret _ ⟨q, t, v', TB', _, _, _, rfl, hT', h9, hB, rfl⟩ (by repeat (first | exact SubH.nilR _ | refine SubH.pick (by repeat (first | exact HTake.here | apply HTake.there)) ?_))

abbrev docb (d a b : Nat) (iv lk : Value) : Blk := [(d, cellsOf [inat a, inat b, iv, lk] 333)]

theorem rootBuild (p rb g m cap : Nat) (s : PS) (cs : List Value) (a b : Nat) (ia : Option Addr) (im ic : Nat) (lk : Option Nat) (hlk : s.links = .map lk) (hm : 1 ≤ m) (hm2 : m ≤ 140737488355328) (h1 : cs[0 + (m - 1) * 4 + 1]? = some (.slice ia im ic)) (h2 : cs[0 + (m - 1) * 4 + 2]? = some (inat a)) (h3 : cs[0 + (m - 1) * 4 + 2 + 1]? = some (inat b)) (hs : s.stack = stk g m cap) :
    Tr Tryz.prog 232 [lp rb, .iface 109 (lp p)] [s.blk p, stb g cs] fun u K => ∃ d, u = .iface 42 (lp d) ∧ K = [s.blk p, stb g cs, docb d a b (.slice ia im ic) (.map lk)] := by
  have e1 := pos_tr p g m cap s cs a b hm hm2 h2 h3 hs
  have e2 := blocks_tr p g m cap s cs (.slice ia im ic) hm hm2 h1 hs
  obtain ⟨par, root, links, lineno, stack, depth, corner, sv, em, list, lists, texts, bt⟩ := s
  subst hs
  subst hlk
  refine Tr.start (n := 17) (rs := [.tmp 4]) rfl rfl rfl rfl fun B => ?_
  (repeat' (first | refine k_seq ?_ | refine k_region ?_ | refine k_nil ?_ | refine k_then ?_ | refine s_assign ?_))
  refine Wp.draw_held (id := 1) [(⟨par, root, .map lk, lineno, stk g m cap, depth, corner, sv, em, list, lists, texts, bt⟩ : PS).blk p, stb g cs] 13 Mixed.out (by repeat (first | exact SubH.nilR _ | refine SubH.pick (by repeat (first | exact HTake.here | apply HTake.there)) ?_)) rfl ?_
  refine OpsH.first 0 _ (by kernel_rfl) rfl (by kernel_rfl) (by kernel_rfl) rfl (by first | exact p_move rfl | exact p_assign rfl | exact p_extract rfl rfl | exact q_fieldAddr rfl | exact p_nilCheck rfl | exact q_load rfl (by repeat (first | exact HMem.here | apply HMem.skip | apply HMem.there)) rfl | exact q_load_agg rfl (by repeat (first | exact HMem.here | apply HMem.skip | apply HMem.there)) (by repeat constructor) | exact q_len_slice rfl | exact q_len_str rfl | exact q_indexAddr rfl rfl (by omega) | exact q_slice_str rfl rfl rfl (by omega) (by omega) | exact q_makeInterface rfl | exact q_assert rfl | exact p_build rfl (by repeat' (first | exact BFill.nil | refine' BFill.one (by rfl) (by rfl) (by repeat constructor) ?_ | refine' BFill.agg (by rfl) (by rfl) (by repeat constructor) ?_))) ?_
  refine OpsH.first 2 _ (by kernel_rfl) rfl (by kernel_rfl) (by kernel_rfl) rfl (by first | exact p_move rfl | exact p_assign rfl | exact p_extract rfl rfl | exact q_fieldAddr rfl | exact p_nilCheck rfl | exact q_load rfl (by repeat (first | exact HMem.here | apply HMem.skip | apply HMem.there)) rfl | exact q_load_agg rfl (by repeat (first | exact HMem.here | apply HMem.skip | apply HMem.there)) (by repeat constructor) | exact q_len_slice rfl | exact q_len_str rfl | exact q_indexAddr rfl rfl (by omega) | exact q_slice_str rfl rfl rfl (by omega) (by omega) | exact q_makeInterface rfl | exact q_assert rfl | exact p_build rfl (by repeat' (first | exact BFill.nil | refine' BFill.one (by rfl) (by rfl) (by repeat constructor) ?_ | refine' BFill.agg (by rfl) (by rfl) (by repeat constructor) ?_))) ?_
  refine OpsH.first 4 _ (by kernel_rfl) rfl (by kernel_rfl) (by kernel_rfl) rfl (by first | exact p_move rfl | exact p_assign rfl | exact p_extract rfl rfl | exact q_fieldAddr rfl | exact p_nilCheck rfl | exact q_load rfl (by repeat (first | exact HMem.here | apply HMem.skip | apply HMem.there)) rfl | exact q_load_agg rfl (by repeat (first | exact HMem.here | apply HMem.skip | apply HMem.there)) (by repeat constructor) | exact q_len_slice rfl | exact q_len_str rfl | exact q_indexAddr rfl rfl (by omega) | exact q_slice_str rfl rfl rfl (by omega) (by omega) | exact q_makeInterface rfl | exact q_assert rfl | exact p_build rfl (by repeat' (first | exact BFill.nil | refine' BFill.one (by rfl) (by rfl) (by repeat constructor) ?_ | refine' BFill.agg (by rfl) (by rfl) (by repeat constructor) ?_))) ?_
  refine OpsH.first 5 _ (by kernel_rfl) rfl (by kernel_rfl) (by kernel_rfl) rfl (by first | exact p_move rfl | exact p_assign rfl | exact p_extract rfl rfl | exact q_fieldAddr rfl | exact p_nilCheck rfl | exact q_load rfl (by repeat (first | exact HMem.here | apply HMem.skip | apply HMem.there)) rfl | exact q_load_agg rfl (by repeat (first | exact HMem.here | apply HMem.skip | apply HMem.there)) (by repeat constructor) | exact q_len_slice rfl | exact q_len_str rfl | exact q_indexAddr rfl rfl (by omega) | exact q_slice_str rfl rfl rfl (by omega) (by omega) | exact q_makeInterface rfl | exact q_assert rfl | exact p_build rfl (by repeat' (first | exact BFill.nil | refine' BFill.one (by rfl) (by rfl) (by repeat constructor) ?_ | refine' BFill.agg (by rfl) (by rfl) (by repeat constructor) ?_))) ?_
  refine OpsH.first 6 _ (by kernel_rfl) rfl (by kernel_rfl) (by kernel_rfl) rfl (by first | exact p_move rfl | exact p_assign rfl | exact p_extract rfl rfl | exact q_fieldAddr rfl | exact p_nilCheck rfl | exact q_load rfl (by repeat (first | exact HMem.here | apply HMem.skip | apply HMem.there)) rfl | exact q_load_agg rfl (by repeat (first | exact HMem.here | apply HMem.skip | apply HMem.there)) (by repeat constructor) | exact q_len_slice rfl | exact q_len_str rfl | exact q_indexAddr rfl rfl (by omega) | exact q_slice_str rfl rfl rfl (by omega) (by omega) | exact q_makeInterface rfl | exact q_assert rfl | exact p_build rfl (by repeat' (first | exact BFill.nil | refine' BFill.one (by rfl) (by rfl) (by repeat constructor) ?_ | refine' BFill.agg (by rfl) (by rfl) (by repeat constructor) ?_))) ?_
  refine OpsH.first 7 _ (by kernel_rfl) rfl (by kernel_rfl) (by kernel_rfl) rfl (by first | exact p_move rfl | exact p_assign rfl | exact p_extract rfl rfl | exact q_fieldAddr rfl | exact p_nilCheck rfl | exact q_load rfl (by repeat (first | exact HMem.here | apply HMem.skip | apply HMem.there)) rfl | exact q_load_agg rfl (by repeat (first | exact HMem.here | apply HMem.skip | apply HMem.there)) (by repeat constructor) | exact q_len_slice rfl | exact q_len_str rfl | exact q_indexAddr rfl rfl (by omega) | exact q_slice_str rfl rfl rfl (by omega) (by omega) | exact q_makeInterface rfl | exact q_assert rfl | exact p_build rfl (by repeat' (first | exact BFill.nil | refine' BFill.one (by rfl) (by rfl) (by repeat constructor) ?_ | refine' BFill.agg (by rfl) (by rfl) (by repeat constructor) ?_))) ?_
  refine OpsH.first 8 _ (by kernel_rfl) rfl (by kernel_rfl) (by kernel_rfl) rfl (by first | exact p_move rfl | exact p_assign rfl | exact p_extract rfl rfl | exact q_fieldAddr rfl | exact p_nilCheck rfl | exact q_load rfl (by repeat (first | exact HMem.here | apply HMem.skip | apply HMem.there)) rfl | exact q_load_agg rfl (by repeat (first | exact HMem.here | apply HMem.skip | apply HMem.there)) (by repeat constructor) | exact q_len_slice rfl | exact q_len_str rfl | exact q_indexAddr rfl rfl (by omega) | exact q_slice_str rfl rfl rfl (by omega) (by omega) | exact q_makeInterface rfl | exact q_assert rfl | exact p_build rfl (by repeat' (first | exact BFill.nil | refine' BFill.one (by rfl) (by rfl) (by repeat constructor) ?_ | refine' BFill.agg (by rfl) (by rfl) (by repeat constructor) ?_))) ?_
  refine OpsH.only 1 _ (by kernel_rfl) rfl ?_
  (repeat' (first | refine s_invD (e1) ?_ | refine k_nil ?_ | refine k_then ?_))
  refine ⟨(by repeat (first | exact SubH.nilR _ | refine SubH.pick (by repeat (first | exact HTake.here | apply HTake.there)) ?_)), ?_⟩
  refine OpsH.only 3 _ (by kernel_rfl) rfl ?_
  (repeat' (first | refine s_invD (e2) ?_ | refine k_nil ?_ | refine k_then ?_))
  refine ⟨(by repeat (first | exact SubH.nilR _ | refine SubH.pick (by repeat (first | exact HTake.here | apply HTake.there)) ?_)), ?_⟩
  refine OpsH.first 9 _ (by kernel_rfl) rfl (by kernel_rfl) (by kernel_rfl) rfl (by first | exact p_move rfl | exact p_assign rfl | exact p_extract rfl rfl | exact q_fieldAddr rfl | exact p_nilCheck rfl | exact q_load rfl (by repeat (first | exact HMem.here | apply HMem.skip | apply HMem.there)) rfl | exact q_load_agg rfl (by repeat (first | exact HMem.here | apply HMem.skip | apply HMem.there)) (by repeat constructor) | exact q_len_slice rfl | exact q_len_str rfl | exact q_indexAddr rfl rfl (by omega) | exact q_slice_str rfl rfl rfl (by omega) (by omega) | exact q_makeInterface rfl | exact q_assert rfl | exact p_build rfl (by repeat' (first | exact BFill.nil | refine' BFill.one (by rfl) (by rfl) (by repeat constructor) ?_ | refine' BFill.agg (by rfl) (by rfl) (by repeat constructor) ?_))) ?_
  refine OpsH.only 10 _ (by kernel_rfl) rfl ?_
  (repeat' (first | refine k_nil ?_ | refine k_then ?_ | refine s_box (fun _ => ?_)))
  refine ⟨(by repeat (first | exact SubH.nilR _ | refine SubH.pick (by repeat (first | exact HTake.here | apply HTake.there)) ?_)), ?_⟩
  refine OpsH.first 11 _ (by kernel_rfl) rfl (by kernel_rfl) (by kernel_rfl) rfl (by first | exact p_move rfl | exact p_assign rfl | exact p_extract rfl rfl | exact q_fieldAddr rfl | exact p_nilCheck rfl | exact q_load rfl (by repeat (first | exact HMem.here | apply HMem.skip | apply HMem.there)) rfl | exact q_load_agg rfl (by repeat (first | exact HMem.here | apply HMem.skip | apply HMem.there)) (by repeat constructor) | exact q_len_slice rfl | exact q_len_str rfl | exact q_indexAddr rfl rfl (by omega) | exact q_slice_str rfl rfl rfl (by omega) (by omega) | exact q_makeInterface rfl | exact q_assert rfl | exact p_build rfl (by repeat' (first | exact BFill.nil | refine' BFill.one (by rfl) (by rfl) (by repeat constructor) ?_ | refine' BFill.agg (by rfl) (by rfl) (by repeat constructor) ?_))) ?_
  refine OpsH.first 12 _ (by kernel_rfl) rfl (by kernel_rfl) (by kernel_rfl) rfl (by first | exact p_move rfl | exact p_assign rfl | exact p_extract rfl rfl | exact q_fieldAddr rfl | exact p_nilCheck rfl | exact q_load rfl (by repeat (first | exact HMem.here | apply HMem.skip | apply HMem.there)) rfl | exact q_load_agg rfl (by repeat (first | exact HMem.here | apply HMem.skip | apply HMem.there)) (by repeat constructor) | exact q_len_slice rfl | exact q_len_str rfl | exact q_indexAddr rfl rfl (by omega) | exact q_slice_str rfl rfl rfl (by omega) (by omega) | exact q_makeInterface rfl | exact q_assert rfl | exact p_build rfl (by repeat' (first | exact BFill.nil | refine' BFill.one (by rfl) (by rfl) (by repeat constructor) ?_ | refine' BFill.agg (by rfl) (by rfl) (by repeat constructor) ?_))) ?_
  refine OpsH.nil (by kernel_rfl) ?_
  (repeat' (first | refine k_ret ?_))
  exact e_ret _ ⟨_, rfl, rfl⟩ (by repeat (first | exact SubH.nilR _ | refine SubH.pick (by repeat (first | exact HTake.here | apply HTake.there)) ?_))
end Go.Proofs

namespace Go.Proofs
open Go Go.Eng
set_option maxRecDepth 20000
set_option maxHeartbeats 4000000

theorem closeRoot (p rb g cap : Nat) (s : PS) (cur : List Value) (a b : Nat) (ia : Option Addr) (im ic : Nat) (lk : Option Nat) (hlk : s.links = .map lk)
    (hO : Stk (stk g 1 cap) 1 [.iface 91 (lp rb), .slice ia im ic, inat a, inat b] (stb g cur)) (hs : s.stack = stk g 1 cap) :
    Tr Tryz.prog 57 [lp p] [s.blk p, stb g cur] fun u K => ∃ d, u = .iface 42 (lp d) ∧
      K = [({ s with stack := stk g 0 cap, root := lp d } : PS).blk p, stb g cur, docb d a b (.slice ia im ic) (.map lk)] := by
  obtain ⟨par, root, links, lineno, stack, depth, corner, sv, em, list, lists, texts, bt⟩ := s
  subst hs
  subst hlk
  obtain ⟨v1, v2, v3, v4⟩ := hO.view
  have c0 : cur[0 + (1 - 1) * 4 + 0]? = some (.iface 91 (lp rb)) := hO.get rfl
  have c1 : cur[0 + (1 - 1) * 4 + 1]? = some (.slice ia im ic) := hO.get rfl
  have c2 : cur[0 + (1 - 1) * 4 + 2]? = some (inat a) := hO.get rfl
  have c3 : cur[0 + (1 - 1) * 4 + 2 + 1]? = some (inat b) := hO.get rfl
  refine Tr.start (n := 118) (rs := [.tmp 2]) rfl rfl rfl rfl fun B => ?_
  (repeat' (first | refine Wp.draw_all (id := 1) Mixed.out (by kernel_rfl) ?_ | refine s_load (hc := c0) ?_ | refine k_seq ?_ | refine k_region ?_ | refine k_nil ?_ | refine k_then ?_ | refine k_false ?_ | refine k_skip ?_ | refine s_move ?_ | refine s_assign ?_ | refine s_field ?_ | refine s_nilp ?_ | refine s_mki ?_ | refine s_eqif ?_ | refine u_nil ?_ | refine u_move ?_ | refine u_assign ?_ | refine u_load ?_ | refine u_field ?_ | refine u_nilp ?_ | refine u_sub1 ?_ | refine u_len ?_ | refine u_idxa ?_))
  refine s_inv (rootBuild p rb g 1 cap _ cur a b ia im ic lk rfl (by omega) (by omega) c1 c2 c3 rfl) (fun u K hR => ?_)
  obtain ⟨d, rfl, rfl⟩ := hR
  (repeat' (first | refine Wp.draw_tail (id := 10) 12 Mixed.out (by kernel_rfl) ?_ | refine k_seq ?_ | refine k_region ?_ | refine k_nil ?_ | refine k_then ?_ | refine k_false ?_ | refine k_skip ?_ | refine k_ret ?_ | refine s_move ?_ | refine s_assign ?_ | refine s_load ?_ | refine s_field ?_ | refine s_nilp ?_ | refine s_gtr_f ?_ | refine s_len ?_ | refine s_ext ?_ | refine s_as ?_ | refine s_asno ?_ | refine s_store ?_ | refine u_nil ?_ | refine u_move ?_ | refine u_load ?_ | refine u_field ?_ | refine u_nilp ?_ | refine u_sub1 ?_ | refine u_len ?_ | refine u_slicehi ?_))
  exact e_ret _ ⟨d, rfl, rfl⟩ (by repeat (first | exact SubH.nilR _ | refine SubH.pick (by repeat (first | exact HTake.here | apply HTake.there)) ?_))

inductive Trim where
  | two
  | one (q t : Nat) (v' : Value) (TB' : Blk) (cur' : List Value) (ia : Option Addr) (im ic : Nat) (IB : Blk)
  | none (q t : Nat) (v' : Value) (TB' : Blk) (cur' : List Value) (ia : Option Addr) (im ic : Nat) (IB : Blk) (d : Nat)

theorem trimAll (p g cap pb rb : Nat) (s : PS) (cur : List Value) (tv : Value) (Bt : Blk) (tx : List UInt8) (ts : List Nat) (TB : Blk) (f1 : Value) (a b e2 e3 : Nat) (hl : tx.length ≤ 140737488355328) (hi : 0 < tx.length) (h1 : at0 tx 0 ≠ 32) (h2 : at0 tx 0 ≠ 9) (h3 : at0 tx 0 ≠ 10) (h4 : at0 tx 0 ≠ 91) (ha2 : a ≤ 100000000)
    (hO : Stk (stk g 2 cap) 2 [.iface 91 (lp rb), .slice none 0 0, inat e2, inat e3, .iface 155 (lp pb), f1, inat a, inat b] (stb g cur)) (hs : s.stack = stk g 2 cap) (lk : Option Nat) (hlk : s.links = .map lk)
    (hT : Ptrs s.texts ts TB) (htl : ts.length ≤ 1000000) (ls : List (List UInt8)) (hS : Strs tv ls Bt) (htx : Lib.join ls [10] = tx) (hl0 : ls ≠ []) (hll : ls.length ≤ 1000000) (hlt : tx.length ≤ 1000000000) :
    Tr Tryz.prog 49 [lp p, .int .i64 0] [s.blk p, stb g cur, pbb pb tv, Bt, TB] fun u K => ∃ q t v' TB' cur' ia im ic IB d, u = unit ∧ Ptrs v' (ts ++ [t]) TB' ∧ Blks (.slice ia im ic) [.iface 146 (lp q)] IB ∧
      K = [({ s with stack := stk g 0 cap, root := lp d, texts := v' } : PS).blk p, stb g cur', TB', txb t a (a + ls.length - 1) (.slice none 0 0) tx, pgb q a (a + ls.length - 1) t, IB, docb d e2 e3 (.slice ia im ic) (.map lk)] := by
  obtain ⟨par, root, links, lineno, stack, depth, corner, sv, em, list, lists, texts, bt⟩ := s
  subst hs
  subst hlk
  refine Tr.start (n := 21) (rs := []) rfl rfl rfl rfl fun B => ?_
  (repeat' (first | refine k_seq ?_ | refine k_region ?_ | refine k_nil ?_ | refine k_then ?_ | refine k_false ?_ | refine k_blk ?_ | refine k_skip ?_ | refine s_move ?_ | refine s_load ?_ | refine s_field ?_ | refine s_nilp ?_ | refine s_lss_f ?_ | refine s_len ?_))
  refine k_loop (fun _ : Trim => [(0, lp p), (1, .int .i64 0)])
    (fun x => match x with
      | .two => [(⟨par, root, .map lk, lineno, stk g 2 cap, depth, corner, sv, em, list, lists, texts, bt⟩ : PS).blk p, stb g cur, pbb pb tv, Bt, TB]
      | .one q t v' TB' cur' ia im ic IB => [(⟨par, root, .map lk, lineno, stk g 1 cap, depth, corner, sv, em, list, lists, v', bt⟩ : PS).blk p, stb g cur', TB', txb t a (a + ls.length - 1) (.slice none 0 0) tx, pgb q a (a + ls.length - 1) t, IB]
      | .none q t v' TB' cur' ia im ic IB d => [(⟨par, lp d, .map lk, lineno, stk g 0 cap, depth, corner, sv, em, list, lists, v', bt⟩ : PS).blk p, stb g cur', TB', txb t a (a + ls.length - 1) (.slice none 0 0) tx, pgb q a (a + ls.length - 1) t, IB, docb d e2 e3 (.slice ia im ic) (.map lk)])
    (fun x => match x with
      | .two => True
      | .one q t v' TB' cur' ia im ic IB => Ptrs v' (ts ++ [t]) TB' ∧ Stk (stk g 1 cap) 1 [.iface 91 (lp rb), .slice ia im ic, inat e2, inat e3] (stb g cur') ∧ Blks (.slice ia im ic) [.iface 146 (lp q)] IB
      | .none q t v' TB' cur' ia im ic IB d => Ptrs v' (ts ++ [t]) TB' ∧ Blks (.slice ia im ic) [.iface 146 (lp q)] IB)
    (fun x => match x with
      | .two => 2
      | .one .. => 1
      | .none .. => 0) .two trivial (Knows.spec (by repeat (first | exact trivial | refine ⟨rfl, ?_⟩))) (by repeat (first | exact SubH.nilR _ | refine SubH.pick (by repeat (first | exact HTake.here | apply HTake.there)) ?_)) fun x hx => ?_
  cases x with
  | two =>
    (repeat' (first | refine k_seq ?_ | refine k_region ?_ | refine k_nil ?_ | refine k_then ?_ | refine k_true ?_ | refine k_blk ?_ | refine k_skip ?_ | refine s_move ?_ | refine s_load ?_ | refine s_field ?_ | refine s_nilp ?_ | refine s_gtr_t ?_ | refine s_len ?_))
    refine s_call (closePara p g cap pb _ cur tv Bt tx ts TB _ _ _ _ f1 a b hl hi h1 h2 h3 h4 ha2 hO rfl hT htl ls hS htx hl0 hll hlt) (fun u K hR => ?_)
    obtain ⟨q, t, v', TB', cur', iv, IB, rfl, k1, k2, k3, rfl⟩ := hR
    obtain ⟨g', cap', cur2, rfl, rfl, j1, j2, j3, j4⟩ := (show Own _ 1 iv (0 + 1) _ IB from k3).pos
    (repeat' (first | refine k_nil ?_ | refine k_then ?_ | refine k_block ?_))
    exact ⟨.one q t v' TB' cur' (some ⟨g', 0, .none⟩) (0 + 1) cap' _, (Knows.spec (by repeat (first | exact trivial | refine ⟨rfl, ?_⟩))), (by repeat (first | exact SubH.nilR _ | refine SubH.pick (by repeat (first | exact HTake.here | apply HTake.there)) ?_)), ⟨k1, k2, k3⟩, (by show 1 < 2; omega)⟩
  | one q t v' TB' cur' ia im ic IB =>
    obtain ⟨k1, k2, k3⟩ := hx
    (repeat' (first | refine k_seq ?_ | refine k_region ?_ | refine k_nil ?_ | refine k_then ?_ | refine k_true ?_ | refine k_blk ?_ | refine k_skip ?_ | refine s_move ?_ | refine s_load ?_ | refine s_field ?_ | refine s_nilp ?_ | refine s_gtr_t ?_ | refine s_len ?_))
    refine s_call (closeRoot p rb g cap _ cur' e2 e3 ia im ic lk rfl k2 rfl) (fun u K hR => ?_)
    obtain ⟨d, rfl, rfl⟩ := hR
    (repeat' (first | refine k_nil ?_ | refine k_then ?_ | refine k_block ?_))
    exact ⟨.none q t v' TB' cur' ia im ic IB d, (Knows.spec (by repeat (first | exact trivial | refine ⟨rfl, ?_⟩))), (by repeat (first | exact SubH.nilR _ | refine SubH.pick (by repeat (first | exact HTake.here | apply HTake.there)) ?_)), ⟨k1, k3⟩, (by show 0 < 1; omega)⟩
  | none q t v' TB' cur' ia im ic IB d =>
    obtain ⟨k1, k3⟩ := hx
    (repeat' (first | refine k_seq ?_ | refine k_region ?_ | refine k_nil ?_ | refine k_then ?_ | refine k_false ?_ | refine k_exit ?_ | refine k_exit_then ?_ | refine k_hit ?_ | refine s_move ?_ | refine s_load ?_ | refine s_field ?_ | refine s_nilp ?_ | refine s_gtr_f ?_ | refine s_len ?_))
    exact e_norm _ ⟨q, t, v', TB', cur', ia, im, ic, IB, d, rfl, k1, k3, rfl⟩ (by repeat (first | exact SubH.nilR _ | refine SubH.pick (by repeat (first | exact HTake.here | apply HTake.there)) ?_))
end Go.Proofs

namespace Go.Proofs
open Go Go.Eng
set_option maxRecDepth 20000
set_option maxHeartbeats 4000000

theorem slice1 {l : List UInt8} {k : Nat} {d : UInt8} (h : l[k]? = some d) : (l.take (k + 1)).drop k = [d] := by
  obtain ⟨h1, h2⟩ := List.getElem?_eq_some_iff.1 h
  rw [List.take_succ_eq_append_getElem h1, List.drop_append_of_le_length (by simp; omega), List.drop_eq_nil_of_le (by simp; exact Nat.min_le_left _ _)]
  simp [h2]

/-- The place of the first byte 'c', or the length. -/
def fst1 (c : UInt8) : List UInt8 → Nat
  | [] => 0
  | d :: l => if d = c then 0 else fst1 c l + 1
theorem fst1_le (c : UInt8) : ∀ l, fst1 c l ≤ l.length
  | [] => Nat.le_refl _
  | d :: l => by have := fst1_le c l; simp only [fst1, List.length_cons]; split <;> omega
theorem fst1_lt {c : UInt8} : ∀ {l : List UInt8} {k : Nat}, k < fst1 c l → ∃ d, l[k]? = some d ∧ d ≠ c
  | [], k, h => by simp [fst1] at h
  | d :: l, k, h => by
    simp only [fst1] at h
    split at h
    · omega
    · rename_i hd
      cases k with
      | zero => exact ⟨d, rfl, hd⟩
      | succ k => simpa using fst1_lt (l := l) (k := k) (by omega)
theorem fst1_at {c : UInt8} : ∀ {l : List UInt8}, fst1 c l < l.length → l[fst1 c l]? = some c
  | [], h => by simp [fst1] at h
  | d :: l, h => by
    simp only [fst1] at h ⊢
    split
    · rename_i hd; simp [hd]
    · rename_i hd
      rw [if_neg hd] at h
      simpa using fst1_at (l := l) (by simpa using h)

theorem zzIndex_tr (l : List UInt8) (c : UInt8) (hl : l.length ≤ 140737488355328) (r : Int) (hr : r = if fst1 c l < l.length then (fst1 c l : Int) else -1) :
    TrP Tryz.prog 47 [str l, str [c]] (.int .i64 r) := by
  have hle := fst1_le c l
  refine Tr.start (n := 25) (rs := [.tmp 4]) rfl rfl rfl rfl fun B => ?_
  (repeat' (first | refine k_seq ?_ | refine k_region ?_ | refine k_nil ?_ | refine k_then ?_ | refine s_assign ?_))
  refine k_midx (fun _ : Unit => [(0, str l), (1, str [c]), (5, inat l.length)]) (fun _ => []) (fun _ => ¬ fst1 c l < l.length) ?_ ?_
  · (repeat' (first | refine k_blk ?_))
    refine k_loop (fun k : Nat => [(0, str l), (1, str [c]), (5, inat k)]) (fun _ => []) (fun k => k ≤ fst1 c l) (fun k => fst1 c l - k) 0 (by omega) (Knows.spec (by repeat (first | exact trivial | refine ⟨rfl, ?_⟩))) (by repeat (first | exact SubH.nilR _ | refine SubH.pick (by repeat (first | exact HTake.here | apply HTake.there)) ?_)) fun k hk => ?_
    have e1 : [c].length = 1 := rfl
    by_cases hlt : k < l.length
    · by_cases hkf : k < fst1 c l
      · obtain ⟨d, hd1, hd2⟩ := fst1_lt hkf
        have hs : ¬ (l.take (k + [c].length)).drop k = [c] := by rw [e1, slice1 hd1]; simpa using hd2
        (repeat' (first | refine k_seq ?_ | refine k_region ?_ | refine k_nil ?_ | refine k_then ?_ | refine k_true ?_ | refine k_false ?_ | refine k_blk ?_ | refine k_skip ?_ | refine k_block ?_ | refine s_move ?_ | refine s_assign ?_ | refine s_add1 ?_ | refine s_add ?_ | refine s_leq_t ?_ | refine s_lens ?_ | refine s_slices ?_ | refine s_eqs_f ?_))
        exact ⟨k + 1, (Knows.spec (by repeat (first | exact trivial | refine ⟨rfl, ?_⟩))), (by repeat (first | exact SubH.nilR _ | refine SubH.pick (by repeat (first | exact HTake.here | apply HTake.there)) ?_)), by omega, by omega⟩
      · have hkf' : k = fst1 c l := by omega
        subst hkf'
        have hs : (l.take (fst1 c l + [c].length)).drop (fst1 c l) = [c] := by rw [e1, slice1 (fst1_at hlt)]
        rw [if_pos hlt] at hr
        subst hr
        (repeat' (first | refine k_seq ?_ | refine k_region ?_ | refine k_nil ?_ | refine k_then ?_ | refine k_true ?_ | refine k_blk ?_ | refine k_skip ?_ | refine k_ret ?_ | refine k_ret_then ?_ | refine k_ret_block ?_ | refine s_move ?_ | refine s_assign ?_ | refine s_add ?_ | refine s_leq_t ?_ | refine s_lens ?_ | refine s_slices ?_ | refine s_eqs_t ?_))
        exact e_pure ⟨rfl, rfl⟩
    · have : k = l.length := by omega
      subst this
      (repeat' (first | refine k_seq ?_ | refine k_region ?_ | refine k_nil ?_ | refine k_then ?_ | refine k_false ?_ | refine k_exit ?_ | refine k_exit_then ?_ | refine k_hit ?_ | refine s_move ?_ | refine s_add ?_ | refine s_leq_f ?_ | refine s_lens ?_))
      exact ⟨(), (by repeat (first | exact trivial | refine ⟨rfl, ?_⟩)), (by repeat (first | exact SubH.nilR _ | refine SubH.pick (by repeat (first | exact HTake.here | apply HTake.there)) ?_)), by omega⟩
  · intro _ this
    rw [if_neg this] at hr
    subst hr
    (repeat' (first | refine k_seq ?_ | refine k_region ?_ | refine k_nil ?_ | refine k_then ?_ | refine k_ret ?_ | refine s_assign ?_))
    exact e_pure ⟨rfl, rfl⟩

theorem zzContains_tr (l : List UInt8) (c : UInt8) (hl : l.length ≤ 140737488355328) (hn : ¬ fst1 c l < l.length) :
    TrP Tryz.prog 44 [str l, str [c]] (.bool false) := by
  refine Tr.start (n := 9) (rs := [.tmp 4]) rfl rfl rfl rfl fun B => ?_
  (repeat' (first | refine s_pure (zzIndex_tr l c hl (-1) (by rw [if_neg hn])) ?_ | refine k_seq ?_ | refine k_region ?_ | refine k_nil ?_ | refine k_then ?_ | refine k_ret ?_ | refine s_move ?_ | refine s_assign ?_ | refine s_geq_f ?_))
  exact e_pure ⟨rfl, rfl⟩
end Go.Proofs

namespace Go.Proofs
open Go Go.Eng
set_option maxRecDepth 20000
set_option maxHeartbeats 4000000

instance arrOf2 : UArr Tryz.prog 261 2 9 := ⟨Tryz.underlying261⟩
instance arrOf12 : UArr Tryz.prog 262 12 261 := ⟨Tryz.underlying262⟩

/-- The table of the entities: a variable of the package, whose cells are texts. -/
abbrev ent (T : Nat) (es : List Value) : Blk := [(1, cellsOf es T)]
def EntOK (es : List Value) : Prop := ∀ k, k < 24 → ∃ s, es[k]? = some (str s) ∧ s ≠ [] ∧ s.length ≤ 8

theorem htmlEntity_tr (T : Nat) (es : List Value) (hE : EntOK es) (l : List UInt8) :
    Tr Tryz.prog 106 [str l] [ent T es] fun u K => (∃ s ok, u = .tuple #[str s, .bool ok] ∧ s.length ≤ 8 ∧ (ok = true → s ≠ [])) ∧ K = [ent T es] := by
  refine Tr.start (n := 19) (rs := [.tmp 2, .tmp 3]) rfl rfl rfl rfl fun B => ?_
  (repeat' (first | refine k_seq ?_ | refine k_region ?_ | refine k_nil ?_ | refine k_then ?_ | refine k_blk ?_ | refine s_assign ?_))
  refine k_loop (fun k : Nat => [(0, str l), (4, inat k)]) (fun _ => [ent T es]) (fun k => k ≤ 12) (fun k => 12 - k) 0 (by omega) (Knows.spec (by repeat (first | exact trivial | refine ⟨rfl, ?_⟩))) (by repeat (first | exact SubH.nilR _ | refine SubH.pick (by repeat (first | exact HTake.here | apply HTake.there)) ?_)) fun k hk => ?_
  by_cases hlt : k < 12
  · obtain ⟨s1, e1, _, _⟩ := hE (0 + k * 2 + 0 * 1) (by omega)
    obtain ⟨s2, e2, n2, m2⟩ := hE (0 + k * 2 + 1 * 1) (by omega)
    by_cases h : s1 = l
    · (repeat' (first | refine s_idxarr ?_ | refine s_idxarr (i := 0) ?_ | refine s_idxarr (i := 1) ?_ | refine s_load (hc := e1) ?_ | refine s_load (hc := e2) ?_ | refine k_seq ?_ | refine k_region ?_ | refine k_nil ?_ | refine k_then ?_ | refine k_true ?_ | refine k_blk ?_ | refine k_skip ?_ | refine k_ret ?_ | refine k_ret_then ?_ | refine k_ret_block ?_ | refine s_move ?_ | refine s_assign ?_ | refine s_lss_t ?_ | refine s_eqs_t ?_))
      exact e_ret _ ⟨⟨s2, true, rfl, m2, fun _ => n2⟩, rfl⟩ (by repeat (first | exact SubH.nilR _ | refine SubH.pick (by repeat (first | exact HTake.here | apply HTake.there)) ?_))
    · (repeat' (first | refine s_idxarr ?_ | refine s_idxarr (i := 0) ?_ | refine s_load (hc := e1) ?_ | refine k_seq ?_ | refine k_region ?_ | refine k_nil ?_ | refine k_then ?_ | refine k_true ?_ | refine k_false ?_ | refine k_blk ?_ | refine k_skip ?_ | refine k_block ?_ | refine s_move ?_ | refine s_assign ?_ | refine s_add1 ?_ | refine s_lss_t ?_ | refine s_eqs_f ?_))
      exact ⟨k + 1, (Knows.spec (by repeat (first | exact trivial | refine ⟨rfl, ?_⟩))), (by repeat (first | exact SubH.nilR _ | refine SubH.pick (by repeat (first | exact HTake.here | apply HTake.there)) ?_)), by omega, by omega⟩
  · have : k = 12 := by omega
    subst this
    (repeat' (first | refine k_seq ?_ | refine k_region ?_ | refine k_nil ?_ | refine k_then ?_ | refine k_false ?_ | refine k_exit ?_ | refine k_exit_then ?_ | refine k_hit ?_ | refine k_ret ?_ | refine s_move ?_ | refine s_assign ?_ | refine s_lss_f ?_))
    exact e_ret _ ⟨⟨[], false, rfl, by simp, fun h => (by cases h)⟩, rfl⟩ (by repeat (first | exact SubH.nilR _ | refine SubH.pick (by repeat (first | exact HTake.here | apply HTake.there)) ?_))

/-! strings.Builder -/
abbrev bldb (b : Nat) (p v : Value) : Blk := [(b, cellsOf [p, v] 52)]
abbrev Bys (v : Value) (l : List UInt8) (R : Blk) : Prop := Own 5 1 v l.length (Lib.byteCells l) R
theorem Bys.app {v : Value} {l s : List UInt8} {R : Blk} (h : Own 5 1 v (l.length + s.length) (Lib.byteCells l ++ Lib.byteCells s) R) : Bys v (l ++ s) R := by
  have e1 : Lib.byteCells (l ++ s) = Lib.byteCells l ++ Lib.byteCells s := by simp [Lib.byteCells]
  unfold Bys
  rw [e1, List.length_append]; exact h

theorem copyCheck_used (b : Nat) (v : Value) : TrD Tryz.prog 41 [lp b] [bldb b (lp b) v] unit [bldb b (lp b) v] := by
  refine Tr.start (n := 20) (rs := []) rfl rfl rfl rfl fun B => ?_
  (repeat' (first | refine k_seq ?_ | refine k_region ?_ | refine k_nil ?_ | refine k_then ?_ | refine k_false ?_ | refine s_move ?_ | refine s_load ?_ | refine s_field ?_ | refine s_nilp ?_ | refine s_eqp1 ?_))
  refine Ops.pure (.bool false) (p_ne (u := lp b) (v := lp b) (r := false) (by rfl) (by rfl) (by first | rfl | kernel_rfl) (fun w => Lib.run_neq_ptr_same (P := Tryz.prog) w ⟨b, 0, none⟩ Tryz.underlying50 (show (Tryz.prog).info? 52 = some Tryz.t52 by kernel_rfl))) (by rfl) ?_
  (repeat' (first | refine k_nil ?_ | refine k_then ?_ | refine k_false ?_ | refine k_skip ?_))
  exact e_norm _ ⟨rfl, rfl⟩ (by repeat (first | exact SubH.nilR _ | refine SubH.pick (by repeat (first | exact HTake.here | apply HTake.there)) ?_))
theorem copyCheck_fresh (b : Nat) (v : Value) : TrD Tryz.prog 41 [lp b] [bldb b (.pointer none) v] unit [bldb b (lp b) v] := by
  refine Tr.start (n := 20) (rs := []) rfl rfl rfl rfl fun B => ?_
  (repeat' (first | refine k_seq ?_ | refine k_region ?_ | refine k_nil ?_ | refine k_then ?_ | refine k_true ?_ | refine s_move ?_ | refine s_load ?_ | refine s_field ?_ | refine s_nilp ?_ | refine s_eqp0 ?_))
  refine Ops.pure _ (p_tounsafe (b := b) (off := 0) (cs := [.pointer none, v]) (T := 52) (j := Tryz.t52) Tryz.underlying50 Tryz.underlying106 (by kernel_rfl) (by decide) (by rfl) (by repeat (first | exact HMem.here | apply HMem.skip | apply HMem.there)) (by simp)) (by rfl) ?_
  refine Ops.pure _ (p_extern (v := lp b) (r := lp b) (by rfl) (fun w => by kernel_rfl)) (by rfl) ?_
  refine Ops.pure _ (p_fromunsafe (b := b) (off := 0) (cs := [.pointer none, v]) (T := 52) (j := Tryz.t52) Tryz.underlying106 Tryz.underlying50 (by kernel_rfl) (by rfl) (by repeat (first | exact HMem.here | apply HMem.skip | apply HMem.there)) (by kernel_rfl)) (by rfl) ?_
  (repeat' (first | refine k_nil ?_ | refine s_field ?_ | refine s_nilp ?_ | refine s_store ?_))
  exact e_norm _ ⟨rfl, rfl⟩ (by repeat (first | exact SubH.nilR _ | refine SubH.pick (by repeat (first | exact HTake.here | apply HTake.there)) ?_))
theorem copyCheck_tr (b : Nat) (p v : Value) (hp : p = .pointer none ∨ p = lp b) : TrD Tryz.prog 41 [lp b] [bldb b p v] unit [bldb b (lp b) v] := by
  rcases hp with rfl | rfl
  · exact copyCheck_fresh b v
  · exact copyCheck_used b v

theorem bldByte_tr (b : Nat) (p v : Value) (l : List UInt8) (R : Blk) (c : UInt8) (hp : p = .pointer none ∨ p = lp b) (hR : Bys v l R) (hl : l.length ≤ 10000000) :
    Tr Tryz.prog 162 [lp b, .int .u8 c.toNat] [bldb b p v, R] fun u K => u = .nilIface ∧ ∃ v' R', Bys v' (l ++ [c]) R' ∧ K = [bldb b (lp b) v', R'] := by
  refine Tr.start (n := 17) (rs := [.tmp 4]) rfl rfl rfl rfl fun B => ?_
  (repeat' (first | refine s_callD (copyCheck_tr b p v hp) ?_ | refine k_seq ?_ | refine k_region ?_ | refine k_nil ?_ | refine k_then ?_ | refine s_move ?_ | refine s_assign ?_ | refine s_load ?_ | refine s_field ?_ | refine s_nilp ?_ | refine s_bsl1 (fun _ => ?_)))
  refine s_app hR (by omega) (fun v2 R2 h2 => ?_)
  have h2' : Bys v2 (l ++ [c]) R2 := Bys.app h2
  obtain ⟨g2, cap2, cur2, rfl, rfl, _⟩ := h2.pos
  (repeat' (first | refine k_seq ?_ | refine k_region ?_ | refine k_nil ?_ | refine k_then ?_ | refine k_ret ?_ | refine s_assign ?_ | refine s_field ?_ | refine s_nilp ?_ | refine s_store ?_))
  exact e_ret _ ⟨rfl, _, _, h2', rfl⟩ (by repeat (first | exact SubH.nilR _ | refine SubH.pick (by repeat (first | exact HTake.here | apply HTake.there)) ?_))

theorem bldStr_tr (b : Nat) (p v : Value) (l : List UInt8) (R : Blk) (s : List UInt8) (hp : p = .pointer none ∨ p = lp b) (hR : Bys v l R) (hs : s ≠ []) (hl : l.length + s.length ≤ 100000000) :
    Tr Tryz.prog 29 [lp b, str s] [bldb b p v, R] fun u K => u = .tuple #[inat s.length, .nilIface] ∧ ∃ v' R', Bys v' (l ++ s) R' ∧ K = [bldb b (lp b) v', R'] := by
  have hs1 : 1 ≤ s.length := by cases s with | nil => exact absurd rfl hs | cons _ _ => simp
  refine Tr.start (n := 19) (rs := [.tmp 4, .tmp 5]) rfl rfl rfl rfl fun B => ?_
  (repeat' (first | refine s_callD (copyCheck_tr b p v hp) ?_ | refine k_seq ?_ | refine k_region ?_ | refine k_nil ?_ | refine k_then ?_ | refine s_move ?_ | refine s_assign ?_ | refine s_load ?_ | refine s_field ?_ | refine s_nilp ?_))
  refine s_appstr hR hs (by omega) (fun v2 R2 h2 => ?_)
  have h2' : Bys v2 (l ++ s) R2 := Bys.app h2
  rw [show l.length + s.length = l.length + s.length - 1 + 1 by omega] at h2
  obtain ⟨g2, cap2, cur2, rfl, rfl, _⟩ := h2.pos
  (repeat' (first | refine k_seq ?_ | refine k_region ?_ | refine k_nil ?_ | refine k_then ?_ | refine k_ret ?_ | refine s_move ?_ | refine s_assign ?_ | refine s_field ?_ | refine s_nilp ?_ | refine s_lens ?_ | refine s_store ?_))
  exact e_ret _ ⟨rfl, _, _, h2', rfl⟩ (by repeat (first | exact SubH.nilR _ | refine SubH.pick (by repeat (first | exact HTake.here | apply HTake.there)) ?_))

theorem bldString_tr (b : Nat) (p v : Value) (l : List UInt8) (R : Blk) (hR : Bys v l R) (hne : l ≠ []) (hl : l.length ≤ 100000000) :
    Tr Tryz.prog 31 [lp b] [bldb b p v, R] fun u K => u = str l ∧ K = [] := by
  have hl1 : 1 ≤ l.length := by cases l with | nil => exact absurd rfl hne | cons _ _ => simp
  have hx' : Own 5 1 v (l.length - 1 + 1) (Lib.byteCells l) R := by rw [show l.length - 1 + 1 = l.length by omega]; exact hR
  obtain ⟨g, cap, cur, rfl, rfl, k1, k2, k3, k4⟩ := hx'.pos
  rw [show l.length - 1 + 1 = l.length by omega, Nat.mul_one] at k4
  rw [show l.length - 1 + 1 = l.length by omega]
  refine Tr.start (n := 14) (rs := [.tmp 2]) rfl rfl rfl rfl fun B => ?_
  (repeat' (first | refine Wp.draw_tail (id := 1) 10 Mixed.out (by kernel_rfl) ?_ | refine OpsS.pure _ (p_usd (by rfl) (by omega)) (by rfl) ?_ | refine k_seq ?_ | refine k_region ?_ | refine k_nil ?_ | refine k_then ?_ | refine s_assign ?_ | refine u_nil ?_ | refine u_move ?_ | refine u_load ?_ | refine u_field ?_ | refine u_nilp ?_ | refine u_len ?_))
  refine s_ustr (g := g) (cur := cur) (e := 5) (l := l) Tryz.underlying78 (by kernel_rfl) hne (by omega) (by omega) k4 ?_
  (repeat' (first | refine k_nil ?_ | refine k_then ?_ | refine k_ret ?_ | refine s_assign ?_))
  exact e_ret [] ⟨rfl, rfl⟩ (by repeat (first | exact SubH.nilR _ | refine SubH.pick (by repeat (first | exact HTake.here | apply HTake.there)) ?_))
theorem bldString_nil (b : Nat) (p : Value) :
    Tr Tryz.prog 31 [lp b] [bldb b p (.slice none 0 0), []] fun u K => u = str [] ∧ K = [] := by
  refine Tr.start (n := 14) (rs := [.tmp 2]) rfl rfl rfl rfl fun B => ?_
  (repeat' (first | refine Wp.draw_tail (id := 1) 10 Mixed.out (by kernel_rfl) ?_ | refine OpsS.pure _ (p_usd_nil (by rfl)) (by rfl) ?_ | refine k_seq ?_ | refine k_region ?_ | refine k_nil ?_ | refine k_then ?_ | refine s_assign ?_ | refine u_nil ?_ | refine u_move ?_ | refine u_load ?_ | refine u_field ?_ | refine u_nilp ?_ | refine u_len ?_))
  refine Ops.pure _ (p_ustr_nil (by rfl) (by rfl)) (by rfl) ?_
  (repeat' (first | refine k_nil ?_ | refine k_then ?_ | refine k_ret ?_ | refine s_assign ?_))
  exact e_ret [] ⟨rfl, rfl⟩ (by repeat (first | exact SubH.nilR _ | refine SubH.pick (by repeat (first | exact HTake.here | apply HTake.there)) ?_))

structure UB where
  j : Nat
  p : Value
  v : Value
  R : Blk
  o : List UInt8
end Go.Proofs

namespace Go.Proofs
open Go Go.Eng
set_option maxRecDepth 20000
set_option maxHeartbeats 4000000

abbrev tildes (K : Nat) : List UInt8 := List.replicate K 126
theorem tildes_len (K : Nat) : (tildes K).length = K := List.length_replicate
theorem at0_tildes {K j : Nat} (h : j < K) : at0 (tildes K) j = 126 := by
  have : (tildes K)[j]? = some 126 := by simp [List.getElem?_replicate, h]
  rw [at0_some this]; rfl
theorem at0_cons {a c : UInt8} {l : List UInt8} : at0 (a :: l) 0 = a.toNat := rfl

/-- A line between the fences. -/
structure FLine (K : Nat) (tx : List UInt8) : Prop where
  nt : NoTab tx
  len : tx.length ≤ 10000
  few : ∃ j, j < K ∧ at0 tx (sp3 0 tx + j) ≠ 126
  c : ∀ d ∈ tx, d ≠ 10 ∧ d ≠ 13 ∧ d ≠ 0

/-- The text behind a fence of K tildes, and the lines of the code in it. -/
inductive Body (K : Nat) : List UInt8 → List (List UInt8) → Prop
  | nil : Body K [] []
  | close : Body K (tildes K ++ [10]) []
  | last (l : List UInt8) : FLine K l → l ≠ [] → Body K l [l]
  | cons (l t : List UInt8) (ls : List (List UInt8)) : FLine K l → Body K t ls → Body K (l ++ 10 :: t) (l :: ls)

/-! A text's lines. -/
def spl : List UInt8 → List (List UInt8)
  | [] => [[]]
  | c :: l => if c = 10 then [] :: spl l else match spl l with | a :: r => (c :: a) :: r | [] => [[c]]
abbrev lnd (ls : List (List UInt8)) : List UInt8 := ls.flatMap (fun l => l ++ [10])
theorem spl_ten (l : List UInt8) : spl (10 :: l) = [] :: spl l := by simp [spl]
theorem spl_ne : ∀ s, spl s ≠ []
  | [] => by simp [spl]
  | c :: l => by
    by_cases h : c = 10
    · subst h; simp [spl]
    · simp only [spl, if_neg h]; split <;> simp
theorem spl_cons {c : UInt8} {l a : List UInt8} {r : List (List UInt8)} (h : c ≠ 10) (hs : spl l = a :: r) : spl (c :: l) = (c :: a) :: r := by simp only [spl, if_neg h, hs]
theorem spl_some (s : List UInt8) : ∃ a r, spl s = a :: r := by
  cases h : spl s with
  | nil => exact absurd h (spl_ne s)
  | cons a r => exact ⟨a, r, rfl⟩
theorem spl_lnd : ∀ s, lnd (spl s) = s ++ [10]
  | [] => rfl
  | c :: l => by
    have ih := spl_lnd l
    by_cases h : c = 10
    · subst h; rw [spl_ten]; simp only [lnd, List.flatMap_cons, List.nil_append, List.cons_append] at ih ⊢; rw [ih]
    · obtain ⟨a, r, hs⟩ := spl_some l
      rw [spl_cons h hs]; rw [hs] at ih
      simp only [lnd, List.flatMap_cons, List.cons_append] at ih ⊢; rw [ih]
theorem spl_no : ∀ s, ∀ l ∈ spl s, ∀ d ∈ l, d ≠ 10
  | [], l, hl, d, hd => by simp [spl] at hl; subst hl; simp at hd
  | c :: s, l, hl, d, hd => by
    by_cases h : c = 10
    · subst h; rw [spl_ten] at hl
      rcases List.mem_cons.1 hl with rfl | hl
      · simp at hd
      · exact spl_no s l hl d hd
    · obtain ⟨a, r, hs⟩ := spl_some s
      rw [spl_cons h hs] at hl
      have ih := spl_no s
      rw [hs] at ih
      rcases List.mem_cons.1 hl with rfl | hl
      · rcases List.mem_cons.1 hd with rfl | hd
        · exact h
        · exact ih a (by simp) d hd
      · exact ih l (List.mem_cons_of_mem _ hl) d hd
theorem spl_head : ∀ (s a : List UInt8) (r : List (List UInt8)), spl s = a :: r → a <+: s
  | [], a, r, h => by simp [spl] at h; obtain ⟨rfl, _⟩ := h; exact List.prefix_refl _
  | c :: s, a, r, h => by
    by_cases hc : c = 10
    · subst hc; rw [spl_ten] at h; injection h with h1 h2; subst h1; exact List.nil_prefix
    · obtain ⟨a', r', hs⟩ := spl_some s
      rw [spl_cons hc hs] at h
      injection h with h1 h2
      subst h1
      exact (List.cons_prefix_cons).2 ⟨rfl, spl_head s a' r' hs⟩
theorem spl_infix : ∀ s, ∀ l ∈ spl s, l <:+: s
  | [], l, hl => by simp [spl] at hl; subst hl; exact List.infix_refl _
  | c :: s, l, hl => by
    obtain ⟨a, r, hs⟩ := spl_some s
    have ih := spl_infix s
    by_cases hc : c = 10
    · subst hc; rw [spl_ten] at hl
      rcases List.mem_cons.1 hl with rfl | hl
      · exact List.nil_infix
      · exact List.infix_cons (ih l hl)
    · have h0 := spl_cons hc hs
      rw [h0] at hl
      rcases List.mem_cons.1 hl with rfl | hl
      · exact (spl_head _ _ _ h0).isInfix
      · exact List.infix_cons (ih l (by rw [hs]; exact List.mem_cons_of_mem _ hl))

theorem body_lnd {K : Nat} {t : List UInt8} {ts : List (List UInt8)} (hb : Body K t ts) : ∀ ls : List (List UInt8), (∀ l ∈ ls, FLine K l) → Body K (lnd ls ++ t) (ls ++ ts)
  | [], _ => hb
  | l :: ls, h => by
    have := Body.cons l _ _ (h l (by simp)) (body_lnd hb ls (fun x hx => h x (List.mem_cons_of_mem _ hx)))
    simpa [lnd] using this
theorem body_last {K : Nat} {s : List UInt8} (hs : s ≠ []) (h10 : s[s.length - 1]? ≠ some 10) (h : ∀ l ∈ spl s, FLine K l) : Body K s (spl s) := by
  obtain ⟨ls, l, e⟩ : ∃ ls l, spl s = ls ++ [l] := ⟨(spl s).dropLast, (spl s).getLast (spl_ne s), (List.dropLast_concat_getLast (spl_ne s)).symm⟩
  have h1 := spl_lnd s
  rw [e] at h1
  have h2 : lnd ls ++ l = s := by
    have : (lnd ls ++ l) ++ [10] = s ++ [10] := by rw [← h1]; simp [lnd]
    exact List.append_cancel_right this
  have hl : l ≠ [] := by
    intro h0
    subst h0
    rw [List.append_nil] at h2
    have hls : ls ≠ [] := by intro h3; subst h3; exact hs h2.symm
    obtain ⟨ls', x, rfl⟩ : ∃ ls' x, ls = ls' ++ [x] := ⟨ls.dropLast, ls.getLast hls, (List.dropLast_concat_getLast hls).symm⟩
    apply h10
    rw [← h2]
    have e2 : lnd (ls' ++ [x]) = (lnd ls' ++ x) ++ [10] := by simp [lnd]
    rw [e2, List.length_append, List.length_singleton, Nat.add_sub_cancel, List.getElem?_append_right (Nat.le_refl _), Nat.sub_self]
    rfl
  have hb := body_lnd (Body.last l (h l (by rw [e]; simp)) hl) ls (fun x hx => h x (by rw [e]; simp [hx]))
  rw [h2, ← e] at hb
  exact hb

/-- A text whose lines stand between fences of K tildes. -/
structure FText (K : Nat) (s : List UInt8) : Prop where
  len : s.length ≤ 5000
  c : ∀ d ∈ s, d = 10 ∨ 32 ≤ d.toNat ∧ d.toNat ≤ 126
  few : ¬ tildes K <:+: s
theorem FText.line {K : Nat} {s : List UInt8} (h : FText K s) (l : List UInt8) (hl : l ∈ spl s) : FLine K l := by
  have h1 := spl_infix s l hl
  have h2 := spl_no s l hl
  have hm : ∀ d ∈ l, d = 10 ∨ 32 ≤ d.toNat ∧ d.toNat ≤ 126 := fun d hd => h.c d (h1.mem hd)
  have h3 : ∀ d ∈ l, 32 ≤ d.toNat ∧ d.toNat ≤ 126 := fun d hd => (hm d hd).resolve_left (h2 d hd)
  refine ⟨fun d hd => by have := h3 d hd; omega, by have := h1.length_le; have := h.len; omega, ?_, fun d hd => ⟨h2 d hd, ?_, ?_⟩⟩
  · refine Classical.byContradiction fun hn => h.few ?_
    have hn' : ∀ j, j < K → at0 l (sp3 0 l + j) = 126 := fun j hj => Classical.byContradiction fun h0 => hn ⟨j, hj, h0⟩
    have hpre : tildes K <+: l.drop (sp3 0 l) := by
      refine List.prefix_iff_getElem?.2 fun i hi => ?_
      rw [tildes_len] at hi
      have h4 := hn' i hi
      rw [List.getElem_replicate, List.getElem?_drop]
      unfold at0 at h4
      split at h4
      · rename_i c hc
        rw [hc]; congr 1; exact UInt8.toNat_inj.1 (h4.trans rfl)
      · cases h4
    exact (hpre.isInfix.trans (List.drop_suffix _ _).isInfix).trans h1
  · intro e; subst e; have := h3 13 hd; exact absurd this (by decide)
  · intro e; subst e; have := h3 0 hd; exact absurd this (by decide)

/-- The HTML of code. -/
abbrev codeOut (ls : List (List UInt8)) : List UInt8 := [60, 112, 114, 101, 62, 60, 99, 111, 100, 101, 62] ++ ls.flatMap (fun l => escH l ++ [10]) ++ [60, 47, 99, 111, 100, 101, 62, 60, 47, 112, 114, 101, 62, 10]
theorem esc_lnd : ∀ ls : List (List UInt8), ls.flatMap (fun l => escH l ++ [10]) = escH (lnd ls)
  | [] => rfl
  | l :: ls => by
    have ih := esc_lnd ls
    simp only [lnd, List.flatMap_cons] at ih ⊢
    rw [ih]
    simp only [escH, List.flatMap_append]
    rfl
theorem codeOut_spl (s : List UInt8) : codeOut (spl s) = [60, 112, 114, 101, 62, 60, 99, 111, 100, 101, 62] ++ escH s ++ [10, 60, 47, 99, 111, 100, 101, 62, 60, 47, 112, 114, 101, 62, 10] := by
  unfold codeOut
  rw [esc_lnd, spl_lnd]
  simp only [escH, List.flatMap_append, List.append_assoc]
  rfl

/-! The longest run of tildes. -/
def lngStep (x : Nat × Nat) (c : UInt8) : Nat × Nat := let n := if c.toNat = 126 then x.2 + 1 else 0; (max x.1 n, n)
abbrev lngF (s : List UInt8) : Nat × Nat := s.foldl lngStep (0, 0)
theorem lng_mono : ∀ (s : List UInt8) (x : Nat × Nat), x.1 ≤ (s.foldl lngStep x).1
  | [], x => Nat.le_refl _
  | c :: s, x => by
    have := lng_mono s (lngStep x c)
    have h : x.1 ≤ (lngStep x c).1 := Nat.le_max_left _ _
    exact Nat.le_trans h this
theorem lng_run : ∀ (k : Nat) (x : Nat × Nat), x.2 ≤ x.1 → x.2 + k ≤ ((tildes k).foldl lngStep x).1
  | 0, x, h => by simpa using h
  | k + 1, x, h => by
    have e : lngStep x 126 = (max x.1 (x.2 + 1), x.2 + 1) := rfl
    have h1 := lng_run k (lngStep x 126) (by rw [e]; exact Nat.le_max_right _ _)
    show x.2 + (k + 1) ≤ ((tildes k).foldl lngStep (lngStep x 126)).1
    have h2 : (lngStep x 126).2 = x.2 + 1 := rfl
    omega
theorem lng_le : ∀ (s : List UInt8) (x : Nat × Nat), x.2 ≤ x.1 → (s.foldl lngStep x).2 ≤ (s.foldl lngStep x).1
  | [], x, h => h
  | c :: s, x, h => lng_le s (lngStep x c) (Nat.le_max_right _ _)
theorem lng_infix {k : Nat} {s : List UInt8} (h : tildes k <:+: s) : k ≤ (lngF s).1 := by
  obtain ⟨p, q, rfl⟩ := h
  unfold lngF
  rw [List.foldl_append, List.foldl_append]
  have h1 := lng_run k (p.foldl lngStep (0, 0)) (lng_le p (0, 0) (Nat.le_refl _))
  have h2 := lng_mono q ((tildes k).foldl lngStep (p.foldl lngStep (0, 0)))
  omega
theorem lng_len : ∀ (s : List UInt8) (x : Nat × Nat), x.2 ≤ x.1 → (s.foldl lngStep x).1 ≤ x.1 + s.length
  | [], x, _ => Nat.le_refl _
  | c :: s, x, h => by
    have h1 := lng_len s (lngStep x c) (Nat.le_max_right _ _)
    have h2 : (lngStep x c).1 ≤ x.1 + 1 := by
      unfold lngStep; simp only; split <;> omega
    simp only [List.foldl_cons, List.length_cons]; omega
theorem lng_few {K : Nat} {s : List UInt8} (h : (lngF s).1 < K) : ¬ tildes K <:+: s := fun hi => by have := lng_infix hi; omega
theorem lngF_snoc {s : List UInt8} {j : Nat} {c : UInt8} (h : s[j]? = some c) : lngF (s.take (j + 1)) = lngStep (lngF (s.take j)) c := by
  obtain ⟨h1, h2⟩ := List.getElem?_eq_some_iff.1 h
  unfold lngF
  rw [List.take_succ_eq_append_getElem h1, h2, List.foldl_append]; rfl
theorem few_of_no {K : Nat} (hK : 1 ≤ K) {s : List UInt8} (h : ∀ d ∈ s, d ≠ 126) : ¬ tildes K <:+: s := fun hi => by
  have : (126 : UInt8) ∈ tildes K := by simp [tildes]; omega
  exact h 126 (hi.mem this) rfl
end Go.Proofs

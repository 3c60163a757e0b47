/- newPara at a further line. Conditions: no table option. -/
import Derived.Test.YtblaoglgknjepaaGreatDoorW8
namespace Go.Proofs
open Go Go.Eng
set_option maxRecDepth 20000
set_option maxHeartbeats 4000000

/-- The last lines of the blocks from 'd' on are set. -/
def ends (cs : List Value) (d : Nat) (v : Value) : Nat → List Value
  | 0 => cs
  | j + 1 => (ends cs d v j).set (0 + (d + j) * 4 + 2 + 1) v
theorem ends_len (cs : List Value) (d : Nat) (v : Value) : ∀ j, (ends cs d v j).length = cs.length
  | 0 => rfl
  | j + 1 => by rw [ends, List.length_set, ends_len]
theorem ends_take (cs : List Value) (d : Nat) (v : Value) (n : Nat) : ∀ j, (ends cs d v j).take n = ends (cs.take n) d v j
  | 0 => rfl
  | j + 1 => by rw [ends, List.take_set, ends_take cs d v n j]; rfl

theorem newPara_more (p g d m cap pr pb : Nat) (o : PO) (s : PS) (xs cur : List Value) (ln i : Nat) (tv : Value) (l : List (List UInt8)) (Bt : Blk) (tx : List UInt8) (nl : Nat) (hl : tx.length ≤ 140737488355328) (hi : i ≤ tx.length) (hd : d + 1 ≤ m) (hm : m ≤ 100000) (hll : l.length ≤ 100000000)
    (hO : Stk (stk g m cap) m xs (stb g cur)) (hb : xs[(m - 1) * 4]? = some (.iface 129 (lp pb))) (hT : Strs tv l Bt)
    (hs : s.stack = stk g m cap) (hdep : s.depth = inat d) (hln : s.lineno = inat ln) (hpar : s.par = lp pr) (htab : o.table = false) :
    Tr Tryz.prog 35 [lp p, lnv i tx nl] [s.blk p, stb g cur, o.blk pr, pbb pb tv, Bt] fun u K => u = .tuple #[lnv 0 [] 0, .bool true] ∧ ∃ cur' tv' Bt', Stk (stk g m cap) m (ends xs d (inat ln) (m - d)) (stb g cur') ∧
      Strs tv' (l ++ [ltrim (tx.drop i)]) Bt' ∧ K = [s.blk p, stb g cur', o.blk pr, pbb pb tv', Bt'] := by
  obtain ⟨par, root, links, lineno, stack, depth, corner, str, em, list, lists, texts, bt⟩ := s
  obtain ⟨o1, o2, o3, o4, o5, o6, o7, o8, o9, o10⟩ := o
  subst hs; subst hdep; subst hln; subst hpar; subst htab
  have hb' : cur[0 + (m - 1) * 4 + 0]? = some (.iface 129 (lp pb)) := by
    rw [show 0 + (m - 1) * 4 + 0 = (m - 1) * 4 by omega]; exact hO.get hb
  obtain ⟨v1, v2, v3, v4⟩ := hO.view
  refine Tr.start (n := 175) (rs := [.cell 4 73, .tmp 5]) rfl rfl rfl rfl fun B => ?_
  (repeat' (first | refine Wp.draw_all (id := 2) Mixed.out (by kernel_rfl) ?_ | refine Wp.draw_tail (id := 9) 36 Mixed.out (by kernel_rfl) ?_ | refine s_callD (para_yes p g m cap _ cur _ (by omega) (by omega) hb' rfl) ?_ | refine s_callD (trimSpaceString_tr _ i tx nl hl hi) ?_ | refine k_seq ?_ | refine k_region ?_ | refine k_nil ?_ | refine k_then ?_ | refine k_true ?_ | refine k_false ?_ | refine k_skip ?_ | refine s_grun ?_ | refine s_gskipt ?_ | refine s_move ?_ | refine s_assign ?_ | refine s_load ?_ | refine s_field ?_ | refine s_nilp ?_ | refine s_pickt ?_ | refine s_pickf ?_ | refine s_nep0 ?_ | refine s_nep1 ?_ | refine s_alloc (fun _ => ?_) | refine s_box (fun _ => ?_) | refine u_nil ?_ | refine u_gskipt ?_ | refine u_move ?_ | refine u_assign ?_ | refine u_load ?_ | refine u_field ?_ | refine u_nilp ?_ | refine u_eql ?_ | refine u_pickf ?_ | refine u_len ?_ | refine u_subz ?_))
  rename_i r3 r4
  have hends : ∀ j, (ends cur d (inat ln) j).length = cap * 4 := fun j => by rw [ends_len, v3]
  refine k_mid [(0, lp p), (4, lp r4), (6, lp pb), (8, Eng.str (ltrim (tx.drop i)))]
    [(⟨lp pr, root, links, inat ln, stk g m cap, inat d, corner, str, em, list, lists, texts, bt⟩ : PS).blk p, stb g (ends cur d (inat ln) (m - d)), (⟨o1, o2, o3, o4, o5, false, o7, o8, o9, o10⟩ : PO).blk pr, pbb pb tv, Bt, lnb r4 0 [] 0] ?_ ?_
  · (repeat' (first | refine k_blk ?_))
    refine k_loop (fun j : Nat => [(0, lp p), (4, lp r4), (6, lp pb), (8, Eng.str (ltrim (tx.drop i))), (11, inat (d + j))])
      (fun j => [(⟨lp pr, root, links, inat ln, stk g m cap, inat d, corner, str, em, list, lists, texts, bt⟩ : PS).blk p, stb g (ends cur d (inat ln) j), (⟨o1, o2, o3, o4, o5, false, o7, o8, o9, o10⟩ : PO).blk pr, pbb pb tv, Bt, lnb r4 0 [] 0]) (fun j => d + j ≤ m) (fun j => m - (d + j)) 0 (by omega) (Knows.spec (by repeat (first | exact trivial | refine ⟨rfl, ?_⟩))) (by repeat (first | exact SubH.nilR _ | refine SubH.pick (by repeat (first | exact HTake.here | apply HTake.there)) ?_)) fun j hj => ?_
    have hej := hends j
    by_cases hjm : d + j < m
    · (repeat' (first | refine Wp.draw_tail (id := 21) 9 Mixed.out (by kernel_rfl) ?_ | refine s_storeg ?_ | refine k_seq ?_ | refine k_region ?_ | refine k_nil ?_ | refine k_then ?_ | refine k_true ?_ | refine k_blk ?_ | refine k_skip ?_ | refine k_block ?_ | refine s_move ?_ | refine s_assign ?_ | refine s_load ?_ | refine s_field ?_ | refine s_nilp ?_ | refine s_add1 ?_ | refine s_lss_t ?_ | refine s_len ?_ | refine s_idxa ?_ | refine u_nil ?_ | refine u_move ?_ | refine u_load ?_ | refine u_field ?_ | refine u_nilp ?_))
      exact ⟨j + 1, (Knows.spec (by repeat (first | exact trivial | refine ⟨rfl, ?_⟩))), (by repeat (first | exact SubH.nilR _ | refine SubH.pick (by repeat (first | exact HTake.here | apply HTake.there)) ?_)), by omega, by omega⟩
    · have : m - d = j := by omega
      rw [this]
      (repeat' (first | refine k_seq ?_ | refine k_region ?_ | refine k_nil ?_ | refine k_then ?_ | refine k_false ?_ | refine k_exit ?_ | refine k_exit_then ?_ | refine k_hit ?_ | refine s_move ?_ | refine s_load ?_ | refine s_field ?_ | refine s_nilp ?_ | refine s_lss_f ?_ | refine s_len ?_))
      exact ⟨(by repeat (first | exact trivial | refine ⟨rfl, ?_⟩)), (by repeat (first | exact SubH.nilR _ | refine SubH.pick (by repeat (first | exact HTake.here | apply HTake.there)) ?_))⟩
  · (repeat' (first | refine k_seq ?_ | refine k_region ?_ | refine s_move ?_ | refine s_load ?_ | refine s_field ?_ | refine s_nilp ?_ | refine s_bsl1 (fun _ => ?_)))
    refine s_app hT (by simpa using (by omega : l.length ≤ 1000000000)) (fun v' Bk' hT' => ?_)
    obtain ⟨g2, cap2, cur2, rfl, rfl, h1, h2, h3, h4⟩ := hT'.pos
    (repeat' (first | refine k_seq ?_ | refine k_region ?_ | refine k_nil ?_ | refine k_then ?_ | refine k_ret ?_ | refine s_assign ?_ | refine s_field ?_ | refine s_nilp ?_ | refine s_store ?_ | refine s_storea ?_ | refine s_build ?_))
    have h9 := Own.mk' (E := 88) (g := g) (cur := ends cur d (inat ln) (m - d)) v1 v2 (hends _)
    rw [ends_take, v4] at h9
    refine e_ret _ ⟨rfl, _, _, _, h9, ?_, rfl⟩ (by repeat (first | exact SubH.nilR _ | refine SubH.pick (by repeat (first | exact HTake.here | apply HTake.there)) ?_))
    simpa [Strs] using hT'
end Go.Proofs

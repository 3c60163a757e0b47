/- addLine at a further line of a paragraph. Conditions: PLine. -/
import Derived.Test.YtblaoglgknjepaaGreatDoorW10
namespace Go.Proofs
open Go Go.Eng
set_option maxRecDepth 20000
set_option maxHeartbeats 4000000
theorem stood : Tryz.prog.stoodInHeld 73 = false := by kernel_rfl
theorem eq_int (d0 : Nat) (a : Int) (w : World) : (Op.equalIn (d0 + 1) 3 (.int .i64 a) (.int .i64 a)).run Tryz.prog w = .ok true w := by
  rw [Op.equalIn]; simp [underlying, Tryz.underlying3]
theorem eq_u8 (d0 : Nat) (a : Int) (w : World) : (Op.equalIn (d0 + 1) 5 (.int .u8 a) (.int .u8 a)).run Tryz.prog w = .ok true w := by
  rw [Op.equalIn]; simp [underlying, Tryz.underlying5]
theorem eq_str (d0 : Nat) (l : List UInt8) (w : World) : (Op.equalIn (d0 + 1) 9 (str l) (str l)).run Tryz.prog w = .ok true w := by
  rw [Op.equalIn]; simp [underlying, Tryz.underlying9]; show (l.toArray == l.toArray) = true; simp
theorem eq_line (a b c : Int) (l : List UInt8) (d : Int) (w : World) : (Op.equalIn (9999 + 1) 73 (.agg #[.int .i64 a, .int .i64 b, .int .i64 c, str l, .int .u8 d]) (.agg #[.int .i64 a, .int .i64 b, .int .i64 c, str l, .int .u8 d])).run Tryz.prog w = .ok true w := by
  rw [Op.equalIn]
  have h1 := fun a w => eq_int 9998 a w
  have h2 := fun a w => eq_u8 9998 a w
  have h3 := fun a w => eq_str 9998 a w
  simp only [Nat.reduceAdd] at h1 h2 h3
  simp [underlying, Tryz.underlying73, stood, part, isAgg, Tryz.underlying3, Tryz.underlying9, Tryz.underlying5, h1, h2, h3]
theorem nog : Tryz.prog.eqGuardType Tryz.prog.depth 73 = false := by kernel_rfl
theorem q_ne_line {L : Eng.Loc} {H : Heap} {x y : Operand} {ty yt : TypeId} {a b c : Int} {l : List UInt8} {d : Int} (hx : ev L x = some (.agg [.int .i64 a, .int .i64 b, .int .i64 c, str l, .int .u8 d].toArray)) (hy : ev L y = some (.agg [.int .i64 a, .int .i64 b, .int .i64 c, str l, .int .u8 d].toArray)) :
    Pure1 Tryz.prog L H (.binOp .neq 73 x y yt) ty (.bool false) :=
  p_bin hx hy fun w => by
    have h := run_nequal_step (P := Tryz.prog) (fun w => eq_line a b c l d w) rfl w
    simp [eqGuard, nog]
    exact h
theorem s_neline {B : Base} {n : Nat} {L : Eng.Loc} {H : Heap} {Q : Eng.Post} {all : Array Oper} {rest : List Oper} {dd : Nat} {ty : TypeId} {pos : String} {after : Array Edge} {x y : Operand} {yt : TypeId} {a b c : Int} {l : List UInt8} {d : Int} (h : Ops Tryz.prog B n all rest ((dd, .bool false) :: L) H Q)
    (hx : ev L x = some (.agg [.int .i64 a, .int .i64 b, .int .i64 c, str l, .int .u8 d].toArray) := by rfl) (hy : ev L y = some (.agg [.int .i64 a, .int .i64 b, .int .i64 c, str l, .int .u8 d].toArray) := by rfl) (hd : Nat.blt dd n = true := by rfl) :
    Ops Tryz.prog B n all (⟨some dd, .binOp .neq 73 x y yt, ty, pos, after, none⟩ :: rest) L H Q := Ops.pure _ (q_ne_line hx hy) hd h

theorem extend_tr (v p : Value) (i : Nat) (tx : List UInt8) (nl : Nat) : TrP Tryz.prog 267 [v, p, lnv i tx nl] (.tuple #[lnv i tx nl, .bool false]) := by
  refine Tr.start (n := 9) (rs := [.cell 6 73, .tmp 7]) rfl rfl rfl rfl fun B => ?_
  (repeat' (first | refine k_seq ?_ | refine k_region ?_ | refine k_nil ?_ | refine k_then ?_ | refine k_ret ?_ | refine s_assign ?_ | refine s_loada ?_ | refine s_storea ?_ | refine s_alloc (fun _ => ?_) | refine s_box (fun _ => ?_)))
  exact e_pure ⟨rfl, rfl⟩

theorem addLine_more (p g cap pr pb : Nat) (o : PO) (s : PS) (cur : List Value) (bty : Nat) (bv e1 e2 e3 f1 f2 f3 tv : Value) (l : List (List UInt8)) (Bt : Blk) (ln : Nat) (tx : List UInt8) (nl : Nat) (hp : PLine 0 tx) (hll : l.length ≤ 100000000)
    (hO : Stk (stk g 2 cap) 2 [.iface bty bv, e1, e2, e3, .iface 129 (lp pb), f1, f2, f3] (stb g cur)) (hT : Strs tv l Bt) (ht2 : Nat.beq bty 215 = false)
    (hs : s.stack = stk g 2 cap) (hln : s.lineno = inat ln) (hpar : s.par = lp pr) (htab : o.table = false) :
    Tr Tryz.prog 28 [lp p, lnv 0 tx nl] [s.blk p, stb g cur, o.blk pr, pbb pb tv, Bt] fun u K => u = unit ∧ ∃ cur' tv' Bt', Stk (stk g 2 cap) 2 [.iface bty bv, e1, e2, inat ln, .iface 129 (lp pb), f1, f2, inat ln] (stb g cur') ∧
      Strs tv' (l ++ [ltrim tx]) Bt' ∧ K = [({ s with depth := inat 0 } : PS).blk p, stb g cur', o.blk pr, pbb pb tv', Bt'] := by
  obtain ⟨par, root, links, lineno, stack, depth, corner, str, em, list, lists, texts, bt⟩ := s
  subst hs; subst hln; subst hpar
  obtain ⟨v1, v2, v3, v4⟩ := hO.view
  have hb0 : cur[0 + 0 * 4 + 0]? = some (.iface bty bv) := hO.get rfl
  have hb : cur[0 + (2 - 1) * 4 + 0]? = some (.iface 129 (lp pb)) := hO.get rfl
  have hb1 : cur[0 + (0 + 1) * 4 + 0]? = some (.iface 129 (lp pb)) := hO.get rfl
  refine Tr.start (n := 113) (rs := []) rfl rfl rfl rfl fun B => ?_
  (repeat' (first | refine k_seq ?_ | refine k_region ?_ | refine k_nil ?_ | refine k_then ?_ | refine k_scope ?_ | refine s_move ?_ | refine s_field ?_ | refine s_nilp ?_ | refine s_store ?_ | refine s_box (fun _ => ?_)))
  rename_i r3
  refine k_mid [(0, lp p), (3, lp r3)] [(⟨lp pr, root, links, inat ln, stk g 2 cap, inat 0, corner, str, em, list, lists, texts, bt⟩ : PS).blk p, stb g cur, o.blk pr, pbb pb tv, Bt, lnb r3 0 tx nl] ?_ ?_
  · (repeat' (first | refine k_blk ?_))
    refine k_loop (fun _ : Nat => [(0, lp p), (3, lp r3)]) (fun _ => [(⟨lp pr, root, links, inat ln, stk g 2 cap, inat 0, corner, str, em, list, lists, texts, bt⟩ : PS).blk p, stb g cur, o.blk pr, pbb pb tv, Bt, lnb r3 0 tx nl]) (fun _ => True) (fun _ => 0) 0 trivial (Knows.spec (by repeat (first | exact trivial | refine ⟨rfl, ?_⟩))) (by repeat (first | exact SubH.nilR _ | refine SubH.pick (by repeat (first | exact HTake.here | apply HTake.there)) ?_)) fun k hk => ?_
    (repeat' (first | refine Wp.draw_all (id := 2) Mixed.out (by kernel_rfl) ?_ | refine Wp.draw_tree (id := 6) 14 6 Mixed.out (by kernel_rfl) rfl ?_ | refine u_load (hc := hb1) ?_ | refine k_seq ?_ | refine k_region ?_ | refine k_nil ?_ | refine k_then ?_ | refine k_true ?_ | refine k_blk ?_ | refine k_skip ?_ | refine s_assign ?_ | refine s_loada ?_ | refine s_storea ?_ | refine s_alloc (fun _ => ?_) | refine u_nil ?_ | refine u_move ?_ | refine u_load ?_ | refine u_field ?_ | refine u_nilp ?_ | refine u_add1 ?_ | refine u_lss_t ?_ | refine u_len ?_ | refine u_idxa ?_ | refine u_loada ?_))
    refine OpsA.only 14 _ (by kernel_rfl) rfl ?_
    (repeat' (first | refine s_invD (extend_tr _ _ 0 tx nl) ?_ | refine k_nil ?_ | refine k_then ?_))
    refine OpsA.only 15 _ (by kernel_rfl) rfl ?_
    (repeat' (first | refine k_nil ?_ | refine k_then ?_ | refine s_move ?_))
    refine OpsA.first 16 _ (by kernel_rfl) rfl (by kernel_rfl) (by kernel_rfl) rfl (p_extract rfl rfl) ?_
    refine OpsA.first 17 _ (by kernel_rfl) rfl (by kernel_rfl) (by kernel_rfl) rfl (p_extract rfl rfl) ?_
    refine OpsA.only 18 _ (by kernel_rfl) rfl ?_
    (repeat' (first | refine k_nil ?_ | refine k_then ?_ | refine s_storea ?_))
    refine OpsA.only 19 _ (by kernel_rfl) rfl ?_
    (repeat' (first | refine k_nil ?_ | refine k_then ?_ | refine s_assign ?_))
    refine OpsA.nil (by kernel_rfl) ?_
    (repeat' (first | refine s_callD (isBlank_tr _ 0 tx nl hp.len hp.le false (decide_eq_false hp.ink).symm) ?_ | refine s_neline ?_ | refine k_seq ?_ | refine k_region ?_ | refine k_nil ?_ | refine k_then ?_ | refine k_true ?_ | refine k_false ?_ | refine k_skip ?_ | refine k_exit ?_ | refine k_exit_then ?_ | refine k_hit ?_ | refine k_miss ?_ | refine s_grun ?_ | refine s_move ?_ | refine s_pickt ?_ | refine s_pickf ?_ | refine s_notf ?_ | refine s_loada ?_))
    exact ⟨(by repeat (first | exact trivial | refine ⟨rfl, ?_⟩)), (by repeat (first | exact SubH.nilR _ | refine SubH.pick (by repeat (first | exact HTake.here | apply HTake.there)) ?_))⟩
  · (repeat' (first | refine s_callD (isBlank_tr r3 0 tx nl hp.len hp.le false (decide_eq_false hp.ink).symm) ?_ | refine k_seq ?_ | refine k_region ?_ | refine k_nil ?_ | refine k_then ?_ | refine k_false ?_ | refine k_skip ?_ | refine k_label ?_))
    refine s_call news_tr (fun u K hR => ?_)
    obtain ⟨rn, rfl, rfl⟩ := hR
    (repeat' (first | refine k_nil ?_ | refine k_then ?_ | refine s_move ?_ | refine s_len ?_))
    refine k_mid [(0, lp p), (3, lp r3)] [(⟨lp pr, root, links, inat ln, stk g 2 cap, inat 0, corner, str, em, list, lists, texts, bt⟩ : PS).blk p, stb g cur, o.blk pr, pbb pb tv, Bt, lnb r3 0 tx nl] ?_ ?_
    · (repeat' (first | refine k_blk ?_))
      refine k_loop (fun k : Nat => [(0, lp p), (3, lp r3), (86, .slice (some ⟨rn, 0, none⟩) 8 8), (87, inat 8), (88, inat k)]) (fun _ => [(⟨lp pr, root, links, inat ln, stk g 2 cap, inat 0, corner, str, em, list, lists, texts, bt⟩ : PS).blk p, stb g cur, o.blk pr, pbb pb tv, Bt, lnb r3 0 tx nl, [(rn, cellsOf newsL 91)]])
        (fun k => k ≤ 8) (fun k => 8 - k) 0 (by omega) (Knows.spec (by repeat (first | exact trivial | refine ⟨rfl, ?_⟩))) (by repeat (first | exact SubH.nilR _ | refine SubH.pick (by repeat (first | exact HTake.here | apply HTake.there)) ?_)) fun k hk => ?_
      rcases (by omega : k = 0 ∨ k = 1 ∨ k = 2 ∨ k = 3 ∨ k = 4 ∨ k = 5 ∨ k = 6 ∨ k = 7 ∨ k = 8) with rfl | rfl | rfl | rfl | rfl | rfl | rfl | rfl | rfl
      · (repeat' (first | refine s_valD (newQuote_no (lp p) 0 tx nl hp.nt hp.len hp.le hp.quote) ?_ | refine k_seq ?_ | refine k_region ?_ | refine k_nil ?_ | refine k_then ?_ | refine k_true ?_ | refine k_false ?_ | refine k_blk ?_ | refine k_skip ?_ | refine k_block ?_ | refine s_move ?_ | refine s_assign ?_ | refine s_load ?_ | refine s_add1 ?_ | refine s_lss_t ?_ | refine s_ext ?_ | refine s_idxa ?_ | refine s_loada ?_ | refine s_storea ?_ | refine s_alloc (fun _ => ?_)))
        exact ⟨1, (Knows.spec (by repeat (first | exact trivial | refine ⟨rfl, ?_⟩))), (by repeat (first | exact SubH.nilR _ | refine SubH.pick (by repeat (first | exact HTake.here | apply HTake.there)) ?_)), by omega, by omega⟩
      · (repeat' (first | refine s_valD (newATX_no (lp p) 0 tx nl (fun q nq nv => hp.atx nl q nq nv)) ?_ | refine k_seq ?_ | refine k_region ?_ | refine k_nil ?_ | refine k_then ?_ | refine k_true ?_ | refine k_false ?_ | refine k_blk ?_ | refine k_skip ?_ | refine k_block ?_ | refine s_move ?_ | refine s_assign ?_ | refine s_load ?_ | refine s_add1 ?_ | refine s_lss_t ?_ | refine s_ext ?_ | refine s_idxa ?_ | refine s_loada ?_ | refine s_storea ?_ | refine s_alloc (fun _ => ?_)))
        exact ⟨2, (Knows.spec (by repeat (first | exact trivial | refine ⟨rfl, ?_⟩))), (by repeat (first | exact SubH.nilR _ | refine SubH.pick (by repeat (first | exact HTake.here | apply HTake.there)) ?_)), by omega, by omega⟩
      · (repeat' (first | refine s_valD (setext_no2 p g 2 cap 0 _ cur pb 0 tx nl hp.nt hp.len hp.le hp.m45 hp.m61 (by omega) (by omega) hb hb1 rfl rfl) ?_ | refine k_seq ?_ | refine k_region ?_ | refine k_nil ?_ | refine k_then ?_ | refine k_true ?_ | refine k_false ?_ | refine k_blk ?_ | refine k_skip ?_ | refine k_block ?_ | refine s_move ?_ | refine s_assign ?_ | refine s_load ?_ | refine s_add1 ?_ | refine s_lss_t ?_ | refine s_ext ?_ | refine s_idxa ?_ | refine s_loada ?_ | refine s_storea ?_ | refine s_alloc (fun _ => ?_)))
        exact ⟨3, (Knows.spec (by repeat (first | exact trivial | refine ⟨rfl, ?_⟩))), (by repeat (first | exact SubH.nilR _ | refine SubH.pick (by repeat (first | exact HTake.here | apply HTake.there)) ?_)), by omega, by omega⟩
      · (repeat' (first | refine s_valD (newHR_no (lp p) 0 tx nl hp.nt hp.len hp.le hp.m45 hp.m95 hp.m42) ?_ | refine k_seq ?_ | refine k_region ?_ | refine k_nil ?_ | refine k_then ?_ | refine k_true ?_ | refine k_false ?_ | refine k_blk ?_ | refine k_skip ?_ | refine k_block ?_ | refine s_move ?_ | refine s_assign ?_ | refine s_load ?_ | refine s_add1 ?_ | refine s_lss_t ?_ | refine s_ext ?_ | refine s_idxa ?_ | refine s_loada ?_ | refine s_storea ?_ | refine s_alloc (fun _ => ?_)))
        exact ⟨4, (Knows.spec (by repeat (first | exact trivial | refine ⟨rfl, ?_⟩))), (by repeat (first | exact SubH.nilR _ | refine SubH.pick (by repeat (first | exact HTake.here | apply HTake.there)) ?_)), by omega, by omega⟩
      · (repeat' (first | refine s_valD (newListItem_no p g 2 cap 0 _ cur bty bv 0 tx nl hp.nt hp.len hp.le hp.item (by omega) (by omega) hb0 ht2 rfl rfl) ?_ | refine k_seq ?_ | refine k_region ?_ | refine k_nil ?_ | refine k_then ?_ | refine k_true ?_ | refine k_false ?_ | refine k_blk ?_ | refine k_skip ?_ | refine k_block ?_ | refine s_move ?_ | refine s_assign ?_ | refine s_load ?_ | refine s_add1 ?_ | refine s_lss_t ?_ | refine s_ext ?_ | refine s_idxa ?_ | refine s_loada ?_ | refine s_storea ?_ | refine s_alloc (fun _ => ?_)))
        exact ⟨5, (Knows.spec (by repeat (first | exact trivial | refine ⟨rfl, ?_⟩))), (by repeat (first | exact SubH.nilR _ | refine SubH.pick (by repeat (first | exact HTake.here | apply HTake.there)) ?_)), by omega, by omega⟩
      · (repeat' (first | refine s_valD (newHTML_no (lp p) 0 tx nl hp.nt hp.len hp.le hp.m60) ?_ | refine k_seq ?_ | refine k_region ?_ | refine k_nil ?_ | refine k_then ?_ | refine k_true ?_ | refine k_false ?_ | refine k_blk ?_ | refine k_skip ?_ | refine k_block ?_ | refine s_move ?_ | refine s_assign ?_ | refine s_load ?_ | refine s_add1 ?_ | refine s_lss_t ?_ | refine s_ext ?_ | refine s_idxa ?_ | refine s_loada ?_ | refine s_storea ?_ | refine s_alloc (fun _ => ?_)))
        exact ⟨6, (Knows.spec (by repeat (first | exact trivial | refine ⟨rfl, ?_⟩))), (by repeat (first | exact SubH.nilR _ | refine SubH.pick (by repeat (first | exact HTake.here | apply HTake.there)) ?_)), by omega, by omega⟩
      · (repeat' (first | refine s_valD (newFence_no (lp p) 0 tx nl hp.nt hp.len hp.le hp.m96 hp.m126) ?_ | refine k_seq ?_ | refine k_region ?_ | refine k_nil ?_ | refine k_then ?_ | refine k_true ?_ | refine k_false ?_ | refine k_blk ?_ | refine k_skip ?_ | refine k_block ?_ | refine s_move ?_ | refine s_assign ?_ | refine s_load ?_ | refine s_add1 ?_ | refine s_lss_t ?_ | refine s_ext ?_ | refine s_idxa ?_ | refine s_loada ?_ | refine s_storea ?_ | refine s_alloc (fun _ => ?_)))
        exact ⟨7, (Knows.spec (by repeat (first | exact trivial | refine ⟨rfl, ?_⟩))), (by repeat (first | exact SubH.nilR _ | refine SubH.pick (by repeat (first | exact HTake.here | apply HTake.there)) ?_)), by omega, by omega⟩
      · (repeat' (first | refine s_valD (pre_no2 p g 2 cap _ cur pb 0 tx nl (by omega) (by omega) hb rfl) ?_ | refine k_seq ?_ | refine k_region ?_ | refine k_nil ?_ | refine k_then ?_ | refine k_true ?_ | refine k_false ?_ | refine k_blk ?_ | refine k_skip ?_ | refine k_block ?_ | refine s_move ?_ | refine s_assign ?_ | refine s_load ?_ | refine s_add1 ?_ | refine s_lss_t ?_ | refine s_ext ?_ | refine s_idxa ?_ | refine s_loada ?_ | refine s_storea ?_ | refine s_alloc (fun _ => ?_)))
        exact ⟨8, (Knows.spec (by repeat (first | exact trivial | refine ⟨rfl, ?_⟩))), (by repeat (first | exact SubH.nilR _ | refine SubH.pick (by repeat (first | exact HTake.here | apply HTake.there)) ?_)), by omega, by omega⟩
      · (repeat' (first | refine k_seq ?_ | refine k_region ?_ | refine k_nil ?_ | refine k_then ?_ | refine k_false ?_ | refine k_exit ?_ | refine k_exit_then ?_ | refine k_hit ?_ | refine s_lss_f ?_))
        exact ⟨(by repeat (first | exact trivial | refine ⟨rfl, ?_⟩)), (by repeat (first | exact SubH.nilR _ | refine SubH.pick (by repeat (first | exact HTake.here | apply HTake.there)) ?_))⟩
    · (repeat' (first | refine k_region ?_ | refine s_move ?_ | refine s_loada ?_))
      refine s_call (newPara_more p g 0 2 cap pr pb o _ _ cur ln 0 tv l Bt tx nl hp.len hp.le (by omega) (by omega) hll hO rfl hT rfl rfl rfl rfl htab) (fun u K hR => ?_)
      obtain ⟨rfl, cur', tv', Bt', h1, h2, rfl⟩ := hR
      (repeat' (first | refine k_nil ?_ | refine k_nogo ?_))
      exact e_norm _ ⟨rfl, cur', tv', Bt', h1, h2, rfl⟩ (by repeat (first | exact SubH.nilR _ | refine SubH.pick (by repeat (first | exact HTake.here | apply HTake.there)) ?_))
end Go.Proofs

/- addLine at a first line that begins nothing but a paragraph. Conditions: PLine. addLine at a further line of a paragraph. Conditions: PLine. Contract of strings.Join, from the kit's own. Conditions: bounds on the lengths. pos, blocks, newText, Join of one, and the paragraph's build of lines. Conditions: how the text begins. -/
import Derived.Test.YthmgajolaekpdaaGreatDoorT02
import Derived.Test.YthmgajolaekpdaaGreatDoorEngB
import Derived.Shelf.Strings.OnBuilder
namespace Go.Proofs
open Go Go.Eng
set_option maxRecDepth 20000
set_option maxHeartbeats 4000000

/-- The functions that a line is tried with. -/
abbrev newsL : List Value := [.func (.func 79) #[] #[], .func (.func 80) #[] #[], .func (.func 81) #[] #[], .func (.func 82) #[] #[], .func (.func 83) #[] #[], .func (.func 84) #[] #[], .func (.func 85) #[] #[], .func (.func 86) #[] #[]]
theorem news_tr : Tr Tryz.prog 55 [] [] fun u K => ∃ r, u = .slice (some ⟨r, 0, none⟩) 8 8 ∧ K = [[(r, cellsOf newsL 117)]] := by
  refine Tr.start (n := 2) (rs := [.tmp 0]) rfl rfl rfl rfl fun B => ?_
  (repeat' (first | refine k_seq ?_ | refine k_region ?_ | refine k_nil ?_ | refine k_then ?_ | refine k_ret ?_ | refine s_assign ?_ | refine s_bsln (fun _ => ?_)))
  exact e_ret _ ⟨_, rfl, rfl⟩ (SubH.refl _)

/-- A line that begins nothing but a paragraph. -/
structure PLine (i : Nat) (tx : List UInt8) : Prop where
  nt : NoTab tx
  len : tx.length ≤ 140737488355328
  le : i ≤ tx.length
  ink : ltrim (tx.drop i) ≠ []
  sp : nsp (tx.drop i) < 4
  quote : at0 tx (sp3 i tx) ≠ 62
  atx : ∀ nl q nq nv, TrD Tryz.prog 119 [lp q, lp nq] [lnb q i tx nl, [(nq, cellsOf [nv] 3)]] (.bool false) [lnb q i tx nl, [(nq, cellsOf [nv] 3)]]
  m45 : at0 tx (sp3 i tx) ≠ 45
  m95 : at0 tx (sp3 i tx) ≠ 95
  m42 : at0 tx (sp3 i tx) ≠ 42
  m60 : at0 tx (sp3 i tx) ≠ 60
  m96 : at0 tx (sp3 i tx) ≠ 96
  m126 : at0 tx (sp3 i tx) ≠ 126
  m61 : at0 tx (sp3 i tx) ≠ 61
  item : noItem (tx.drop (sp3 i tx))

theorem addLine_first (p g cap pr : Nat) (o : PO) (s : PS) (cur : List Value) (bty : Nat) (bv e1 e2 e3 : Value) (ln : Nat) (tx : List UInt8) (nl : Nat) (hp : PLine 0 tx)
    (hO : Stk (stk g 1 cap) 1 [.iface bty bv, e1, e2, e3] (stb g cur)) (ht : Nat.beq bty 155 = false) (ht2 : Nat.beq bty 235 = false)
    (hs : s.stack = stk g 1 cap) (hln : s.lineno = inat ln) (hpar : s.par = lp pr) (htab : o.table = false) :
    Tr Tryz.prog 48 [lp p, lnv 0 tx nl] [s.blk p, stb g cur, o.blk pr] fun u K => u = unit ∧ ∃ g' cap' cur' pb tv Bt, Stk (stk g' 2 cap') 2 ([.iface bty bv, e1, e2, e3] ++ [.iface 155 (lp pb), .slice none 0 0, inat ln, inat ln]) (stb g' cur') ∧
      Strs tv [ltrim tx] Bt ∧ K = [({ s with stack := stk g' 2 cap', depth := inat 0 } : PS).blk p, stb g' cur', o.blk pr, pbb pb tv, Bt] := by
  obtain ⟨par, root, links, lineno, stack, depth, corner, str, em, list, lists, texts, bt⟩ := s
  subst hs; subst hln; subst hpar
  obtain ⟨v1, v2, v3, v4⟩ := hO.view
  have hb : cur[0 + (1 - 1) * 4 + 0]? = some (.iface bty bv) := hO.get rfl
  refine Tr.start (n := 113) (rs := []) rfl rfl rfl rfl fun B => ?_
  (repeat' (first | refine k_seq ?_ | refine k_region ?_ | refine k_nil ?_ | refine k_then ?_ | refine k_scope ?_ | refine s_move ?_ | refine s_field ?_ | refine s_nilp ?_ | refine s_store ?_ | refine s_box (fun _ => ?_)))
  rename_i r3
  refine k_mid [(0, lp p), (3, lp r3)]
    [(⟨lp pr, root, links, inat ln, stk g 1 cap, inat 0, corner, str, em, list, lists, texts, bt⟩ : PS).blk p, stb g cur, o.blk pr, lnb r3 0 tx nl] ?_ ?_
  · (repeat' (first | refine k_blk ?_))
    refine k_loop (fun _ : Nat => [(0, lp p), (3, lp r3)]) (fun _ => [(⟨lp pr, root, links, inat ln, stk g 1 cap, inat 0, corner, str, em, list, lists, texts, bt⟩ : PS).blk p, stb g cur, o.blk pr, lnb r3 0 tx nl]) (fun _ => True) (fun _ => 0) 0 trivial (Knows.spec (by repeat (first | exact trivial | refine ⟨rfl, ?_⟩))) (by repeat (first | exact SubH.nilR _ | refine SubH.pick (by repeat (first | exact HTake.here | apply HTake.there)) ?_)) fun k hk => ?_
    (repeat' (first | refine Wp.draw_all (id := 2) Mixed.out (by kernel_rfl) ?_ | refine k_seq ?_ | refine k_nil ?_ | refine k_then ?_ | refine k_false ?_ | refine k_exit ?_ | refine k_exit_then ?_ | refine k_hit ?_ | refine u_nil ?_ | refine u_move ?_ | refine u_load ?_ | refine u_field ?_ | refine u_nilp ?_ | refine u_add1 ?_ | refine u_lss_f ?_ | refine u_len ?_))
    exact ⟨(by repeat (first | exact trivial | refine ⟨rfl, ?_⟩)), (by repeat (first | exact SubH.nilR _ | refine SubH.pick (by repeat (first | exact HTake.here | apply HTake.there)) ?_))⟩
  · (repeat' (first | refine s_callD (isBlank_tr r3 0 tx nl hp.len hp.le false (decide_eq_false hp.ink).symm) ?_ | refine k_seq ?_ | refine k_region ?_ | refine k_nil ?_ | refine k_then ?_ | refine k_false ?_ | refine k_skip ?_ | refine k_label ?_))
    refine s_call news_tr (fun u K hR => ?_)
    obtain ⟨rn, rfl, rfl⟩ := hR
    (repeat' (first | refine k_nil ?_ | refine k_then ?_ | refine s_move ?_ | refine s_len ?_))
    refine k_mid [(0, lp p), (3, lp r3)] [(⟨lp pr, root, links, inat ln, stk g 1 cap, inat 0, corner, str, em, list, lists, texts, bt⟩ : PS).blk p, stb g cur, o.blk pr, lnb r3 0 tx nl] ?_ ?_
    · (repeat' (first | refine k_blk ?_))
      refine k_loop (fun k : Nat => [(0, lp p), (3, lp r3), (86, .slice (some ⟨rn, 0, none⟩) 8 8), (87, inat 8), (88, inat k)]) (fun _ => [(⟨lp pr, root, links, inat ln, stk g 1 cap, inat 0, corner, str, em, list, lists, texts, bt⟩ : PS).blk p, stb g cur, o.blk pr, lnb r3 0 tx nl, [(rn, cellsOf newsL 117)]])
        (fun k => k ≤ 8) (fun k => 8 - k) 0 (by omega) (Knows.spec (by repeat (first | exact trivial | refine ⟨rfl, ?_⟩))) (by repeat (first | exact SubH.nilR _ | refine SubH.pick (by repeat (first | exact HTake.here | apply HTake.there)) ?_)) fun k hk => ?_
      rcases (by omega : k = 0 ∨ k = 1 ∨ k = 2 ∨ k = 3 ∨ k = 4 ∨ k = 5 ∨ k = 6 ∨ k = 7 ∨ k = 8) with rfl | rfl | rfl | rfl | rfl | rfl | rfl | rfl | rfl
      · (repeat' (first | refine s_valD (newQuote_no (lp p) 0 tx nl hp.nt hp.len hp.le hp.quote) ?_ | refine k_seq ?_ | refine k_region ?_ | refine k_nil ?_ | refine k_then ?_ | refine k_true ?_ | refine k_false ?_ | refine k_blk ?_ | refine k_skip ?_ | refine k_block ?_ | refine s_move ?_ | refine s_assign ?_ | refine s_load ?_ | refine s_add1 ?_ | refine s_lss_t ?_ | refine s_ext ?_ | refine s_idxa ?_ | refine s_loada ?_ | refine s_storea ?_ | refine s_alloc (fun _ => ?_)))
        exact ⟨1, (Knows.spec (by repeat (first | exact trivial | refine ⟨rfl, ?_⟩))), (by repeat (first | exact SubH.nilR _ | refine SubH.pick (by repeat (first | exact HTake.here | apply HTake.there)) ?_)), by omega, by omega⟩
      · (repeat' (first | refine s_valD (newATX_no (lp p) 0 tx nl (fun q nq nv => hp.atx nl q nq nv)) ?_ | refine k_seq ?_ | refine k_region ?_ | refine k_nil ?_ | refine k_then ?_ | refine k_true ?_ | refine k_false ?_ | refine k_blk ?_ | refine k_skip ?_ | refine k_block ?_ | refine s_move ?_ | refine s_assign ?_ | refine s_load ?_ | refine s_add1 ?_ | refine s_lss_t ?_ | refine s_ext ?_ | refine s_idxa ?_ | refine s_loada ?_ | refine s_storea ?_ | refine s_alloc (fun _ => ?_)))
        exact ⟨2, (Knows.spec (by repeat (first | exact trivial | refine ⟨rfl, ?_⟩))), (by repeat (first | exact SubH.nilR _ | refine SubH.pick (by repeat (first | exact HTake.here | apply HTake.there)) ?_)), by omega, by omega⟩
      · (repeat' (first | refine s_valD (setext_no1 p g 1 cap 0 _ cur bty bv 0 tx nl (by omega) (by omega) (by omega) hb ht rfl rfl) ?_ | refine k_seq ?_ | refine k_region ?_ | refine k_nil ?_ | refine k_then ?_ | refine k_true ?_ | refine k_false ?_ | refine k_blk ?_ | refine k_skip ?_ | refine k_block ?_ | refine s_move ?_ | refine s_assign ?_ | refine s_load ?_ | refine s_add1 ?_ | refine s_lss_t ?_ | refine s_ext ?_ | refine s_idxa ?_ | refine s_loada ?_ | refine s_storea ?_ | refine s_alloc (fun _ => ?_)))
        exact ⟨3, (Knows.spec (by repeat (first | exact trivial | refine ⟨rfl, ?_⟩))), (by repeat (first | exact SubH.nilR _ | refine SubH.pick (by repeat (first | exact HTake.here | apply HTake.there)) ?_)), by omega, by omega⟩
      · (repeat' (first | refine s_valD (newHR_no (lp p) 0 tx nl hp.nt hp.len hp.le hp.m45 hp.m95 hp.m42) ?_ | refine k_seq ?_ | refine k_region ?_ | refine k_nil ?_ | refine k_then ?_ | refine k_true ?_ | refine k_false ?_ | refine k_blk ?_ | refine k_skip ?_ | refine k_block ?_ | refine s_move ?_ | refine s_assign ?_ | refine s_load ?_ | refine s_add1 ?_ | refine s_lss_t ?_ | refine s_ext ?_ | refine s_idxa ?_ | refine s_loada ?_ | refine s_storea ?_ | refine s_alloc (fun _ => ?_)))
        exact ⟨4, (Knows.spec (by repeat (first | exact trivial | refine ⟨rfl, ?_⟩))), (by repeat (first | exact SubH.nilR _ | refine SubH.pick (by repeat (first | exact HTake.here | apply HTake.there)) ?_)), by omega, by omega⟩
      · (repeat' (first | refine s_valD (newListItem_no p g 1 cap 0 _ cur bty bv 0 tx nl hp.nt hp.len hp.le hp.item (by omega) (by omega) hb ht2 rfl rfl) ?_ | refine k_seq ?_ | refine k_region ?_ | refine k_nil ?_ | refine k_then ?_ | refine k_true ?_ | refine k_false ?_ | refine k_blk ?_ | refine k_skip ?_ | refine k_block ?_ | refine s_move ?_ | refine s_assign ?_ | refine s_load ?_ | refine s_add1 ?_ | refine s_lss_t ?_ | refine s_ext ?_ | refine s_idxa ?_ | refine s_loada ?_ | refine s_storea ?_ | refine s_alloc (fun _ => ?_)))
        exact ⟨5, (Knows.spec (by repeat (first | exact trivial | refine ⟨rfl, ?_⟩))), (by repeat (first | exact SubH.nilR _ | refine SubH.pick (by repeat (first | exact HTake.here | apply HTake.there)) ?_)), by omega, by omega⟩
      · (repeat' (first | refine s_valD (newHTML_no (lp p) 0 tx nl hp.nt hp.len hp.le hp.m60) ?_ | refine k_seq ?_ | refine k_region ?_ | refine k_nil ?_ | refine k_then ?_ | refine k_true ?_ | refine k_false ?_ | refine k_blk ?_ | refine k_skip ?_ | refine k_block ?_ | refine s_move ?_ | refine s_assign ?_ | refine s_load ?_ | refine s_add1 ?_ | refine s_lss_t ?_ | refine s_ext ?_ | refine s_idxa ?_ | refine s_loada ?_ | refine s_storea ?_ | refine s_alloc (fun _ => ?_)))
        exact ⟨6, (Knows.spec (by repeat (first | exact trivial | refine ⟨rfl, ?_⟩))), (by repeat (first | exact SubH.nilR _ | refine SubH.pick (by repeat (first | exact HTake.here | apply HTake.there)) ?_)), by omega, by omega⟩
      · (repeat' (first | refine s_valD (newFence_no (lp p) 0 tx nl hp.nt hp.len hp.le hp.m96 hp.m126) ?_ | refine k_seq ?_ | refine k_region ?_ | refine k_nil ?_ | refine k_then ?_ | refine k_true ?_ | refine k_false ?_ | refine k_blk ?_ | refine k_skip ?_ | refine k_block ?_ | refine s_move ?_ | refine s_assign ?_ | refine s_load ?_ | refine s_add1 ?_ | refine s_lss_t ?_ | refine s_ext ?_ | refine s_idxa ?_ | refine s_loada ?_ | refine s_storea ?_ | refine s_alloc (fun _ => ?_)))
        exact ⟨7, (Knows.spec (by repeat (first | exact trivial | refine ⟨rfl, ?_⟩))), (by repeat (first | exact SubH.nilR _ | refine SubH.pick (by repeat (first | exact HTake.here | apply HTake.there)) ?_)), by omega, by omega⟩
      · (repeat' (first | refine s_valD (pre_no1 p g 1 cap _ cur bty bv 0 tx nl (by omega) (by omega) hb ht rfl hp.nt hp.len hp.le hp.sp) ?_ | refine k_seq ?_ | refine k_region ?_ | refine k_nil ?_ | refine k_then ?_ | refine k_true ?_ | refine k_false ?_ | refine k_blk ?_ | refine k_skip ?_ | refine k_block ?_ | refine s_move ?_ | refine s_assign ?_ | refine s_load ?_ | refine s_add1 ?_ | refine s_lss_t ?_ | refine s_ext ?_ | refine s_idxa ?_ | refine s_loada ?_ | refine s_storea ?_ | refine s_alloc (fun _ => ?_)))
        exact ⟨8, (Knows.spec (by repeat (first | exact trivial | refine ⟨rfl, ?_⟩))), (by repeat (first | exact SubH.nilR _ | refine SubH.pick (by repeat (first | exact HTake.here | apply HTake.there)) ?_)), by omega, by omega⟩
      · (repeat' (first | refine k_seq ?_ | refine k_region ?_ | refine k_nil ?_ | refine k_then ?_ | refine k_false ?_ | refine k_exit ?_ | refine k_exit_then ?_ | refine k_hit ?_ | refine s_lss_f ?_))
        exact ⟨(by repeat (first | exact trivial | refine ⟨rfl, ?_⟩)), (by repeat (first | exact SubH.nilR _ | refine SubH.pick (by repeat (first | exact HTake.here | apply HTake.there)) ?_))⟩
    · (repeat' (first | refine k_region ?_ | refine s_move ?_ | refine s_loada ?_))
      refine s_call (newPara_first p g 0 cap pr o _ [.iface bty bv, e1, e2, e3] cur bty bv ln 0 tx nl hp.len hp.le (by omega) hO rfl ht rfl rfl rfl rfl htab) (fun u K hR => ?_)
      obtain ⟨rfl, g', cap', cur', pb, tv, Bt, h1, h2, rfl⟩ := hR
      (repeat' (first | refine k_nil ?_ | refine k_nogo ?_))
      exact e_norm _ ⟨rfl, g', cap', cur', pb, tv, Bt, h1, h2, rfl⟩ (by repeat (first | exact SubH.nilR _ | refine SubH.pick (by repeat (first | exact HTake.here | apply HTake.there)) ?_))
end Go.Proofs

namespace Go.Proofs
open Go Go.Eng
set_option maxRecDepth 20000
set_option maxHeartbeats 4000000
theorem stood : Tryz.prog.stoodInHeld 97 = false := by kernel_rfl
theorem eq_int (d0 : Nat) (a : Int) (w : World) : (Op.equalIn (d0 + 1) 3 (.int .i64 a) (.int .i64 a)).run Tryz.prog w = .ok true w := by
  rw [Op.equalIn]; simp [underlying, Tryz.underlying3]
theorem eq_u8 (d0 : Nat) (a : Int) (w : World) : (Op.equalIn (d0 + 1) 5 (.int .u8 a) (.int .u8 a)).run Tryz.prog w = .ok true w := by
  rw [Op.equalIn]; simp [underlying, Tryz.underlying5]
theorem eq_str (d0 : Nat) (l : List UInt8) (w : World) : (Op.equalIn (d0 + 1) 9 (str l) (str l)).run Tryz.prog w = .ok true w := by
  rw [Op.equalIn]; simp [underlying, Tryz.underlying9]; show (l.toArray == l.toArray) = true; simp
theorem eq_line (a b c : Int) (l : List UInt8) (d : Int) (w : World) : (Op.equalIn (9999 + 1) 97 (.agg #[.int .i64 a, .int .i64 b, .int .i64 c, str l, .int .u8 d]) (.agg #[.int .i64 a, .int .i64 b, .int .i64 c, str l, .int .u8 d])).run Tryz.prog w = .ok true w := by
  rw [Op.equalIn]
  have h1 := fun a w => eq_int 9998 a w
  have h2 := fun a w => eq_u8 9998 a w
  have h3 := fun a w => eq_str 9998 a w
  simp only [Nat.reduceAdd] at h1 h2 h3
  simp [underlying, Tryz.underlying97, part, isAgg, Tryz.underlying3, Tryz.underlying9, Tryz.underlying5, h1, h2, h3]
theorem nog : Tryz.prog.eqGuardType Tryz.prog.depth 97 = false := by kernel_rfl
theorem q_ne_line {L : Eng.Loc} {H : Heap} {x y : Operand} {ty yt : TypeId} {a b c : Int} {l : List UInt8} {d : Int} (hx : ev L x = some (.agg [.int .i64 a, .int .i64 b, .int .i64 c, str l, .int .u8 d].toArray)) (hy : ev L y = some (.agg [.int .i64 a, .int .i64 b, .int .i64 c, str l, .int .u8 d].toArray)) :
    Pure1 Tryz.prog L H (.binOp .neq 97 x y yt) ty (.bool false) :=
  p_bin hx hy fun w => by
    have h := run_nequal_step (P := Tryz.prog) (fun w => eq_line a b c l d w) rfl w
    simp [eqGuard]
    exact h
theorem s_neline {B : Base} {n : Nat} {L : Eng.Loc} {H : Heap} {Q : Eng.Post} {all : Array Oper} {rest : List Oper} {dd : Nat} {ty : TypeId} {pos : String} {after : Array Edge} {x y : Operand} {yt : TypeId} {a b c : Int} {l : List UInt8} {d : Int} (h : Ops Tryz.prog B n all rest ((dd, .bool false) :: L) H Q)
    (hx : ev L x = some (.agg [.int .i64 a, .int .i64 b, .int .i64 c, str l, .int .u8 d].toArray) := by rfl) (hy : ev L y = some (.agg [.int .i64 a, .int .i64 b, .int .i64 c, str l, .int .u8 d].toArray) := by rfl) (hd : Nat.blt dd n = true := by rfl) :
    Ops Tryz.prog B n all (⟨some dd, .binOp .neq 97 x y yt, ty, pos, after, none⟩ :: rest) L H Q := Ops.pure _ (q_ne_line hx hy) hd h

theorem extend_tr (v p : Value) (i : Nat) (tx : List UInt8) (nl : Nat) : TrP Tryz.prog 274 [v, p, lnv i tx nl] (.tuple #[lnv i tx nl, .bool false]) := by
  refine Tr.start (n := 9) (rs := [.cell 6 97, .tmp 7]) rfl rfl rfl rfl fun B => ?_
  (repeat' (first | refine k_seq ?_ | refine k_region ?_ | refine k_nil ?_ | refine k_then ?_ | refine k_ret ?_ | refine s_assign ?_ | refine s_loada ?_ | refine s_storea ?_ | refine s_alloc (fun _ => ?_) | refine s_box (fun _ => ?_)))
  exact e_pure ⟨rfl, rfl⟩

theorem addLine_more (p g cap pr pb : Nat) (o : PO) (s : PS) (cur : List Value) (bty : Nat) (bv e1 e2 e3 f1 f2 f3 tv : Value) (l : List (List UInt8)) (Bt : Blk) (ln : Nat) (tx : List UInt8) (nl : Nat) (hp : PLine 0 tx) (hll : l.length ≤ 100000000)
    (hO : Stk (stk g 2 cap) 2 [.iface bty bv, e1, e2, e3, .iface 155 (lp pb), f1, f2, f3] (stb g cur)) (hT : Strs tv l Bt) (ht2 : Nat.beq bty 235 = false)
    (hs : s.stack = stk g 2 cap) (hln : s.lineno = inat ln) (hpar : s.par = lp pr) (htab : o.table = false) :
    Tr Tryz.prog 48 [lp p, lnv 0 tx nl] [s.blk p, stb g cur, o.blk pr, pbb pb tv, Bt] fun u K => u = unit ∧ ∃ cur' tv' Bt', Stk (stk g 2 cap) 2 [.iface bty bv, e1, e2, inat ln, .iface 155 (lp pb), f1, f2, inat ln] (stb g cur') ∧
      Strs tv' (l ++ [ltrim tx]) Bt' ∧ K = [({ s with depth := inat 0 } : PS).blk p, stb g cur', o.blk pr, pbb pb tv', Bt'] := by
  obtain ⟨par, root, links, lineno, stack, depth, corner, str, em, list, lists, texts, bt⟩ := s
  subst hs; subst hln; subst hpar
  obtain ⟨v1, v2, v3, v4⟩ := hO.view
  have hb0 : cur[0 + 0 * 4 + 0]? = some (.iface bty bv) := hO.get rfl
  have hb : cur[0 + (2 - 1) * 4 + 0]? = some (.iface 155 (lp pb)) := hO.get rfl
  have hb1 : cur[0 + (0 + 1) * 4 + 0]? = some (.iface 155 (lp pb)) := hO.get rfl
  refine Tr.start (n := 113) (rs := []) rfl rfl rfl rfl fun B => ?_
  (repeat' (first | refine k_seq ?_ | refine k_region ?_ | refine k_nil ?_ | refine k_then ?_ | refine k_scope ?_ | refine s_move ?_ | refine s_field ?_ | refine s_nilp ?_ | refine s_store ?_ | refine s_box (fun _ => ?_)))
  rename_i r3
  refine k_mid [(0, lp p), (3, lp r3)] [(⟨lp pr, root, links, inat ln, stk g 2 cap, inat 0, corner, str, em, list, lists, texts, bt⟩ : PS).blk p, stb g cur, o.blk pr, pbb pb tv, Bt, lnb r3 0 tx nl] ?_ ?_
  · (repeat' (first | refine k_blk ?_))
    refine k_loop (fun _ : Nat => [(0, lp p), (3, lp r3)]) (fun _ => [(⟨lp pr, root, links, inat ln, stk g 2 cap, inat 0, corner, str, em, list, lists, texts, bt⟩ : PS).blk p, stb g cur, o.blk pr, pbb pb tv, Bt, lnb r3 0 tx nl]) (fun _ => True) (fun _ => 0) 0 trivial (Knows.spec (by repeat (first | exact trivial | refine ⟨rfl, ?_⟩))) (by repeat (first | exact SubH.nilR _ | refine SubH.pick (by repeat (first | exact HTake.here | apply HTake.there)) ?_)) fun k hk => ?_
    (repeat' (first | refine Wp.draw_all (id := 2) Mixed.out (by kernel_rfl) ?_ | refine Wp.draw_tree (id := 6) 14 6 Mixed.out (by kernel_rfl) rfl ?_ | refine u_load (hc := hb1) ?_ | refine k_seq ?_ | refine k_region ?_ | refine k_nil ?_ | refine k_then ?_ | refine k_true ?_ | refine k_blk ?_ | refine k_skip ?_ | refine s_assign ?_ | refine s_loada ?_ | refine s_storea ?_ | refine s_alloc (fun _ => ?_) | refine u_nil ?_ | refine u_move ?_ | refine u_load ?_ | refine u_field ?_ | refine u_nilp ?_ | refine u_add1 ?_ | refine u_lss_t ?_ | refine u_len ?_ | refine u_idxa ?_ | refine u_loada ?_))
    refine OpsA.only 14 _ (by kernel_rfl) rfl ?_
    (repeat' (first | refine s_invD (extend_tr _ _ 0 tx nl) ?_ | refine k_nil ?_ | refine k_then ?_))
    refine OpsA.only 15 _ (by kernel_rfl) rfl ?_
    (repeat' (first | refine k_nil ?_ | refine k_then ?_ | refine s_move ?_))
    refine OpsA.first 16 _ (by kernel_rfl) rfl (by kernel_rfl) (by kernel_rfl) rfl (p_extract rfl rfl) ?_
    refine OpsA.first 17 _ (by kernel_rfl) rfl (by kernel_rfl) (by kernel_rfl) rfl (p_extract rfl rfl) ?_
    refine OpsA.only 18 _ (by kernel_rfl) rfl ?_
    (repeat' (first | refine k_nil ?_ | refine k_then ?_ | refine s_storea ?_))
    refine OpsA.only 19 _ (by kernel_rfl) rfl ?_
    (repeat' (first | refine k_nil ?_ | refine k_then ?_ | refine s_assign ?_))
    refine OpsA.nil (by kernel_rfl) ?_
    (repeat' (first | refine s_callD (isBlank_tr _ 0 tx nl hp.len hp.le false (decide_eq_false hp.ink).symm) ?_ | refine s_neline ?_ | refine k_seq ?_ | refine k_region ?_ | refine k_nil ?_ | refine k_then ?_ | refine k_true ?_ | refine k_false ?_ | refine k_skip ?_ | refine k_exit ?_ | refine k_exit_then ?_ | refine k_hit ?_ | refine k_miss ?_ | refine s_grun ?_ | refine s_move ?_ | refine s_pickt ?_ | refine s_pickf ?_ | refine s_notf ?_ | refine s_loada ?_))
    exact ⟨(by repeat (first | exact trivial | refine ⟨rfl, ?_⟩)), (by repeat (first | exact SubH.nilR _ | refine SubH.pick (by repeat (first | exact HTake.here | apply HTake.there)) ?_))⟩
  · (repeat' (first | refine s_callD (isBlank_tr r3 0 tx nl hp.len hp.le false (decide_eq_false hp.ink).symm) ?_ | refine k_seq ?_ | refine k_region ?_ | refine k_nil ?_ | refine k_then ?_ | refine k_false ?_ | refine k_skip ?_ | refine k_label ?_))
    refine s_call news_tr (fun u K hR => ?_)
    obtain ⟨rn, rfl, rfl⟩ := hR
    (repeat' (first | refine k_nil ?_ | refine k_then ?_ | refine s_move ?_ | refine s_len ?_))
    refine k_mid [(0, lp p), (3, lp r3)] [(⟨lp pr, root, links, inat ln, stk g 2 cap, inat 0, corner, str, em, list, lists, texts, bt⟩ : PS).blk p, stb g cur, o.blk pr, pbb pb tv, Bt, lnb r3 0 tx nl] ?_ ?_
    · (repeat' (first | refine k_blk ?_))
      refine k_loop (fun k : Nat => [(0, lp p), (3, lp r3), (86, .slice (some ⟨rn, 0, none⟩) 8 8), (87, inat 8), (88, inat k)]) (fun _ => [(⟨lp pr, root, links, inat ln, stk g 2 cap, inat 0, corner, str, em, list, lists, texts, bt⟩ : PS).blk p, stb g cur, o.blk pr, pbb pb tv, Bt, lnb r3 0 tx nl, [(rn, cellsOf newsL 117)]])
        (fun k => k ≤ 8) (fun k => 8 - k) 0 (by omega) (Knows.spec (by repeat (first | exact trivial | refine ⟨rfl, ?_⟩))) (by repeat (first | exact SubH.nilR _ | refine SubH.pick (by repeat (first | exact HTake.here | apply HTake.there)) ?_)) fun k hk => ?_
      rcases (by omega : k = 0 ∨ k = 1 ∨ k = 2 ∨ k = 3 ∨ k = 4 ∨ k = 5 ∨ k = 6 ∨ k = 7 ∨ k = 8) with rfl | rfl | rfl | rfl | rfl | rfl | rfl | rfl | rfl
      · (repeat' (first | refine s_valD (newQuote_no (lp p) 0 tx nl hp.nt hp.len hp.le hp.quote) ?_ | refine k_seq ?_ | refine k_region ?_ | refine k_nil ?_ | refine k_then ?_ | refine k_true ?_ | refine k_false ?_ | refine k_blk ?_ | refine k_skip ?_ | refine k_block ?_ | refine s_move ?_ | refine s_assign ?_ | refine s_load ?_ | refine s_add1 ?_ | refine s_lss_t ?_ | refine s_ext ?_ | refine s_idxa ?_ | refine s_loada ?_ | refine s_storea ?_ | refine s_alloc (fun _ => ?_)))
        exact ⟨1, (Knows.spec (by repeat (first | exact trivial | refine ⟨rfl, ?_⟩))), (by repeat (first | exact SubH.nilR _ | refine SubH.pick (by repeat (first | exact HTake.here | apply HTake.there)) ?_)), by omega, by omega⟩
      · (repeat' (first | refine s_valD (newATX_no (lp p) 0 tx nl (fun q nq nv => hp.atx nl q nq nv)) ?_ | refine k_seq ?_ | refine k_region ?_ | refine k_nil ?_ | refine k_then ?_ | refine k_true ?_ | refine k_false ?_ | refine k_blk ?_ | refine k_skip ?_ | refine k_block ?_ | refine s_move ?_ | refine s_assign ?_ | refine s_load ?_ | refine s_add1 ?_ | refine s_lss_t ?_ | refine s_ext ?_ | refine s_idxa ?_ | refine s_loada ?_ | refine s_storea ?_ | refine s_alloc (fun _ => ?_)))
        exact ⟨2, (Knows.spec (by repeat (first | exact trivial | refine ⟨rfl, ?_⟩))), (by repeat (first | exact SubH.nilR _ | refine SubH.pick (by repeat (first | exact HTake.here | apply HTake.there)) ?_)), by omega, by omega⟩
      · (repeat' (first | refine s_valD (setext_no2 p g 2 cap 0 _ cur pb 0 tx nl hp.nt hp.len hp.le hp.m45 hp.m61 (by omega) (by omega) hb hb1 rfl rfl) ?_ | refine k_seq ?_ | refine k_region ?_ | refine k_nil ?_ | refine k_then ?_ | refine k_true ?_ | refine k_false ?_ | refine k_blk ?_ | refine k_skip ?_ | refine k_block ?_ | refine s_move ?_ | refine s_assign ?_ | refine s_load ?_ | refine s_add1 ?_ | refine s_lss_t ?_ | refine s_ext ?_ | refine s_idxa ?_ | refine s_loada ?_ | refine s_storea ?_ | refine s_alloc (fun _ => ?_)))
        exact ⟨3, (Knows.spec (by repeat (first | exact trivial | refine ⟨rfl, ?_⟩))), (by repeat (first | exact SubH.nilR _ | refine SubH.pick (by repeat (first | exact HTake.here | apply HTake.there)) ?_)), by omega, by omega⟩
      · (repeat' (first | refine s_valD (newHR_no (lp p) 0 tx nl hp.nt hp.len hp.le hp.m45 hp.m95 hp.m42) ?_ | refine k_seq ?_ | refine k_region ?_ | refine k_nil ?_ | refine k_then ?_ | refine k_true ?_ | refine k_false ?_ | refine k_blk ?_ | refine k_skip ?_ | refine k_block ?_ | refine s_move ?_ | refine s_assign ?_ | refine s_load ?_ | refine s_add1 ?_ | refine s_lss_t ?_ | refine s_ext ?_ | refine s_idxa ?_ | refine s_loada ?_ | refine s_storea ?_ | refine s_alloc (fun _ => ?_)))
        exact ⟨4, (Knows.spec (by repeat (first | exact trivial | refine ⟨rfl, ?_⟩))), (by repeat (first | exact SubH.nilR _ | refine SubH.pick (by repeat (first | exact HTake.here | apply HTake.there)) ?_)), by omega, by omega⟩
      · (repeat' (first | refine s_valD (newListItem_no p g 2 cap 0 _ cur bty bv 0 tx nl hp.nt hp.len hp.le hp.item (by omega) (by omega) hb0 ht2 rfl rfl) ?_ | refine k_seq ?_ | refine k_region ?_ | refine k_nil ?_ | refine k_then ?_ | refine k_true ?_ | refine k_false ?_ | refine k_blk ?_ | refine k_skip ?_ | refine k_block ?_ | refine s_move ?_ | refine s_assign ?_ | refine s_load ?_ | refine s_add1 ?_ | refine s_lss_t ?_ | refine s_ext ?_ | refine s_idxa ?_ | refine s_loada ?_ | refine s_storea ?_ | refine s_alloc (fun _ => ?_)))
        exact ⟨5, (Knows.spec (by repeat (first | exact trivial | refine ⟨rfl, ?_⟩))), (by repeat (first | exact SubH.nilR _ | refine SubH.pick (by repeat (first | exact HTake.here | apply HTake.there)) ?_)), by omega, by omega⟩
      · (repeat' (first | refine s_valD (newHTML_no (lp p) 0 tx nl hp.nt hp.len hp.le hp.m60) ?_ | refine k_seq ?_ | refine k_region ?_ | refine k_nil ?_ | refine k_then ?_ | refine k_true ?_ | refine k_false ?_ | refine k_blk ?_ | refine k_skip ?_ | refine k_block ?_ | refine s_move ?_ | refine s_assign ?_ | refine s_load ?_ | refine s_add1 ?_ | refine s_lss_t ?_ | refine s_ext ?_ | refine s_idxa ?_ | refine s_loada ?_ | refine s_storea ?_ | refine s_alloc (fun _ => ?_)))
        exact ⟨6, (Knows.spec (by repeat (first | exact trivial | refine ⟨rfl, ?_⟩))), (by repeat (first | exact SubH.nilR _ | refine SubH.pick (by repeat (first | exact HTake.here | apply HTake.there)) ?_)), by omega, by omega⟩
      · (repeat' (first | refine s_valD (newFence_no (lp p) 0 tx nl hp.nt hp.len hp.le hp.m96 hp.m126) ?_ | refine k_seq ?_ | refine k_region ?_ | refine k_nil ?_ | refine k_then ?_ | refine k_true ?_ | refine k_false ?_ | refine k_blk ?_ | refine k_skip ?_ | refine k_block ?_ | refine s_move ?_ | refine s_assign ?_ | refine s_load ?_ | refine s_add1 ?_ | refine s_lss_t ?_ | refine s_ext ?_ | refine s_idxa ?_ | refine s_loada ?_ | refine s_storea ?_ | refine s_alloc (fun _ => ?_)))
        exact ⟨7, (Knows.spec (by repeat (first | exact trivial | refine ⟨rfl, ?_⟩))), (by repeat (first | exact SubH.nilR _ | refine SubH.pick (by repeat (first | exact HTake.here | apply HTake.there)) ?_)), by omega, by omega⟩
      · (repeat' (first | refine s_valD (pre_no2 p g 2 cap _ cur pb 0 tx nl (by omega) (by omega) hb rfl) ?_ | refine k_seq ?_ | refine k_region ?_ | refine k_nil ?_ | refine k_then ?_ | refine k_true ?_ | refine k_false ?_ | refine k_blk ?_ | refine k_skip ?_ | refine k_block ?_ | refine s_move ?_ | refine s_assign ?_ | refine s_load ?_ | refine s_add1 ?_ | refine s_lss_t ?_ | refine s_ext ?_ | refine s_idxa ?_ | refine s_loada ?_ | refine s_storea ?_ | refine s_alloc (fun _ => ?_)))
        exact ⟨8, (Knows.spec (by repeat (first | exact trivial | refine ⟨rfl, ?_⟩))), (by repeat (first | exact SubH.nilR _ | refine SubH.pick (by repeat (first | exact HTake.here | apply HTake.there)) ?_)), by omega, by omega⟩
      · (repeat' (first | refine k_seq ?_ | refine k_region ?_ | refine k_nil ?_ | refine k_then ?_ | refine k_false ?_ | refine k_exit ?_ | refine k_exit_then ?_ | refine k_hit ?_ | refine s_lss_f ?_))
        exact ⟨(by repeat (first | exact trivial | refine ⟨rfl, ?_⟩)), (by repeat (first | exact SubH.nilR _ | refine SubH.pick (by repeat (first | exact HTake.here | apply HTake.there)) ?_))⟩
    · (repeat' (first | refine k_region ?_ | refine s_move ?_ | refine s_loada ?_))
      refine s_call (newPara_more p g 0 2 cap pr pb o _ _ cur ln 0 tv l Bt tx nl hp.len hp.le (by omega) (by omega) hll hO rfl hT rfl rfl rfl rfl htab) (fun u K hR => ?_)
      obtain ⟨rfl, cur', tv', Bt', h1, h2, rfl⟩ := hR
      (repeat' (first | refine k_nil ?_ | refine k_nogo ?_))
      exact e_norm _ ⟨rfl, cur', tv', Bt', h1, h2, rfl⟩ (by repeat (first | exact SubH.nilR _ | refine SubH.pick (by repeat (first | exact HTake.here | apply HTake.there)) ?_))
end Go.Proofs

namespace Go.Proofs
open Go Go.Eng Go.RowKit
set_option maxRecDepth 20000
set_option maxHeartbeats 4000000

/-- The numbers of the library's functions and types in this program. -/
def joinRen : Go.Shelf.Ren where
  f := fun n => match n with | 156 => 17 | 165 => 28 | 166 => 29 | 169 => 31 | 240 => 41 | 241 => 42 | 276 => 52 | 277 => 53 | n => n
  t := fun n => match n with | 0 => 0 | 3 => 3 | 4 => 4 | 5 => 5 | 9 => 9 | 20 => 20 | 31 => 31 | 37 => 30 | 70 => 50 | 72 => 52 | 75 => 55 | 76 => 56 | 80 => 59 | 127 => 78 | 164 => 106 | n => n
  g := fun n => n
theorem joinLays : Lays.n156 Tryz.prog joinRen where
  mixed := by kernel_rfl
  f156 := (Tryz.func17).trans (by kernel_rfl)
  f165 := (Tryz.func28).trans (by kernel_rfl)
  f166 := (Tryz.func29).trans (by kernel_rfl)
  f169 := (Tryz.func31).trans (by kernel_rfl)
  f240 := (Tryz.func41).trans (by kernel_rfl)
  f241 := (Tryz.func42).trans (by kernel_rfl)
  f276 := (Tryz.func52).trans (by kernel_rfl)
  f277 := (Tryz.func53).trans (by kernel_rfl)
  t0 := (Tryz.underlying0).trans (by kernel_rfl)
  a0 := fun w => by kernel_rfl
  z0 := fun w => by kernel_rfl
  v0 := fun w => by kernel_rfl
  t3 := (Tryz.underlying3).trans (by kernel_rfl)
  a3 := fun w => by kernel_rfl
  z3 := fun w => by kernel_rfl
  v3 := fun w => by kernel_rfl
  t4 := (Tryz.underlying4).trans (by kernel_rfl)
  a4 := fun w => by kernel_rfl
  z4 := fun w => by kernel_rfl
  v4 := fun w => by kernel_rfl
  t9 := (Tryz.underlying9).trans (by kernel_rfl)
  a9 := fun w => by kernel_rfl
  z9 := fun w => by kernel_rfl
  v9 := fun w => by kernel_rfl
  t20 := (Tryz.underlying20).trans (by kernel_rfl)
  a20 := fun w => by kernel_rfl
  z20 := fun w => by kernel_rfl
  v20 := fun w => by kernel_rfl
  t31 := (Tryz.underlying31).trans (by kernel_rfl)
  a31 := fun w => by kernel_rfl
  z31 := fun w => by kernel_rfl
  v31 := fun w => by kernel_rfl
  t37 := (Tryz.underlying30).trans (by kernel_rfl)
  a37 := fun w => by kernel_rfl
  z37 := fun w => by kernel_rfl
  v37 := fun w => by kernel_rfl
  t70 := (Tryz.underlying50).trans (by kernel_rfl)
  a70 := fun w => by kernel_rfl
  z70 := fun w => by kernel_rfl
  v70 := fun w => by kernel_rfl
  t72 := (Tryz.underlying52).trans (by kernel_rfl)
  a72 := fun w => by kernel_rfl
  z72 := fun w => by kernel_rfl
  v72 := fun w => by kernel_rfl
  t75 := (Tryz.underlying55).trans (by kernel_rfl)
  a75 := fun w => by kernel_rfl
  z75 := fun w => by kernel_rfl
  v75 := fun w => by kernel_rfl
  t76 := (Tryz.underlying56).trans (by kernel_rfl)
  a76 := fun w => by kernel_rfl
  z76 := fun w => by kernel_rfl
  v76 := fun w => by kernel_rfl
  t127 := (Tryz.underlying78).trans (by kernel_rfl)
  a127 := fun w => by kernel_rfl
  z127 := fun w => by kernel_rfl
  v127 := fun w => by kernel_rfl
  t164 := (Tryz.underlying106).trans (by kernel_rfl)
  a164 := fun w => by kernel_rfl
  z164 := fun w => by kernel_rfl
  v164 := fun w => by kernel_rfl
theorem joinExtra : Builder.Extra Tryz.prog joinRen where
  sizeBuilder := by kernel_rfl
  liesBuilder := by kernel_rfl
  t5 := by kernel_rfl
  infoByte := by kernel_rfl
  cellsByte := by kernel_rfl
  sizeByte := by kernel_rfl
  a5 := fun w => by kernel_rfl
  z5 := fun w => by kernel_rfl
  v5 := fun w => by kernel_rfl
  neB5 := by decide

/-- strings.Join of lines. -/
theorem joinRow_tr (g n cap : Nat) (cur : List Value) (xs : List (List UInt8)) (sep : List UInt8) (hn : xs.length = n) (hcap : n ≤ cap) (hcl : cur.length = cap) (hv : cur.take n = xs.map str) (hN : n ≤ 1000000) (hlen : (Lib.join xs sep).length ≤ 1000000000) :
    TrD Tryz.prog 17 [.slice (some ⟨g, 0, none⟩) n cap, str sep] [[(g, cellsOf cur 9)]] (str (Lib.join xs sep)) [[(g, cellsOf cur 9)]] := by
  refine ⟨fun B w hw => ?_⟩
  have hg : w.heap[g]? = some (cellsOf cur 9) := hw.has g _ (by simp)
  have hm : (xs.map fun l => (⟨l.toArray⟩ : ByteArray)).map (·.data.toList) = xs := by simp [Function.comp_def]
  have hcells : ∀ (j : Nat) x, (xs.map fun l => (⟨l.toArray⟩ : ByteArray))[j]? = some x → w.cell? ⟨g, 0 + j, none⟩ = some (.string x) := by
    intro j x hj
    rw [List.getElem?_map] at hj
    cases hx : xs[j]? with
    | none => rw [hx] at hj; cases hj
    | some l =>
      rw [hx] at hj
      simp at hj
      subst hj
      have hjn : j < n := by have := (List.getElem?_eq_some_iff.1 hx).1; omega
      refine cell_of hg ?_
      have h1 : (cur.take n)[j]? = some (str l) := by rw [hv, List.getElem?_map, hx]; rfl
      rw [List.getElem?_take, if_pos hjn] at h1
      simpa using h1
  have h := Any.strings_Join joinLays joinExtra g 0 cap (xs.map fun l => (⟨l.toArray⟩ : ByteArray)) ⟨sep.toArray⟩ w hcells (hw.lt (by simp [ids])) (by simp; omega) (by simp; omega) (by rw [hm]; show (Lib.join xs sep).length ≤ 140737488355328; omega)
  rw [hm] at h
  simp only [List.length_map, hn] at h
  refine h.mono ?_
  rintro e w' ⟨rfl, hb⟩
  refine ⟨_, _, rfl, ⟨rfl, rfl⟩, ?_⟩
  exact hw.below hb
end Go.Proofs

namespace Go.Proofs
open Go Go.Eng
set_option maxRecDepth 20000
set_option maxHeartbeats 4000000

theorem skipSpace_no (l : List UInt8) (i : Nat) (_hl : l.length ≤ 140737488355328) (hi : i < l.length) (h1 : at0 l i ≠ 32) (h2 : at0 l i ≠ 9) (h3 : at0 l i ≠ 10) :
    TrP Tryz.prog 108 [str l, inat i] (inat i) := by
  refine Tr.start (n := 30) (rs := [.tmp 4]) rfl rfl rfl rfl fun B => ?_
  obtain ⟨c, hc⟩ := get_some hi
  rw [at0_some hc] at h1 h2 h3
  (repeat' (first | refine k_seq ?_ | refine k_region ?_ | refine k_nil ?_ | refine k_then ?_ | refine k_blk ?_ | refine s_assign ?_))
  refine k_loop (fun _ : Nat => [(0, Eng.str l), (1, inat i)]) (fun _ => []) (fun _ => True) (fun _ => 0) 0 trivial (Knows.spec (by repeat (first | exact trivial | refine ⟨rfl, ?_⟩))) (by repeat (first | exact SubH.nilR _ | refine SubH.pick (by repeat (first | exact HTake.here | apply HTake.there)) ?_)) fun k hk => ?_
  (repeat' (first | refine k_seq ?_ | refine k_region ?_ | refine k_nil ?_ | refine k_then ?_ | refine k_false ?_ | refine k_exit ?_ | refine k_exit_then ?_ | refine k_hit ?_ | refine k_ret ?_ | refine s_grun ?_ | refine s_move ?_ | refine s_assign ?_ | refine s_lss_t ?_ | refine s_eql_f ?_ | refine s_pickt ?_ | refine s_pickf ?_ | refine s_lens ?_ | refine s_index ?_))
  exact e_pure ⟨rfl, rfl⟩

theorem linkLabel_no (p : Nat) (l : List UInt8) (i : Nat) (_hl : l.length ≤ 140737488355328) (hi : i < l.length) (h1 : at0 l i ≠ 91) :
    TrP Tryz.prog 111 [lp p, str l, inat i] (.tuple #[str [], .int .i64 0, .bool false]) := by
  refine Tr.start (n := 69) (rs := [.tmp 6, .tmp 7, .tmp 8]) rfl rfl rfl rfl fun B => ?_
  obtain ⟨c, hc⟩ := get_some hi
  rw [at0_some hc] at h1
  (repeat' (first | refine k_seq ?_ | refine k_region ?_ | refine k_nil ?_ | refine k_then ?_ | refine k_true ?_ | refine k_ret ?_ | refine k_ret_then ?_ | refine s_grun ?_ | refine s_move ?_ | refine s_assign ?_ | refine s_geq_f ?_ | refine s_neq_t ?_ | refine s_pickf ?_ | refine s_lens ?_ | refine s_index ?_))
  exact e_pure ⟨rfl, rfl⟩

theorem linkRef_no (p : Nat) (l : List UInt8) (hl : l.length ≤ 140737488355328) (hi : 0 < l.length) (h1 : at0 l 0 ≠ 32) (h2 : at0 l 0 ≠ 9) (h3 : at0 l 0 ≠ 10) (h4 : at0 l 0 ≠ 91) :
    TrP Tryz.prog 276 [.iface 109 (lp p), str l] (.tuple #[.int .i64 0, .bool false]) := by
  refine Tr.start (n := 200) (rs := [.tmp 4, .tmp 5]) rfl rfl rfl rfl fun B => ?_
  (repeat' (first | refine s_pure (skipSpace_no l 0 hl hi h1 h2 h3) ?_ | refine s_pure (linkLabel_no p l 0 hl hi h4) ?_ | refine k_seq ?_ | refine k_region ?_ | refine k_nil ?_ | refine k_then ?_ | refine k_true ?_ | refine k_ret ?_ | refine k_ret_then ?_ | refine s_gskipf ?_ | refine s_move ?_ | refine s_assign ?_ | refine s_pickt ?_ | refine s_ext ?_ | refine s_notf ?_ | refine s_as ?_))
  exact e_pure ⟨rfl, rfl⟩

theorem Seg.two : ∀ {cs : List Value} {o : Nat} {a b : Value}, cs[o]? = some a → cs[o + 1]? = some b → Seg cs o 2 [a, b]
  | [], _, _, _, h, _ => by simp at h
  | [c], 0, a, b, _, h => by simp at h
  | c :: d :: cs, 0, a, b, h1, h2 => by
    simp at h1 h2
    subst h1 h2
    exact .take (.take .stop)
  | c :: cs, o + 1, a, b, h1, h2 => .drop (Seg.two (by simpa using h1) (by simpa using h2))

theorem pos_tr (p g m cap : Nat) (s : PS) (cs : List Value) (a b : Nat) (hm : 1 ≤ m) (hm2 : m ≤ 140737488355328) (ha : cs[0 + (m - 1) * 4 + 2]? = some (inat a)) (hb : cs[0 + (m - 1) * 4 + 2 + 1]? = some (inat b)) (hs : s.stack = stk g m cap) :
    TrD Tryz.prog 245 [lp p] [s.blk p, stb g cs] (.agg #[inat a, inat b]) [s.blk p, stb g cs] := by
  obtain ⟨par, root, links, lineno, stack, depth, corner, sv, em, list, lists, texts, bt⟩ := s
  subst hs
  refine Tr.start (n := 19) (rs := [.cell 2 101]) rfl rfl rfl rfl fun B => ?_
  (repeat' (first | refine Wp.draw_all (id := 1) Mixed.out (by kernel_rfl) ?_ | refine s_loada (hc := Seg.two ha hb) ?_ | refine k_seq ?_ | refine k_region ?_ | refine k_nil ?_ | refine k_then ?_ | refine k_ret ?_ | refine s_move ?_ | refine s_field ?_ | refine s_nilp ?_ | refine s_storea ?_ | refine s_alloc (fun _ => ?_) | refine u_nil ?_ | refine u_move ?_ | refine u_assign ?_ | refine u_load ?_ | refine u_field ?_ | refine u_nilp ?_ | refine u_sub1 ?_ | refine u_len ?_ | refine u_idxa ?_))
  exact e_ret _ ⟨rfl, rfl⟩ (by repeat (first | exact SubH.nilR _ | refine SubH.pick (by repeat (first | exact HTake.here | apply HTake.there)) ?_))

theorem blocks_tr (p g m cap : Nat) (s : PS) (cs : List Value) (v : Value) (hm : 1 ≤ m) (hm2 : m ≤ 140737488355328) (ha : cs[0 + (m - 1) * 4 + 1]? = some v) (hs : s.stack = stk g m cap) :
    TrD Tryz.prog 244 [lp p] [s.blk p, stb g cs] v [s.blk p, stb g cs] := by
  obtain ⟨par, root, links, lineno, stack, depth, corner, sv, em, list, lists, texts, bt⟩ := s
  subst hs
  refine Tr.start (n := 19) (rs := [.tmp 2]) rfl rfl rfl rfl fun B => ?_
  (repeat' (first | refine Wp.draw_all (id := 1) Mixed.out (by kernel_rfl) ?_ | refine s_load (hc := ha) ?_ | refine k_seq ?_ | refine k_region ?_ | refine k_nil ?_ | refine k_then ?_ | refine k_ret ?_ | refine s_move ?_ | refine s_assign ?_ | refine s_field ?_ | refine s_nilp ?_ | refine u_nil ?_ | refine u_move ?_ | refine u_assign ?_ | refine u_load ?_ | refine u_field ?_ | refine u_nilp ?_ | refine u_sub1 ?_ | refine u_len ?_ | refine u_idxa ?_))
  exact e_ret _ ⟨rfl, rfl⟩ (by repeat (first | exact SubH.nilR _ | refine SubH.pick (by repeat (first | exact HTake.here | apply HTake.there)) ?_))

/-- A text that is not yet parsed into inlines. -/
abbrev txb (t : Nat) (a b : Nat) (il : Value) (raw : List UInt8) : Blk := [(t, cellsOf [inat a, inat b, il, str raw] 103)]
abbrev Ptrs (v : Value) (l : List Nat) (Bk : Blk) : Prop := Own 98 1 v l.length (l.map lp) Bk

theorem newText_tr (p : Nat) (s : PS) (ts : List Nat) (TB : Blk) (a b : Nat) (raw : List UInt8) (hT : Ptrs s.texts ts TB) (htl : ts.length ≤ 1000000) :
    Tr Tryz.prog 126 [lp p, .agg #[inat a, inat b], str raw] [s.blk p, TB] fun u K => ∃ t v' TB', u = lp t ∧ Ptrs v' (ts ++ [t]) TB' ∧ K = [({ s with texts := v' } : PS).blk p, TB', txb t a b (.slice none 0 0) raw] := by
  obtain ⟨par, root, links, lineno, stack, depth, corner, sv, em, list, lists, texts, bt⟩ := s
  refine Tr.start (n := 23) (rs := [.tmp 6]) rfl rfl rfl rfl fun B => ?_
  (repeat' (first | refine k_seq ?_ | refine k_region ?_ | refine k_nil ?_ | refine k_then ?_ | refine s_move ?_ | refine s_assign ?_ | refine s_load ?_ | refine s_field ?_ | refine s_nilp ?_ | refine s_loada ?_ | refine s_buildx ?_ | refine s_box (fun _ => ?_) | refine s_bsl1 (fun _ => ?_)))
  rename_i r1 t r2
  refine s_app hT (by omega) (fun v' Bk' hT' => ?_)
  obtain ⟨g2, cap2, cur2, rfl, rfl, h1, h2, h3, h4⟩ := hT'.pos
  (repeat' (first | refine k_seq ?_ | refine k_region ?_ | refine k_nil ?_ | refine k_then ?_ | refine k_ret ?_ | refine s_move ?_ | refine s_assign ?_ | refine s_field ?_ | refine s_nilp ?_ | refine s_store ?_))
  have hT2 : Ptrs (.slice (some ⟨g2, 0, none⟩) (ts.length + 1) cap2) (ts ++ [t]) [(g2, cellsOf cur2 98)] := by simpa [Ptrs] using hT'
  exact e_ret _ ⟨t, _, _, rfl, hT2, rfl⟩ (by repeat (first | exact SubH.nilR _ | refine SubH.pick (by repeat (first | exact HTake.here | apply HTake.there)) ?_))

theorem join1_tr (v : Value) (l sep : List UInt8) (Bt : Blk) (h : Strs v [l] Bt) : TrD Tryz.prog 17 [v, str sep] [Bt] (str l) [Bt] := by
  obtain ⟨g2, cap2, cur2, rfl, rfl, h1, h2, h3, h4⟩ := (show Own 9 1 v (0 + 1) [str l] Bt from h).pos
  have hc : cur2[0 + 0 * 1]? = some (str l) := h.get rfl
  refine Tr.start (n := 75) (rs := [.tmp 4]) rfl rfl rfl rfl fun B => ?_
  (repeat' (first | refine s_load (hc := hc) ?_ | refine k_seq ?_ | refine k_region ?_ | refine k_nil ?_ | refine k_then ?_ | refine k_true ?_ | refine k_false ?_ | refine k_blk ?_ | refine k_ret ?_ | refine k_ret_then ?_ | refine k_ret_block ?_ | refine s_move ?_ | refine s_assign ?_ | refine s_eql_t ?_ | refine s_eql_f ?_ | refine s_len ?_ | refine s_idxz ?_))
  exact e_ret _ ⟨rfl, rfl⟩ (by repeat (first | exact SubH.nilR _ | refine SubH.pick (by repeat (first | exact HTake.here | apply HTake.there)) ?_))

abbrev pgb (q : Nat) (a b t : Nat) : Blk := [(q, cellsOf [inat a, inat b, lp t] 148)]

/-- A paragraph of lines. -/
theorem build_para (p g m cap pb : Nat) (s : PS) (cs : List Value) (tv : Value) (Bt : Blk) (tx : List UInt8) (ts : List Nat) (TB : Blk) (a b : Nat) (hl : tx.length ≤ 140737488355328) (hi : 0 < tx.length) (h1 : at0 tx 0 ≠ 32) (h2 : at0 tx 0 ≠ 9) (h3 : at0 tx 0 ≠ 10) (h4 : at0 tx 0 ≠ 91)
    (hm : 1 ≤ m) (hm2 : m ≤ 140737488355328) (ha : cs[0 + (m - 1) * 4 + 2]? = some (inat a)) (hb : cs[0 + (m - 1) * 4 + 2 + 1]? = some (inat b)) (ha2 : a ≤ 100000000) (hs : s.stack = stk g m cap)
    (hT : Ptrs s.texts ts TB) (htl : ts.length ≤ 1000000) (ls : List (List UInt8)) (hS : Strs tv ls Bt) (htx : Lib.join ls [10] = tx) (hl0 : ls ≠ []) (hll : ls.length ≤ 1000000) (hlt : tx.length ≤ 1000000000) :
    Tr Tryz.prog 273 [lp pb, .iface 109 (lp p)] [s.blk p, stb g cs, pbb pb tv, Bt, TB] fun u K => ∃ q t v' TB', u = .iface 146 (lp q) ∧ Ptrs v' (ts ++ [t]) TB' ∧
      K = [({ s with texts := v' } : PS).blk p, stb g cs, TB', txb t a (a + ls.length - 1) (.slice none 0 0) tx, pgb q a (a + ls.length - 1) t] := by
  obtain ⟨par, root, links, lineno, stack, depth, corner, sv, em, list, lists, texts, bt⟩ := s
  subst hs
  obtain ⟨k, hk⟩ : ∃ k, ls.length = k + 1 := ⟨ls.length - 1, by have := List.length_pos_iff.2 hl0; omega⟩
  rw [hk]
  obtain ⟨g2, cap2, cur2, rfl, rfl, k1, k2, k3, k4⟩ := (show Own 9 1 tv (k + 1) (ls.map str) Bt from hk ▸ hS).pos
  have hj := joinRow_tr g2 (k + 1) cap2 cur2 ls [10] hk k1 (by omega) (by rw [← k4, Nat.mul_one]) (by omega) (by rw [htx]; exact hlt)
  rw [htx] at hj
  have hne : ¬ tx = [] := by intro h; subst h; simp at hi
  refine Tr.start (n := 67) (rs := [.tmp 4]) rfl rfl rfl rfl fun B => ?_
  (repeat' (first | refine s_callD (hj) ?_ | refine k_seq ?_ | refine k_region ?_ | refine k_nil ?_ | refine k_then ?_ | refine k_false ?_ | refine k_skip ?_ | refine s_move ?_ | refine s_assign ?_ | refine s_load ?_ | refine s_field ?_ | refine s_nilp ?_ | refine s_nep0 ?_))
  refine k_mid [(0, lp pb), (1, .iface 109 (lp p)), (5, str tx)] [(⟨par, root, links, lineno, stk g m cap, depth, corner, sv, em, list, lists, texts, bt⟩ : PS).blk p, stb g cs, pbb pb (.slice (some ⟨g2, 0, none⟩) (k + 1) cap2), [(g2, cellsOf cur2 9)], TB] ?_ ?_
  · (repeat' (first | refine k_blk ?_))
    refine k_loop (fun _ : Nat => [(0, lp pb), (1, .iface 109 (lp p)), (5, str tx)]) (fun _ => [(⟨par, root, links, lineno, stk g m cap, depth, corner, sv, em, list, lists, texts, bt⟩ : PS).blk p, stb g cs, pbb pb (.slice (some ⟨g2, 0, none⟩) (k + 1) cap2), [(g2, cellsOf cur2 9)], TB]) (fun _ => True) (fun _ => 0) 0 trivial (Knows.spec (by repeat (first | exact trivial | refine ⟨rfl, ?_⟩))) (by repeat (first | exact SubH.nilR _ | refine SubH.pick (by repeat (first | exact HTake.here | apply HTake.there)) ?_)) fun k hk => ?_
    (repeat' (first | refine s_pure (linkRef_no p tx hl hi h1 h2 h3 h4) ?_ | refine k_seq ?_ | refine k_region ?_ | refine k_nil ?_ | refine k_then ?_ | refine k_true ?_ | refine k_blk ?_ | refine k_skip ?_ | refine k_exit ?_ | refine k_exit_then ?_ | refine k_hit ?_ | refine k_miss ?_ | refine s_move ?_ | refine s_assign ?_ | refine s_ext ?_ | refine s_nes_t ?_ | refine s_notf ?_))
    exact ⟨(by repeat (first | exact trivial | refine ⟨rfl, ?_⟩)), (by repeat (first | exact SubH.nilR _ | refine SubH.pick (by repeat (first | exact HTake.here | apply HTake.there)) ?_))⟩
  · (repeat' (first | refine Wp.draw_tail (id := 11) 7 Mixed.out (by kernel_rfl) ?_ | refine s_invD (pos_tr p g m cap _ cs a b hm hm2 ha hb rfl) ?_ | refine k_seq ?_ | refine k_region ?_ | refine k_nil ?_ | refine k_then ?_ | refine k_false ?_ | refine k_skip ?_ | refine s_move ?_ | refine s_field ?_ | refine s_sub1 ?_ | refine s_add ?_ | refine s_eqs_f ?_ | refine s_store ?_ | refine s_storea ?_ | refine s_alloc (fun _ => ?_) | refine u_nil ?_ | refine u_move ?_ | refine u_load ?_ | refine u_field ?_ | refine u_nilp ?_ | refine u_len ?_))
    rename_i r8
    refine Wp.draw_held (id := 12) [[(r8, cellsOf [inat a, inat (a + (k + 1) - 1)] 101)]] 9 Mixed.out (by repeat (first | exact SubH.nilR _ | refine SubH.pick (by repeat (first | exact HTake.here | apply HTake.there)) ?_)) rfl ?_
    refine OpsH.first 0 _ (by kernel_rfl) rfl (by kernel_rfl) (by kernel_rfl) rfl (by first | exact p_move rfl | exact p_assign rfl | exact p_extract rfl rfl | exact q_fieldAddr rfl | exact p_nilCheck rfl | exact q_load rfl (by repeat (first | exact HMem.here | apply HMem.skip | apply HMem.there)) rfl | exact q_load_agg rfl (by repeat (first | exact HMem.here | apply HMem.skip | apply HMem.there)) (by repeat constructor) | exact q_len_slice rfl | exact q_len_str rfl | exact q_indexAddr rfl rfl (by omega) | exact q_slice_str rfl rfl rfl (by omega) (by omega) | exact q_makeInterface rfl | exact q_assert rfl | exact p_build rfl (by repeat' (first | exact BFill.nil | refine' BFill.one (by rfl) (by rfl) (by repeat constructor) ?_ | refine' BFill.agg (by rfl) (by rfl) (by repeat constructor) ?_))) ?_
    refine OpsH.first 1 _ (by kernel_rfl) rfl (by kernel_rfl) (by kernel_rfl) rfl (by first | exact p_move rfl | exact p_assign rfl | exact p_extract rfl rfl | exact q_fieldAddr rfl | exact p_nilCheck rfl | exact q_load rfl (by repeat (first | exact HMem.here | apply HMem.skip | apply HMem.there)) rfl | exact q_load_agg rfl (by repeat (first | exact HMem.here | apply HMem.skip | apply HMem.there)) (by repeat constructor) | exact q_len_slice rfl | exact q_len_str rfl | exact q_indexAddr rfl rfl (by omega) | exact q_slice_str rfl rfl rfl (by omega) (by omega) | exact q_makeInterface rfl | exact q_assert rfl | exact p_build rfl (by repeat' (first | exact BFill.nil | refine' BFill.one (by rfl) (by rfl) (by repeat constructor) ?_ | refine' BFill.agg (by rfl) (by rfl) (by repeat constructor) ?_))) ?_
    refine OpsH.first 2 _ (by kernel_rfl) rfl (by kernel_rfl) (by kernel_rfl) rfl (by first | exact p_move rfl | exact p_assign rfl | exact p_extract rfl rfl | exact q_fieldAddr rfl | exact p_nilCheck rfl | exact q_load rfl (by repeat (first | exact HMem.here | apply HMem.skip | apply HMem.there)) rfl | exact q_load_agg rfl (by repeat (first | exact HMem.here | apply HMem.skip | apply HMem.there)) (by repeat constructor) | exact q_len_slice rfl | exact q_len_str rfl | exact q_indexAddr rfl rfl (by omega) | exact q_slice_str rfl rfl rfl (by omega) (by omega) | exact q_makeInterface rfl | exact q_assert rfl | exact p_build rfl (by repeat' (first | exact BFill.nil | refine' BFill.one (by rfl) (by rfl) (by repeat constructor) ?_ | refine' BFill.agg (by rfl) (by rfl) (by repeat constructor) ?_))) ?_
    refine OpsH.first 3 _ (by kernel_rfl) rfl (by kernel_rfl) (by kernel_rfl) rfl (by first | exact p_move rfl | exact p_assign rfl | exact p_extract rfl rfl | exact q_fieldAddr rfl | exact p_nilCheck rfl | exact q_load rfl (by repeat (first | exact HMem.here | apply HMem.skip | apply HMem.there)) rfl | exact q_load_agg rfl (by repeat (first | exact HMem.here | apply HMem.skip | apply HMem.there)) (by repeat constructor) | exact q_len_slice rfl | exact q_len_str rfl | exact q_indexAddr rfl rfl (by omega) | exact q_slice_str rfl rfl rfl (by omega) (by omega) | exact q_makeInterface rfl | exact q_assert rfl | exact p_build rfl (by repeat' (first | exact BFill.nil | refine' BFill.one (by rfl) (by rfl) (by repeat constructor) ?_ | refine' BFill.agg (by rfl) (by rfl) (by repeat constructor) ?_))) ?_
    refine OpsH.only 4 _ (by kernel_rfl) rfl ?_
    refine s_inv (newText_tr p _ ts TB a (a + (k + 1) - 1) tx hT htl) (fun u K hR => ?_)
    obtain ⟨t, v', TB', rfl, hT', rfl⟩ := hR
    (repeat' (first | refine k_nil ?_ | refine k_then ?_))
    refine ⟨(by repeat (first | exact SubH.nilR _ | refine SubH.pick (by repeat (first | exact HTake.here | apply HTake.there)) ?_)), ?_⟩
    refine OpsH.first 5 _ (by kernel_rfl) rfl (by kernel_rfl) (by kernel_rfl) rfl (by first | exact p_move rfl | exact p_assign rfl | exact p_extract rfl rfl | exact q_fieldAddr rfl | exact p_nilCheck rfl | exact q_load rfl (by repeat (first | exact HMem.here | apply HMem.skip | apply HMem.there)) rfl | exact q_load_agg rfl (by repeat (first | exact HMem.here | apply HMem.skip | apply HMem.there)) (by repeat constructor) | exact q_len_slice rfl | exact q_len_str rfl | exact q_indexAddr rfl rfl (by omega) | exact q_slice_str rfl rfl rfl (by omega) (by omega) | exact q_makeInterface rfl | exact q_assert rfl | exact p_build rfl (by repeat' (first | exact BFill.nil | refine' BFill.one (by rfl) (by rfl) (by repeat constructor) ?_ | refine' BFill.agg (by rfl) (by rfl) (by repeat constructor) ?_))) ?_
    refine OpsH.only 6 _ (by kernel_rfl) rfl ?_
    (repeat' (first | refine k_nil ?_ | refine k_then ?_ | refine s_box (fun _ => ?_)))
    refine ⟨(by repeat (first | exact SubH.nilR _ | refine SubH.pick (by repeat (first | exact HTake.here | apply HTake.there)) ?_)), ?_⟩
    rename_i q
    refine OpsH.first 7 _ (by kernel_rfl) rfl (by kernel_rfl) (by kernel_rfl) rfl (by first | exact p_move rfl | exact p_assign rfl | exact p_extract rfl rfl | exact q_fieldAddr rfl | exact p_nilCheck rfl | exact q_load rfl (by repeat (first | exact HMem.here | apply HMem.skip | apply HMem.there)) rfl | exact q_load_agg rfl (by repeat (first | exact HMem.here | apply HMem.skip | apply HMem.there)) (by repeat constructor) | exact q_len_slice rfl | exact q_len_str rfl | exact q_indexAddr rfl rfl (by omega) | exact q_slice_str rfl rfl rfl (by omega) (by omega) | exact q_makeInterface rfl | exact q_assert rfl | exact p_build rfl (by repeat' (first | exact BFill.nil | refine' BFill.one (by rfl) (by rfl) (by repeat constructor) ?_ | refine' BFill.agg (by rfl) (by rfl) (by repeat constructor) ?_))) ?_
    refine OpsH.first 8 _ (by kernel_rfl) rfl (by kernel_rfl) (by kernel_rfl) rfl (by first | exact p_move rfl | exact p_assign rfl | exact p_extract rfl rfl | exact q_fieldAddr rfl | exact p_nilCheck rfl | exact q_load rfl (by repeat (first | exact HMem.here | apply HMem.skip | apply HMem.there)) rfl | exact q_load_agg rfl (by repeat (first | exact HMem.here | apply HMem.skip | apply HMem.there)) (by repeat constructor) | exact q_len_slice rfl | exact q_len_str rfl | exact q_indexAddr rfl rfl (by omega) | exact q_slice_str rfl rfl rfl (by omega) (by omega) | exact q_makeInterface rfl | exact q_assert rfl | exact p_build rfl (by repeat' (first | exact BFill.nil | refine' BFill.one (by rfl) (by rfl) (by repeat constructor) ?_ | refine' BFill.agg (by rfl) (by rfl) (by repeat constructor) ?_))) ?_
    refine OpsH.nil (by kernel_rfl) ?_
    (repeat' (first | refine k_ret ?_))
    exact e_ret _ ⟨q, t, v', TB', rfl, hT', rfl⟩ (by repeat (first | exact SubH.nilR _ | refine SubH.pick (by repeat (first | exact HTake.here | apply HTake.there)) ?_))
end Go.Proofs

/- addLine at a first line that begins nothing but a paragraph. Conditions: PLine. -/
import Derived.Test.YtblaoglgknjepaaGreatDoorW9
import Derived.Test.YtblaoglgknjepaaGreatDoorEngB
namespace Go.Proofs
open Go Go.Eng
set_option maxRecDepth 20000
set_option maxHeartbeats 4000000

/-- The functions that a line is tried with. -/
abbrev newsL : List Value := [.func (.func 58) #[] #[], .func (.func 59) #[] #[], .func (.func 60) #[] #[], .func (.func 61) #[] #[], .func (.func 62) #[] #[], .func (.func 63) #[] #[], .func (.func 64) #[] #[], .func (.func 65) #[] #[]]
theorem news_tr : Tr Tryz.prog 34 [] [] fun u K => ∃ r, u = .slice (some ⟨r, 0, none⟩) 8 8 ∧ K = [[(r, cellsOf newsL 91)]] := by
  refine Tr.start (n := 2) (rs := [.tmp 0]) rfl rfl rfl rfl fun B => ?_
  (repeat' (first | refine k_seq ?_ | refine k_region ?_ | refine k_nil ?_ | refine k_then ?_ | refine k_ret ?_ | refine s_assign ?_ | refine s_bsln (fun _ => ?_)))
  exact e_ret _ ⟨_, rfl, rfl⟩ (SubH.refl _)

/-- A line that begins nothing but a paragraph. -/
structure PLine (i : Nat) (tx : List UInt8) : Prop where
  nt : NoTab tx
  len : tx.length ≤ 140737488355328
  le : i ≤ tx.length
  ink : ltrim (tx.drop i) ≠ []
  sp : nsp (tx.drop i) < 4
  quote : at0 tx (sp3 i tx) ≠ 62
  atx : ∀ nl q nq nv, TrD Tryz.prog 100 [lp q, lp nq] [lnb q i tx nl, [(nq, cellsOf [nv] 3)]] (.bool false) [lnb q i tx nl, [(nq, cellsOf [nv] 3)]]
  m45 : at0 tx (sp3 i tx) ≠ 45
  m95 : at0 tx (sp3 i tx) ≠ 95
  m42 : at0 tx (sp3 i tx) ≠ 42
  m60 : at0 tx (sp3 i tx) ≠ 60
  m96 : at0 tx (sp3 i tx) ≠ 96
  m126 : at0 tx (sp3 i tx) ≠ 126
  m61 : at0 tx (sp3 i tx) ≠ 61
  item : noItem (tx.drop (sp3 i tx))

theorem addLine_first (p g cap pr : Nat) (o : PO) (s : PS) (cur : List Value) (bty : Nat) (bv e1 e2 e3 : Value) (ln : Nat) (tx : List UInt8) (nl : Nat) (hp : PLine 0 tx)
    (hO : Stk (stk g 1 cap) 1 [.iface bty bv, e1, e2, e3] (stb g cur)) (ht : Nat.beq bty 129 = false) (ht2 : Nat.beq bty 215 = false)
    (hs : s.stack = stk g 1 cap) (hln : s.lineno = inat ln) (hpar : s.par = lp pr) (htab : o.table = false) :
    Tr Tryz.prog 28 [lp p, lnv 0 tx nl] [s.blk p, stb g cur, o.blk pr] fun u K => u = unit ∧ ∃ g' cap' cur' pb tv Bt, Stk (stk g' 2 cap') 2 ([.iface bty bv, e1, e2, e3] ++ [.iface 129 (lp pb), .slice none 0 0, inat ln, inat ln]) (stb g' cur') ∧
      Strs tv [ltrim tx] Bt ∧ K = [({ s with stack := stk g' 2 cap', depth := inat 0 } : PS).blk p, stb g' cur', o.blk pr, pbb pb tv, Bt] := by
  obtain ⟨par, root, links, lineno, stack, depth, corner, str, em, list, lists, texts, bt⟩ := s
  subst hs; subst hln; subst hpar
  obtain ⟨v1, v2, v3, v4⟩ := hO.view
  have hb : cur[0 + (1 - 1) * 4 + 0]? = some (.iface bty bv) := hO.get rfl
  refine Tr.start (n := 113) (rs := []) rfl rfl rfl rfl fun B => ?_
  (repeat' (first | refine k_seq ?_ | refine k_region ?_ | refine k_nil ?_ | refine k_then ?_ | refine k_scope ?_ | refine s_move ?_ | refine s_field ?_ | refine s_nilp ?_ | refine s_store ?_ | refine s_box (fun _ => ?_)))
  rename_i r3
  refine k_mid [(0, lp p), (3, lp r3)]
    [(⟨lp pr, root, links, inat ln, stk g 1 cap, inat 0, corner, str, em, list, lists, texts, bt⟩ : PS).blk p, stb g cur, o.blk pr, lnb r3 0 tx nl] ?_ ?_
  · (repeat' (first | refine k_blk ?_))
    refine k_loop (fun _ : Nat => [(0, lp p), (3, lp r3)]) (fun _ => [(⟨lp pr, root, links, inat ln, stk g 1 cap, inat 0, corner, str, em, list, lists, texts, bt⟩ : PS).blk p, stb g cur, o.blk pr, lnb r3 0 tx nl]) (fun _ => True) (fun _ => 0) 0 trivial (Knows.spec (by repeat (first | exact trivial | refine ⟨rfl, ?_⟩))) (by repeat (first | exact SubH.nilR _ | refine SubH.pick (by repeat (first | exact HTake.here | apply HTake.there)) ?_)) fun k hk => ?_
    (repeat' (first | refine Wp.draw_all (id := 2) Mixed.out (by kernel_rfl) ?_ | refine k_seq ?_ | refine k_nil ?_ | refine k_then ?_ | refine k_false ?_ | refine k_exit ?_ | refine k_exit_then ?_ | refine k_hit ?_ | refine u_nil ?_ | refine u_move ?_ | refine u_load ?_ | refine u_field ?_ | refine u_nilp ?_ | refine u_add1 ?_ | refine u_lss_f ?_ | refine u_len ?_))
    exact ⟨(by repeat (first | exact trivial | refine ⟨rfl, ?_⟩)), (by repeat (first | exact SubH.nilR _ | refine SubH.pick (by repeat (first | exact HTake.here | apply HTake.there)) ?_))⟩
  · (repeat' (first | refine s_callD (isBlank_tr r3 0 tx nl hp.len hp.le false (decide_eq_false hp.ink).symm) ?_ | refine k_seq ?_ | refine k_region ?_ | refine k_nil ?_ | refine k_then ?_ | refine k_false ?_ | refine k_skip ?_ | refine k_label ?_))
    refine s_call news_tr (fun u K hR => ?_)
    obtain ⟨rn, rfl, rfl⟩ := hR
    (repeat' (first | refine k_nil ?_ | refine k_then ?_ | refine s_move ?_ | refine s_len ?_))
    refine k_mid [(0, lp p), (3, lp r3)] [(⟨lp pr, root, links, inat ln, stk g 1 cap, inat 0, corner, str, em, list, lists, texts, bt⟩ : PS).blk p, stb g cur, o.blk pr, lnb r3 0 tx nl] ?_ ?_
    · (repeat' (first | refine k_blk ?_))
      refine k_loop (fun k : Nat => [(0, lp p), (3, lp r3), (86, .slice (some ⟨rn, 0, none⟩) 8 8), (87, inat 8), (88, inat k)]) (fun _ => [(⟨lp pr, root, links, inat ln, stk g 1 cap, inat 0, corner, str, em, list, lists, texts, bt⟩ : PS).blk p, stb g cur, o.blk pr, lnb r3 0 tx nl, [(rn, cellsOf newsL 91)]])
        (fun k => k ≤ 8) (fun k => 8 - k) 0 (by omega) (Knows.spec (by repeat (first | exact trivial | refine ⟨rfl, ?_⟩))) (by repeat (first | exact SubH.nilR _ | refine SubH.pick (by repeat (first | exact HTake.here | apply HTake.there)) ?_)) fun k hk => ?_
      rcases (by omega : k = 0 ∨ k = 1 ∨ k = 2 ∨ k = 3 ∨ k = 4 ∨ k = 5 ∨ k = 6 ∨ k = 7 ∨ k = 8) with rfl | rfl | rfl | rfl | rfl | rfl | rfl | rfl | rfl
      · (repeat' (first | refine s_valD (newQuote_no (lp p) 0 tx nl hp.nt hp.len hp.le hp.quote) ?_ | refine k_seq ?_ | refine k_region ?_ | refine k_nil ?_ | refine k_then ?_ | refine k_true ?_ | refine k_false ?_ | refine k_blk ?_ | refine k_skip ?_ | refine k_block ?_ | refine s_move ?_ | refine s_assign ?_ | refine s_load ?_ | refine s_add1 ?_ | refine s_lss_t ?_ | refine s_ext ?_ | refine s_idxa ?_ | refine s_loada ?_ | refine s_storea ?_ | refine s_alloc (fun _ => ?_)))
        exact ⟨1, (Knows.spec (by repeat (first | exact trivial | refine ⟨rfl, ?_⟩))), (by repeat (first | exact SubH.nilR _ | refine SubH.pick (by repeat (first | exact HTake.here | apply HTake.there)) ?_)), by omega, by omega⟩
      · (repeat' (first | refine s_valD (newATX_no (lp p) 0 tx nl (fun q nq nv => hp.atx nl q nq nv)) ?_ | refine k_seq ?_ | refine k_region ?_ | refine k_nil ?_ | refine k_then ?_ | refine k_true ?_ | refine k_false ?_ | refine k_blk ?_ | refine k_skip ?_ | refine k_block ?_ | refine s_move ?_ | refine s_assign ?_ | refine s_load ?_ | refine s_add1 ?_ | refine s_lss_t ?_ | refine s_ext ?_ | refine s_idxa ?_ | refine s_loada ?_ | refine s_storea ?_ | refine s_alloc (fun _ => ?_)))
        exact ⟨2, (Knows.spec (by repeat (first | exact trivial | refine ⟨rfl, ?_⟩))), (by repeat (first | exact SubH.nilR _ | refine SubH.pick (by repeat (first | exact HTake.here | apply HTake.there)) ?_)), by omega, by omega⟩
      · (repeat' (first | refine s_valD (setext_no1 p g 1 cap 0 _ cur bty bv 0 tx nl (by omega) (by omega) (by omega) hb ht rfl rfl) ?_ | refine k_seq ?_ | refine k_region ?_ | refine k_nil ?_ | refine k_then ?_ | refine k_true ?_ | refine k_false ?_ | refine k_blk ?_ | refine k_skip ?_ | refine k_block ?_ | refine s_move ?_ | refine s_assign ?_ | refine s_load ?_ | refine s_add1 ?_ | refine s_lss_t ?_ | refine s_ext ?_ | refine s_idxa ?_ | refine s_loada ?_ | refine s_storea ?_ | refine s_alloc (fun _ => ?_)))
        exact ⟨3, (Knows.spec (by repeat (first | exact trivial | refine ⟨rfl, ?_⟩))), (by repeat (first | exact SubH.nilR _ | refine SubH.pick (by repeat (first | exact HTake.here | apply HTake.there)) ?_)), by omega, by omega⟩
      · (repeat' (first | refine s_valD (newHR_no (lp p) 0 tx nl hp.nt hp.len hp.le hp.m45 hp.m95 hp.m42) ?_ | refine k_seq ?_ | refine k_region ?_ | refine k_nil ?_ | refine k_then ?_ | refine k_true ?_ | refine k_false ?_ | refine k_blk ?_ | refine k_skip ?_ | refine k_block ?_ | refine s_move ?_ | refine s_assign ?_ | refine s_load ?_ | refine s_add1 ?_ | refine s_lss_t ?_ | refine s_ext ?_ | refine s_idxa ?_ | refine s_loada ?_ | refine s_storea ?_ | refine s_alloc (fun _ => ?_)))
        exact ⟨4, (Knows.spec (by repeat (first | exact trivial | refine ⟨rfl, ?_⟩))), (by repeat (first | exact SubH.nilR _ | refine SubH.pick (by repeat (first | exact HTake.here | apply HTake.there)) ?_)), by omega, by omega⟩
      · (repeat' (first | refine s_valD (newListItem_no p g 1 cap 0 _ cur bty bv 0 tx nl hp.nt hp.len hp.le hp.item (by omega) (by omega) hb ht2 rfl rfl) ?_ | refine k_seq ?_ | refine k_region ?_ | refine k_nil ?_ | refine k_then ?_ | refine k_true ?_ | refine k_false ?_ | refine k_blk ?_ | refine k_skip ?_ | refine k_block ?_ | refine s_move ?_ | refine s_assign ?_ | refine s_load ?_ | refine s_add1 ?_ | refine s_lss_t ?_ | refine s_ext ?_ | refine s_idxa ?_ | refine s_loada ?_ | refine s_storea ?_ | refine s_alloc (fun _ => ?_)))
        exact ⟨5, (Knows.spec (by repeat (first | exact trivial | refine ⟨rfl, ?_⟩))), (by repeat (first | exact SubH.nilR _ | refine SubH.pick (by repeat (first | exact HTake.here | apply HTake.there)) ?_)), by omega, by omega⟩
      · (repeat' (first | refine s_valD (newHTML_no (lp p) 0 tx nl hp.nt hp.len hp.le hp.m60) ?_ | refine k_seq ?_ | refine k_region ?_ | refine k_nil ?_ | refine k_then ?_ | refine k_true ?_ | refine k_false ?_ | refine k_blk ?_ | refine k_skip ?_ | refine k_block ?_ | refine s_move ?_ | refine s_assign ?_ | refine s_load ?_ | refine s_add1 ?_ | refine s_lss_t ?_ | refine s_ext ?_ | refine s_idxa ?_ | refine s_loada ?_ | refine s_storea ?_ | refine s_alloc (fun _ => ?_)))
        exact ⟨6, (Knows.spec (by repeat (first | exact trivial | refine ⟨rfl, ?_⟩))), (by repeat (first | exact SubH.nilR _ | refine SubH.pick (by repeat (first | exact HTake.here | apply HTake.there)) ?_)), by omega, by omega⟩
      · (repeat' (first | refine s_valD (newFence_no (lp p) 0 tx nl hp.nt hp.len hp.le hp.m96 hp.m126) ?_ | refine k_seq ?_ | refine k_region ?_ | refine k_nil ?_ | refine k_then ?_ | refine k_true ?_ | refine k_false ?_ | refine k_blk ?_ | refine k_skip ?_ | refine k_block ?_ | refine s_move ?_ | refine s_assign ?_ | refine s_load ?_ | refine s_add1 ?_ | refine s_lss_t ?_ | refine s_ext ?_ | refine s_idxa ?_ | refine s_loada ?_ | refine s_storea ?_ | refine s_alloc (fun _ => ?_)))
        exact ⟨7, (Knows.spec (by repeat (first | exact trivial | refine ⟨rfl, ?_⟩))), (by repeat (first | exact SubH.nilR _ | refine SubH.pick (by repeat (first | exact HTake.here | apply HTake.there)) ?_)), by omega, by omega⟩
      · (repeat' (first | refine s_valD (pre_no1 p g 1 cap _ cur bty bv 0 tx nl (by omega) (by omega) hb ht rfl hp.nt hp.len hp.le hp.sp) ?_ | refine k_seq ?_ | refine k_region ?_ | refine k_nil ?_ | refine k_then ?_ | refine k_true ?_ | refine k_false ?_ | refine k_blk ?_ | refine k_skip ?_ | refine k_block ?_ | refine s_move ?_ | refine s_assign ?_ | refine s_load ?_ | refine s_add1 ?_ | refine s_lss_t ?_ | refine s_ext ?_ | refine s_idxa ?_ | refine s_loada ?_ | refine s_storea ?_ | refine s_alloc (fun _ => ?_)))
        exact ⟨8, (Knows.spec (by repeat (first | exact trivial | refine ⟨rfl, ?_⟩))), (by repeat (first | exact SubH.nilR _ | refine SubH.pick (by repeat (first | exact HTake.here | apply HTake.there)) ?_)), by omega, by omega⟩
      · (repeat' (first | refine k_seq ?_ | refine k_region ?_ | refine k_nil ?_ | refine k_then ?_ | refine k_false ?_ | refine k_exit ?_ | refine k_exit_then ?_ | refine k_hit ?_ | refine s_lss_f ?_))
        exact ⟨(by repeat (first | exact trivial | refine ⟨rfl, ?_⟩)), (by repeat (first | exact SubH.nilR _ | refine SubH.pick (by repeat (first | exact HTake.here | apply HTake.there)) ?_))⟩
    · (repeat' (first | refine k_region ?_ | refine s_move ?_ | refine s_loada ?_))
      refine s_call (newPara_first p g 0 cap pr o _ [.iface bty bv, e1, e2, e3] cur bty bv ln 0 tx nl hp.len hp.le (by omega) hO rfl ht rfl rfl rfl rfl htab) (fun u K hR => ?_)
      obtain ⟨rfl, g', cap', cur', pb, tv, Bt, h1, h2, rfl⟩ := hR
      (repeat' (first | refine k_nil ?_ | refine k_nogo ?_))
      exact e_norm _ ⟨rfl, g', cap', cur', pb, tv, Bt, h1, h2, rfl⟩ (by repeat (first | exact SubH.nilR _ | refine SubH.pick (by repeat (first | exact HTake.here | apply HTake.there)) ?_))
end Go.Proofs

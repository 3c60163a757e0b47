/- addLine at the opening line, at a line between, and at the closing line. Conditions: FLine, bounds. -/
import Derived.Test.YtblaoglgknjepaaGreatDoorF5
import Derived.Test.YtblaoglgknjepaaGreatDoorW11
namespace Go.Proofs
open Go Go.Eng
set_option maxRecDepth 20000
set_option maxHeartbeats 4000000

theorem addLine_open (T : Nat) (es : List Value) (hE : EntOK es) (p g cap K : Nat) (s : PS) (cur : List Value) (bty : Nat) (bv e1 e2 e3 : Value) (ln nl : Nat) (hK : 3 ≤ K) (hK2 : K ≤ 10000)
    (hO : Stk (stk g 1 cap) 1 [.iface bty bv, e1, e2, e3] (stb g cur)) (ht : Nat.beq bty 129 = false) (ht2 : Nat.beq bty 215 = false)
    (hs : s.stack = stk g 1 cap) (hln : s.lineno = inat ln) :
    Tr Tryz.prog 28 [lp p, lnv 0 (tildes K) nl] [s.blk p, stb g cur, ent T es] fun u K' => u = unit ∧ ∃ g' cap' cur' b, Stk (stk g' 2 cap') 2 ([.iface bty bv, e1, e2, e3] ++ [.iface 224 (lp b), .slice none 0 0, inat ln, inat ln]) (stb g' cur') ∧
      K' = [({ s with stack := stk g' 2 cap', depth := inat 0 } : PS).blk p, stb g' cur', fbb b K (.slice none 0 0), ent T es] := by
  obtain ⟨par, root, links, lineno, stack, depth, corner, sv, em, list, lists, texts, bt⟩ := s
  subst hs; subst hln
  obtain ⟨v1, v2, v3, v4⟩ := hO.view
  have hb : cur[0 + (1 - 1) * 4 + 0]? = some (.iface bty bv) := hO.get rfl
  have hlen : (tildes K).length ≤ 140737488355328 := by rw [tildes_len]; omega
  have hnt := tildes_nt K
  have hat := tildes_at (K := K) (by omega)
  have hink := ltrim_tildes (K := K) (by omega)
  have hz : 0 ≤ (tildes K).length := Nat.zero_le _
  have hn : ∀ c, c ≠ 126 → at0 (tildes K) (sp3 0 (tildes K)) ≠ c := fun c hc h => hc (h.symm.trans hat)
  have hni : noItem ((tildes K).drop (sp3 0 (tildes K))) := by
    rw [sp3_tildes, List.drop_zero]
    have h0 : at0 (tildes K) 0 = 126 := at0_tildes (by omega)
    refine ⟨by omega, by omega, by omega, fun j hj hj0 => ?_⟩
    have := hj 0 hj0
    omega
  refine Tr.start (n := 113) (rs := []) rfl rfl rfl rfl fun B => ?_
  (repeat' (first | refine k_seq ?_ | refine k_region ?_ | refine k_nil ?_ | refine k_then ?_ | refine k_scope ?_ | refine s_move ?_ | refine s_field ?_ | refine s_nilp ?_ | refine s_store ?_ | refine s_box (fun _ => ?_)))
  rename_i r3
  refine k_mid [(0, lp p), (3, lp r3)]
    [(⟨par, root, links, inat ln, stk g 1 cap, inat 0, corner, sv, em, list, lists, texts, bt⟩ : PS).blk p, stb g cur, ent T es, lnb r3 0 (tildes K) nl] ?_ ?_
  · (repeat' (first | refine k_blk ?_))
    refine k_loop (fun _ : Nat => [(0, lp p), (3, lp r3)]) (fun _ => [(⟨par, root, links, inat ln, stk g 1 cap, inat 0, corner, sv, em, list, lists, texts, bt⟩ : PS).blk p, stb g cur, ent T es, lnb r3 0 (tildes K) nl]) (fun _ => True) (fun _ => 0) 0 trivial (Knows.spec (by repeat (first | exact trivial | refine ⟨rfl, ?_⟩))) (by repeat (first | exact SubH.nilR _ | refine SubH.pick (by repeat (first | exact HTake.here | apply HTake.there)) ?_)) fun k hk => ?_
    (repeat' (first | refine Wp.draw_all (id := 2) Mixed.out (by kernel_rfl) ?_ | refine k_seq ?_ | refine k_nil ?_ | refine k_then ?_ | refine k_false ?_ | refine k_exit ?_ | refine k_exit_then ?_ | refine k_hit ?_ | refine u_nil ?_ | refine u_move ?_ | refine u_load ?_ | refine u_field ?_ | refine u_nilp ?_ | refine u_add1 ?_ | refine u_lss_f ?_ | refine u_len ?_))
    exact ⟨(by repeat (first | exact trivial | refine ⟨rfl, ?_⟩)), (by repeat (first | exact SubH.nilR _ | refine SubH.pick (by repeat (first | exact HTake.here | apply HTake.there)) ?_))⟩
  · (repeat' (first | refine s_callD (isBlank_tr r3 0 (tildes K) nl hlen hz false (decide_eq_false hink).symm) ?_ | refine k_seq ?_ | refine k_region ?_ | refine k_nil ?_ | refine k_then ?_ | refine k_false ?_ | refine k_skip ?_ | refine k_label ?_))
    refine s_call news_tr (fun u K' hR => ?_)
    obtain ⟨rn, rfl, rfl⟩ := hR
    (repeat' (first | refine k_nil ?_ | refine k_then ?_ | refine s_move ?_ | refine s_len ?_))
    refine k_midx (fun _ : Unit => []) (fun _ => []) (fun _ => False) ?_ ?_
    · (repeat' (first | refine k_blk ?_))
      refine k_loop (fun k : Nat => [(0, lp p), (3, lp r3), (86, .slice (some ⟨rn, 0, none⟩) 8 8), (87, inat 8), (88, inat k)]) (fun _ => [(⟨par, root, links, inat ln, stk g 1 cap, inat 0, corner, sv, em, list, lists, texts, bt⟩ : PS).blk p, stb g cur, ent T es, lnb r3 0 (tildes K) nl, [(rn, cellsOf newsL 91)]])
        (fun k => k ≤ 6) (fun k => 8 - k) 0 (by omega) (Knows.spec (by repeat (first | exact trivial | refine ⟨rfl, ?_⟩))) (by repeat (first | exact SubH.nilR _ | refine SubH.pick (by repeat (first | exact HTake.here | apply HTake.there)) ?_)) fun k hk => ?_
      rcases (by omega : k = 0 ∨ k = 1 ∨ k = 2 ∨ k = 3 ∨ k = 4 ∨ k = 5 ∨ k = 6) with rfl | rfl | rfl | rfl | rfl | rfl | rfl
      · (repeat' (first | refine s_valD (newQuote_no (lp p) 0 (tildes K) nl hnt hlen hz (hn 62 (by decide))) ?_ | refine k_seq ?_ | refine k_region ?_ | refine k_nil ?_ | refine k_then ?_ | refine k_true ?_ | refine k_false ?_ | refine k_blk ?_ | refine k_skip ?_ | refine k_block ?_ | refine s_move ?_ | refine s_assign ?_ | refine s_load ?_ | refine s_add1 ?_ | refine s_lss_t ?_ | refine s_ext ?_ | refine s_idxa ?_ | refine s_loada ?_ | refine s_storea ?_ | refine s_alloc (fun _ => ?_)))
        exact ⟨1, (Knows.spec (by repeat (first | exact trivial | refine ⟨rfl, ?_⟩))), (by repeat (first | exact SubH.nilR _ | refine SubH.pick (by repeat (first | exact HTake.here | apply HTake.there)) ?_)), by omega, by omega⟩
      · (repeat' (first | refine s_valD (newATX_no (lp p) 0 (tildes K) nl (fun q nq nv => trimHeading_no q nq 0 nv _ nl hnt hlen hz (hn 35 (by decide)))) ?_ | refine k_seq ?_ | refine k_region ?_ | refine k_nil ?_ | refine k_then ?_ | refine k_true ?_ | refine k_false ?_ | refine k_blk ?_ | refine k_skip ?_ | refine k_block ?_ | refine s_move ?_ | refine s_assign ?_ | refine s_load ?_ | refine s_add1 ?_ | refine s_lss_t ?_ | refine s_ext ?_ | refine s_idxa ?_ | refine s_loada ?_ | refine s_storea ?_ | refine s_alloc (fun _ => ?_)))
        exact ⟨2, (Knows.spec (by repeat (first | exact trivial | refine ⟨rfl, ?_⟩))), (by repeat (first | exact SubH.nilR _ | refine SubH.pick (by repeat (first | exact HTake.here | apply HTake.there)) ?_)), by omega, by omega⟩
      · (repeat' (first | refine s_valD (setext_no1 p g 1 cap 0 _ cur bty bv 0 (tildes K) nl (by omega) (by omega) (by omega) hb ht rfl rfl) ?_ | refine k_seq ?_ | refine k_region ?_ | refine k_nil ?_ | refine k_then ?_ | refine k_true ?_ | refine k_false ?_ | refine k_blk ?_ | refine k_skip ?_ | refine k_block ?_ | refine s_move ?_ | refine s_assign ?_ | refine s_load ?_ | refine s_add1 ?_ | refine s_lss_t ?_ | refine s_ext ?_ | refine s_idxa ?_ | refine s_loada ?_ | refine s_storea ?_ | refine s_alloc (fun _ => ?_)))
        exact ⟨3, (Knows.spec (by repeat (first | exact trivial | refine ⟨rfl, ?_⟩))), (by repeat (first | exact SubH.nilR _ | refine SubH.pick (by repeat (first | exact HTake.here | apply HTake.there)) ?_)), by omega, by omega⟩
      · (repeat' (first | refine s_valD (newHR_no (lp p) 0 (tildes K) nl hnt hlen hz (hn 45 (by decide)) (hn 95 (by decide)) (hn 42 (by decide))) ?_ | refine k_seq ?_ | refine k_region ?_ | refine k_nil ?_ | refine k_then ?_ | refine k_true ?_ | refine k_false ?_ | refine k_blk ?_ | refine k_skip ?_ | refine k_block ?_ | refine s_move ?_ | refine s_assign ?_ | refine s_load ?_ | refine s_add1 ?_ | refine s_lss_t ?_ | refine s_ext ?_ | refine s_idxa ?_ | refine s_loada ?_ | refine s_storea ?_ | refine s_alloc (fun _ => ?_)))
        exact ⟨4, (Knows.spec (by repeat (first | exact trivial | refine ⟨rfl, ?_⟩))), (by repeat (first | exact SubH.nilR _ | refine SubH.pick (by repeat (first | exact HTake.here | apply HTake.there)) ?_)), by omega, by omega⟩
      · (repeat' (first | refine s_valD (newListItem_no p g 1 cap 0 _ cur bty bv 0 (tildes K) nl hnt hlen hz hni (by omega) (by omega) hb ht2 rfl rfl) ?_ | refine k_seq ?_ | refine k_region ?_ | refine k_nil ?_ | refine k_then ?_ | refine k_true ?_ | refine k_false ?_ | refine k_blk ?_ | refine k_skip ?_ | refine k_block ?_ | refine s_move ?_ | refine s_assign ?_ | refine s_load ?_ | refine s_add1 ?_ | refine s_lss_t ?_ | refine s_ext ?_ | refine s_idxa ?_ | refine s_loada ?_ | refine s_storea ?_ | refine s_alloc (fun _ => ?_)))
        exact ⟨5, (Knows.spec (by repeat (first | exact trivial | refine ⟨rfl, ?_⟩))), (by repeat (first | exact SubH.nilR _ | refine SubH.pick (by repeat (first | exact HTake.here | apply HTake.there)) ?_)), by omega, by omega⟩
      · (repeat' (first | refine s_valD (newHTML_no (lp p) 0 (tildes K) nl hnt hlen hz (hn 60 (by decide))) ?_ | refine k_seq ?_ | refine k_region ?_ | refine k_nil ?_ | refine k_then ?_ | refine k_true ?_ | refine k_false ?_ | refine k_blk ?_ | refine k_skip ?_ | refine k_block ?_ | refine s_move ?_ | refine s_assign ?_ | refine s_load ?_ | refine s_add1 ?_ | refine s_lss_t ?_ | refine s_ext ?_ | refine s_idxa ?_ | refine s_loada ?_ | refine s_storea ?_ | refine s_alloc (fun _ => ?_)))
        exact ⟨6, (Knows.spec (by repeat (first | exact trivial | refine ⟨rfl, ?_⟩))), (by repeat (first | exact SubH.nilR _ | refine SubH.pick (by repeat (first | exact HTake.here | apply HTake.there)) ?_)), by omega, by omega⟩
      · (repeat' (first | refine k_seq ?_ | refine k_region ?_ | refine k_nil ?_ | refine k_then ?_ | refine k_true ?_ | refine k_blk ?_ | refine k_skip ?_ | refine s_move ?_ | refine s_assign ?_ | refine s_load ?_ | refine s_lss_t ?_ | refine s_idxa ?_ | refine s_loada ?_))
        refine s_valR (newFence_yes T es hE p g cap _ [.iface bty bv, e1, e2, e3] cur ln K nl hO rfl rfl rfl hK hK2) (fun u K' hR => ?_)
        obtain ⟨rfl, g', cap', cur', b, h1, rfl⟩ := hR
        (repeat' (first | refine s_callD (isBlank_tr r3 0 [] 0 (by simp) (by simp) true rfl) ?_ | refine k_seq ?_ | refine k_region ?_ | refine k_nil ?_ | refine k_then ?_ | refine k_true ?_ | refine k_ret ?_ | refine k_ret_then ?_ | refine k_ret_block ?_ | refine k_ret_nogo ?_ | refine s_move ?_ | refine s_assign ?_ | refine s_ext ?_ | refine s_loada ?_ | refine s_storea ?_ | refine s_alloc (fun _ => ?_)))
        exact e_ret _ ⟨rfl, g', cap', cur', b, h1, rfl⟩ (by repeat (first | exact SubH.nilR _ | refine SubH.pick (by repeat (first | exact HTake.here | apply HTake.there)) ?_))
    · intro _ h
      exact h.elim

inductive AL where
  | a
  | b (cn : Bool) (cur : List Value) (tv : Value) (Bt : Blk) (e : Nat)

/-- A line between the fences. -/
theorem addLine_in (T : Nat) (es : List Value) (hE : EntOK es) (p g cap b K : Nat) (s : PS) (cn : Bool) (hcn : s.corner = .bool cn) (cur : List Value) (bty : Nat) (bv e1 e2 e3 f1 : Value) (fa fe ln : Nat) (tx : List UInt8) (nl : Nat) (hF : FLine K tx) (hK : 3 ≤ K) (hK2 : K ≤ 10000) (tv : Value) (ls : List (List UInt8)) (Bt : Blk) (hT : Strs tv ls Bt) (hll : ls.length ≤ 1000000)
    (hO : Stk (stk g 2 cap) 2 [.iface bty bv, e1, e2, e3, .iface 224 (lp b), f1, inat fa, inat fe] (stb g cur)) (hs : s.stack = stk g 2 cap) (hln : s.lineno = inat ln) :
    Tr Tryz.prog 28 [lp p, lnv 0 tx nl] [s.blk p, stb g cur, fbb b K tv, Bt, ent T es] fun u K' => u = unit ∧ ∃ cn' cur' tv' Bt' fe', Stk (stk g 2 cap) 2 [.iface bty bv, e1, e2, e3, .iface 224 (lp b), f1, inat fa, inat fe'] (stb g cur') ∧
      Strs tv' (ls ++ [tx]) Bt' ∧ K' = [({ s with corner := .bool cn', depth := inat 1 } : PS).blk p, stb g cur', fbb b K tv', Bt', ent T es] := by
  obtain ⟨par, root, links, lineno, stack, depth, corner, sv, em, list, lists, texts, bt⟩ := s
  subst hs; subst hln; subst hcn
  obtain ⟨v1, v2, v3, v4⟩ := hO.view
  have hb1 : cur[0 + (0 + 1) * 4 + 0]? = some (.iface 224 (lp b)) := hO.get rfl
  have hlen : tx.length ≤ 140737488355328 := by have := hF.len; omega
  have hz : 0 ≤ tx.length := Nat.zero_le _
  have hq : cur.take (4 + 4) = [.iface bty bv, e1, e2, e3] ++ [.iface 224 (lp b), f1, inat fa, inat fe] := v4
  refine Tr.start (n := 113) (rs := []) rfl rfl rfl rfl fun B => ?_
  (repeat' (first | refine k_seq ?_ | refine k_region ?_ | refine k_nil ?_ | refine k_then ?_ | refine k_scope ?_ | refine s_move ?_ | refine s_field ?_ | refine s_nilp ?_ | refine s_store ?_ | refine s_box (fun _ => ?_)))
  rename_i r3
  refine k_midx (fun x : AL => [(0, lp p), (3, lp r3)])
    (fun x => match x with
      | .a => []
      | .b cn cur tv Bt fe => [(⟨par, root, links, inat ln, stk g 2 cap, inat 1, .bool cn, sv, em, list, lists, texts, bt⟩ : PS).blk p, stb g cur, fbb b K tv, Bt, ent T es, lnb r3 0 [] 0])
    (fun x => match x with
      | .a => False
      | .b cn cur tv Bt fe => Stk (stk g 2 cap) 2 [.iface bty bv, e1, e2, e3, .iface 224 (lp b), f1, inat fa, inat fe] (stb g cur) ∧ Strs tv (ls ++ [tx]) Bt) ?_ ?_
  · (repeat' (first | refine k_blk ?_))
    refine k_loop (fun x : AL => [(0, lp p), (3, lp r3)])
      (fun x => match x with
        | .a => [(⟨par, root, links, inat ln, stk g 2 cap, inat 0, .bool cn, sv, em, list, lists, texts, bt⟩ : PS).blk p, stb g cur, fbb b K tv, Bt, ent T es, lnb r3 0 tx nl]
        | .b cn cur tv Bt fe => [(⟨par, root, links, inat ln, stk g 2 cap, inat 1, .bool cn, sv, em, list, lists, texts, bt⟩ : PS).blk p, stb g cur, fbb b K tv, Bt, ent T es, lnb r3 0 [] 0])
      (fun x => match x with
        | .a => True
        | .b cn cur tv Bt fe => Stk (stk g 2 cap) 2 [.iface bty bv, e1, e2, e3, .iface 224 (lp b), f1, inat fa, inat fe] (stb g cur) ∧ Strs tv (ls ++ [tx]) Bt)
      (fun x => match x with
        | .a => 1
        | .b .. => 0) .a trivial (Knows.spec (by repeat (first | exact trivial | refine ⟨rfl, ?_⟩))) (by repeat (first | exact SubH.nilR _ | refine SubH.pick (by repeat (first | exact HTake.here | apply HTake.there)) ?_)) fun x hx => ?_
    cases x with
    | a =>
      (repeat' (first | refine Wp.draw_all (id := 2) Mixed.out (by kernel_rfl) ?_ | refine Wp.draw_tree (id := 6) 14 6 Mixed.out (by kernel_rfl) rfl ?_ | refine u_load (hc := hb1) ?_ | refine k_seq ?_ | refine k_region ?_ | refine k_nil ?_ | refine k_then ?_ | refine k_true ?_ | refine k_blk ?_ | refine k_skip ?_ | refine s_assign ?_ | refine s_loada ?_ | refine s_storea ?_ | refine s_alloc (fun _ => ?_) | refine u_nil ?_ | refine u_move ?_ | refine u_load ?_ | refine u_field ?_ | refine u_nilp ?_ | refine u_add1 ?_ | refine u_lss_t ?_ | refine u_len ?_ | refine u_idxa ?_ | refine u_loada ?_))
      refine OpsA.only 14 _ (by kernel_rfl) rfl ?_
      refine s_inv (extend_in T es hE p b K _ cn rfl hK hK2 tx nl hF tv ls Bt hT hll) (fun u K' hR => ?_)
      obtain ⟨rfl, cn', tv', Bt', hT', rfl⟩ := hR
      (repeat' (first | refine k_nil ?_ | refine k_then ?_))
      refine OpsA.only 15 _ (by kernel_rfl) rfl ?_
      (repeat' (first | refine k_nil ?_ | refine k_then ?_ | refine s_move ?_))
      refine OpsA.first 16 _ (by kernel_rfl) rfl (by kernel_rfl) (by kernel_rfl) rfl (p_extract rfl rfl) ?_
      refine OpsA.first 17 _ (by kernel_rfl) rfl (by kernel_rfl) (by kernel_rfl) rfl (p_extract rfl rfl) ?_
      refine OpsA.only 18 _ (by kernel_rfl) rfl ?_
      (repeat' (first | refine k_nil ?_ | refine k_then ?_ | refine s_storea ?_))
      refine OpsA.only 19 _ (by kernel_rfl) rfl ?_
      (repeat' (first | refine k_nil ?_ | refine k_then ?_ | refine s_assign ?_))
      refine OpsA.nil (by kernel_rfl) ?_
      by_cases hbl : ltrim tx = []
      · (repeat' (first | refine s_callD (isBlank_tr _ 0 tx nl hlen hz true (decide_eq_true hbl).symm) ?_ | refine k_seq ?_ | refine k_region ?_ | refine k_nil ?_ | refine k_then ?_ | refine k_false ?_ | refine k_skip ?_ | refine k_block ?_ | refine s_gskipt ?_ | refine s_gskipu ?_ | refine s_move ?_ | refine s_load ?_ | refine s_field ?_ | refine s_nilp ?_ | refine s_add1 ?_ | refine s_pickf ?_ | refine s_nott ?_ | refine s_store ?_))
        exact ⟨.b cn' cur tv' Bt' fe, (Knows.spec (by repeat (first | exact trivial | refine ⟨rfl, ?_⟩))), (by repeat (first | exact SubH.nilR _ | refine SubH.pick (by repeat (first | exact HTake.here | apply HTake.there)) ?_)), ⟨hO, hT'⟩, (by show 0 < 1; omega)⟩
      · (repeat' (first | refine Wp.draw_tail (id := 8) 13 Mixed.out (by kernel_rfl) ?_ | refine s_callD (isBlank_tr _ 0 tx nl hlen hz false (decide_eq_false hbl).symm) ?_ | refine s_storeg ?_ | refine k_seq ?_ | refine k_region ?_ | refine k_nil ?_ | refine k_then ?_ | refine k_true ?_ | refine k_false ?_ | refine k_skip ?_ | refine k_block ?_ | refine s_grun ?_ | refine s_gskipf ?_ | refine s_move ?_ | refine s_load ?_ | refine s_field ?_ | refine s_nilp ?_ | refine s_add1 ?_ | refine s_pickt ?_ | refine s_idxa ?_ | refine s_nott ?_ | refine s_notf ?_ | refine s_store ?_ | refine u_nil ?_ | refine u_move ?_ | refine u_load ?_ | refine u_field ?_ | refine u_nilp ?_ | refine u_add1 ?_))
        have h6 := take_set_tail (z := 4) (k := 3) (inat ln) rfl hq rfl
        have h9 := Own.mk' (E := 88) (g := g) (m := 2) (cur := cur.set (4 + 3) (inat ln)) v1 v2 (by simpa using v3)
        have h10 : (cur.set (4 + 3) (inat ln)).take (2 * 4) = [.iface bty bv, e1, e2, e3, .iface 224 (lp b), f1, inat fa, inat ln] := h6
        rw [h10] at h9
        exact ⟨.b cn' (cur.set (4 + 3) (inat ln)) tv' Bt' ln, (Knows.spec (by repeat (first | exact trivial | refine ⟨rfl, ?_⟩))), (by repeat (first | exact SubH.nilR _ | refine SubH.pick (by repeat (first | exact HTake.here | apply HTake.there)) ?_)), ⟨h9, hT'⟩, (by show 0 < 1; omega)⟩
    | b cn' cur' tv' Bt' fe' =>
      obtain ⟨k1, k2⟩ := hx
      (repeat' (first | refine Wp.draw_all (id := 2) Mixed.out (by kernel_rfl) ?_ | refine k_seq ?_ | refine k_nil ?_ | refine k_then ?_ | refine k_false ?_ | refine k_exit ?_ | refine k_exit_then ?_ | refine k_hit ?_ | refine u_nil ?_ | refine u_move ?_ | refine u_load ?_ | refine u_field ?_ | refine u_nilp ?_ | refine u_add1 ?_ | refine u_lss_f ?_ | refine u_len ?_))
      exact ⟨.b cn' cur' tv' Bt' fe', (by repeat (first | exact trivial | refine ⟨rfl, ?_⟩)), (by repeat (first | exact SubH.nilR _ | refine SubH.pick (by repeat (first | exact HTake.here | apply HTake.there)) ?_)), k1, k2⟩
  · intro x hx
    cases x with
    | a => exact hx.elim
    | b cn' cur' tv' Bt' fe' =>
      obtain ⟨k1, k2⟩ := hx
      (repeat' (first | refine s_callD (isBlank_tr r3 0 [] 0 (by simp) (by simp) true rfl) ?_ | refine s_callD (trimStack_none p g 2 cap _ (by omega) rfl) ?_ | refine k_seq ?_ | refine k_region ?_ | refine k_nil ?_ | refine k_then ?_ | refine k_true ?_ | refine k_ret ?_ | refine k_ret_then ?_ | refine k_ret_nogo ?_ | refine s_move ?_ | refine s_load ?_ | refine s_field ?_ | refine s_nilp ?_ | refine s_add1 ?_))
      exact e_ret _ ⟨rfl, cn', cur', tv', Bt', fe', k1, k2, rfl⟩ (by repeat (first | exact SubH.nilR _ | refine SubH.pick (by repeat (first | exact HTake.here | apply HTake.there)) ?_))

theorem eq_line2 (a b c : Int) (l : List UInt8) (hl : l ≠ []) (d e : Int) (w : World) : (Op.equalIn (9999 + 1) 73 (.agg #[.int .i64 a, .int .i64 b, .int .i64 c, str [], .int .u8 e]) (.agg #[.int .i64 a, .int .i64 b, .int .i64 c, str l, .int .u8 d])).run Tryz.prog w = .ok false w := by
  rw [Op.equalIn]
  have h1 := fun a w => eq_int 9998 a w
  have h3 : ∀ w, (Op.equalIn (9998 + 1) 9 (str []) (str l)).run Tryz.prog w = .ok false w := by
    intro w
    rw [Op.equalIn]; simp [underlying, Tryz.underlying9]
    cases l with
    | nil => exact absurd rfl hl
    | cons c l => first | rfl | (refine beq_eq_false_iff_ne.2 ?_; intro h; have := congrArg (fun s : ByteArray => s.data.toList.length) h; simp at this) | trace_state
  simp only [Nat.reduceAdd] at h1 h3
  simp [underlying, Tryz.underlying73, part, isAgg, Tryz.underlying3, Tryz.underlying9, Tryz.underlying5, h1, h3]
theorem q_ne_line2 {L : Eng.Loc} {H : Heap} {x y : Operand} {ty yt : TypeId} {a b c : Int} {l : List UInt8} {d e : Int} (hl : l ≠ []) (hx : ev L x = some (.agg [.int .i64 a, .int .i64 b, .int .i64 c, str [], .int .u8 e].toArray)) (hy : ev L y = some (.agg [.int .i64 a, .int .i64 b, .int .i64 c, str l, .int .u8 d].toArray)) :
    Pure1 Tryz.prog L H (.binOp .neq 73 x y yt) ty (.bool true) :=
  p_bin hx hy fun w => by
    have h := run_nequal_step (P := Tryz.prog) (fun w => eq_line2 a b c l hl d e w) rfl w
    simp [eqGuard]
    exact h
theorem s_neline2 {B : Base} {n : Nat} {L : Eng.Loc} {H : Heap} {Q : Eng.Post} {all : Array Oper} {rest : List Oper} {dd : Nat} {ty : TypeId} {pos : String} {after : Array Edge} {x y : Operand} {yt : TypeId} {a b c : Int} {l : List UInt8} {d e : Int} (hl : l ≠ []) (h : Ops Tryz.prog B n all rest ((dd, .bool true) :: L) H Q)
    (hx : ev L x = some (.agg [.int .i64 a, .int .i64 b, .int .i64 c, str [], .int .u8 e].toArray) := by rfl) (hy : ev L y = some (.agg [.int .i64 a, .int .i64 b, .int .i64 c, str l, .int .u8 d].toArray) := by rfl) (hd : Nat.blt dd n = true := by rfl) :
    Ops Tryz.prog B n all (⟨some dd, .binOp .neq 73 x y yt, ty, pos, after, none⟩ :: rest) L H Q := Ops.pure _ (q_ne_line2 hl hx hy) hd h

/-- The line that closes the fence. -/
theorem addLine_close (T : Nat) (es : List Value) (hE : EntOK es) (p g cap b K : Nat) (s : PS) (cur : List Value) (bty : Nat) (bv e2 e3 f1 : Value) (fa fe ln nl : Nat) (hK : 3 ≤ K) (hK2 : K ≤ 10000) (ia : Option Addr) (im ic : Nat)
    (hO : Stk (stk g 2 cap) 2 [.iface bty bv, .slice none 0 0, e2, e3, .iface 224 (lp b), f1, inat fa, inat fe] (stb g cur)) (hs : s.stack = stk g 2 cap) (hln : s.lineno = inat ln) :
    Tr Tryz.prog 28 [lp p, lnv 0 (tildes K) nl] [s.blk p, stb g cur, fbb b K (.slice ia im ic), ent T es] fun u K' => u = unit ∧ ∃ q cur' ja jm jc IB,
      Stk (stk g 1 cap) 1 [.iface bty bv, .slice ja jm jc, e2, e3] (stb g cur') ∧ Blks (.slice ja jm jc) [.iface 234 (lp q)] IB ∧
      K' = [({ s with stack := stk g 1 cap, depth := inat 0 } : PS).blk p, stb g cur', cdb q fa ln K (.slice ia im ic), IB, ent T es] := by
  obtain ⟨par, root, links, lineno, stack, depth, corner, sv, em, list, lists, texts, bt⟩ := s
  subst hs; subst hln
  obtain ⟨v1, v2, v3, v4⟩ := hO.view
  have hb1 : cur[0 + (0 + 1) * 4 + 0]? = some (.iface 224 (lp b)) := hO.get rfl
  have hlen : (tildes K).length ≤ 140737488355328 := by rw [tildes_len]; omega
  have hz : 0 ≤ (tildes K).length := Nat.zero_le _
  have hink := ltrim_tildes (K := K) (by omega)
  have hne : tildes K ≠ [] := by intro h; have := congrArg List.length h; rw [tildes_len] at this; simp at this; omega
  refine Tr.start (n := 113) (rs := []) rfl rfl rfl rfl fun B => ?_
  (repeat' (first | refine k_seq ?_ | refine k_region ?_ | refine k_nil ?_ | refine k_then ?_ | refine k_scope ?_ | refine s_move ?_ | refine s_field ?_ | refine s_nilp ?_ | refine s_store ?_ | refine s_box (fun _ => ?_)))
  rename_i r3
  refine k_midx (fun cur' : List Value => [(0, lp p), (3, lp r3)])
    (fun cur' => [(⟨par, root, links, inat ln, stk g 2 cap, inat 0, corner, sv, em, list, lists, texts, bt⟩ : PS).blk p, stb g cur', fbb b K (.slice ia im ic), ent T es, lnb r3 0 [] 0])
    (fun cur' => Stk (stk g 2 cap) 2 [.iface bty bv, .slice none 0 0, e2, e3, .iface 224 (lp b), f1, inat fa, inat ln] (stb g cur')) ?_ ?_
  · (repeat' (first | refine k_blk ?_))
    refine k_loop (fun _ : Unit => [(0, lp p), (3, lp r3)]) (fun _ => [(⟨par, root, links, inat ln, stk g 2 cap, inat 0, corner, sv, em, list, lists, texts, bt⟩ : PS).blk p, stb g cur, fbb b K (.slice ia im ic), ent T es, lnb r3 0 (tildes K) nl]) (fun _ => True) (fun _ => 0) () trivial (Knows.spec (by repeat (first | exact trivial | refine ⟨rfl, ?_⟩))) (by repeat (first | exact SubH.nilR _ | refine SubH.pick (by repeat (first | exact HTake.here | apply HTake.there)) ?_)) fun x hx => ?_
    (repeat' (first | refine Wp.draw_all (id := 2) Mixed.out (by kernel_rfl) ?_ | refine Wp.draw_tree (id := 6) 14 6 Mixed.out (by kernel_rfl) rfl ?_ | refine u_load (hc := hb1) ?_ | refine k_seq ?_ | refine k_region ?_ | refine k_nil ?_ | refine k_then ?_ | refine k_true ?_ | refine k_blk ?_ | refine k_skip ?_ | refine s_assign ?_ | refine s_loada ?_ | refine s_storea ?_ | refine s_alloc (fun _ => ?_) | refine u_nil ?_ | refine u_move ?_ | refine u_load ?_ | refine u_field ?_ | refine u_nilp ?_ | refine u_add1 ?_ | refine u_lss_t ?_ | refine u_len ?_ | refine u_idxa ?_ | refine u_loada ?_))
    refine OpsA.only 14 _ (by kernel_rfl) rfl ?_
    refine s_inv (extend_close T es hE p b K nl (.slice ia im ic) hK hK2) (fun u K' hR => ?_)
    obtain ⟨rfl, rfl⟩ := hR
    (repeat' (first | refine k_nil ?_ | refine k_then ?_))
    refine OpsA.only 15 _ (by kernel_rfl) rfl ?_
    (repeat' (first | refine k_nil ?_ | refine k_then ?_ | refine s_move ?_))
    refine OpsA.first 16 _ (by kernel_rfl) rfl (by kernel_rfl) (by kernel_rfl) rfl (p_extract rfl rfl) ?_
    refine OpsA.first 17 _ (by kernel_rfl) rfl (by kernel_rfl) (by kernel_rfl) rfl (p_extract rfl rfl) ?_
    refine OpsA.only 18 _ (by kernel_rfl) rfl ?_
    (repeat' (first | refine k_nil ?_ | refine k_then ?_ | refine s_storea ?_))
    refine OpsA.only 19 _ (by kernel_rfl) rfl ?_
    (repeat' (first | refine k_nil ?_ | refine k_then ?_ | refine s_assign ?_))
    refine OpsA.nil (by kernel_rfl) ?_
    (repeat' (first | refine Wp.draw_tail (id := 8) 13 Mixed.out (by kernel_rfl) ?_ | refine s_callD (isBlank_tr _ 0 (tildes K) nl hlen hz false (decide_eq_false hink).symm) ?_ | refine s_neline2 hne ?_ | refine s_storeg ?_ | refine k_seq ?_ | refine k_region ?_ | refine k_nil ?_ | refine k_then ?_ | refine k_true ?_ | refine k_exit ?_ | refine k_exit_then ?_ | refine k_hit ?_ | refine k_miss ?_ | refine s_grun ?_ | refine s_move ?_ | refine s_field ?_ | refine s_pickt ?_ | refine s_pickf ?_ | refine s_idxa ?_ | refine s_notf ?_ | refine s_loada ?_ | refine u_nil ?_ | refine u_move ?_ | refine u_load ?_ | refine u_field ?_ | refine u_nilp ?_ | refine u_add1 ?_))
    have hq : cur.take (4 + 4) = [.iface bty bv, .slice none 0 0, e2, e3] ++ [.iface 224 (lp b), f1, inat fa, inat fe] := v4
    have h6 := take_set_tail (z := 4) (k := 3) (inat ln) rfl hq rfl
    have h9 := Own.mk' (E := 88) (g := g) (m := 2) (cur := cur.set (4 + 3) (inat ln)) v1 v2 (by simpa using v3)
    have h10 : (cur.set (4 + 3) (inat ln)).take (2 * 4) = [.iface bty bv, .slice none 0 0, e2, e3, .iface 224 (lp b), f1, inat fa, inat ln] := h6
    rw [h10] at h9
    exact ⟨cur.set (4 + 3) (inat ln), (by repeat (first | exact trivial | refine ⟨rfl, ?_⟩)), (by repeat (first | exact SubH.nilR _ | refine SubH.pick (by repeat (first | exact HTake.here | apply HTake.there)) ?_)), h9⟩
  · intro cur' k1
    (repeat' (first | refine s_callD (isBlank_tr r3 0 [] 0 (by simp) (by simp) true rfl) ?_ | refine k_seq ?_ | refine k_region ?_ | refine k_nil ?_ | refine k_then ?_ | refine k_true ?_ | refine s_move ?_ | refine s_load ?_ | refine s_field ?_ | refine s_nilp ?_ | refine s_add1 ?_))
    refine s_call (trimFenceOne p g cap b K _ cur' ia im ic bty bv e2 e3 f1 fa ln k1 rfl) (fun u K' hR => ?_)
    obtain ⟨rfl, q, cur2, ja, jm, jc, IB, k2, k3, rfl⟩ := hR
    (repeat' (first | refine k_nil ?_ | refine k_then ?_ | refine k_ret ?_ | refine k_ret_then ?_ | refine k_ret_nogo ?_))
    exact e_ret _ ⟨rfl, q, cur2, ja, jm, jc, IB, k2, k3, rfl⟩ (by repeat (first | exact SubH.nilR _ | refine SubH.pick (by repeat (first | exact HTake.here | apply HTake.there)) ?_))
end Go.Proofs

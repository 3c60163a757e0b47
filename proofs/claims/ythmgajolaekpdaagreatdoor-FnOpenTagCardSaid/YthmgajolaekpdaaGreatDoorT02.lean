/- The parse state's cells; para, nextB, curB; newSetextHeading and newPre answer no. Conditions: how the line begins. newFence and the list items' starters answer no. Conditions: how the line begins. trimStack with nothing to do, and addBlock. Conditions: bounds on the stack. newPara at a first line. Conditions: no table option. newPara at a further line. Conditions: no table option. -/
import Derived.Test.YthmgajolaekpdaaGreatDoorT01
import Derived.Test.YthmgajolaekpdaaGreatDoorEngB
namespace Go.Proofs
open Go Go.Eng
set_option maxRecDepth 20000
set_option maxHeartbeats 4000000

/-- What a state of the parser holds. -/
structure PS where
  par : Value
  root : Value
  links : Value
  lineno : Value
  stack : Value
  depth : Value
  corner : Value
  str : Value
  em : Value
  list : Value
  lists : Value
  texts : Value
  bt : List Value

abbrev PS.cells (s : PS) : List Value := s.par :: s.root :: s.links :: s.lineno :: s.stack :: s.depth :: s.corner :: s.str :: s.em :: s.list :: s.lists :: s.texts :: s.bt
abbrev PS.blk (s : PS) (p : Nat) : Blk := [(p, cellsOf s.cells 88)]
abbrev stk (g m cap : Nat) : Value := .slice (some ⟨g, 0, none⟩) m cap
abbrev stb (g : Nat) (cs : List Value) : Blk := [(g, cellsOf cs 114)]
abbrev inat (k : Nat) : Value := .int .i64 (k : Int)

theorem para_no (p g m cap : Nat) (s : PS) (cs : List Value) (t : Nat) (u : Value) (hm : 1 ≤ m) (hm2 : m ≤ 140737488355328) (hb : cs[0 + (m - 1) * 4 + 0]? = some (.iface t u)) (ht : Nat.beq t 155 = false) (hs : s.stack = stk g m cap) :
    TrD Tryz.prog 87 [lp p] [s.blk p, stb g cs] (.pointer none) [s.blk p, stb g cs] := by
  obtain ⟨par, root, links, lineno, stack, depth, corner, str, em, list, lists, texts, bt⟩ := s
  subst hs
  refine Tr.start (n := 24) (rs := [.tmp 2]) rfl rfl rfl rfl fun B => ?_
  (repeat' (first | refine Wp.draw_all (id := 1) Mixed.out (by kernel_rfl) ?_ | refine u_asno (hne := ht) ?_ | refine u_load (hc := hb) ?_ | refine k_seq ?_ | refine k_region ?_ | refine k_nil ?_ | refine k_then ?_ | refine k_false ?_ | refine k_skip ?_ | refine k_ret ?_ | refine s_move ?_ | refine s_assign ?_ | refine u_nil ?_ | refine u_move ?_ | refine u_assign ?_ | refine u_load ?_ | refine u_field ?_ | refine u_nilp ?_ | refine u_sub1 ?_ | refine u_len ?_ | refine u_ext ?_ | refine u_idxa ?_))
  exact e_ret _ ⟨rfl, rfl⟩ (SubH.refl _)

theorem para_yes (p g m cap : Nat) (s : PS) (cs : List Value) (u : Value) (hm : 1 ≤ m) (hm2 : m ≤ 140737488355328) (hb : cs[0 + (m - 1) * 4 + 0]? = some (.iface 155 u)) (hs : s.stack = stk g m cap) :
    TrD Tryz.prog 87 [lp p] [s.blk p, stb g cs] u [s.blk p, stb g cs] := by
  obtain ⟨par, root, links, lineno, stack, depth, corner, str, em, list, lists, texts, bt⟩ := s
  subst hs
  refine Tr.start (n := 24) (rs := [.tmp 2]) rfl rfl rfl rfl fun B => ?_
  (repeat' (first | refine Wp.draw_all (id := 1) Mixed.out (by kernel_rfl) ?_ | refine u_load (hc := hb) ?_ | refine k_seq ?_ | refine k_region ?_ | refine k_nil ?_ | refine k_then ?_ | refine k_true ?_ | refine k_ret ?_ | refine k_ret_then ?_ | refine s_move ?_ | refine s_assign ?_ | refine u_nil ?_ | refine u_move ?_ | refine u_assign ?_ | refine u_load ?_ | refine u_field ?_ | refine u_nilp ?_ | refine u_sub1 ?_ | refine u_len ?_ | refine u_ext ?_ | refine u_idxa ?_ | refine u_asok ?_))
  exact e_ret _ ⟨rfl, rfl⟩ (SubH.refl _)

theorem nextB_no (p g m cap d : Nat) (s : PS) (cs : List Value) (hm : m ≤ d + 1) (hm2 : d ≤ 140737488355328) (hs : s.stack = stk g m cap) (hd : s.depth = inat d) :
    TrD Tryz.prog 127 [lp p] [s.blk p, stb g cs] .nilIface [s.blk p, stb g cs] := by
  obtain ⟨par, root, links, lineno, stack, depth, corner, str, em, list, lists, texts, bt⟩ := s
  subst hs; subst hd
  refine Tr.start (n := 26) (rs := [.tmp 2]) rfl rfl rfl rfl fun B => ?_
  (repeat' (first | refine Wp.draw_all (id := 1) Mixed.out (by kernel_rfl) ?_ | refine k_seq ?_ | refine k_region ?_ | refine k_nil ?_ | refine k_then ?_ | refine k_false ?_ | refine k_skip ?_ | refine k_ret ?_ | refine s_assign ?_ | refine u_nil ?_ | refine u_move ?_ | refine u_load ?_ | refine u_field ?_ | refine u_nilp ?_ | refine u_add1 ?_ | refine u_lss_f ?_ | refine u_len ?_))
  exact e_ret _ ⟨rfl, rfl⟩ (SubH.refl _)

theorem nextB_yes (p g m cap d : Nat) (s : PS) (cs : List Value) (b : Value) (hm : d + 1 < m) (hm2 : m ≤ 140737488355328) (hb : cs[0 + (d + 1) * 4 + 0]? = some b) (hs : s.stack = stk g m cap) (hd : s.depth = inat d) :
    TrD Tryz.prog 127 [lp p] [s.blk p, stb g cs] b [s.blk p, stb g cs] := by
  obtain ⟨par, root, links, lineno, stack, depth, corner, str, em, list, lists, texts, bt⟩ := s
  subst hs; subst hd
  refine Tr.start (n := 26) (rs := [.tmp 2]) rfl rfl rfl rfl fun B => ?_
  (repeat' (first | refine Wp.draw_all (id := 1) Mixed.out (by kernel_rfl) ?_ | refine Wp.draw_all (id := 2) Mixed.out (by kernel_rfl) ?_ | refine u_load (hc := hb) ?_ | refine k_seq ?_ | refine k_region ?_ | refine k_nil ?_ | refine k_then ?_ | refine k_true ?_ | refine k_ret ?_ | refine k_ret_then ?_ | refine s_assign ?_ | refine u_nil ?_ | refine u_move ?_ | refine u_assign ?_ | refine u_load ?_ | refine u_field ?_ | refine u_nilp ?_ | refine u_add1 ?_ | refine u_lss_t ?_ | refine u_len ?_ | refine u_idxa ?_))
  exact e_ret _ ⟨rfl, rfl⟩ (SubH.refl _)

theorem curB_yes (p g m cap d : Nat) (s : PS) (cs : List Value) (b : Value) (hm : d < m) (_hm2 : m ≤ 140737488355328) (hb : cs[0 + d * 4 + 0]? = some b) (hs : s.stack = stk g m cap) (hd : s.depth = inat d) :
    TrD Tryz.prog 132 [lp p] [s.blk p, stb g cs] b [s.blk p, stb g cs] := by
  obtain ⟨par, root, links, lineno, stack, depth, corner, str, em, list, lists, texts, bt⟩ := s
  subst hs; subst hd
  refine Tr.start (n := 24) (rs := [.tmp 2]) rfl rfl rfl rfl fun B => ?_
  (repeat' (first | refine Wp.draw_all (id := 1) Mixed.out (by kernel_rfl) ?_ | refine Wp.draw_all (id := 2) Mixed.out (by kernel_rfl) ?_ | refine u_load (hc := hb) ?_ | refine k_seq ?_ | refine k_region ?_ | refine k_nil ?_ | refine k_then ?_ | refine k_true ?_ | refine k_ret ?_ | refine k_ret_then ?_ | refine s_assign ?_ | refine u_nil ?_ | refine u_move ?_ | refine u_assign ?_ | refine u_load ?_ | refine u_field ?_ | refine u_nilp ?_ | refine u_lss_t ?_ | refine u_len ?_ | refine u_idxa ?_))
  exact e_ret _ ⟨rfl, rfl⟩ (SubH.refl _)

theorem trimSpace0_tr (q i : Nat) (tx : List UInt8) (nl : Nat) (hnt : NoTab tx) (hl : tx.length ≤ 140737488355328) (hi : i ≤ tx.length) :
    TrD Tryz.prog 137 [lp q, .int .i64 0, .int .i64 3, .bool false] [lnb q i tx nl] (.bool true) [lnb q (sp3 i tx) tx nl] := by
  have e : tsI i tx 0 3 false = sp3 i tx := tsI_zero _ _ _ _
  have h := trimSpace_tr q i tx nl 0 3 false hnt hi hl (by omega) (by omega)
  rw [e, tsOK_zero] at h
  exact h

theorem trimSetext_no (q nq i : Nat) (nv : Value) (tx : List UInt8) (nl : Nat) (hnt : NoTab tx) (hl : tx.length ≤ 140737488355328) (hi : i ≤ tx.length) (h1 : at0 tx (sp3 i tx) ≠ 45) (h2 : at0 tx (sp3 i tx) ≠ 61) :
    TrD Tryz.prog 128 [lp q, lp nq] [lnb q i tx nl, [(nq, cellsOf [nv] 3)]] (.bool false) [lnb q i tx nl, [(nq, cellsOf [nv] 3)]] := by
  refine Tr.start (n := 28) (rs := [.tmp 4]) rfl rfl rfl rfl fun B => ?_
  have hs := sp3_le hi
  (repeat' (first | refine s_callD (trimSpace0_tr _ i tx nl hnt hl hi) ?_ | refine s_callD (peek_tr _ (sp3 i tx) tx nl hl hs) ?_ | refine k_seq ?_ | refine k_region ?_ | refine k_nil ?_ | refine k_then ?_ | refine k_false ?_ | refine k_skip ?_ | refine k_ret ?_ | refine s_grun ?_ | refine s_move ?_ | refine s_assign ?_ | refine s_nilp ?_ | refine s_eql_f ?_ | refine s_pickf ?_ | refine s_loada ?_ | refine s_storea ?_ | refine s_alloc (fun _ => ?_)))
  exact e_ret _ ⟨rfl, rfl⟩ SubH.drop1

theorem setext_no1 (p g m cap d : Nat) (s : PS) (cs : List Value) (t : Nat) (u : Value) (i : Nat) (tx : List UInt8) (nl : Nat) (hm : 1 ≤ m) (hmd : m ≤ d + 1) (hm2 : d ≤ 14073748835532) (hb : cs[0 + (m - 1) * 4 + 0]? = some (.iface t u)) (ht : Nat.beq t 155 = false) (hs : s.stack = stk g m cap) (hd : s.depth = inat d) :
    TrD Tryz.prog 81 [lp p, lnv i tx nl] [s.blk p, stb g cs] (.tuple #[lnv i tx nl, .bool false]) [s.blk p, stb g cs] := by
  refine Tr.start (n := 55) (rs := [.cell 4 97, .tmp 5]) rfl rfl rfl rfl fun B => ?_
  (repeat' (first | refine s_callD (nextB_no p g m cap d s cs hmd (by omega) hs hd) ?_ | refine s_callD (para_no p g m cap s cs t u hm (by omega) hb ht hs) ?_ | refine k_seq ?_ | refine k_region ?_ | refine k_nil ?_ | refine k_then ?_ | refine k_false ?_ | refine k_skip ?_ | refine k_ret ?_ | refine s_gskipt ?_ | refine s_move ?_ | refine s_assign ?_ | refine s_pickf ?_ | refine s_mki ?_ | refine s_eqnif ?_ | refine s_loada ?_ | refine s_storea ?_ | refine s_alloc (fun _ => ?_) | refine s_alloc1 (fun _ => ?_) | refine s_box (fun _ => ?_)))
  exact e_ret _ ⟨rfl, rfl⟩ (by repeat (first | exact SubH.nilR _ | refine SubH.pick (by repeat (first | exact HTake.here | apply HTake.there)) ?_))

theorem setext_no2 (p g m cap d : Nat) (s : PS) (cs : List Value) (pb : Nat) (i : Nat) (tx : List UInt8) (nl : Nat) (hnt : NoTab tx) (hl : tx.length ≤ 140737488355328) (hi : i ≤ tx.length) (h1 : at0 tx (sp3 i tx) ≠ 45) (h2 : at0 tx (sp3 i tx) ≠ 61)
    (hmd : d + 1 < m) (hm2 : m ≤ 14073748835532) (hb : cs[0 + (m - 1) * 4 + 0]? = some (.iface 155 (lp pb))) (hb' : cs[0 + (d + 1) * 4 + 0]? = some (.iface 155 (lp pb))) (hs : s.stack = stk g m cap) (hd : s.depth = inat d) :
    TrD Tryz.prog 81 [lp p, lnv i tx nl] [s.blk p, stb g cs] (.tuple #[lnv i tx nl, .bool false]) [s.blk p, stb g cs] := by
  refine Tr.start (n := 55) (rs := [.cell 4 97, .tmp 5]) rfl rfl rfl rfl fun B => ?_
  (repeat' (first | refine s_callD (nextB_yes p g m cap d s cs _ hmd (by omega) hb' hs hd) ?_ | refine s_callD (para_yes p g m cap s cs _ (by omega) (by omega) hb hs) ?_ | refine s_callD (trimSetext_no _ _ i _ tx nl hnt hl hi h1 h2) ?_ | refine k_seq ?_ | refine k_region ?_ | refine k_nil ?_ | refine k_then ?_ | refine k_false ?_ | refine k_skip ?_ | refine k_ret ?_ | refine s_grun ?_ | refine s_move ?_ | refine s_assign ?_ | refine s_pickt ?_ | refine s_mki ?_ | refine s_eqsame ?_ | refine s_loada ?_ | refine s_storea ?_ | refine s_alloc (fun _ => ?_) | refine s_alloc1 (fun _ => ?_) | refine s_box (fun _ => ?_)))
  exact e_ret _ ⟨rfl, rfl⟩ (by repeat (first | exact SubH.nilR _ | refine SubH.pick (by repeat (first | exact HTake.here | apply HTake.there)) ?_))

theorem pre_no1 (p g m cap : Nat) (s : PS) (cs : List Value) (t : Nat) (u : Value) (i : Nat) (tx : List UInt8) (nl : Nat) (hm : 1 ≤ m) (hm2 : m ≤ 14073748835532) (hb : cs[0 + (m - 1) * 4 + 0]? = some (.iface t u)) (ht : Nat.beq t 155 = false) (hs : s.stack = stk g m cap)
    (hnt : NoTab tx) (hl : tx.length ≤ 140737488355328) (hi : i ≤ tx.length) (hsp : nsp (tx.drop i) < 4) :
    TrD Tryz.prog 86 [lp p, lnv i tx nl] [s.blk p, stb g cs] (.tuple #[lnv i tx nl, .bool false]) [s.blk p, stb g cs] := by
  have e1 : tsOK i tx 4 4 false = false := by simp [tsOK]; omega
  have e2 : tsI i tx 4 4 false = i := by simp [tsI, e1]
  have h := fun q => trimSpace_tr q i tx nl 4 4 false hnt hi hl (by omega) (by omega)
  rw [e1, e2] at h
  refine Tr.start (n := 49) (rs := [.cell 4 97, .tmp 5]) rfl rfl rfl rfl fun B => ?_
  (repeat' (first | refine s_callD (para_no p g m cap s cs t u hm (by omega) hb ht hs) ?_ | refine s_callD (h _) ?_ | refine k_seq ?_ | refine k_region ?_ | refine k_nil ?_ | refine k_then ?_ | refine k_false ?_ | refine k_skip ?_ | refine k_ret ?_ | refine s_grun ?_ | refine s_gskipt ?_ | refine s_move ?_ | refine s_assign ?_ | refine s_pickt ?_ | refine s_pickf ?_ | refine s_eqp0 ?_ | refine s_loada ?_ | refine s_storea ?_ | refine s_alloc (fun _ => ?_) | refine s_box (fun _ => ?_)))
  exact e_ret _ ⟨rfl, rfl⟩ (by repeat (first | exact SubH.nilR _ | refine SubH.pick (by repeat (first | exact HTake.here | apply HTake.there)) ?_))

theorem pre_no2 (p g m cap : Nat) (s : PS) (cs : List Value) (pb : Nat) (i : Nat) (tx : List UInt8) (nl : Nat) (hm : 1 ≤ m) (hm2 : m ≤ 14073748835532) (hb : cs[0 + (m - 1) * 4 + 0]? = some (.iface 155 (lp pb))) (hs : s.stack = stk g m cap) :
    TrD Tryz.prog 86 [lp p, lnv i tx nl] [s.blk p, stb g cs] (.tuple #[lnv i tx nl, .bool false]) [s.blk p, stb g cs] := by
  refine Tr.start (n := 49) (rs := [.cell 4 97, .tmp 5]) rfl rfl rfl rfl fun B => ?_
  (repeat' (first | refine s_callD (para_yes p g m cap s cs _ hm (by omega) hb hs) ?_ | refine k_seq ?_ | refine k_region ?_ | refine k_nil ?_ | refine k_then ?_ | refine k_false ?_ | refine k_skip ?_ | refine k_ret ?_ | refine s_gskipt ?_ | refine s_move ?_ | refine s_assign ?_ | refine s_pickf ?_ | refine s_eqp1 ?_ | refine s_loada ?_ | refine s_storea ?_ | refine s_alloc (fun _ => ?_) | refine s_box (fun _ => ?_)))
  trace_state
  exact e_ret _ ⟨rfl, rfl⟩ (by repeat (first | exact SubH.nilR _ | refine SubH.pick (by repeat (first | exact HTake.here | apply HTake.there)) ?_))
end Go.Proofs

namespace Go.Proofs
open Go Go.Eng
set_option maxRecDepth 20000
set_option maxHeartbeats 4000000

theorem trimSpace1_tr (q i : Nat) (tx : List UInt8) (nl : Nat) (hnt : NoTab tx) (hl : tx.length ≤ 140737488355328) (hi : i ≤ tx.length) (b : Bool) (hb : b = decide (1 ≤ nsp (tx.drop i))) :
    TrD Tryz.prog 137 [lp q, .int .i64 1, .int .i64 1, .bool false] [lnb q i tx nl] (.bool b) [lnb q (if b then i + 1 else i) tx nl] := by
  have h := trimSpace_tr q i tx nl 1 1 false hnt hi hl (by omega) (by omega)
  have e : tsOK i tx 1 1 false = b := by rw [hb]; simp only [tsOK]; congr 1; simp only [Bool.false_and, Bool.or_false, decide_eq_decide]; omega
  have e2 : tsI i tx 1 1 false = if b then i + 1 else i := by
    unfold tsI
    rw [e]
    by_cases hq : 1 ≤ nsp (tx.drop i)
    · simp [hb, hq]
    · simp [hb, hq]
  rw [e, e2] at h
  exact h

theorem trimFence_no (q f1 f2 n i : Nat) (v1 v2 v3 : Value) (tx : List UInt8) (nl : Nat) (hnt : NoTab tx) (hl : tx.length ≤ 140737488355328) (hi : i ≤ tx.length) (h1 : at0 tx (sp3 i tx) ≠ 96) (h2 : at0 tx (sp3 i tx) ≠ 126) :
    TrD Tryz.prog 135 [lp q, lp f1, lp f2, lp n] [lnb q i tx nl, [(f1, cellsOf [v1] 9)], [(f2, cellsOf [v2] 9)], [(n, cellsOf [v3] 3)]] (.bool false) [lnb q i tx nl] := by
  refine Tr.start (n := 69) (rs := [.tmp 8]) rfl rfl rfl rfl fun B => ?_
  have hs := sp3_le hi
  (repeat' (first | refine k_seq ?_ | refine k_region ?_ | refine k_nil ?_ | refine k_then ?_ | refine s_move ?_ | refine s_assign ?_ | refine s_nilp ?_ | refine s_loada ?_ | refine s_store ?_ | refine s_storea ?_ | refine s_alloc (fun _ => ?_)))
  rename_i r
  have hsp : sp3 i tx = i + min (nsp (tx.drop i)) 3 := rfl
  refine k_mid [(0, lp q), (1, lp f1), (2, lp f2), (3, lp n), (9, lp r)] [lnb r (sp3 i tx) tx nl, lnb q i tx nl] ?_ ?_
  · (repeat' (first | refine k_blk ?_))
    refine k_loop (fun k : Nat => [(0, lp q), (1, lp f1), (2, lp f2), (3, lp n), (9, lp r)]) (fun k => [lnb r (i + k) tx nl, lnb q i tx nl, [(n, cellsOf [.int .i64 ((k : Nat) : Int)] 3)]]) (fun k => k ≤ min (nsp (tx.drop i)) 3) (fun k => 3 - k) 0 (by omega) (Knows.spec (by repeat (first | exact trivial | refine ⟨rfl, ?_⟩))) (by repeat (first | exact SubH.nilR _ | refine SubH.pick (by repeat (first | exact HTake.here | apply HTake.there)) ?_)) fun k hk => ?_
    have hd := nsp_drop (tx.drop i) k (by omega)
    rw [List.drop_drop] at hd
    by_cases hk3 : k < 3
    · by_cases hsp1 : 1 ≤ nsp (tx.drop (i + k))
      · (repeat' (first | refine s_callD (trimSpace1_tr r (i + k) tx nl hnt hl (by omega) true (by simp; omega)) ?_ | refine k_seq ?_ | refine k_region ?_ | refine k_nil ?_ | refine k_then ?_ | refine k_true ?_ | refine k_blk ?_ | refine k_skip ?_ | refine k_block ?_ | refine s_grun ?_ | refine s_move ?_ | refine s_load ?_ | refine s_nilp ?_ | refine s_add1 ?_ | refine s_lss_t ?_ | refine s_pickt ?_ | refine s_store ?_))
        exact ⟨k + 1, (Knows.spec (by repeat (first | exact trivial | refine ⟨rfl, ?_⟩))), (by repeat (first | exact SubH.nilR _ | refine SubH.pick (by repeat (first | exact HTake.here | apply HTake.there)) ?_)), by omega, by omega⟩
      · (repeat' (first | refine s_callD (trimSpace1_tr r (i + k) tx nl hnt hl (by omega) false (by simp; omega)) ?_ | refine k_seq ?_ | refine k_region ?_ | refine k_nil ?_ | refine k_then ?_ | refine k_false ?_ | refine k_exit ?_ | refine k_exit_then ?_ | refine k_hit ?_ | refine s_grun ?_ | refine s_move ?_ | refine s_load ?_ | refine s_nilp ?_ | refine s_lss_t ?_ | refine s_pickt ?_))
        have : sp3 i tx = i + k := by omega
        rw [this]
        exact ⟨(by repeat (first | exact trivial | refine ⟨rfl, ?_⟩)), (by repeat (first | exact SubH.nilR _ | refine SubH.pick (by repeat (first | exact HTake.here | apply HTake.there)) ?_))⟩
    · (repeat' (first | refine k_seq ?_ | refine k_region ?_ | refine k_nil ?_ | refine k_then ?_ | refine k_false ?_ | refine k_exit ?_ | refine k_exit_then ?_ | refine k_hit ?_ | refine s_gskipt ?_ | refine s_move ?_ | refine s_load ?_ | refine s_nilp ?_ | refine s_lss_f ?_ | refine s_pickf ?_))
      have : sp3 i tx = i + k := by omega
      rw [this]
      exact ⟨(by repeat (first | exact trivial | refine ⟨rfl, ?_⟩)), (by repeat (first | exact SubH.nilR _ | refine SubH.pick (by repeat (first | exact HTake.here | apply HTake.there)) ?_))⟩
  · (repeat' (first | refine s_callD (peek_tr _ (sp3 i tx) tx nl hl hs) ?_ | refine k_seq ?_ | refine k_region ?_ | refine k_nil ?_ | refine k_then ?_ | refine k_false ?_ | refine k_blk ?_ | refine k_skip ?_ | refine k_block ?_ | refine k_ret ?_ | refine s_move ?_ | refine s_assign ?_ | refine s_eql_f ?_))
    exact e_ret _ ⟨rfl, rfl⟩ (by repeat (first | exact SubH.nilR _ | refine SubH.pick (by repeat (first | exact HTake.here | apply HTake.there)) ?_))

theorem newFence_no (p : Value) (i : Nat) (tx : List UInt8) (nl : Nat) (hnt : NoTab tx) (hl : tx.length ≤ 140737488355328) (hi : i ≤ tx.length) (h1 : at0 tx (sp3 i tx) ≠ 96) (h2 : at0 tx (sp3 i tx) ≠ 126) :
    TrP Tryz.prog 85 [p, lnv i tx nl] (.tuple #[lnv i tx nl, .bool false]) := by
  refine Tr.start (n := 57) (rs := [.cell 4 97, .tmp 5]) rfl rfl rfl rfl fun B => ?_
  (repeat' (first | refine s_callD (trimFence_no _ _ _ _ i _ _ _ tx nl hnt hl hi h1 h2) ?_ | refine k_seq ?_ | refine k_region ?_ | refine k_nil ?_ | refine k_then ?_ | refine k_false ?_ | refine k_skip ?_ | refine k_ret ?_ | refine s_assign ?_ | refine s_loada ?_ | refine s_storea ?_ | refine s_alloc (fun _ => ?_) | refine s_alloc1 (fun _ => ?_) | refine s_box (fun _ => ?_)))
  exact e_pure ⟨rfl, rfl⟩

/-- No list begins at this text. -/
def noItem (l : List UInt8) : Prop := at0 l 0 ≠ 45 ∧ at0 l 0 ≠ 42 ∧ at0 l 0 ≠ 43 ∧ ∀ j, (∀ k, k < j → 48 ≤ at0 l k ∧ at0 l k ≤ 57) → 0 < j → at0 l j ≠ 46 ∧ at0 l j ≠ 41

theorem startListItem_no (p q i : Nat) (tx : List UInt8) (nl : Nat) (hnt : NoTab tx) (hl : tx.length ≤ 140737488355328) (hi : i ≤ tx.length) (h : noItem (tx.drop (sp3 i tx))) :
    TrD Tryz.prog 133 [lp p, lp q] [lnb q i tx nl] (.bool false) [lnb q i tx nl] := by
  refine Tr.start (n := 181) (rs := [.tmp 4]) rfl rfl rfl rfl fun B => ?_
  have hs := sp3_le hi
  have hsp : sp3 i tx = i + min (nsp (tx.drop i)) 3 := rfl
  have hat : ∀ k, at0 (tx.drop (sp3 i tx)) k = at0 tx (sp3 i tx + k) := fun k => by simp [at0]
  obtain ⟨n1, n2, n3, n4⟩ := h
  simp only [hat, Nat.add_zero] at n1 n2 n3 n4
  (repeat' (first | refine k_seq ?_ | refine k_region ?_ | refine k_nil ?_ | refine k_then ?_ | refine k_scope ?_ | refine s_move ?_ | refine s_assign ?_ | refine s_nilp ?_ | refine s_loada ?_ | refine s_storea ?_ | refine s_alloc (fun _ => ?_) | refine s_box1 (fun _ => ?_)))
  rename_i r
  refine k_midx (fun g : Nat => [(7, .int .i64 (g : Int)), (1, lp q), (5, lp r), (6, .int .i64 (g : Int))]) (fun g => [lnb r (sp3 i tx) tx nl, lnb q i tx nl]) (fun g => g ≤ 3) ?_ ?_
  · (repeat' (first | refine k_blk ?_))
    refine k_loop (fun k : Nat => [(7, .int .i64 (k : Int)), (1, lp q), (5, lp r), (6, .int .i64 (k : Int))]) (fun k => [lnb r (i + k) tx nl, lnb q i tx nl]) (fun k => k ≤ min (nsp (tx.drop i)) 3) (fun k => 3 - k) 0 (by omega) (Knows.spec (by repeat (first | exact trivial | refine ⟨rfl, ?_⟩))) (by repeat (first | exact SubH.nilR _ | refine SubH.pick (by repeat (first | exact HTake.here | apply HTake.there)) ?_)) fun k hk => ?_
    have hd := nsp_drop (tx.drop i) k (by omega)
    rw [List.drop_drop] at hd
    by_cases hk3 : k < 3
    · by_cases hsp1 : 1 ≤ nsp (tx.drop (i + k))
      · (repeat' (first | refine s_callD (trimSpace1_tr r (i + k) tx nl hnt hl (by omega) true (by simp; omega)) ?_ | refine k_seq ?_ | refine k_region ?_ | refine k_nil ?_ | refine k_then ?_ | refine k_true ?_ | refine k_false ?_ | refine k_blk ?_ | refine k_skip ?_ | refine k_block ?_ | refine s_move ?_ | refine s_assign ?_ | refine s_add1 ?_ | refine s_lss_t ?_ | refine s_nott ?_))
        exact ⟨k + 1, (Knows.spec (by repeat (first | exact trivial | refine ⟨rfl, ?_⟩))), (by repeat (first | exact SubH.nilR _ | refine SubH.pick (by repeat (first | exact HTake.here | apply HTake.there)) ?_)), by omega, by omega⟩
      · (repeat' (first | refine s_callD (trimSpace1_tr r (i + k) tx nl hnt hl (by omega) false (by simp; omega)) ?_ | refine k_seq ?_ | refine k_region ?_ | refine k_nil ?_ | refine k_then ?_ | refine k_true ?_ | refine k_blk ?_ | refine k_skip ?_ | refine k_exit ?_ | refine k_exit_then ?_ | refine k_hit ?_ | refine k_miss ?_ | refine s_move ?_ | refine s_lss_t ?_ | refine s_notf ?_))
        have : sp3 i tx = i + k := by omega
        rw [this]
        exact ⟨k, (by repeat (first | exact trivial | refine ⟨rfl, ?_⟩)), (by repeat (first | exact SubH.nilR _ | refine SubH.pick (by repeat (first | exact HTake.here | apply HTake.there)) ?_)), by omega⟩
    · (repeat' (first | refine k_seq ?_ | refine k_region ?_ | refine k_nil ?_ | refine k_then ?_ | refine k_false ?_ | refine k_exit ?_ | refine k_exit_then ?_ | refine k_hit ?_ | refine s_move ?_ | refine s_lss_f ?_))
      have : sp3 i tx = i + k := by omega
      rw [this]
      exact ⟨k, (by repeat (first | exact trivial | refine ⟨rfl, ?_⟩)), (by repeat (first | exact SubH.nilR _ | refine SubH.pick (by repeat (first | exact HTake.here | apply HTake.there)) ?_)), by omega⟩
  · intro g hg
    by_cases hdig : 48 ≤ at0 tx (sp3 i tx) ∧ at0 tx (sp3 i tx) ≤ 57
    · have hlt : sp3 i tx < tx.length := by
        by_cases hlt : sp3 i tx < tx.length
        · exact hlt
        · rw [at0_none (by omega)] at hdig; omega
      (repeat' (first | refine s_callD (peek_tr _ (sp3 i tx) tx nl hl hs) ?_ | refine k_seq ?_ | refine k_region ?_ | refine k_nil ?_ | refine k_then ?_ | refine k_false ?_ | refine k_blk ?_ | refine k_label ?_ | refine s_move ?_ | refine s_assign ?_ | refine s_eql_f ?_ | refine s_eql ?_))
      refine k_mid [(7, .int .i64 (g : Int)), (1, lp q), (5, lp r), (6, .int .i64 (g : Int)), (8, .int .u8 ((at0 tx (sp3 i tx) : Nat) : Int)), (9, .int .i64 ((0 : Nat) : Int)), (40, .bool true)] [lnb r (sp3 i tx) tx nl, lnb q i tx nl] ?_ ?_
      · (repeat' (first | refine k_seq ?_ | refine k_region ?_ | refine k_nil ?_ | refine k_then ?_ | refine k_skip ?_ | refine s_assign ?_ | refine s_eql_t ?_ | refine s_eql ?_ | refine k_split (fun hg => ?_) (fun hg => ?_)))
        all_goals exact ⟨(by repeat (first | exact trivial | refine ⟨rfl, ?_⟩ | refine ⟨congrArg (fun b => some (Value.bool b)) (decide_eq_true hg), ?_⟩)), (by repeat (first | exact SubH.nilR _ | refine SubH.pick (by repeat (first | exact HTake.here | apply HTake.there)) ?_))⟩
      · (repeat' (first | refine k_seq ?_ | refine k_region ?_ | refine k_nil ?_ | refine k_then ?_ | refine k_true ?_ | refine k_blk ?_ | refine s_assign ?_ | refine s_load ?_ | refine s_field ?_))
        refine k_loop (fun x : Nat × Int => [(7, .int .i64 (g : Int)), (1, lp q), (5, lp r), (6, .int .i64 (g : Int)), (9, .int .i64 x.2), (10, .int .i64 ((sp3 i tx + x.1 : Nat) : Int))]) (fun _ => [lnb r (sp3 i tx) tx nl, lnb q i tx nl])
          (fun x => (∀ k, k < x.1 → 48 ≤ at0 tx (sp3 i tx + k) ∧ at0 tx (sp3 i tx + k) ≤ 57) ∧ x.1 ≤ 9 ∧ 0 ≤ x.2 ∧ x.2 < ((10 ^ x.1 : Nat) : Int)) (fun x => 10 - x.1) (0, 0) ⟨by omega, by omega, by decide, by decide⟩ (Knows.spec (by repeat (first | exact trivial | refine ⟨rfl, ?_⟩))) (by repeat (first | exact SubH.nilR _ | refine SubH.pick (by repeat (first | exact HTake.here | apply HTake.there)) ?_)) fun x hx => ?_
        obtain ⟨k, num⟩ := x
        obtain ⟨hx1, hx2, hx4, hx3⟩ := hx
        simp only at hx1 hx2 hx3 hx4 ⊢
        by_cases hend : sp3 i tx + k < tx.length
        · obtain ⟨d, hd⟩ := get_some hend
          have hv := at0_some hd
          have hno : d.toNat ≠ 46 ∧ d.toNat ≠ 41 := by
            rw [← hv]
            by_cases hk0 : k = 0
            · subst hk0; rw [Nat.add_zero]; omega
            · exact n4 k hx1 (by omega)
          by_cases hdd : 48 ≤ d.toNat ∧ d.toNat ≤ 57
          · by_cases hk9 : k < 9
            · have hpow : 10 ^ (k + 1) ≤ 10 ^ 9 := Nat.pow_le_pow_right (by omega) (by omega)
              have hpow2 : 10 ^ (k + 1) = 10 ^ k * 10 := Nat.pow_succ 10 k
              have hn9 : (10 : Nat) ^ 9 = 1000000000 := by decide
              (repeat' (first | refine k_seq ?_ | refine k_region ?_ | refine k_nil ?_ | refine k_then ?_ | refine k_false ?_ | refine k_blk ?_ | refine k_skip ?_ | refine k_block ?_ | refine s_grun ?_ | refine s_move ?_ | refine s_assign ?_ | refine s_load ?_ | refine s_field ?_ | refine s_add1 ?_ | refine s_sub ?_ | refine s_lss_f ?_ | refine s_geq_f ?_ | refine s_eql_f ?_ | refine s_pickf ?_ | refine s_lens ?_ | refine s_index ?_ | refine s_addz ?_ | refine s_subz ?_ | refine s_mulz ?_ | refine s_cv64 ?_))
              refine ⟨(k + 1, num * 10 + d.toNat - 48), (Knows.spec (by repeat (first | exact trivial | refine ⟨rfl, ?_⟩))), (by repeat (first | exact SubH.nilR _ | refine SubH.pick (by repeat (first | exact HTake.here | apply HTake.there)) ?_)), ⟨?_, ?_, ?_, ?_⟩, ?_⟩
              · intro j hj
                by_cases hjk : j < k
                · exact hx1 j hjk
                · have : j = k := by simp only at hj; omega
                  subst this; rw [hv]; exact hdd
              · simp only; omega
              · simp only; omega
              · simp only; omega
              · simp only; omega
            · (repeat' (first | refine k_seq ?_ | refine k_region ?_ | refine k_nil ?_ | refine k_then ?_ | refine k_true ?_ | refine k_false ?_ | refine k_blk ?_ | refine k_skip ?_ | refine k_ret ?_ | refine k_ret_then ?_ | refine k_ret_block ?_ | refine k_ret_nogo ?_ | refine s_grun ?_ | refine s_move ?_ | refine s_assign ?_ | refine s_load ?_ | refine s_field ?_ | refine s_sub ?_ | refine s_lss_f ?_ | refine s_geq_t ?_ | refine s_geq_f ?_ | refine s_eql_f ?_ | refine s_pickf ?_ | refine s_lens ?_ | refine s_index ?_))
              exact e_ret _ ⟨rfl, rfl⟩ (by repeat (first | exact SubH.nilR _ | refine SubH.pick (by repeat (first | exact HTake.here | apply HTake.there)) ?_))
          · by_cases hlow : d.toNat < 48
            · (repeat' (first | refine k_seq ?_ | refine k_region ?_ | refine k_nil ?_ | refine k_then ?_ | refine k_true ?_ | refine k_false ?_ | refine k_blk ?_ | refine k_skip ?_ | refine k_ret ?_ | refine k_ret_then ?_ | refine k_ret_block ?_ | refine k_ret_nogo ?_ | refine s_grun ?_ | refine s_gskipf ?_ | refine s_move ?_ | refine s_assign ?_ | refine s_load ?_ | refine s_field ?_ | refine s_lss_t ?_ | refine s_geq_f ?_ | refine s_eql_f ?_ | refine s_pickt ?_ | refine s_pickf ?_ | refine s_lens ?_ | refine s_index ?_))
              exact e_ret _ ⟨rfl, rfl⟩ (by repeat (first | exact SubH.nilR _ | refine SubH.pick (by repeat (first | exact HTake.here | apply HTake.there)) ?_))
            · (repeat' (first | refine k_seq ?_ | refine k_region ?_ | refine k_nil ?_ | refine k_then ?_ | refine k_true ?_ | refine k_false ?_ | refine k_blk ?_ | refine k_skip ?_ | refine k_ret ?_ | refine k_ret_then ?_ | refine k_ret_block ?_ | refine k_ret_nogo ?_ | refine s_grun ?_ | refine s_move ?_ | refine s_assign ?_ | refine s_load ?_ | refine s_field ?_ | refine s_lss_t ?_ | refine s_lss_f ?_ | refine s_geq_f ?_ | refine s_eql_f ?_ | refine s_pickf ?_ | refine s_lens ?_ | refine s_index ?_))
              exact e_ret _ ⟨rfl, rfl⟩ (by repeat (first | exact SubH.nilR _ | refine SubH.pick (by repeat (first | exact HTake.here | apply HTake.there)) ?_))
        · (repeat' (first | refine k_seq ?_ | refine k_region ?_ | refine k_nil ?_ | refine k_then ?_ | refine k_true ?_ | refine k_blk ?_ | refine k_ret ?_ | refine k_ret_then ?_ | refine k_ret_block ?_ | refine k_ret_nogo ?_ | refine s_move ?_ | refine s_assign ?_ | refine s_load ?_ | refine s_field ?_ | refine s_geq_t ?_ | refine s_lens ?_))
          exact e_ret _ ⟨rfl, rfl⟩ (by repeat (first | exact SubH.nilR _ | refine SubH.pick (by repeat (first | exact HTake.here | apply HTake.there)) ?_))
    · (repeat' (first | refine s_callD (peek_tr _ (sp3 i tx) tx nl hl hs) ?_ | refine k_seq ?_ | refine k_region ?_ | refine k_nil ?_ | refine k_then ?_ | refine k_false ?_ | refine k_blk ?_ | refine k_ret ?_ | refine k_ret_then ?_ | refine k_ret_block ?_ | refine k_label ?_ | refine k_ret_nogo ?_ | refine s_move ?_ | refine s_assign ?_ | refine s_eql_f ?_))
      exact e_ret _ ⟨rfl, rfl⟩ (by repeat (first | exact SubH.nilR _ | refine SubH.pick (by repeat (first | exact HTake.here | apply HTake.there)) ?_))

theorem newListItem_no (p g m cap d : Nat) (s : PS) (cs : List Value) (t : Nat) (u : Value) (i : Nat) (tx : List UInt8) (nl : Nat) (hnt : NoTab tx) (hl : tx.length ≤ 140737488355328) (hi : i ≤ tx.length) (h : noItem (tx.drop (sp3 i tx)))
    (hm : d < m) (hm2 : m ≤ 140737488355328) (hb : cs[0 + d * 4 + 0]? = some (.iface t u)) (ht : Nat.beq t 235 = false) (hs : s.stack = stk g m cap) (hd : s.depth = inat d) :
    TrD Tryz.prog 83 [lp p, lnv i tx nl] [s.blk p, stb g cs] (.tuple #[lnv i tx nl, .bool false]) [s.blk p, stb g cs] := by
  refine Tr.start (n := 35) (rs := [.cell 4 97, .tmp 5]) rfl rfl rfl rfl fun B => ?_
  (repeat' (first | refine s_callD (curB_yes p g m cap d s cs _ hm hm2 hb hs hd) ?_ | refine s_callD (startListItem_no p _ i tx nl hnt hl hi h) ?_ | refine s_asno (hne := ht) ?_ | refine k_seq ?_ | refine k_region ?_ | refine k_nil ?_ | refine k_then ?_ | refine k_false ?_ | refine k_skip ?_ | refine k_ret ?_ | refine s_gskipt ?_ | refine s_move ?_ | refine s_assign ?_ | refine s_pickf ?_ | refine s_ext ?_ | refine s_loada ?_ | refine s_storea ?_ | refine s_alloc (fun _ => ?_) | refine s_box (fun _ => ?_)))
  exact e_ret _ ⟨rfl, rfl⟩ (by repeat (first | exact SubH.nilR _ | refine SubH.pick (by repeat (first | exact HTake.here | apply HTake.there)) ?_))
end Go.Proofs

namespace Go.Proofs
open Go Go.Eng
set_option maxRecDepth 20000
set_option maxHeartbeats 4000000

abbrev unit : Value := .tuple #[]

theorem trimStack_none (p g m cap : Nat) (s : PS) (_hm : m ≤ 140737488355328) (hs : s.stack = stk g m cap) :
    TrD Tryz.prog 49 [lp p, inat m] [s.blk p] unit [s.blk p] := by
  obtain ⟨par, root, links, lineno, stack, depth, corner, str, em, list, lists, texts, bt⟩ := s
  subst hs
  refine Tr.start (n := 21) (rs := []) rfl rfl rfl rfl fun B => ?_
  (repeat' (first | refine k_seq ?_ | refine k_region ?_ | refine k_nil ?_ | refine k_then ?_ | refine k_false ?_ | refine k_blk ?_ | refine k_skip ?_ | refine s_move ?_ | refine s_load ?_ | refine s_field ?_ | refine s_nilp ?_ | refine s_lss_f ?_ | refine s_len ?_))
  refine k_loop (fun _ : Nat => [(0, lp p), (1, inat m)]) (fun _ => [(⟨par, root, links, lineno, stk g m cap, depth, corner, str, em, list, lists, texts, bt⟩ : PS).blk p]) (fun _ => True) (fun _ => 0) 0 trivial (Knows.spec (by repeat (first | exact trivial | refine ⟨rfl, ?_⟩))) (by repeat (first | exact SubH.nilR _ | refine SubH.pick (by repeat (first | exact HTake.here | apply HTake.there)) ?_)) fun k hk => ?_
  (repeat' (first | refine k_seq ?_ | refine k_region ?_ | refine k_nil ?_ | refine k_then ?_ | refine k_false ?_ | refine k_exit ?_ | refine k_exit_then ?_ | refine k_hit ?_ | refine s_move ?_ | refine s_load ?_ | refine s_field ?_ | refine s_nilp ?_ | refine s_gtr_f ?_ | refine s_len ?_))
  exact e_norm _ ⟨rfl, rfl⟩ (by repeat (first | exact SubH.nilR _ | refine SubH.pick (by repeat (first | exact HTake.here | apply HTake.there)) ?_))

theorem trimStack_nil (p : Nat) (s : PS) (hs : s.stack = .slice none 0 0) :
    TrD Tryz.prog 49 [lp p, .int .i64 0] [s.blk p] unit [s.blk p] := by
  obtain ⟨par, root, links, lineno, stack, depth, corner, str, em, list, lists, texts, bt⟩ := s
  subst hs
  refine Tr.start (n := 21) (rs := []) rfl rfl rfl rfl fun B => ?_
  (repeat' (first | refine k_seq ?_ | refine k_region ?_ | refine k_nil ?_ | refine k_then ?_ | refine k_false ?_ | refine k_blk ?_ | refine k_skip ?_ | refine s_move ?_ | refine s_load ?_ | refine s_field ?_ | refine s_nilp ?_ | refine s_lss_f ?_ | refine s_len ?_))
  refine k_loop (fun _ : Nat => [(0, lp p), (1, inat 0)]) (fun _ => [(⟨par, root, links, lineno, .slice none 0 0, depth, corner, str, em, list, lists, texts, bt⟩ : PS).blk p]) (fun _ => True) (fun _ => 0) 0 trivial (Knows.spec (by repeat (first | exact trivial | refine ⟨rfl, ?_⟩))) (by repeat (first | exact SubH.nilR _ | refine SubH.pick (by repeat (first | exact HTake.here | apply HTake.there)) ?_)) fun k hk => ?_
  (repeat' (first | refine k_seq ?_ | refine k_region ?_ | refine k_nil ?_ | refine k_then ?_ | refine k_false ?_ | refine k_exit ?_ | refine k_exit_then ?_ | refine k_hit ?_ | refine s_move ?_ | refine s_load ?_ | refine s_field ?_ | refine s_nilp ?_ | refine s_gtr_f ?_ | refine s_len ?_))
  exact e_norm _ ⟨rfl, rfl⟩ (by repeat (first | exact SubH.nilR _ | refine SubH.pick (by repeat (first | exact HTake.here | apply HTake.there)) ?_))

/-- The stack 'v' has 'm' blocks, whose cells are 'xs'. -/
abbrev Stk (v : Value) (m : Nat) (xs : List Value) (Bk : Blk) : Prop := Own 114 4 v m xs Bk

theorem take_set_tail {cur xs zs : List Value} {n k : Nat} (v : Value) {z : Nat} (hz : zs.length = z) (h : cur.take (n + z) = xs ++ zs) (hx : xs.length = n) : (cur.set (n + k) v).take (n + z) = xs ++ zs.set k v := by
  subst hz
  rw [List.take_set, h, List.set_append_right _ _ (by omega), hx]
  congr 2; omega

theorem addBlock_tr (p g d cap : Nat) (s : PS) (xs cur : List Value) (bty : Nat) (bv : Value) (ln : Nat) (hd : d ≤ 100000) (hO : Stk (stk g (d + 1) cap) (d + 1) xs (stb g cur)) (hs : s.stack = stk g (d + 1) cap) (hdep : s.depth = inat d) (hln : s.lineno = inat ln) :
    Tr Tryz.prog 46 [lp p, .iface bty bv] [s.blk p, stb g cur] fun u K => u = unit ∧ ∃ g' cap' cur', Stk (stk g' (d + 2) cap') (d + 2) (xs ++ [.iface bty bv, .slice none 0 0, inat ln, inat ln]) (stb g' cur') ∧
      K = [({ s with stack := stk g' (d + 2) cap' } : PS).blk p, stb g' cur'] := by
  obtain ⟨par, root, links, lineno, stack, depth, corner, str, em, list, lists, texts, bt⟩ := s
  subst hs; subst hdep; subst hln
  refine Tr.start (n := 53) (rs := []) rfl rfl rfl rfl fun B => ?_
  (repeat' (first | refine s_callD (trimStack_none p g (d + 1) cap _ (by omega) rfl) ?_ | refine k_seq ?_ | refine k_region ?_ | refine k_nil ?_ | refine k_then ?_ | refine s_move ?_ | refine s_load ?_ | refine s_field ?_ | refine s_nilp ?_ | refine s_add1 ?_ | refine s_build ?_ | refine s_bsla (fun _ => ?_)))
  refine s_app hO (by omega) (fun v' Bk' hO' => ?_)
  obtain ⟨g', cap', cur', rfl, rfl, h1, h2, h3, h4⟩ := hO'.pos
  (repeat' (first | refine Wp.draw_all (id := 2) Mixed.out (by kernel_rfl) ?_ | refine s_storeg ?_ | refine k_seq ?_ | refine k_region ?_ | refine k_nil ?_ | refine k_then ?_ | refine s_move ?_ | refine s_load ?_ | refine s_field ?_ | refine s_nilp ?_ | refine s_store ?_ | refine u_nil ?_ | refine u_move ?_ | refine u_assign ?_ | refine u_load ?_ | refine u_field ?_ | refine u_nilp ?_ | refine u_sub1 ?_ | refine u_len ?_ | refine u_idxa ?_))
  have e : (d + 1 + 1 - 1) * 4 = (d + 1) * 4 := by omega
  rw [e]
  simp only [Nat.zero_add, Nat.add_assoc, Nat.reduceAdd]
  have hxl : xs.length = (d + 1) * 4 := hO.1
  have h5 : cur'.take ((d + 1) * 4 + 4) = xs ++ [.nilIface, .slice none 0 0, .int .i64 0, .int .i64 0] := by rw [← show (d + 1 + 1) * 4 = (d + 1) * 4 + 4 by omega]; exact h4
  have h6 := take_set_tail (z := 4) (k := 0) (.iface bty bv) rfl h5 hxl
  have h7 := take_set_tail (z := 4) (k := 2) (inat ln) rfl h6 hxl
  have h8 := take_set_tail (z := 4) (k := 3) (inat ln) rfl h7 hxl
  refine e_norm [_, stb g' _] ⟨rfl, g', cap', _, ?_, rfl⟩ (by repeat (first | exact SubH.nilR _ | refine SubH.pick (by repeat (first | exact HTake.here | apply HTake.there)) ?_))
  have h9 := Own.mk' (E := 114) (g := g') (cur := ((cur'.set ((d + 1) * 4 + 0) (.iface bty bv)).set ((d + 1) * 4 + 2) (inat ln)).set ((d + 1) * 4 + 3) (inat ln)) h1 h2 (by simpa using h3)
  rw [show (d + 1 + 1) * 4 = (d + 1) * 4 + 4 by omega] at h9
  exact h8 ▸ h9

theorem addBlock_root (p : Nat) (s : PS) (bty : Nat) (bv : Value) (ln : Nat) (hs : s.stack = .slice none 0 0) (hdep : s.depth = .int .i64 (-1)) (hln : s.lineno = inat ln) :
    Tr Tryz.prog 46 [lp p, .iface bty bv] [s.blk p] fun u K => u = unit ∧ ∃ g' cap' cur', Stk (stk g' 1 cap') 1 [.iface bty bv, .slice none 0 0, inat ln, inat ln] (stb g' cur') ∧
      K = [({ s with stack := stk g' 1 cap' } : PS).blk p, stb g' cur'] := by
  obtain ⟨par, root, links, lineno, stack, depth, corner, str, em, list, lists, texts, bt⟩ := s
  subst hs; subst hdep; subst hln
  refine Tr.start (n := 53) (rs := []) rfl rfl rfl rfl fun B => ?_
  (repeat' (first | refine s_callD (trimStack_nil p _ rfl) ?_ | refine k_seq ?_ | refine k_region ?_ | refine k_nil ?_ | refine k_then ?_ | refine s_move ?_ | refine s_load ?_ | refine s_field ?_ | refine s_nilp ?_ | refine s_addz ?_ | refine s_build ?_ | refine s_bsla (fun _ => ?_)))
  refine s_nilblk ?_
  refine s_app (Own.nil _ _) (by omega) (fun v' Bk' hO' => ?_)
  obtain ⟨g', cap', cur', rfl, rfl, h1, h2, h3, h4⟩ := hO'.pos
  (repeat' (first | refine Wp.draw_all (id := 2) Mixed.out (by kernel_rfl) ?_ | refine s_storeg ?_ | refine k_seq ?_ | refine k_region ?_ | refine k_nil ?_ | refine k_then ?_ | refine s_move ?_ | refine s_load ?_ | refine s_field ?_ | refine s_nilp ?_ | refine s_store ?_ | refine u_nil ?_ | refine u_move ?_ | refine u_assign ?_ | refine u_load ?_ | refine u_field ?_ | refine u_nilp ?_ | refine u_sub1 ?_ | refine u_len ?_ | refine u_idxa ?_))
  have h5 : cur'.take (0 + 4) = [] ++ [.nilIface, .slice none 0 0, .int .i64 0, .int .i64 0] := h4
  have h6 := take_set_tail (z := 4) (k := 0) (.iface bty bv) rfl h5 rfl
  have h7 := take_set_tail (z := 4) (k := 2) (inat ln) rfl h6 rfl
  have h8 := take_set_tail (z := 4) (k := 3) (inat ln) rfl h7 rfl
  refine e_norm [_, stb g' _] ⟨rfl, g', cap', _, ?_, rfl⟩ (by repeat (first | exact SubH.nilR _ | refine SubH.pick (by repeat (first | exact HTake.here | apply HTake.there)) ?_))
  have h9 := Own.mk' (E := 114) (g := g') (cur := ((cur'.set (0 + 0) (.iface bty bv)).set (0 + 2) (inat ln)).set (0 + 3) (inat ln)) h1 h2 (by simpa using h3)
  have h10 : (((cur'.set (0 + 0) (.iface bty bv)).set (0 + 2) (inat ln)).set (0 + 3) (inat ln)).take ((0 + 1) * 4) = [.iface bty bv, .slice none 0 0, inat ln, inat ln] := h8
  rw [h10] at h9
  exact h9

end Go.Proofs

namespace Go.Proofs
open Go Go.Eng
set_option maxRecDepth 20000
set_option maxHeartbeats 4000000

/-- A paragraph's builder, and its lines. -/
abbrev pbb (b : Nat) (tv : Value) : Blk := [(b, cellsOf [tv, .pointer none] 159)]
abbrev Strs (v : Value) (l : List (List UInt8)) (Bk : Blk) : Prop := Own 9 1 v l.length (l.map str) Bk
/-- A parser's options. -/
structure PO where
  headID : Bool
  del : Bool
  tasks : Bool
  auto : Bool
  autoHTTP : Bool
  table : Bool
  emoji : Bool
  dots : Bool
  dashes : Bool
  quotes : Bool
abbrev PO.blk (o : PO) (r : Nat) : Blk := [(r, cellsOf [.bool o.headID, .bool o.del, .bool o.tasks, .bool o.auto, .bool o.autoHTTP, .bool o.table, .bool o.emoji, .bool o.dots, .bool o.dashes, .bool o.quotes] 69)]

theorem newPara_first (p g d cap pr : Nat) (o : PO) (s : PS) (xs cur : List Value) (bty : Nat) (bv : Value) (ln i : Nat) (tx : List UInt8) (nl : Nat) (hl : tx.length ≤ 140737488355328) (hi : i ≤ tx.length) (hd : d ≤ 100000)
    (hO : Stk (stk g (d + 1) cap) (d + 1) xs (stb g cur)) (hb : xs[d * 4]? = some (.iface bty bv)) (ht : Nat.beq bty 155 = false)
    (hs : s.stack = stk g (d + 1) cap) (hdep : s.depth = inat d) (hln : s.lineno = inat ln) (hpar : s.par = lp pr) (htab : o.table = false) :
    Tr Tryz.prog 56 [lp p, lnv i tx nl] [s.blk p, stb g cur, o.blk pr] fun u K => u = .tuple #[lnv 0 [] 0, .bool true] ∧ ∃ g' cap' cur' pb tv Bt, Stk (stk g' (d + 2) cap') (d + 2) (xs ++ [.iface 155 (lp pb), .slice none 0 0, inat ln, inat ln]) (stb g' cur') ∧
      Strs tv [ltrim (tx.drop i)] Bt ∧ K = [({ s with stack := stk g' (d + 2) cap' } : PS).blk p, stb g' cur', o.blk pr, pbb pb tv, Bt] := by
  obtain ⟨par, root, links, lineno, stack, depth, corner, str, em, list, lists, texts, bt⟩ := s
  obtain ⟨o1, o2, o3, o4, o5, o6, o7, o8, o9, o10⟩ := o
  subst hs; subst hdep; subst hln; subst hpar; subst htab
  have hb' : cur[0 + (d + 1 - 1) * 4 + 0]? = some (.iface bty bv) := by
    rw [show 0 + (d + 1 - 1) * 4 + 0 = d * 4 by omega]; exact hO.get hb
  refine Tr.start (n := 175) (rs := [.cell 4 97, .tmp 5]) rfl rfl rfl rfl fun B => ?_
  (repeat' (first | refine Wp.draw_all (id := 2) Mixed.out (by kernel_rfl) ?_ | refine Wp.draw_tail (id := 9) 36 Mixed.out (by kernel_rfl) ?_ | refine s_callD (para_no p g (d + 1) cap _ cur bty bv (by omega) (by omega) hb' ht rfl) ?_ | refine s_callD (trimSpaceString_tr _ i tx nl hl hi) ?_ | refine k_seq ?_ | refine k_region ?_ | refine k_nil ?_ | refine k_then ?_ | refine k_false ?_ | refine k_skip ?_ | refine s_gskipt ?_ | refine s_move ?_ | refine s_assign ?_ | refine s_pickf ?_ | refine s_mki ?_ | refine s_nep0 ?_ | refine s_alloc (fun _ => ?_) | refine s_box (fun _ => ?_) | refine u_nil ?_ | refine u_gskipt ?_ | refine u_move ?_ | refine u_assign ?_ | refine u_load ?_ | refine u_field ?_ | refine u_nilp ?_ | refine u_eql_f ?_ | refine u_pickf ?_ | refine u_len ?_ | refine u_subz ?_))
  rename_i r0 r1 pb
  refine s_call (addBlock_tr p g d cap _ xs cur _ _ ln hd hO rfl rfl rfl) (fun u K hR => ?_)
  obtain ⟨rfl, g', cap', cur', hO', rfl⟩ := hR
  (repeat' (first | refine k_seq ?_ | refine k_region ?_ | refine k_nil ?_ | refine k_then ?_ | refine s_move ?_ | refine s_load ?_ | refine s_field ?_ | refine s_nilp ?_ | refine s_bsl1 (fun _ => ?_)))
  refine s_nilblk ?_
  refine s_app (Own.nil _ _) (by omega) (fun v' Bk' hT => ?_)
  obtain ⟨g2, cap2, cur2, rfl, rfl, h1, h2, h3, h4⟩ := hT.pos
  (repeat' (first | refine k_seq ?_ | refine k_region ?_ | refine k_nil ?_ | refine k_then ?_ | refine k_ret ?_ | refine s_assign ?_ | refine s_field ?_ | refine s_nilp ?_ | refine s_store ?_ | refine s_storea ?_ | refine s_build ?_))
  exact e_ret _ ⟨rfl, g', cap', cur', pb, _, _, hO', hT, rfl⟩ (by repeat (first | exact SubH.nilR _ | refine SubH.pick (by repeat (first | exact HTake.here | apply HTake.there)) ?_))
end Go.Proofs

namespace Go.Proofs
open Go Go.Eng
set_option maxRecDepth 20000
set_option maxHeartbeats 4000000

/-- The last lines of the blocks from 'd' on are set. -/
def ends (cs : List Value) (d : Nat) (v : Value) : Nat → List Value
  | 0 => cs
  | j + 1 => (ends cs d v j).set (0 + (d + j) * 4 + 2 + 1) v
theorem ends_len (cs : List Value) (d : Nat) (v : Value) : ∀ j, (ends cs d v j).length = cs.length
  | 0 => rfl
  | j + 1 => by rw [ends, List.length_set, ends_len]
theorem ends_take (cs : List Value) (d : Nat) (v : Value) (n : Nat) : ∀ j, (ends cs d v j).take n = ends (cs.take n) d v j
  | 0 => rfl
  | j + 1 => by rw [ends, List.take_set, ends_take cs d v n j]; rfl

theorem newPara_more (p g d m cap pr pb : Nat) (o : PO) (s : PS) (xs cur : List Value) (ln i : Nat) (tv : Value) (l : List (List UInt8)) (Bt : Blk) (tx : List UInt8) (nl : Nat) (hl : tx.length ≤ 140737488355328) (hi : i ≤ tx.length) (hd : d + 1 ≤ m) (hm : m ≤ 100000) (hll : l.length ≤ 100000000)
    (hO : Stk (stk g m cap) m xs (stb g cur)) (hb : xs[(m - 1) * 4]? = some (.iface 155 (lp pb))) (hT : Strs tv l Bt)
    (hs : s.stack = stk g m cap) (hdep : s.depth = inat d) (hln : s.lineno = inat ln) (hpar : s.par = lp pr) (htab : o.table = false) :
    Tr Tryz.prog 56 [lp p, lnv i tx nl] [s.blk p, stb g cur, o.blk pr, pbb pb tv, Bt] fun u K => u = .tuple #[lnv 0 [] 0, .bool true] ∧ ∃ cur' tv' Bt', Stk (stk g m cap) m (ends xs d (inat ln) (m - d)) (stb g cur') ∧
      Strs tv' (l ++ [ltrim (tx.drop i)]) Bt' ∧ K = [s.blk p, stb g cur', o.blk pr, pbb pb tv', Bt'] := by
  obtain ⟨par, root, links, lineno, stack, depth, corner, str, em, list, lists, texts, bt⟩ := s
  obtain ⟨o1, o2, o3, o4, o5, o6, o7, o8, o9, o10⟩ := o
  subst hs; subst hdep; subst hln; subst hpar; subst htab
  have hb' : cur[0 + (m - 1) * 4 + 0]? = some (.iface 155 (lp pb)) := by
    rw [show 0 + (m - 1) * 4 + 0 = (m - 1) * 4 by omega]; exact hO.get hb
  obtain ⟨v1, v2, v3, v4⟩ := hO.view
  refine Tr.start (n := 175) (rs := [.cell 4 97, .tmp 5]) rfl rfl rfl rfl fun B => ?_
  (repeat' (first | refine Wp.draw_all (id := 2) Mixed.out (by kernel_rfl) ?_ | refine Wp.draw_tail (id := 9) 36 Mixed.out (by kernel_rfl) ?_ | refine s_callD (para_yes p g m cap _ cur _ (by omega) (by omega) hb' rfl) ?_ | refine s_callD (trimSpaceString_tr _ i tx nl hl hi) ?_ | refine k_seq ?_ | refine k_region ?_ | refine k_nil ?_ | refine k_then ?_ | refine k_true ?_ | refine k_false ?_ | refine k_skip ?_ | refine s_grun ?_ | refine s_gskipt ?_ | refine s_move ?_ | refine s_assign ?_ | refine s_load ?_ | refine s_field ?_ | refine s_nilp ?_ | refine s_pickt ?_ | refine s_pickf ?_ | refine s_nep0 ?_ | refine s_nep1 ?_ | refine s_alloc (fun _ => ?_) | refine s_box (fun _ => ?_) | refine u_nil ?_ | refine u_gskipt ?_ | refine u_move ?_ | refine u_assign ?_ | refine u_load ?_ | refine u_field ?_ | refine u_nilp ?_ | refine u_eql ?_ | refine u_pickf ?_ | refine u_len ?_ | refine u_subz ?_))
  rename_i r3 r4
  have hends : ∀ j, (ends cur d (inat ln) j).length = cap * 4 := fun j => by rw [ends_len, v3]
  refine k_mid [(0, lp p), (4, lp r4), (6, lp pb), (8, Eng.str (ltrim (tx.drop i)))]
    [(⟨lp pr, root, links, inat ln, stk g m cap, inat d, corner, str, em, list, lists, texts, bt⟩ : PS).blk p, stb g (ends cur d (inat ln) (m - d)), (⟨o1, o2, o3, o4, o5, false, o7, o8, o9, o10⟩ : PO).blk pr, pbb pb tv, Bt, lnb r4 0 [] 0] ?_ ?_
  · (repeat' (first | refine k_blk ?_))
    refine k_loop (fun j : Nat => [(0, lp p), (4, lp r4), (6, lp pb), (8, Eng.str (ltrim (tx.drop i))), (11, inat (d + j))])
      (fun j => [(⟨lp pr, root, links, inat ln, stk g m cap, inat d, corner, str, em, list, lists, texts, bt⟩ : PS).blk p, stb g (ends cur d (inat ln) j), (⟨o1, o2, o3, o4, o5, false, o7, o8, o9, o10⟩ : PO).blk pr, pbb pb tv, Bt, lnb r4 0 [] 0]) (fun j => d + j ≤ m) (fun j => m - (d + j)) 0 (by omega) (Knows.spec (by repeat (first | exact trivial | refine ⟨rfl, ?_⟩))) (by repeat (first | exact SubH.nilR _ | refine SubH.pick (by repeat (first | exact HTake.here | apply HTake.there)) ?_)) fun j hj => ?_
    have hej := hends j
    by_cases hjm : d + j < m
    · (repeat' (first | refine Wp.draw_tail (id := 21) 9 Mixed.out (by kernel_rfl) ?_ | refine s_storeg ?_ | refine k_seq ?_ | refine k_region ?_ | refine k_nil ?_ | refine k_then ?_ | refine k_true ?_ | refine k_blk ?_ | refine k_skip ?_ | refine k_block ?_ | refine s_move ?_ | refine s_assign ?_ | refine s_load ?_ | refine s_field ?_ | refine s_nilp ?_ | refine s_add1 ?_ | refine s_lss_t ?_ | refine s_len ?_ | refine s_idxa ?_ | refine u_nil ?_ | refine u_move ?_ | refine u_load ?_ | refine u_field ?_ | refine u_nilp ?_))
      exact ⟨j + 1, (Knows.spec (by repeat (first | exact trivial | refine ⟨rfl, ?_⟩))), (by repeat (first | exact SubH.nilR _ | refine SubH.pick (by repeat (first | exact HTake.here | apply HTake.there)) ?_)), by omega, by omega⟩
    · have : m - d = j := by omega
      rw [this]
      (repeat' (first | refine k_seq ?_ | refine k_region ?_ | refine k_nil ?_ | refine k_then ?_ | refine k_false ?_ | refine k_exit ?_ | refine k_exit_then ?_ | refine k_hit ?_ | refine s_move ?_ | refine s_load ?_ | refine s_field ?_ | refine s_nilp ?_ | refine s_lss_f ?_ | refine s_len ?_))
      exact ⟨(by repeat (first | exact trivial | refine ⟨rfl, ?_⟩)), (by repeat (first | exact SubH.nilR _ | refine SubH.pick (by repeat (first | exact HTake.here | apply HTake.there)) ?_))⟩
  · (repeat' (first | refine k_seq ?_ | refine k_region ?_ | refine s_move ?_ | refine s_load ?_ | refine s_field ?_ | refine s_nilp ?_ | refine s_bsl1 (fun _ => ?_)))
    refine s_app hT (by simpa using (by omega : l.length ≤ 1000000000)) (fun v' Bk' hT' => ?_)
    obtain ⟨g2, cap2, cur2, rfl, rfl, h1, h2, h3, h4⟩ := hT'.pos
    (repeat' (first | refine k_seq ?_ | refine k_region ?_ | refine k_nil ?_ | refine k_then ?_ | refine k_ret ?_ | refine s_assign ?_ | refine s_field ?_ | refine s_nilp ?_ | refine s_store ?_ | refine s_storea ?_ | refine s_build ?_))
    have h9 := Own.mk' (E := 114) (g := g) (cur := ends cur d (inat ln) (m - d)) v1 v2 (hends _)
    rw [ends_take, v4] at h9
    refine e_ret _ ⟨rfl, _, _, _, h9, ?_, rfl⟩ (by repeat (first | exact SubH.nilR _ | refine SubH.pick (by repeat (first | exact HTake.here | apply HTake.there)) ?_))
    simpa [Strs] using hT'
end Go.Proofs

/- The parse state's cells; para, nextB, curB; newSetextHeading and newPre answer no. Conditions: how the line begins. -/
import Derived.Test.YtblaoglgknjepaaGreatDoorW4
import Derived.Test.YtblaoglgknjepaaGreatDoorEngB
namespace Go.Proofs
open Go Go.Eng
set_option maxRecDepth 20000
set_option maxHeartbeats 4000000

/-- What a state of the parser holds. -/
structure PS where
  par : Value
  root : Value
  links : Value
  lineno : Value
  stack : Value
  depth : Value
  corner : Value
  str : Value
  em : Value
  list : Value
  lists : Value
  texts : Value
  bt : List Value

abbrev PS.cells (s : PS) : List Value := s.par :: s.root :: s.links :: s.lineno :: s.stack :: s.depth :: s.corner :: s.str :: s.em :: s.list :: s.lists :: s.texts :: s.bt
abbrev PS.blk (s : PS) (p : Nat) : Blk := [(p, cellsOf s.cells 63)]
abbrev stk (g m cap : Nat) : Value := .slice (some ⟨g, 0, none⟩) m cap
abbrev stb (g : Nat) (cs : List Value) : Blk := [(g, cellsOf cs 88)]
abbrev inat (k : Nat) : Value := .int .i64 (k : Int)

theorem para_no (p g m cap : Nat) (s : PS) (cs : List Value) (t : Nat) (u : Value) (hm : 1 ≤ m) (hm2 : m ≤ 140737488355328) (hb : cs[0 + (m - 1) * 4 + 0]? = some (.iface t u)) (ht : Nat.beq t 129 = false) (hs : s.stack = stk g m cap) :
    TrD Tryz.prog 66 [lp p] [s.blk p, stb g cs] (.pointer none) [s.blk p, stb g cs] := by
  obtain ⟨par, root, links, lineno, stack, depth, corner, str, em, list, lists, texts, bt⟩ := s
  subst hs
  refine Tr.start (n := 24) (rs := [.tmp 2]) rfl rfl rfl rfl fun B => ?_
  (repeat' (first | refine Wp.draw_all (id := 1) Mixed.out (by kernel_rfl) ?_ | refine u_asno (hne := ht) ?_ | refine u_load (hc := hb) ?_ | refine k_seq ?_ | refine k_region ?_ | refine k_nil ?_ | refine k_then ?_ | refine k_false ?_ | refine k_skip ?_ | refine k_ret ?_ | refine s_move ?_ | refine s_assign ?_ | refine u_nil ?_ | refine u_move ?_ | refine u_assign ?_ | refine u_load ?_ | refine u_field ?_ | refine u_nilp ?_ | refine u_sub1 ?_ | refine u_len ?_ | refine u_ext ?_ | refine u_idxa ?_))
  exact e_ret _ ⟨rfl, rfl⟩ (SubH.refl _)

theorem para_yes (p g m cap : Nat) (s : PS) (cs : List Value) (u : Value) (hm : 1 ≤ m) (hm2 : m ≤ 140737488355328) (hb : cs[0 + (m - 1) * 4 + 0]? = some (.iface 129 u)) (hs : s.stack = stk g m cap) :
    TrD Tryz.prog 66 [lp p] [s.blk p, stb g cs] u [s.blk p, stb g cs] := by
  obtain ⟨par, root, links, lineno, stack, depth, corner, str, em, list, lists, texts, bt⟩ := s
  subst hs
  refine Tr.start (n := 24) (rs := [.tmp 2]) rfl rfl rfl rfl fun B => ?_
  (repeat' (first | refine Wp.draw_all (id := 1) Mixed.out (by kernel_rfl) ?_ | refine u_load (hc := hb) ?_ | refine k_seq ?_ | refine k_region ?_ | refine k_nil ?_ | refine k_then ?_ | refine k_true ?_ | refine k_ret ?_ | refine k_ret_then ?_ | refine s_move ?_ | refine s_assign ?_ | refine u_nil ?_ | refine u_move ?_ | refine u_assign ?_ | refine u_load ?_ | refine u_field ?_ | refine u_nilp ?_ | refine u_sub1 ?_ | refine u_len ?_ | refine u_ext ?_ | refine u_idxa ?_ | refine u_asok ?_))
  exact e_ret _ ⟨rfl, rfl⟩ (SubH.refl _)

theorem nextB_no (p g m cap d : Nat) (s : PS) (cs : List Value) (hm : m ≤ d + 1) (hm2 : d ≤ 140737488355328) (hs : s.stack = stk g m cap) (hd : s.depth = inat d) :
    TrD Tryz.prog 108 [lp p] [s.blk p, stb g cs] .nilIface [s.blk p, stb g cs] := by
  obtain ⟨par, root, links, lineno, stack, depth, corner, str, em, list, lists, texts, bt⟩ := s
  subst hs; subst hd
  refine Tr.start (n := 26) (rs := [.tmp 2]) rfl rfl rfl rfl fun B => ?_
  (repeat' (first | refine Wp.draw_all (id := 1) Mixed.out (by kernel_rfl) ?_ | refine k_seq ?_ | refine k_region ?_ | refine k_nil ?_ | refine k_then ?_ | refine k_false ?_ | refine k_skip ?_ | refine k_ret ?_ | refine s_assign ?_ | refine u_nil ?_ | refine u_move ?_ | refine u_load ?_ | refine u_field ?_ | refine u_nilp ?_ | refine u_add1 ?_ | refine u_lss_f ?_ | refine u_len ?_))
  exact e_ret _ ⟨rfl, rfl⟩ (SubH.refl _)

theorem nextB_yes (p g m cap d : Nat) (s : PS) (cs : List Value) (b : Value) (hm : d + 1 < m) (hm2 : m ≤ 140737488355328) (hb : cs[0 + (d + 1) * 4 + 0]? = some b) (hs : s.stack = stk g m cap) (hd : s.depth = inat d) :
    TrD Tryz.prog 108 [lp p] [s.blk p, stb g cs] b [s.blk p, stb g cs] := by
  obtain ⟨par, root, links, lineno, stack, depth, corner, str, em, list, lists, texts, bt⟩ := s
  subst hs; subst hd
  refine Tr.start (n := 26) (rs := [.tmp 2]) rfl rfl rfl rfl fun B => ?_
  (repeat' (first | refine Wp.draw_all (id := 1) Mixed.out (by kernel_rfl) ?_ | refine Wp.draw_all (id := 2) Mixed.out (by kernel_rfl) ?_ | refine u_load (hc := hb) ?_ | refine k_seq ?_ | refine k_region ?_ | refine k_nil ?_ | refine k_then ?_ | refine k_true ?_ | refine k_ret ?_ | refine k_ret_then ?_ | refine s_assign ?_ | refine u_nil ?_ | refine u_move ?_ | refine u_assign ?_ | refine u_load ?_ | refine u_field ?_ | refine u_nilp ?_ | refine u_add1 ?_ | refine u_lss_t ?_ | refine u_len ?_ | refine u_idxa ?_))
  exact e_ret _ ⟨rfl, rfl⟩ (SubH.refl _)

theorem curB_yes (p g m cap d : Nat) (s : PS) (cs : List Value) (b : Value) (hm : d < m) (hm2 : m ≤ 140737488355328) (hb : cs[0 + d * 4 + 0]? = some b) (hs : s.stack = stk g m cap) (hd : s.depth = inat d) :
    TrD Tryz.prog 113 [lp p] [s.blk p, stb g cs] b [s.blk p, stb g cs] := by
  obtain ⟨par, root, links, lineno, stack, depth, corner, str, em, list, lists, texts, bt⟩ := s
  subst hs; subst hd
  refine Tr.start (n := 24) (rs := [.tmp 2]) rfl rfl rfl rfl fun B => ?_
  (repeat' (first | refine Wp.draw_all (id := 1) Mixed.out (by kernel_rfl) ?_ | refine Wp.draw_all (id := 2) Mixed.out (by kernel_rfl) ?_ | refine u_load (hc := hb) ?_ | refine k_seq ?_ | refine k_region ?_ | refine k_nil ?_ | refine k_then ?_ | refine k_true ?_ | refine k_ret ?_ | refine k_ret_then ?_ | refine s_assign ?_ | refine u_nil ?_ | refine u_move ?_ | refine u_assign ?_ | refine u_load ?_ | refine u_field ?_ | refine u_nilp ?_ | refine u_lss_t ?_ | refine u_len ?_ | refine u_idxa ?_))
  exact e_ret _ ⟨rfl, rfl⟩ (SubH.refl _)

theorem trimSpace0_tr (q i : Nat) (tx : List UInt8) (nl : Nat) (hnt : NoTab tx) (hl : tx.length ≤ 140737488355328) (hi : i ≤ tx.length) :
    TrD Tryz.prog 118 [lp q, .int .i64 0, .int .i64 3, .bool false] [lnb q i tx nl] (.bool true) [lnb q (sp3 i tx) tx nl] := by
  have e : tsI i tx 0 3 false = sp3 i tx := tsI_zero _ _ _ _
  have h := trimSpace_tr q i tx nl 0 3 false hnt hi hl (by omega) (by omega)
  rw [e, tsOK_zero] at h
  exact h

theorem trimSetext_no (q nq i : Nat) (nv : Value) (tx : List UInt8) (nl : Nat) (hnt : NoTab tx) (hl : tx.length ≤ 140737488355328) (hi : i ≤ tx.length) (h1 : at0 tx (sp3 i tx) ≠ 45) (h2 : at0 tx (sp3 i tx) ≠ 61) :
    TrD Tryz.prog 109 [lp q, lp nq] [lnb q i tx nl, [(nq, cellsOf [nv] 3)]] (.bool false) [lnb q i tx nl, [(nq, cellsOf [nv] 3)]] := by
  refine Tr.start (n := 28) (rs := [.tmp 4]) rfl rfl rfl rfl fun B => ?_
  have hs := sp3_le hi
  (repeat' (first | refine s_callD (trimSpace0_tr _ i tx nl hnt hl hi) ?_ | refine s_callD (peek_tr _ (sp3 i tx) tx nl hl hs) ?_ | refine k_seq ?_ | refine k_region ?_ | refine k_nil ?_ | refine k_then ?_ | refine k_false ?_ | refine k_skip ?_ | refine k_ret ?_ | refine s_grun ?_ | refine s_move ?_ | refine s_assign ?_ | refine s_nilp ?_ | refine s_eql_f ?_ | refine s_pickf ?_ | refine s_loada ?_ | refine s_storea ?_ | refine s_alloc (fun _ => ?_)))
  exact e_ret _ ⟨rfl, rfl⟩ SubH.drop1

theorem setext_no1 (p g m cap d : Nat) (s : PS) (cs : List Value) (t : Nat) (u : Value) (i : Nat) (tx : List UInt8) (nl : Nat) (hm : 1 ≤ m) (hmd : m ≤ d + 1) (hm2 : d ≤ 14073748835532) (hb : cs[0 + (m - 1) * 4 + 0]? = some (.iface t u)) (ht : Nat.beq t 129 = false) (hs : s.stack = stk g m cap) (hd : s.depth = inat d) :
    TrD Tryz.prog 60 [lp p, lnv i tx nl] [s.blk p, stb g cs] (.tuple #[lnv i tx nl, .bool false]) [s.blk p, stb g cs] := by
  refine Tr.start (n := 55) (rs := [.cell 4 73, .tmp 5]) rfl rfl rfl rfl fun B => ?_
  (repeat' (first | refine s_callD (nextB_no p g m cap d s cs hmd (by omega) hs hd) ?_ | refine s_callD (para_no p g m cap s cs t u hm (by omega) hb ht hs) ?_ | refine k_seq ?_ | refine k_region ?_ | refine k_nil ?_ | refine k_then ?_ | refine k_false ?_ | refine k_skip ?_ | refine k_ret ?_ | refine s_gskipt ?_ | refine s_move ?_ | refine s_assign ?_ | refine s_pickf ?_ | refine s_mki ?_ | refine s_eqnif ?_ | refine s_loada ?_ | refine s_storea ?_ | refine s_alloc (fun _ => ?_) | refine s_alloc1 (fun _ => ?_) | refine s_box (fun _ => ?_)))
  exact e_ret _ ⟨rfl, rfl⟩ (by repeat (first | exact SubH.nilR _ | refine SubH.pick (by repeat (first | exact HTake.here | apply HTake.there)) ?_))

theorem setext_no2 (p g m cap d : Nat) (s : PS) (cs : List Value) (pb : Nat) (i : Nat) (tx : List UInt8) (nl : Nat) (hnt : NoTab tx) (hl : tx.length ≤ 140737488355328) (hi : i ≤ tx.length) (h1 : at0 tx (sp3 i tx) ≠ 45) (h2 : at0 tx (sp3 i tx) ≠ 61)
    (hmd : d + 1 < m) (hm2 : m ≤ 14073748835532) (hb : cs[0 + (m - 1) * 4 + 0]? = some (.iface 129 (lp pb))) (hb' : cs[0 + (d + 1) * 4 + 0]? = some (.iface 129 (lp pb))) (hs : s.stack = stk g m cap) (hd : s.depth = inat d) :
    TrD Tryz.prog 60 [lp p, lnv i tx nl] [s.blk p, stb g cs] (.tuple #[lnv i tx nl, .bool false]) [s.blk p, stb g cs] := by
  refine Tr.start (n := 55) (rs := [.cell 4 73, .tmp 5]) rfl rfl rfl rfl fun B => ?_
  (repeat' (first | refine s_callD (nextB_yes p g m cap d s cs _ hmd (by omega) hb' hs hd) ?_ | refine s_callD (para_yes p g m cap s cs _ (by omega) (by omega) hb hs) ?_ | refine s_callD (trimSetext_no _ _ i _ tx nl hnt hl hi h1 h2) ?_ | refine k_seq ?_ | refine k_region ?_ | refine k_nil ?_ | refine k_then ?_ | refine k_false ?_ | refine k_skip ?_ | refine k_ret ?_ | refine s_grun ?_ | refine s_move ?_ | refine s_assign ?_ | refine s_pickt ?_ | refine s_mki ?_ | refine s_eqsame ?_ | refine s_loada ?_ | refine s_storea ?_ | refine s_alloc (fun _ => ?_) | refine s_alloc1 (fun _ => ?_) | refine s_box (fun _ => ?_)))
  exact e_ret _ ⟨rfl, rfl⟩ (by repeat (first | exact SubH.nilR _ | refine SubH.pick (by repeat (first | exact HTake.here | apply HTake.there)) ?_))

theorem pre_no1 (p g m cap : Nat) (s : PS) (cs : List Value) (t : Nat) (u : Value) (i : Nat) (tx : List UInt8) (nl : Nat) (hm : 1 ≤ m) (hm2 : m ≤ 14073748835532) (hb : cs[0 + (m - 1) * 4 + 0]? = some (.iface t u)) (ht : Nat.beq t 129 = false) (hs : s.stack = stk g m cap)
    (hnt : NoTab tx) (hl : tx.length ≤ 140737488355328) (hi : i ≤ tx.length) (hsp : nsp (tx.drop i) < 4) :
    TrD Tryz.prog 65 [lp p, lnv i tx nl] [s.blk p, stb g cs] (.tuple #[lnv i tx nl, .bool false]) [s.blk p, stb g cs] := by
  have e1 : tsOK i tx 4 4 false = false := by simp [tsOK]; omega
  have e2 : tsI i tx 4 4 false = i := by simp [tsI, e1]
  have h := fun q => trimSpace_tr q i tx nl 4 4 false hnt hi hl (by omega) (by omega)
  rw [e1, e2] at h
  refine Tr.start (n := 49) (rs := [.cell 4 73, .tmp 5]) rfl rfl rfl rfl fun B => ?_
  (repeat' (first | refine s_callD (para_no p g m cap s cs t u hm (by omega) hb ht hs) ?_ | refine s_callD (h _) ?_ | refine k_seq ?_ | refine k_region ?_ | refine k_nil ?_ | refine k_then ?_ | refine k_false ?_ | refine k_skip ?_ | refine k_ret ?_ | refine s_grun ?_ | refine s_gskipt ?_ | refine s_move ?_ | refine s_assign ?_ | refine s_pickt ?_ | refine s_pickf ?_ | refine s_eqp0 ?_ | refine s_loada ?_ | refine s_storea ?_ | refine s_alloc (fun _ => ?_) | refine s_box (fun _ => ?_)))
  exact e_ret _ ⟨rfl, rfl⟩ (by repeat (first | exact SubH.nilR _ | refine SubH.pick (by repeat (first | exact HTake.here | apply HTake.there)) ?_))

theorem pre_no2 (p g m cap : Nat) (s : PS) (cs : List Value) (pb : Nat) (i : Nat) (tx : List UInt8) (nl : Nat) (hm : 1 ≤ m) (hm2 : m ≤ 14073748835532) (hb : cs[0 + (m - 1) * 4 + 0]? = some (.iface 129 (lp pb))) (hs : s.stack = stk g m cap) :
    TrD Tryz.prog 65 [lp p, lnv i tx nl] [s.blk p, stb g cs] (.tuple #[lnv i tx nl, .bool false]) [s.blk p, stb g cs] := by
  refine Tr.start (n := 49) (rs := [.cell 4 73, .tmp 5]) rfl rfl rfl rfl fun B => ?_
  (repeat' (first | refine s_callD (para_yes p g m cap s cs _ hm (by omega) hb hs) ?_ | refine k_seq ?_ | refine k_region ?_ | refine k_nil ?_ | refine k_then ?_ | refine k_false ?_ | refine k_skip ?_ | refine k_ret ?_ | refine s_gskipt ?_ | refine s_move ?_ | refine s_assign ?_ | refine s_pickf ?_ | refine s_eqp1 ?_ | refine s_loada ?_ | refine s_storea ?_ | refine s_alloc (fun _ => ?_) | refine s_box (fun _ => ?_)))
  trace_state
  exact e_ret _ ⟨rfl, rfl⟩ (by repeat (first | exact SubH.nilR _ | refine SubH.pick (by repeat (first | exact HTake.here | apply HTake.there)) ?_))
end Go.Proofs

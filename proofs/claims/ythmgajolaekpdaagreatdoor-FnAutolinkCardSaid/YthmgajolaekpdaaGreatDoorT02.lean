/- The parse state's cells; para, nextB, curB; newSetextHeading and newPre answer no. Conditions: how the line begins. growSlice of a row: a new row with room. Conditions: lengths below a bound. A bytes.Buffer's writers and its String. Conditions: lengths below a bound. -/
import Derived.Test.YthmgajolaekpdaaGreatDoorT01
import Derived.Test.YthmgajolaekpdaaGreatDoorEngB
import Derived.Test.YthmgajolaekpdaaGreatDoorFacts
import Derived.Lib.AppendZeros
import Derived.Lib.Buffer
import Derived.Laws.CopyRow
import Derived.Laws.IdiomCopy
import Derived.OwnWalk
import Derived.Defers
import Derived.Recover
import Derived.Lib.Walk
import Derived.Lib.ByteType
import Derived.Lib.Hide
namespace Go.Proofs
open Go Go.Eng
set_option maxRecDepth 20000
set_option maxHeartbeats 4000000

/-- What a state of the parser holds. -/
structure PS where
  par : Value
  root : Value
  links : Value
  lineno : Value
  stack : Value
  depth : Value
  corner : Value
  str : Value
  em : Value
  list : Value
  lists : Value
  texts : Value
  bt : List Value

abbrev PS.cells (s : PS) : List Value := s.par :: s.root :: s.links :: s.lineno :: s.stack :: s.depth :: s.corner :: s.str :: s.em :: s.list :: s.lists :: s.texts :: s.bt
abbrev PS.blk (s : PS) (p : Nat) : Blk := [(p, cellsOf s.cells 88)]
abbrev stk (g m cap : Nat) : Value := .slice (some ⟨g, 0, none⟩) m cap
abbrev stb (g : Nat) (cs : List Value) : Blk := [(g, cellsOf cs 114)]
abbrev inat (k : Nat) : Value := .int .i64 (k : Int)

theorem para_no (p g m cap : Nat) (s : PS) (cs : List Value) (t : Nat) (u : Value) (hm : 1 ≤ m) (hm2 : m ≤ 140737488355328) (hb : cs[0 + (m - 1) * 4 + 0]? = some (.iface t u)) (ht : Nat.beq t 155 = false) (hs : s.stack = stk g m cap) :
    TrD Tryz.prog 87 [lp p] [s.blk p, stb g cs] (.pointer none) [s.blk p, stb g cs] := by
  obtain ⟨par, root, links, lineno, stack, depth, corner, str, em, list, lists, texts, bt⟩ := s
  subst hs
  refine Tr.start (n := 24) (rs := [.tmp 2]) rfl rfl rfl rfl fun B => ?_
  (repeat' (first | refine Wp.draw_all (id := 1) Mixed.out (by kernel_rfl) ?_ | refine u_asno (hne := ht) ?_ | refine u_load (hc := hb) ?_ | refine k_seq ?_ | refine k_region ?_ | refine k_nil ?_ | refine k_then ?_ | refine k_false ?_ | refine k_skip ?_ | refine k_ret ?_ | refine s_move ?_ | refine s_assign ?_ | refine u_nil ?_ | refine u_move ?_ | refine u_assign ?_ | refine u_load ?_ | refine u_field ?_ | refine u_nilp ?_ | refine u_sub1 ?_ | refine u_len ?_ | refine u_ext ?_ | refine u_idxa ?_))
  exact e_ret _ ⟨rfl, rfl⟩ (SubH.refl _)

theorem para_yes (p g m cap : Nat) (s : PS) (cs : List Value) (u : Value) (hm : 1 ≤ m) (hm2 : m ≤ 140737488355328) (hb : cs[0 + (m - 1) * 4 + 0]? = some (.iface 155 u)) (hs : s.stack = stk g m cap) :
    TrD Tryz.prog 87 [lp p] [s.blk p, stb g cs] u [s.blk p, stb g cs] := by
  obtain ⟨par, root, links, lineno, stack, depth, corner, str, em, list, lists, texts, bt⟩ := s
  subst hs
  refine Tr.start (n := 24) (rs := [.tmp 2]) rfl rfl rfl rfl fun B => ?_
  (repeat' (first | refine Wp.draw_all (id := 1) Mixed.out (by kernel_rfl) ?_ | refine u_load (hc := hb) ?_ | refine k_seq ?_ | refine k_region ?_ | refine k_nil ?_ | refine k_then ?_ | refine k_true ?_ | refine k_ret ?_ | refine k_ret_then ?_ | refine s_move ?_ | refine s_assign ?_ | refine u_nil ?_ | refine u_move ?_ | refine u_assign ?_ | refine u_load ?_ | refine u_field ?_ | refine u_nilp ?_ | refine u_sub1 ?_ | refine u_len ?_ | refine u_ext ?_ | refine u_idxa ?_ | refine u_asok ?_))
  exact e_ret _ ⟨rfl, rfl⟩ (SubH.refl _)

theorem nextB_no (p g m cap d : Nat) (s : PS) (cs : List Value) (hm : m ≤ d + 1) (hm2 : d ≤ 140737488355328) (hs : s.stack = stk g m cap) (hd : s.depth = inat d) :
    TrD Tryz.prog 127 [lp p] [s.blk p, stb g cs] .nilIface [s.blk p, stb g cs] := by
  obtain ⟨par, root, links, lineno, stack, depth, corner, str, em, list, lists, texts, bt⟩ := s
  subst hs; subst hd
  refine Tr.start (n := 26) (rs := [.tmp 2]) rfl rfl rfl rfl fun B => ?_
  (repeat' (first | refine Wp.draw_all (id := 1) Mixed.out (by kernel_rfl) ?_ | refine k_seq ?_ | refine k_region ?_ | refine k_nil ?_ | refine k_then ?_ | refine k_false ?_ | refine k_skip ?_ | refine k_ret ?_ | refine s_assign ?_ | refine u_nil ?_ | refine u_move ?_ | refine u_load ?_ | refine u_field ?_ | refine u_nilp ?_ | refine u_add1 ?_ | refine u_lss_f ?_ | refine u_len ?_))
  exact e_ret _ ⟨rfl, rfl⟩ (SubH.refl _)

theorem nextB_yes (p g m cap d : Nat) (s : PS) (cs : List Value) (b : Value) (hm : d + 1 < m) (hm2 : m ≤ 140737488355328) (hb : cs[0 + (d + 1) * 4 + 0]? = some b) (hs : s.stack = stk g m cap) (hd : s.depth = inat d) :
    TrD Tryz.prog 127 [lp p] [s.blk p, stb g cs] b [s.blk p, stb g cs] := by
  obtain ⟨par, root, links, lineno, stack, depth, corner, str, em, list, lists, texts, bt⟩ := s
  subst hs; subst hd
  refine Tr.start (n := 26) (rs := [.tmp 2]) rfl rfl rfl rfl fun B => ?_
  (repeat' (first | refine Wp.draw_all (id := 1) Mixed.out (by kernel_rfl) ?_ | refine Wp.draw_all (id := 2) Mixed.out (by kernel_rfl) ?_ | refine u_load (hc := hb) ?_ | refine k_seq ?_ | refine k_region ?_ | refine k_nil ?_ | refine k_then ?_ | refine k_true ?_ | refine k_ret ?_ | refine k_ret_then ?_ | refine s_assign ?_ | refine u_nil ?_ | refine u_move ?_ | refine u_assign ?_ | refine u_load ?_ | refine u_field ?_ | refine u_nilp ?_ | refine u_add1 ?_ | refine u_lss_t ?_ | refine u_len ?_ | refine u_idxa ?_))
  exact e_ret _ ⟨rfl, rfl⟩ (SubH.refl _)

theorem curB_yes (p g m cap d : Nat) (s : PS) (cs : List Value) (b : Value) (hm : d < m) (hm2 : m ≤ 140737488355328) (hb : cs[0 + d * 4 + 0]? = some b) (hs : s.stack = stk g m cap) (hd : s.depth = inat d) :
    TrD Tryz.prog 132 [lp p] [s.blk p, stb g cs] b [s.blk p, stb g cs] := by
  obtain ⟨par, root, links, lineno, stack, depth, corner, str, em, list, lists, texts, bt⟩ := s
  subst hs; subst hd
  refine Tr.start (n := 24) (rs := [.tmp 2]) rfl rfl rfl rfl fun B => ?_
  (repeat' (first | refine Wp.draw_all (id := 1) Mixed.out (by kernel_rfl) ?_ | refine Wp.draw_all (id := 2) Mixed.out (by kernel_rfl) ?_ | refine u_load (hc := hb) ?_ | refine k_seq ?_ | refine k_region ?_ | refine k_nil ?_ | refine k_then ?_ | refine k_true ?_ | refine k_ret ?_ | refine k_ret_then ?_ | refine s_assign ?_ | refine u_nil ?_ | refine u_move ?_ | refine u_assign ?_ | refine u_load ?_ | refine u_field ?_ | refine u_nilp ?_ | refine u_lss_t ?_ | refine u_len ?_ | refine u_idxa ?_))
  exact e_ret _ ⟨rfl, rfl⟩ (SubH.refl _)

theorem trimSpace0_tr (q i : Nat) (tx : List UInt8) (nl : Nat) (hnt : NoTab tx) (hl : tx.length ≤ 140737488355328) (hi : i ≤ tx.length) :
    TrD Tryz.prog 137 [lp q, .int .i64 0, .int .i64 3, .bool false] [lnb q i tx nl] (.bool true) [lnb q (sp3 i tx) tx nl] := by
  have e : tsI i tx 0 3 false = sp3 i tx := tsI_zero _ _ _ _
  have h := trimSpace_tr q i tx nl 0 3 false hnt hi hl (by omega) (by omega)
  rw [e, tsOK_zero] at h
  exact h

theorem trimSetext_no (q nq i : Nat) (nv : Value) (tx : List UInt8) (nl : Nat) (hnt : NoTab tx) (hl : tx.length ≤ 140737488355328) (hi : i ≤ tx.length) (h1 : at0 tx (sp3 i tx) ≠ 45) (h2 : at0 tx (sp3 i tx) ≠ 61) :
    TrD Tryz.prog 128 [lp q, lp nq] [lnb q i tx nl, [(nq, cellsOf [nv] 3)]] (.bool false) [lnb q i tx nl, [(nq, cellsOf [nv] 3)]] := by
  refine Tr.start (n := 28) (rs := [.tmp 4]) rfl rfl rfl rfl fun B => ?_
  have hs := sp3_le hi
  (repeat' (first | refine s_callD (trimSpace0_tr _ i tx nl hnt hl hi) ?_ | refine s_callD (peek_tr _ (sp3 i tx) tx nl hl hs) ?_ | refine k_seq ?_ | refine k_region ?_ | refine k_nil ?_ | refine k_then ?_ | refine k_false ?_ | refine k_skip ?_ | refine k_ret ?_ | refine s_grun ?_ | refine s_move ?_ | refine s_assign ?_ | refine s_nilp ?_ | refine s_eql_f ?_ | refine s_pickf ?_ | refine s_loada ?_ | refine s_storea ?_ | refine s_alloc (fun _ => ?_)))
  exact e_ret _ ⟨rfl, rfl⟩ SubH.drop1

theorem setext_no1 (p g m cap d : Nat) (s : PS) (cs : List Value) (t : Nat) (u : Value) (i : Nat) (tx : List UInt8) (nl : Nat) (hm : 1 ≤ m) (hmd : m ≤ d + 1) (hm2 : d ≤ 14073748835532) (hb : cs[0 + (m - 1) * 4 + 0]? = some (.iface t u)) (ht : Nat.beq t 155 = false) (hs : s.stack = stk g m cap) (hd : s.depth = inat d) :
    TrD Tryz.prog 81 [lp p, lnv i tx nl] [s.blk p, stb g cs] (.tuple #[lnv i tx nl, .bool false]) [s.blk p, stb g cs] := by
  refine Tr.start (n := 55) (rs := [.cell 4 97, .tmp 5]) rfl rfl rfl rfl fun B => ?_
  (repeat' (first | refine s_callD (nextB_no p g m cap d s cs hmd (by omega) hs hd) ?_ | refine s_callD (para_no p g m cap s cs t u hm (by omega) hb ht hs) ?_ | refine k_seq ?_ | refine k_region ?_ | refine k_nil ?_ | refine k_then ?_ | refine k_false ?_ | refine k_skip ?_ | refine k_ret ?_ | refine s_gskipt ?_ | refine s_move ?_ | refine s_assign ?_ | refine s_pickf ?_ | refine s_mki ?_ | refine s_eqnif ?_ | refine s_loada ?_ | refine s_storea ?_ | refine s_alloc (fun _ => ?_) | refine s_alloc1 (fun _ => ?_) | refine s_box (fun _ => ?_)))
  exact e_ret _ ⟨rfl, rfl⟩ (by repeat (first | exact SubH.nilR _ | refine SubH.pick (by repeat (first | exact HTake.here | apply HTake.there)) ?_))

theorem setext_no2 (p g m cap d : Nat) (s : PS) (cs : List Value) (pb : Nat) (i : Nat) (tx : List UInt8) (nl : Nat) (hnt : NoTab tx) (hl : tx.length ≤ 140737488355328) (hi : i ≤ tx.length) (h1 : at0 tx (sp3 i tx) ≠ 45) (h2 : at0 tx (sp3 i tx) ≠ 61)
    (hmd : d + 1 < m) (hm2 : m ≤ 14073748835532) (hb : cs[0 + (m - 1) * 4 + 0]? = some (.iface 155 (lp pb))) (hb' : cs[0 + (d + 1) * 4 + 0]? = some (.iface 155 (lp pb))) (hs : s.stack = stk g m cap) (hd : s.depth = inat d) :
    TrD Tryz.prog 81 [lp p, lnv i tx nl] [s.blk p, stb g cs] (.tuple #[lnv i tx nl, .bool false]) [s.blk p, stb g cs] := by
  refine Tr.start (n := 55) (rs := [.cell 4 97, .tmp 5]) rfl rfl rfl rfl fun B => ?_
  (repeat' (first | refine s_callD (nextB_yes p g m cap d s cs _ hmd (by omega) hb' hs hd) ?_ | refine s_callD (para_yes p g m cap s cs _ (by omega) (by omega) hb hs) ?_ | refine s_callD (trimSetext_no _ _ i _ tx nl hnt hl hi h1 h2) ?_ | refine k_seq ?_ | refine k_region ?_ | refine k_nil ?_ | refine k_then ?_ | refine k_false ?_ | refine k_skip ?_ | refine k_ret ?_ | refine s_grun ?_ | refine s_move ?_ | refine s_assign ?_ | refine s_pickt ?_ | refine s_mki ?_ | refine s_eqsame ?_ | refine s_loada ?_ | refine s_storea ?_ | refine s_alloc (fun _ => ?_) | refine s_alloc1 (fun _ => ?_) | refine s_box (fun _ => ?_)))
  exact e_ret _ ⟨rfl, rfl⟩ (by repeat (first | exact SubH.nilR _ | refine SubH.pick (by repeat (first | exact HTake.here | apply HTake.there)) ?_))

theorem pre_no1 (p g m cap : Nat) (s : PS) (cs : List Value) (t : Nat) (u : Value) (i : Nat) (tx : List UInt8) (nl : Nat) (hm : 1 ≤ m) (hm2 : m ≤ 14073748835532) (hb : cs[0 + (m - 1) * 4 + 0]? = some (.iface t u)) (ht : Nat.beq t 155 = false) (hs : s.stack = stk g m cap)
    (hnt : NoTab tx) (hl : tx.length ≤ 140737488355328) (hi : i ≤ tx.length) (hsp : nsp (tx.drop i) < 4) :
    TrD Tryz.prog 86 [lp p, lnv i tx nl] [s.blk p, stb g cs] (.tuple #[lnv i tx nl, .bool false]) [s.blk p, stb g cs] := by
  have e1 : tsOK i tx 4 4 false = false := by simp [tsOK]; omega
  have e2 : tsI i tx 4 4 false = i := by simp [tsI, e1]
  have h := fun q => trimSpace_tr q i tx nl 4 4 false hnt hi hl (by omega) (by omega)
  rw [e1, e2] at h
  refine Tr.start (n := 49) (rs := [.cell 4 97, .tmp 5]) rfl rfl rfl rfl fun B => ?_
  (repeat' (first | refine s_callD (para_no p g m cap s cs t u hm (by omega) hb ht hs) ?_ | refine s_callD (h _) ?_ | refine k_seq ?_ | refine k_region ?_ | refine k_nil ?_ | refine k_then ?_ | refine k_false ?_ | refine k_skip ?_ | refine k_ret ?_ | refine s_grun ?_ | refine s_gskipt ?_ | refine s_move ?_ | refine s_assign ?_ | refine s_pickt ?_ | refine s_pickf ?_ | refine s_eqp0 ?_ | refine s_loada ?_ | refine s_storea ?_ | refine s_alloc (fun _ => ?_) | refine s_box (fun _ => ?_)))
  exact e_ret _ ⟨rfl, rfl⟩ (by repeat (first | exact SubH.nilR _ | refine SubH.pick (by repeat (first | exact HTake.here | apply HTake.there)) ?_))

theorem pre_no2 (p g m cap : Nat) (s : PS) (cs : List Value) (pb : Nat) (i : Nat) (tx : List UInt8) (nl : Nat) (hm : 1 ≤ m) (hm2 : m ≤ 14073748835532) (hb : cs[0 + (m - 1) * 4 + 0]? = some (.iface 155 (lp pb))) (hs : s.stack = stk g m cap) :
    TrD Tryz.prog 86 [lp p, lnv i tx nl] [s.blk p, stb g cs] (.tuple #[lnv i tx nl, .bool false]) [s.blk p, stb g cs] := by
  refine Tr.start (n := 49) (rs := [.cell 4 97, .tmp 5]) rfl rfl rfl rfl fun B => ?_
  (repeat' (first | refine s_callD (para_yes p g m cap s cs _ hm (by omega) hb hs) ?_ | refine k_seq ?_ | refine k_region ?_ | refine k_nil ?_ | refine k_then ?_ | refine k_false ?_ | refine k_skip ?_ | refine k_ret ?_ | refine s_gskipt ?_ | refine s_move ?_ | refine s_assign ?_ | refine s_pickf ?_ | refine s_eqp1 ?_ | refine s_loada ?_ | refine s_storea ?_ | refine s_alloc (fun _ => ?_) | refine s_box (fun _ => ?_)))
  trace_state
  exact e_ret _ ⟨rfl, rfl⟩ (by repeat (first | exact SubH.nilR _ | refine SubH.pick (by repeat (first | exact HTake.here | apply HTake.there)) ?_))
end Go.Proofs

namespace Go.Proofs
open Go Go.Eng Go.RowKit
set_option maxRecDepth 100000
set_option maxHeartbeats 6400000

theorem growSlice_catch (w : World) :
    CallsD Tryz.prog 243 #[] .returning w fun e u' w' => e = .returned (.tuple #[]) ∧ u' = .returning ∧ w' = w := by
  have hnn : ∀ w, (binOp .neq 20 .nilIface .nilIface).run Tryz.prog w = .ok (.bool false) w := fun w => Lib.run_neq_nil_nil w Tryz.underlying20
  refine callsD_of_wpS Tryz.func243 rfl fun c₀ cs hu => ?_
  apply wpS_seq
  apply wpS_region
  simp [wpOpsS, go_sem, recoverD, hu, hnn, Tryz.ntmps243, Exit.thenS]
  refine wpS_cond (t := false) (by simp [Act.eval, Array.replicate]) ?_
  simp only [Bool.false_eq_true, if_false]
  refine wpS_of_wp (wp_skip ?_)
  cases c₀
  simp_all [bodyPostS, results]

theorem growSlice_row (g l c n : Nat) (cur : Array Value) (w : World) (hg : w.heap[g]? = some (.cells cur 5 (0, 0))) (hcs : cur.size = c) (hlc : l ≤ c) (hn : 1 ≤ n)
    (hlim : l + n ≤ 140737488355328) (hc2 : c ≤ 140737488355328) (h1 : ∀ v ∈ cur.toList.take l, v.oneCell' = true) (C : Nat) (hCe : C = if l + n < 2 * c then 2 * c else l + n) :
    Calls Tryz.prog 242 #[.slice (some ⟨g, 0, none⟩) l c, .int .i64 n] w fun e w' => ∃ cap2 cells, e = .returned (.slice (some ⟨w.heap.size, 0, none⟩) l cap2) ∧ w'.heap[w.heap.size]? = some (.cells cells 5 (0, 0)) ∧
      cells.size = cap2 ∧ cells.toList.take l = cur.toList.take l ∧ l + n ≤ cap2 ∧ cap2 ≤ maxLen ∧ Below w.heap.size w w' := by
  obtain ⟨i0, hi, hz0, hz1, hz2⟩ := info_parts (P := Tryz.prog) (e := 5) (z := .int .u8 0) (size := 1) (bytes := 1) (by kernel_rfl)
  have hsz1 : ((Tryz.prog).info? 5).map (·.size) = some 1 := by rw [hi]; simp [hz1]
  have t37 := Tryz.underlying30
  have t3 := Tryz.underlying3
  have hCl : l + n ≤ C := by subst hCe; split <;> omega
  have hCm : C ≤ 281474976710656 := by subst hCe; split <;> omega
  have happ := Lib.run_append_nil_zeros (P := Tryz.prog) w 30 3 30 5 i0 (.int .u8 0) .i64 .i64 t37 t3 hi hz0 C (by omega) (by omega) (by omega) (by rw [hz2]; omega)
  generalize hcap : grownCap w C 0 5 = cap2 at happ
  have hcapge : C ≤ cap2 := by rw [← hcap]; exact grownCap_ge w _ 0 5
  have hcaple : cap2 ≤ maxLen := by rw [← hcap]; exact grownCap_le_maxLen w _ 0 5 (by unfold maxLen; omega)
  generalize hZ : (Builtin.zeroCells (Value.int .u8 0).cells C ++ Builtin.zeroCells (Value.int .u8 0).cells (cap2 - C)) = Z at happ
  have hZs : Z.size = cap2 := by rw [← hZ]; simp [size_zeroCells, Value.cells]; omega
  clear hcap hZ
  have hgl := Lib.lt_of_heap hg
  have hg1 : (w.alloc (.cells Z 5)).drew.heap[g]? = some (.cells cur 5 (0, 0)) := by show (w.alloc (.cells Z 5)).heap[g]? = _; rw [RowKit.Below.heap_alloc w _ g hgl]; exact hg
  have hxl : (cur.toList.take l).length = l := by rw [List.length_take, Array.length_toList]; omega
  have hcopy := run_copy_row (P := Tryz.prog) (w.alloc (.cells Z 5)).drew 30 30 3 5 w.heap.size 0 C cap2 ⟨g, 0, none⟩ l c Z 5 (cur.toList.take l) t37 hsz1 (heap_alloc_new w _) (by rw [hxl]; exact (Nat.min_eq_left (by omega)).symm) (Lib.cells_of_row hg1 l) (by rw [hxl]; omega) h1
  rw [hxl] at hcopy
  generalize hY : (Z.toList.take 0 ++ cur.toList.take l ++ Z.toList.drop (0 + l)).toArray = Y at hcopy
  by_cases hlt : l + n < 2 * c
  · rw [if_pos hlt] at hCe
    subst hCe
    rw [show (((2 * c : Nat)) : Int) = 2 * (c : Int) by omega] at happ
    go_enter_defers Tryz.func242, Tryz.ntmps242
    go_wp2_with (at_builtin; refine Lib.wpList_append_run _ rfl _ _ _ _ rfl _ _ rfl rfl _ _ happ ?_)
    refine leaves_cons (f := 243) (args := #[]) (by simp) (Callable.mk Tryz.func243 rfl rfl _ _) ?_
    refine (growSlice_catch _).mono ?_
    rintro e u' w'' ⟨rfl, rfl, rfl⟩
    refine ⟨_, results_tmp rfl _ _ _, ?_⟩
    have hYl : Y.toList = cur.toList.take l ++ Z.toList.drop l := by rw [← hY]; simp
    refine ⟨cap2, Y, rfl, setRow_heap _ _ Z Y 5 (0, 0) (heap_alloc_new w _), ?_, ?_, by omega, hcaple, ?_⟩
    · have : Y.toList.length = cap2 := by rw [hYl, List.length_append, hxl, List.length_drop, Array.length_toList, hZs]; omega
      simpa using this
    · rw [hYl, List.take_append_of_le_length (by rw [hxl]; exact Nat.le_refl _), List.take_of_length_le (by rw [hxl]; exact Nat.le_refl _)]
    · exact ⟨rfl, rfl, rfl, by simp, fun k hk => by rw [setRow_other _ _ _ _ (by omega)]; exact Below.heap_alloc w _ k hk⟩
  · rw [if_neg hlt] at hCe
    subst hCe
    rw [show (((l + n : Nat)) : Int) = (l : Int) + (n : Int) by omega] at happ
    go_enter_defers Tryz.func242, Tryz.ntmps242
    go_wp2_with (at_builtin; refine Lib.wpList_append_run _ rfl _ _ _ _ rfl _ _ rfl rfl _ _ happ ?_)
    refine leaves_cons (f := 243) (args := #[]) (by simp) (Callable.mk Tryz.func243 rfl rfl _ _) ?_
    refine (growSlice_catch _).mono ?_
    rintro e u' w'' ⟨rfl, rfl, rfl⟩
    refine ⟨_, results_tmp rfl _ _ _, ?_⟩
    have hYl : Y.toList = cur.toList.take l ++ Z.toList.drop l := by rw [← hY]; simp
    refine ⟨cap2, Y, rfl, setRow_heap _ _ Z Y 5 (0, 0) (heap_alloc_new w _), ?_, ?_, by omega, hcaple, ?_⟩
    · have : Y.toList.length = cap2 := by rw [hYl, List.length_append, hxl, List.length_drop, Array.length_toList, hZs]; omega
      simpa using this
    · rw [hYl, List.take_append_of_le_length (by rw [hxl]; exact Nat.le_refl _), List.take_of_length_le (by rw [hxl]; exact Nat.le_refl _)]
    · exact ⟨rfl, rfl, rfl, by simp, fun k hk => by rw [setRow_other _ _ _ _ (by omega)]; exact Below.heap_alloc w _ k hk⟩
end Go.Proofs

namespace Go.Proofs
open Go Go.Eng Go.RowKit
set_option maxRecDepth 20000
set_option maxHeartbeats 4000000

abbrev bufb (b : Nat) (v : Value) (lr : Int) : Blk := [(b, cellsOf [v, .int .i64 0, .int .i8 lr] 65)]
/-- What a buffer holds: nothing yet, or bytes at the head of a row. -/
def BRow (v : Value) (l : List UInt8) (R : Blk) : Prop := (l = [] ∧ v = .slice none 0 0 ∧ R = []) ∨
  (l ≠ [] ∧ ∃ g cap cur, v = .slice (some ⟨g, 0, none⟩) l.length cap ∧ R = [(g, cellsOf cur 5)] ∧ l.length ≤ cap ∧ cap ≤ 9223372036854775807 ∧ cur.length = cap ∧ cur.take l.length = Lib.byteCells l)
theorem BRow.nil : BRow (.slice none 0 0) [] [] := .inl ⟨rfl, rfl, rfl⟩
theorem BRow.wrote {g cap : Nat} {cur : List Value} {l s : List UInt8} (hs : s ≠ []) (h1 : l.length + s.length ≤ cap) (h2 : cap ≤ 9223372036854775807) (h3 : cur.length = cap) (h4 : cur.take l.length = Lib.byteCells l) :
    BRow (.slice (some ⟨g, 0, none⟩) (l.length + s.length) cap) (l ++ s) [(g, cellsOf (cur.take l.length ++ Lib.byteCells s ++ cur.drop (l.length + s.length)) 5)] := by
  refine .inr ⟨by simp [hs], g, cap, _, by rw [List.length_append], rfl, by rw [List.length_append]; exact h1, h2, ?_, ?_⟩
  · simp only [List.length_append, List.length_take, List.length_drop, Lib.byteCells_length]; omega
  · rw [h4]
    have e1 : Lib.byteCells (l ++ s) = Lib.byteCells l ++ Lib.byteCells s := by simp [Lib.byteCells]
    rw [e1, List.take_left' (by simp [Lib.byteCells_length])]

theorem byte_ones (l : List UInt8) : ∀ v ∈ Lib.byteCells l, v.oneCell' = true := by
  intro v hv
  simp only [Lib.byteCells, List.mem_map] at hv
  obtain ⟨c, _, rfl⟩ := hv
  rfl

/-- growSlice of a row. -/
theorem growSlice_tr (g l c n : Nat) (cur : List Value) (hcs : cur.length = c) (hlc : l ≤ c) (hn : 1 ≤ n) (hlim : l + n ≤ 140737488355328) (hc2 : c ≤ 140737488355328) (h1 : ∀ v ∈ cur.take l, v.oneCell' = true) :
    Tr Tryz.prog 242 [.slice (some ⟨g, 0, none⟩) l c, inat n] [[(g, cellsOf cur 5)]] fun u K => ∃ g2 cap2 cur2, u = .slice (some ⟨g2, 0, none⟩) l cap2 ∧ cur2.length = cap2 ∧ cur2.take l = cur.take l ∧ l + n ≤ cap2 ∧ cap2 ≤ 9223372036854775807 ∧ K = [[(g2, cellsOf cur2 5)], [(g, cellsOf cur 5)]] := by
  refine Tr.of_below fun B w hw => ?_
  have hg : w.heap[g]? = some (.cells cur.toArray 5 (0, 0)) := hw.has g _ (by simp)
  refine (growSlice_row g l c n cur.toArray w hg (by simpa using hcs) hlc hn hlim hc2 (by simpa using h1) _ rfl).mono ?_
  rintro e w' ⟨cap2, cells, rfl, h2, h3, h4, h5, h6, h7⟩
  exact ⟨_, cells, _, rfl, h2, h7, w.heap.size, cap2, cells.toList, rfl, by simpa using h3, by simpa using h4, h5, h6, rfl⟩

theorem tryGrow_yes (b n l cap : Nat) (base : Option Addr) (lr : Int) (h : l + n ≤ cap) (hc : cap ≤ 9223372036854775807) :
    TrD Tryz.prog 239 [lp b, inat n] [bufb b (.slice base l cap) lr] (.tuple #[inat l, .bool true]) [bufb b (.slice base (l + n) cap) lr] := by
  refine Tr.start (n := 33) (rs := [.tmp 4, .tmp 5]) rfl rfl rfl rfl fun B => ?_
  (repeat' (first | refine s_cap ?_ | refine k_seq ?_ | refine k_region ?_ | refine k_nil ?_ | refine k_then ?_ | refine k_true ?_ | refine k_ret ?_ | refine k_ret_then ?_ | refine s_move ?_ | refine s_assign ?_ | refine s_load ?_ | refine s_field ?_ | refine s_nilp ?_ | refine s_add ?_ | refine s_sub ?_ | refine s_leq_t ?_ | refine s_len ?_ | refine s_slicehi ?_ | refine s_store ?_))
  exact e_ret _ ⟨rfl, rfl⟩ (by repeat (first | exact SubH.nilR _ | refine SubH.pick (by repeat (first | exact HTake.here | apply HTake.there)) ?_))
theorem tryGrow_no (b n l cap : Nat) (base : Option Addr) (lr : Int) (hl : l ≤ cap) (h : ¬ l + n ≤ cap) (hc : cap ≤ 9223372036854775807) :
    TrD Tryz.prog 239 [lp b, inat n] [bufb b (.slice base l cap) lr] (.tuple #[inat 0, .bool false]) [bufb b (.slice base l cap) lr] := by
  refine Tr.start (n := 33) (rs := [.tmp 4, .tmp 5]) rfl rfl rfl rfl fun B => ?_
  (repeat' (first | refine s_cap ?_ | refine k_seq ?_ | refine k_region ?_ | refine k_nil ?_ | refine k_then ?_ | refine k_false ?_ | refine k_skip ?_ | refine k_ret ?_ | refine s_move ?_ | refine s_assign ?_ | refine s_load ?_ | refine s_field ?_ | refine s_nilp ?_ | refine s_sub ?_ | refine s_leq_f ?_ | refine s_len ?_))
  exact e_ret _ ⟨rfl, rfl⟩ (by repeat (first | exact SubH.nilR _ | refine SubH.pick (by repeat (first | exact HTake.here | apply HTake.there)) ?_))
theorem bufLen_tr (b l cap : Nat) (base : Option Addr) (lr : Int) (hc : l ≤ 9223372036854775807) : TrD Tryz.prog 241 [lp b] [bufb b (.slice base l cap) lr] (inat l) [bufb b (.slice base l cap) lr] := by
  refine Tr.start (n := 13) (rs := [.tmp 2]) rfl rfl rfl rfl fun B => ?_
  (repeat' (first | refine Wp.draw_all (id := 1) Mixed.out (by kernel_rfl) ?_ | refine k_seq ?_ | refine k_region ?_ | refine k_nil ?_ | refine k_then ?_ | refine k_ret ?_ | refine s_assign ?_ | refine u_nil ?_ | refine u_move ?_ | refine u_assign ?_ | refine u_load ?_ | refine u_field ?_ | refine u_nilp ?_ | refine u_len ?_ | refine u_subz ?_))
  rw [Int.sub_zero]
  exact e_ret _ ⟨rfl, rfl⟩ (by repeat (first | exact SubH.nilR _ | refine SubH.pick (by repeat (first | exact HTake.here | apply HTake.there)) ?_))

theorem grow_nil (b n : Nat) (lr : Int) (h1 : 1 ≤ n) (hn : n ≤ 64) :
    Tr Tryz.prog 240 [lp b, inat n] [bufb b (.slice none 0 0) lr] fun u K => u = inat 0 ∧ ∃ g, K = [bufb b (.slice (some ⟨g, 0, none⟩) n 64) lr, [(g, cellsOf (List.replicate 64 (.int .u8 0)) 5)]] := by
  refine Tr.start (n := 110) (rs := [.tmp 4]) rfl rfl rfl rfl fun B => ?_
  (repeat' (first | refine s_eqslt ?_ | refine s_callD (bufLen_tr b 0 0 none lr (by omega)) ?_ | refine s_callD (tryGrow_no b n 0 0 none lr (by omega) (by omega) (by omega)) ?_ | refine k_seq ?_ | refine k_region ?_ | refine k_nil ?_ | refine k_then ?_ | refine k_true ?_ | refine k_false ?_ | refine k_skip ?_ | refine s_grun ?_ | refine s_move ?_ | refine s_assign ?_ | refine s_load ?_ | refine s_field ?_ | refine s_nilp ?_ | refine s_leq_t ?_ | refine s_eql_t ?_ | refine s_neq_f ?_ | refine s_pickt ?_ | refine s_ext ?_))
  refine s_make (m := n) (c := 64) (by omega) (by omega) (by omega) (fun g => ?_)
  (repeat' (first | refine k_seq ?_ | refine k_region ?_ | refine k_nil ?_ | refine k_then ?_ | refine k_ret ?_ | refine k_ret_then ?_ | refine s_assign ?_ | refine s_field ?_ | refine s_nilp ?_ | refine s_store ?_))
  exact e_ret _ ⟨rfl, g, rfl⟩ (by repeat (first | exact SubH.nilR _ | refine SubH.pick (by repeat (first | exact HTake.here | apply HTake.there)) ?_))

theorem grow_row (b g l c n : Nat) (cur : List Value) (lr : Int) (hcs : cur.length = c) (hl0 : 1 ≤ l) (hlc : l ≤ c) (hn : 1 ≤ n) (hno : ¬ l + n ≤ c) (hlim : l + n ≤ 140737488355328) (h1 : ∀ v ∈ cur.take l, v.oneCell' = true) :
    Tr Tryz.prog 240 [lp b, inat n] [bufb b (.slice (some ⟨g, 0, none⟩) l c) lr, [(g, cellsOf cur 5)]] fun u K => u = inat l ∧ ∃ g2 cap2 cur2, cur2.length = cap2 ∧ cur2.take l = cur.take l ∧ l + n ≤ cap2 ∧ cap2 ≤ 9223372036854775807 ∧
      K = [bufb b (.slice (some ⟨g2, 0, none⟩) (l + n) cap2) lr, [(g2, cellsOf cur2 5)]] := by
  refine Tr.start (n := 110) (rs := [.tmp 4]) rfl rfl rfl rfl fun B => ?_
  (repeat' (first | refine s_eqslf ?_ | refine s_callD (bufLen_tr b l c (some ⟨g, 0, none⟩) lr (by omega)) ?_ | refine s_callD (tryGrow_no b n l c (some ⟨g, 0, none⟩) lr hlc hno (by omega)) ?_ | refine s_cap ?_ | refine s_quo2 ?_ | refine k_seq ?_ | refine k_region ?_ | refine k_nil ?_ | refine k_then ?_ | refine k_false ?_ | refine k_skip ?_ | refine s_gskipt ?_ | refine s_move ?_ | refine s_assign ?_ | refine s_load ?_ | refine s_field ?_ | refine s_nilp ?_ | refine s_leq_f ?_ | refine s_gtr_f ?_ | refine s_eql_f ?_ | refine s_pickf ?_ | refine s_ext ?_ | refine s_subz ?_))
  refine Wp.draw_till (id := 15) [bufb b (.slice (some ⟨g, 0, none⟩) l c) lr] 19 20 Mixed.out (by repeat (first | exact SubH.nilR _ | refine SubH.pick (by repeat (first | exact HTake.here | apply HTake.there)) ?_)) rfl ?_
  refine OpsK.first 0 _ (by rfl) (by kernel_rfl) rfl (by kernel_rfl) (by kernel_rfl) rfl (by first | exact p_move rfl | exact p_assign rfl | exact p_extract rfl rfl | exact q_fieldAddr rfl | exact p_nilCheck rfl | exact q_load rfl (by repeat (first | exact HMem.here | apply HMem.skip | apply HMem.there)) rfl | exact q_load_agg rfl (by repeat (first | exact HMem.here | apply HMem.skip | apply HMem.there)) (by repeat constructor) | exact q_len_slice rfl | exact q_len_str rfl | exact q_indexAddr rfl rfl (by omega) | exact q_slice_str rfl rfl rfl (by omega) (by omega) | exact q_makeInterface rfl | exact q_assert rfl | exact p_build rfl (by repeat' (first | exact BFill.nil | refine' BFill.one (by rfl) (by rfl) (by repeat constructor) ?_ | refine' BFill.agg (by rfl) (by rfl) (by repeat constructor) ?_))) ?_
  refine OpsK.first 1 _ (by rfl) (by kernel_rfl) rfl (by kernel_rfl) (by kernel_rfl) rfl (by first | exact p_move rfl | exact p_assign rfl | exact p_extract rfl rfl | exact q_fieldAddr rfl | exact p_nilCheck rfl | exact q_load rfl (by repeat (first | exact HMem.here | apply HMem.skip | apply HMem.there)) rfl | exact q_load_agg rfl (by repeat (first | exact HMem.here | apply HMem.skip | apply HMem.there)) (by repeat constructor) | exact q_len_slice rfl | exact q_len_str rfl | exact q_indexAddr rfl rfl (by omega) | exact q_slice_str rfl rfl rfl (by omega) (by omega) | exact q_makeInterface rfl | exact q_assert rfl | exact p_build rfl (by repeat' (first | exact BFill.nil | refine' BFill.one (by rfl) (by rfl) (by repeat constructor) ?_ | refine' BFill.agg (by rfl) (by rfl) (by repeat constructor) ?_))) ?_
  refine OpsK.first 2 _ (by rfl) (by kernel_rfl) rfl (by kernel_rfl) (by kernel_rfl) rfl (by first | exact p_move rfl | exact p_assign rfl | exact p_extract rfl rfl | exact q_fieldAddr rfl | exact p_nilCheck rfl | exact q_load rfl (by repeat (first | exact HMem.here | apply HMem.skip | apply HMem.there)) rfl | exact q_load_agg rfl (by repeat (first | exact HMem.here | apply HMem.skip | apply HMem.there)) (by repeat constructor) | exact q_len_slice rfl | exact q_len_str rfl | exact q_indexAddr rfl rfl (by omega) | exact q_slice_str rfl rfl rfl (by omega) (by omega) | exact q_makeInterface rfl | exact q_assert rfl | exact p_build rfl (by repeat' (first | exact BFill.nil | refine' BFill.one (by rfl) (by rfl) (by repeat constructor) ?_ | refine' BFill.agg (by rfl) (by rfl) (by repeat constructor) ?_))) ?_
  refine OpsK.first 3 _ (by rfl) (by kernel_rfl) rfl (by kernel_rfl) (by kernel_rfl) rfl (by first | exact p_move rfl | exact p_assign rfl | exact p_extract rfl rfl | exact q_fieldAddr rfl | exact p_nilCheck rfl | exact q_load rfl (by repeat (first | exact HMem.here | apply HMem.skip | apply HMem.there)) rfl | exact q_load_agg rfl (by repeat (first | exact HMem.here | apply HMem.skip | apply HMem.there)) (by repeat constructor) | exact q_len_slice rfl | exact q_len_str rfl | exact q_indexAddr rfl rfl (by omega) | exact q_slice_str rfl rfl rfl (by omega) (by omega) | exact q_makeInterface rfl | exact q_assert rfl | exact p_build rfl (by repeat' (first | exact BFill.nil | refine' BFill.one (by rfl) (by rfl) (by repeat constructor) ?_ | refine' BFill.agg (by rfl) (by rfl) (by repeat constructor) ?_))) ?_
  refine OpsK.firstL 4 [] _ (by rfl) (by kernel_rfl) (by kernel_rfl) rfl (by kernel_rfl) (by kernel_rfl) rfl (by first | exact p_move rfl | exact p_assign rfl | exact p_extract rfl rfl | exact q_fieldAddr rfl | exact p_nilCheck rfl | exact q_load rfl (by repeat (first | exact HMem.here | apply HMem.skip | apply HMem.there)) rfl | exact q_load_agg rfl (by repeat (first | exact HMem.here | apply HMem.skip | apply HMem.there)) (by repeat constructor) | exact q_len_slice rfl | exact q_len_str rfl | exact q_indexAddr rfl rfl (by omega) | exact q_slice_str rfl rfl rfl (by omega) (by omega) | exact q_makeInterface rfl | exact q_assert rfl | exact p_build rfl (by repeat' (first | exact BFill.nil | refine' BFill.one (by rfl) (by rfl) (by repeat constructor) ?_ | refine' BFill.agg (by rfl) (by rfl) (by repeat constructor) ?_))) ?_
  refine OpsK.first 5 _ (by rfl) (by kernel_rfl) rfl (by kernel_rfl) (by kernel_rfl) rfl (by first | exact p_move rfl | exact p_assign rfl | exact p_extract rfl rfl | exact q_fieldAddr rfl | exact p_nilCheck rfl | exact q_load rfl (by repeat (first | exact HMem.here | apply HMem.skip | apply HMem.there)) rfl | exact q_load_agg rfl (by repeat (first | exact HMem.here | apply HMem.skip | apply HMem.there)) (by repeat constructor) | exact q_len_slice rfl | exact q_len_str rfl | exact q_indexAddr rfl rfl (by omega) | exact q_slice_str rfl rfl rfl (by omega) (by omega) | exact q_makeInterface rfl | exact q_assert rfl | exact p_build rfl (by repeat' (first | exact BFill.nil | refine' BFill.one (by rfl) (by rfl) (by repeat constructor) ?_ | refine' BFill.agg (by rfl) (by rfl) (by repeat constructor) ?_))) ?_
  refine OpsK.first 6 _ (by rfl) (by kernel_rfl) rfl (by kernel_rfl) (by kernel_rfl) rfl (by first | exact p_move rfl | exact p_assign rfl | exact p_extract rfl rfl | exact q_fieldAddr rfl | exact p_nilCheck rfl | exact q_load rfl (by repeat (first | exact HMem.here | apply HMem.skip | apply HMem.there)) rfl | exact q_load_agg rfl (by repeat (first | exact HMem.here | apply HMem.skip | apply HMem.there)) (by repeat constructor) | exact q_len_slice rfl | exact q_len_str rfl | exact q_indexAddr rfl rfl (by omega) | exact q_slice_str rfl rfl rfl (by omega) (by omega) | exact q_makeInterface rfl | exact q_assert rfl | exact p_build rfl (by repeat' (first | exact BFill.nil | refine' BFill.one (by rfl) (by rfl) (by repeat constructor) ?_ | refine' BFill.agg (by rfl) (by rfl) (by repeat constructor) ?_))) ?_
  refine OpsK.first 7 _ (by rfl) (by kernel_rfl) rfl (by kernel_rfl) (by kernel_rfl) rfl (by first | exact p_move rfl | exact p_assign rfl | exact p_extract rfl rfl | exact q_fieldAddr rfl | exact p_nilCheck rfl | exact q_load rfl (by repeat (first | exact HMem.here | apply HMem.skip | apply HMem.there)) rfl | exact q_load_agg rfl (by repeat (first | exact HMem.here | apply HMem.skip | apply HMem.there)) (by repeat constructor) | exact q_len_slice rfl | exact q_len_str rfl | exact q_indexAddr rfl rfl (by omega) | exact q_slice_str rfl rfl rfl (by omega) (by omega) | exact q_makeInterface rfl | exact q_assert rfl | exact p_build rfl (by repeat' (first | exact BFill.nil | refine' BFill.one (by rfl) (by rfl) (by repeat constructor) ?_ | refine' BFill.agg (by rfl) (by rfl) (by repeat constructor) ?_))) ?_
  refine OpsK.firstL 8 [] _ (by rfl) (by kernel_rfl) (by kernel_rfl) rfl (by kernel_rfl) (by kernel_rfl) rfl (by first | exact p_move rfl | exact p_assign rfl | exact p_extract rfl rfl | exact q_fieldAddr rfl | exact p_nilCheck rfl | exact q_load rfl (by repeat (first | exact HMem.here | apply HMem.skip | apply HMem.there)) rfl | exact q_load_agg rfl (by repeat (first | exact HMem.here | apply HMem.skip | apply HMem.there)) (by repeat constructor) | exact q_len_slice rfl | exact q_len_str rfl | exact q_indexAddr rfl rfl (by omega) | exact q_slice_str rfl rfl rfl (by omega) (by omega) | exact q_makeInterface rfl | exact q_assert rfl | exact p_build rfl (by repeat' (first | exact BFill.nil | refine' BFill.one (by rfl) (by rfl) (by repeat constructor) ?_ | refine' BFill.agg (by rfl) (by rfl) (by repeat constructor) ?_))) ?_
  refine OpsK.first 9 _ (by rfl) (by kernel_rfl) rfl (by kernel_rfl) (by kernel_rfl) rfl (p_slice_lo (a := 0) (sz := 1) USlice.out Siz.out rfl rfl (Nat.zero_le _) (by omega)) ?_
  refine OpsK.first 10 _ (by rfl) (by kernel_rfl) rfl (by kernel_rfl) (by kernel_rfl) rfl (by first | exact p_move rfl | exact p_assign rfl | exact p_extract rfl rfl | exact q_fieldAddr rfl | exact p_nilCheck rfl | exact q_load rfl (by repeat (first | exact HMem.here | apply HMem.skip | apply HMem.there)) rfl | exact q_load_agg rfl (by repeat (first | exact HMem.here | apply HMem.skip | apply HMem.there)) (by repeat constructor) | exact q_len_slice rfl | exact q_len_str rfl | exact q_indexAddr rfl rfl (by omega) | exact q_slice_str rfl rfl rfl (by omega) (by omega) | exact q_makeInterface rfl | exact q_assert rfl | exact p_build rfl (by repeat' (first | exact BFill.nil | refine' BFill.one (by rfl) (by rfl) (by repeat constructor) ?_ | refine' BFill.agg (by rfl) (by rfl) (by repeat constructor) ?_))) ?_
  refine OpsK.first 11 _ (by rfl) (by kernel_rfl) rfl (by kernel_rfl) (by kernel_rfl) rfl (by first | exact p_move rfl | exact p_assign rfl | exact p_extract rfl rfl | exact q_fieldAddr rfl | exact p_nilCheck rfl | exact q_load rfl (by repeat (first | exact HMem.here | apply HMem.skip | apply HMem.there)) rfl | exact q_load_agg rfl (by repeat (first | exact HMem.here | apply HMem.skip | apply HMem.there)) (by repeat constructor) | exact q_len_slice rfl | exact q_len_str rfl | exact q_indexAddr rfl rfl (by omega) | exact q_slice_str rfl rfl rfl (by omega) (by omega) | exact q_makeInterface rfl | exact q_assert rfl | exact p_build rfl (by repeat' (first | exact BFill.nil | refine' BFill.one (by rfl) (by rfl) (by repeat constructor) ?_ | refine' BFill.agg (by rfl) (by rfl) (by repeat constructor) ?_))) ?_
  refine OpsK.first 12 _ (by rfl) (by kernel_rfl) rfl (by kernel_rfl) (by kernel_rfl) rfl (by first | exact p_move rfl | exact p_assign rfl | exact p_extract rfl rfl | exact q_fieldAddr rfl | exact p_nilCheck rfl | exact q_load rfl (by repeat (first | exact HMem.here | apply HMem.skip | apply HMem.there)) rfl | exact q_load_agg rfl (by repeat (first | exact HMem.here | apply HMem.skip | apply HMem.there)) (by repeat constructor) | exact q_len_slice rfl | exact q_len_str rfl | exact q_indexAddr rfl rfl (by omega) | exact q_slice_str rfl rfl rfl (by omega) (by omega) | exact q_makeInterface rfl | exact q_assert rfl | exact p_build rfl (by repeat' (first | exact BFill.nil | refine' BFill.one (by rfl) (by rfl) (by repeat constructor) ?_ | refine' BFill.agg (by rfl) (by rfl) (by repeat constructor) ?_))) ?_
  refine OpsK.firstL 13 [] _ (by rfl) (by kernel_rfl) (by kernel_rfl) rfl (by kernel_rfl) (by kernel_rfl) rfl (by first | exact p_move rfl | exact p_assign rfl | exact p_extract rfl rfl | exact q_fieldAddr rfl | exact p_nilCheck rfl | exact q_load rfl (by repeat (first | exact HMem.here | apply HMem.skip | apply HMem.there)) rfl | exact q_load_agg rfl (by repeat (first | exact HMem.here | apply HMem.skip | apply HMem.there)) (by repeat constructor) | exact q_len_slice rfl | exact q_len_str rfl | exact q_indexAddr rfl rfl (by omega) | exact q_slice_str rfl rfl rfl (by omega) (by omega) | exact q_makeInterface rfl | exact q_assert rfl | exact p_build rfl (by repeat' (first | exact BFill.nil | refine' BFill.one (by rfl) (by rfl) (by repeat constructor) ?_ | refine' BFill.agg (by rfl) (by rfl) (by repeat constructor) ?_))) ?_
  refine OpsK.first 14 _ (by rfl) (by kernel_rfl) rfl (by kernel_rfl) (by kernel_rfl) rfl (by first | exact p_move rfl | exact p_assign rfl | exact p_extract rfl rfl | exact q_fieldAddr rfl | exact p_nilCheck rfl | exact q_load rfl (by repeat (first | exact HMem.here | apply HMem.skip | apply HMem.there)) rfl | exact q_load_agg rfl (by repeat (first | exact HMem.here | apply HMem.skip | apply HMem.there)) (by repeat constructor) | exact q_len_slice rfl | exact q_len_str rfl | exact q_indexAddr rfl rfl (by omega) | exact q_slice_str rfl rfl rfl (by omega) (by omega) | exact q_makeInterface rfl | exact q_assert rfl | exact p_build rfl (by repeat' (first | exact BFill.nil | refine' BFill.one (by rfl) (by rfl) (by repeat constructor) ?_ | refine' BFill.agg (by rfl) (by rfl) (by repeat constructor) ?_))) ?_
  refine OpsK.first 15 _ (by rfl) (by kernel_rfl) rfl (by kernel_rfl) (by kernel_rfl) rfl (p_add (a := 0) (b := n) (c := n) rfl rfl (by omega) (by omega)) ?_
  refine OpsK.only 16 _ (by kernel_rfl) rfl ?_
  refine s_call (growSlice_tr g l c n cur hcs hlc hn hlim (by omega) h1) (fun u K hR => ?_)
  obtain ⟨g2, cap2, cur2, rfl, e1, e2, e3, e4, rfl⟩ := hR
  (repeat' (first | refine k_nil ?_ | refine k_then ?_))
  refine ⟨fun _ => (by repeat (first | exact SubH.nilR _ | refine SubH.pick (by repeat (first | exact HTake.here | apply HTake.there)) ?_)), ?_⟩
  refine OpsK.first 17 _ (by rfl) (by kernel_rfl) rfl (by kernel_rfl) (by kernel_rfl) rfl (by first | exact p_move rfl | exact p_assign rfl | exact p_extract rfl rfl | exact q_fieldAddr rfl | exact p_nilCheck rfl | exact q_load rfl (by repeat (first | exact HMem.here | apply HMem.skip | apply HMem.there)) rfl | exact q_load_agg rfl (by repeat (first | exact HMem.here | apply HMem.skip | apply HMem.there)) (by repeat constructor) | exact q_len_slice rfl | exact q_len_str rfl | exact q_indexAddr rfl rfl (by omega) | exact q_slice_str rfl rfl rfl (by omega) (by omega) | exact q_makeInterface rfl | exact q_assert rfl | exact p_build rfl (by repeat' (first | exact BFill.nil | refine' BFill.one (by rfl) (by rfl) (by repeat constructor) ?_ | refine' BFill.agg (by rfl) (by rfl) (by repeat constructor) ?_))) ?_
  refine OpsK.first 18 _ (by rfl) (by kernel_rfl) rfl (by kernel_rfl) (by kernel_rfl) rfl (by first | exact p_move rfl | exact p_assign rfl | exact p_extract rfl rfl | exact q_fieldAddr rfl | exact p_nilCheck rfl | exact q_load rfl (by repeat (first | exact HMem.here | apply HMem.skip | apply HMem.there)) rfl | exact q_load_agg rfl (by repeat (first | exact HMem.here | apply HMem.skip | apply HMem.there)) (by repeat constructor) | exact q_len_slice rfl | exact q_len_str rfl | exact q_indexAddr rfl rfl (by omega) | exact q_slice_str rfl rfl rfl (by omega) (by omega) | exact q_makeInterface rfl | exact q_assert rfl | exact p_build rfl (by repeat' (first | exact BFill.nil | refine' BFill.one (by rfl) (by rfl) (by repeat constructor) ?_ | refine' BFill.agg (by rfl) (by rfl) (by repeat constructor) ?_))) ?_
  refine OpsK.only 19 _ (by kernel_rfl) rfl ?_
  (repeat' (first | refine k_nil ?_ | refine k_then ?_ | refine s_store ?_))
  refine ⟨(fun h0 => Bool.noConfusion (show true = false from h0)), ?_⟩
  refine OpsK.nil (by kernel_rfl) ?_
  (repeat' (first | refine k_seq ?_ | refine k_region ?_ | refine k_nil ?_ | refine k_then ?_ | refine k_ret ?_ | refine s_move ?_ | refine s_assign ?_ | refine s_load ?_ | refine s_field ?_ | refine s_nilp ?_ | refine s_add ?_ | refine s_slicehi ?_ | refine s_store ?_))
  exact e_ret _ ⟨rfl, g2, cap2, cur2, e1, e2, e3, e4, rfl⟩ (by repeat (first | exact SubH.nilR _ | refine SubH.pick (by repeat (first | exact HTake.here | apply HTake.there)) ?_))

/-- WriteString of a text that is not empty, and no longer than 64. -/
theorem writeString_tr (b : Nat) (v : Value) (l : List UInt8) (R : Blk) (lr : Int) (s : List UInt8) (hR : BRow v l R) (hs : s ≠ []) (h64 : s.length ≤ 64) (hlim : l.length + s.length ≤ 1000000000) :
    Tr Tryz.prog 238 [lp b, str s] [bufb b v lr, R] fun u K => u = .tuple #[inat s.length, .nilIface] ∧ ∃ v' R', BRow v' (l ++ s) R' ∧ K = [bufb b v' 0, R'] := by
  have hs1 : 1 ≤ s.length := by cases s with | nil => exact absurd rfl hs | cons _ _ => simp
  rcases hR with ⟨rfl, rfl, rfl⟩ | ⟨hl, g, cap, cur, rfl, rfl, k1, k2, k3, k4⟩
  · refine Tr.start (n := 32) (rs := [.tmp 4, .tmp 5]) rfl rfl rfl rfl fun B => ?_
    (repeat' (first | refine s_callD (tryGrow_no b s.length 0 0 none 0 (by omega) (by omega) (by omega)) ?_ | refine k_seq ?_ | refine k_region ?_ | refine k_nil ?_ | refine k_then ?_ | refine k_true ?_ | refine s_move ?_ | refine s_assign ?_ | refine s_field ?_ | refine s_nilp ?_ | refine s_lens ?_ | refine s_ext ?_ | refine s_notf ?_ | refine s_store ?_))
    refine s_call (grow_nil b s.length 0 hs1 h64) (fun u K hR => ?_)
    obtain ⟨rfl, g, rfl⟩ := hR
    (repeat' (first | refine k_seq ?_ | refine k_region ?_ | refine k_nil ?_ | refine k_then ?_ | refine s_move ?_ | refine s_assign ?_ | refine s_load ?_ | refine s_field ?_ | refine s_nilp ?_ | refine s_slicelo ?_))
    refine s_copystr (g := g) (off := 0) (m := s.length - 0) (l := s) (cur := List.replicate 64 (.int .u8 0)) (by kernel_rfl) (by omega) (by simp; omega) ?_
    (repeat' (first | refine k_nil ?_ | refine k_then ?_ | refine k_ret ?_ | refine s_assign ?_))
    have hw := BRow.wrote (g := g) (cap := 64) (cur := List.replicate 64 (.int .u8 0)) (l := []) hs (by simp; omega) (by omega) (by simp) (by simp [Lib.byteCells])
    simp only [List.length_nil, Nat.zero_add] at hw
    refine e_ret _ ⟨rfl, _, _, hw, rfl⟩ ?_
    simp only [Nat.zero_add]
    exact (by repeat (first | exact SubH.nilR _ | refine SubH.pick (by repeat (first | exact HTake.here | apply HTake.there)) ?_))
  · have hl1 : 1 ≤ l.length := by cases l with | nil => exact absurd rfl hl | cons _ _ => simp
    by_cases hroom : l.length + s.length ≤ cap
    · have hw := BRow.wrote (g := g) hs hroom k2 k3 k4
      refine Tr.start (n := 32) (rs := [.tmp 4, .tmp 5]) rfl rfl rfl rfl fun B => ?_
      (repeat' (first | refine s_callD (tryGrow_yes b s.length l.length cap (some ⟨g, 0, none⟩) 0 hroom k2) ?_ | refine k_seq ?_ | refine k_region ?_ | refine k_nil ?_ | refine k_then ?_ | refine k_false ?_ | refine k_skip ?_ | refine s_move ?_ | refine s_assign ?_ | refine s_load ?_ | refine s_field ?_ | refine s_nilp ?_ | refine s_lens ?_ | refine s_ext ?_ | refine s_slicelo ?_ | refine s_nott ?_ | refine s_store ?_))
      refine s_copystr (g := g) (off := 0 + l.length * 1) (m := l.length + s.length - l.length) (l := s) (cur := cur) (by kernel_rfl) (by omega) (by omega) ?_
      (repeat' (first | refine k_nil ?_ | refine k_then ?_ | refine k_ret ?_ | refine s_assign ?_))
      refine e_ret _ ⟨rfl, _, _, hw, rfl⟩ ?_
      simp only [Nat.zero_add, Nat.mul_one]
      exact (by repeat (first | exact SubH.nilR _ | refine SubH.pick (by repeat (first | exact HTake.here | apply HTake.there)) ?_))
    · refine Tr.start (n := 32) (rs := [.tmp 4, .tmp 5]) rfl rfl rfl rfl fun B => ?_
      (repeat' (first | refine s_callD (tryGrow_no b s.length l.length cap (some ⟨g, 0, none⟩) 0 k1 hroom k2) ?_ | refine k_seq ?_ | refine k_region ?_ | refine k_nil ?_ | refine k_then ?_ | refine k_true ?_ | refine s_move ?_ | refine s_assign ?_ | refine s_field ?_ | refine s_nilp ?_ | refine s_lens ?_ | refine s_ext ?_ | refine s_notf ?_ | refine s_store ?_))
      refine s_call (grow_row b g l.length cap s.length cur 0 k3 hl1 k1 hs1 hroom (by omega) (by rw [k4]; exact byte_ones l)) (fun u K hR => ?_)
      obtain ⟨rfl, g2, cap2, cur2, e1, e2, e3, e4, rfl⟩ := hR
      have hw := BRow.wrote (g := g2) hs e3 e4 e1 (e2.trans k4)
      (repeat' (first | refine k_seq ?_ | refine k_region ?_ | refine k_nil ?_ | refine k_then ?_ | refine s_move ?_ | refine s_assign ?_ | refine s_load ?_ | refine s_field ?_ | refine s_nilp ?_ | refine s_slicelo ?_))
      refine s_copystr (g := g2) (off := 0 + l.length * 1) (m := l.length + s.length - l.length) (l := s) (cur := cur2) (by kernel_rfl) (by omega) (by omega) ?_
      (repeat' (first | refine k_nil ?_ | refine k_then ?_ | refine k_ret ?_ | refine s_assign ?_))
      refine e_ret _ ⟨rfl, _, _, hw, rfl⟩ ?_
      simp only [Nat.zero_add, Nat.mul_one]
      exact (by repeat (first | exact SubH.nilR _ | refine SubH.pick (by repeat (first | exact HTake.here | apply HTake.there)) ?_))

/-- WriteByte. -/
theorem writeByte_tr (b : Nat) (v : Value) (l : List UInt8) (R : Blk) (lr : Int) (c : UInt8) (hR : BRow v l R) (hlim : l.length + 1 ≤ 1000000000) :
    Tr Tryz.prog 252 [lp b, .int .u8 c.toNat] [bufb b v lr, R] fun u K => u = .nilIface ∧ ∃ v' R', BRow v' (l ++ [c]) R' ∧ K = [bufb b v' 0, R'] := by
  have hset : ∀ (cur : List Value) (m cap : Nat), cur.length = cap → m + 1 ≤ cap → cur.set m (.int .u8 c.toNat) = cur.take m ++ Lib.byteCells [c] ++ cur.drop (m + [c].length) := by
    intro cur m cap h1 h2
    rw [List.set_eq_take_append_cons_drop, if_pos (by omega)]; simp [Lib.byteCells]
  have hs : [c] ≠ [] := by simp
  rcases hR with ⟨rfl, rfl, rfl⟩ | ⟨hl, g, cap, cur, rfl, rfl, k1, k2, k3, k4⟩
  · refine Tr.start (n := 26) (rs := [.tmp 4]) rfl rfl rfl rfl fun B => ?_
    (repeat' (first | refine s_callD (tryGrow_no b 1 0 0 none 0 (by omega) (by omega) (by omega)) ?_ | refine k_seq ?_ | refine k_region ?_ | refine k_nil ?_ | refine k_then ?_ | refine k_true ?_ | refine s_move ?_ | refine s_assign ?_ | refine s_field ?_ | refine s_nilp ?_ | refine s_ext ?_ | refine s_notf ?_ | refine s_store ?_))
    refine s_call (grow_nil b 1 0 (by omega) (by omega)) (fun u K hR => ?_)
    obtain ⟨rfl, g, rfl⟩ := hR
    (repeat' (first | refine k_seq ?_ | refine k_region ?_ | refine k_nil ?_ | refine k_then ?_ | refine k_ret ?_ | refine s_move ?_ | refine s_assign ?_ | refine s_load ?_ | refine s_field ?_ | refine s_nilp ?_ | refine s_idxa ?_ | refine s_store ?_))
    have hw := BRow.wrote (g := g) (cap := 64) (cur := List.replicate 64 (.int .u8 0)) (l := []) hs (by simp) (by omega) (by simp) (by simp [Lib.byteCells])
    simp only [List.length_nil, Nat.zero_add] at hw
    refine e_ret _ ⟨rfl, _, _, hw, rfl⟩ ?_
    exact (by repeat (first | exact SubH.nilR _ | refine SubH.pick (by repeat (first | exact HTake.here | apply HTake.there)) ?_))
  · have hl1 : 1 ≤ l.length := by cases l with | nil => exact absurd rfl hl | cons _ _ => simp
    by_cases hroom : l.length + 1 ≤ cap
    · have hw := BRow.wrote (g := g) (s := [c]) hs hroom k2 k3 k4
      rw [← hset cur l.length cap k3 hroom] at hw
      refine Tr.start (n := 26) (rs := [.tmp 4]) rfl rfl rfl rfl fun B => ?_
      (repeat' (first | refine s_callD (tryGrow_yes b 1 l.length cap (some ⟨g, 0, none⟩) 0 hroom k2) ?_ | refine k_seq ?_ | refine k_region ?_ | refine k_nil ?_ | refine k_then ?_ | refine k_false ?_ | refine k_skip ?_ | refine s_move ?_ | refine s_assign ?_ | refine s_load ?_ | refine s_field ?_ | refine s_nilp ?_ | refine s_ext ?_ | refine s_idxa ?_ | refine s_nott ?_ | refine s_store ?_))
      refine s_storeg ?_
      (repeat' (first | refine k_seq ?_ | refine k_region ?_ | refine k_nil ?_ | refine k_then ?_ | refine k_ret ?_ | refine s_assign ?_))
      simp only [Nat.zero_add, Nat.mul_one]
      refine e_ret _ ⟨rfl, _, _, hw, rfl⟩ ?_
      exact (by repeat (first | exact SubH.nilR _ | refine SubH.pick (by repeat (first | exact HTake.here | apply HTake.there)) ?_))
    · refine Tr.start (n := 26) (rs := [.tmp 4]) rfl rfl rfl rfl fun B => ?_
      (repeat' (first | refine s_callD (tryGrow_no b 1 l.length cap (some ⟨g, 0, none⟩) 0 k1 hroom k2) ?_ | refine k_seq ?_ | refine k_region ?_ | refine k_nil ?_ | refine k_then ?_ | refine k_true ?_ | refine s_move ?_ | refine s_assign ?_ | refine s_field ?_ | refine s_nilp ?_ | refine s_ext ?_ | refine s_notf ?_ | refine s_store ?_))
      refine s_call (grow_row b g l.length cap 1 cur 0 k3 hl1 k1 (by omega) hroom (by omega) (by rw [k4]; exact byte_ones l)) (fun u K hR => ?_)
      obtain ⟨rfl, g2, cap2, cur2, e1, e2, e3, e4, rfl⟩ := hR
      have hw := BRow.wrote (g := g2) (s := [c]) hs e3 e4 e1 (e2.trans k4)
      rw [← hset cur2 l.length cap2 e1 e3] at hw
      (repeat' (first | refine k_seq ?_ | refine k_region ?_ | refine k_nil ?_ | refine k_then ?_ | refine s_move ?_ | refine s_assign ?_ | refine s_load ?_ | refine s_field ?_ | refine s_nilp ?_ | refine s_idxa ?_))
      refine s_storeg ?_
      (repeat' (first | refine k_seq ?_ | refine k_region ?_ | refine k_nil ?_ | refine k_then ?_ | refine k_ret ?_ | refine s_assign ?_))
      simp only [Nat.zero_add, Nat.mul_one]
      refine e_ret _ ⟨rfl, _, _, hw, rfl⟩ ?_
      exact (by repeat (first | exact SubH.nilR _ | refine SubH.pick (by repeat (first | exact HTake.here | apply HTake.there)) ?_))

theorem bufString_tr (b : Nat) (v : Value) (l : List UInt8) (R : Blk) (lr : Int) (hR : BRow v l R) (hl0 : l ≠ []) : TrD Tryz.prog 34 [lp b] [bufb b v lr, R] (str l) [bufb b v lr, R] := by
  rcases hR with ⟨rfl, rfl, rfl⟩ | ⟨hl, g, cap, cur, rfl, rfl, k1, k2, k3, k4⟩
  · exact absurd rfl hl0
  · have hl1 : 1 ≤ l.length := by cases l with | nil => exact absurd rfl hl | cons _ _ => simp
    refine Tr.start (n := 15) (rs := [.tmp 2]) rfl rfl rfl rfl fun B => ?_
    (repeat' (first | refine Wp.draw_all (id := 3) Mixed.out (by kernel_rfl) ?_ | refine k_seq ?_ | refine k_region ?_ | refine k_nil ?_ | refine k_then ?_ | refine k_false ?_ | refine k_skip ?_ | refine s_move ?_ | refine s_assign ?_ | refine s_eqp1 ?_ | refine u_move ?_ | refine u_load ?_ | refine u_field ?_ | refine u_nilp ?_))
    refine u_slicelo (a := 0) (m := l.length) (c := cap) (ha := ⟨Nat.zero_le _, by omega⟩) ?_
    refine OpsS.pure _ (p_bytes_str (g := g) (cap := cap) Tryz.underlying30 Tryz.underlying5 Tryz.underlying9 (by rfl) (by repeat (first | exact HMem.here | apply HMem.skip | apply HMem.there)) k4) (by rfl) ?_
    (repeat' (first | refine k_nil ?_ | refine k_then ?_ | refine k_ret ?_ | refine u_nil ?_ | refine u_assign ?_))
    exact e_ret _ ⟨rfl, rfl⟩ (by repeat (first | exact SubH.nilR _ | refine SubH.pick (by repeat (first | exact HTake.here | apply HTake.there)) ?_))
end Go.Proofs

/- PrintHTML of a document of one paragraph of texts. Conditions: bounds. -/
import Derived.Test.YtoponhlghkdbmaaGreatDoorH1
namespace Go.Proofs
open Go Go.Eng
set_option maxRecDepth 20000
set_option maxHeartbeats 4000000

theorem HMem.of_chunk {b : Nat} {o : Obj} : ∀ {c : Blk} {H : Heap}, (b, o) ∈ c → HMem (c :: H) b o
  | (b', o') :: c, H, h => by
    rcases List.mem_cons.1 h with h | h
    · cases h; exact .here
    · exact .skip (HMem.of_chunk h)
theorem SubH.cut {c d : Blk} {H : Heap} : SubH ((c ++ d) :: H) (c :: d :: H) := ⟨[], by simp⟩
theorem Tr.weaker {f : FuncId} {args : List Value} {H0 H : Heap} {R : Value → Heap → Prop} (h : Tr Tryz.prog f args H R) (hs : SubH H0 H) : Tr Tryz.prog f args H0 R :=
  ⟨fun B w hw => h.run B w (hw.sub hs)⟩

theorem plainHTML_tr (x : Itm) (q b : Nat) (v : Value) (l : List UInt8) (R IB : Blk) (lr : Int) (hcell : x.cells = [str x.text]) (hx : x.cell q ∈ IB) (hR : BRow v l R) (hlim : l.length + 6 * x.text.length ≤ 1000000) :
    Tr Tryz.prog 243 [lp q, lp b] [IB, bufb b v lr, R] fun u K => u = unit ∧ ∃ v' R' lr', BRow v' (l ++ escH x.text) R' ∧ K = [IB, bufb b v' lr', R'] := by
  have hm : ∀ H, HMem (IB :: H) q (cellsOf [str x.text] x.sty) := fun H => HMem.of_chunk (by rw [← hcell]; exact hx)
  refine Tr.start (n := 11) (rs := []) rfl rfl rfl rfl fun B => ?_
  refine Wp.draw_held (id := 0) [IB] 7 Mixed.out (by repeat (first | exact SubH.nilR _ | refine SubH.pick (by repeat (first | exact HTake.here | apply HTake.there)) ?_)) rfl ?_
  refine OpsH.first 1 _ (by kernel_rfl) rfl (by kernel_rfl) (by kernel_rfl) rfl (by first | exact p_move rfl | exact p_assign rfl | exact p_extract rfl rfl | exact q_fieldAddr rfl | exact p_nilCheck rfl | exact q_load rfl (by repeat (first | exact HMem.here | apply HMem.skip | apply HMem.there)) rfl | exact q_load_agg rfl (by repeat (first | exact HMem.here | apply HMem.skip | apply HMem.there)) (by repeat constructor) | exact q_len_slice rfl | exact q_len_str rfl | exact q_indexAddr rfl rfl (by omega) | exact q_slice_str rfl rfl rfl (by omega) (by omega) | exact q_makeInterface rfl | exact q_assert rfl | exact p_build rfl (by repeat' (first | exact BFill.nil | refine' BFill.one (by rfl) (by rfl) (by repeat constructor) ?_ | refine' BFill.agg (by rfl) (by rfl) (by repeat constructor) ?_))) ?_
  refine OpsH.first 2 _ (by kernel_rfl) rfl (by kernel_rfl) (by kernel_rfl) rfl (by first | exact p_move rfl | exact p_assign rfl | exact p_extract rfl rfl | exact q_fieldAddr rfl | exact p_nilCheck rfl | exact q_load rfl (by repeat (first | exact HMem.here | apply HMem.skip | apply HMem.there)) rfl | exact q_load_agg rfl (by repeat (first | exact HMem.here | apply HMem.skip | apply HMem.there)) (by repeat constructor) | exact q_len_slice rfl | exact q_len_str rfl | exact q_indexAddr rfl rfl (by omega) | exact q_slice_str rfl rfl rfl (by omega) (by omega) | exact q_makeInterface rfl | exact q_assert rfl | exact p_build rfl (by repeat' (first | exact BFill.nil | refine' BFill.one (by rfl) (by rfl) (by repeat constructor) ?_ | refine' BFill.agg (by rfl) (by rfl) (by repeat constructor) ?_))) ?_
  refine OpsH.first 3 _ (by kernel_rfl) rfl (by kernel_rfl) (by kernel_rfl) rfl (by first | exact p_move rfl | exact p_assign rfl | exact p_extract rfl rfl | exact q_fieldAddr rfl | exact p_nilCheck rfl | exact q_load rfl (by repeat (first | exact HMem.here | apply HMem.skip | apply HMem.there)) rfl | exact q_load_agg rfl (by repeat (first | exact HMem.here | apply HMem.skip | apply HMem.there)) (by repeat constructor) | exact q_len_slice rfl | exact q_len_str rfl | exact q_indexAddr rfl rfl (by omega) | exact q_slice_str rfl rfl rfl (by omega) (by omega) | exact q_makeInterface rfl | exact q_assert rfl | exact p_build rfl (by repeat' (first | exact BFill.nil | refine' BFill.one (by rfl) (by rfl) (by repeat constructor) ?_ | refine' BFill.agg (by rfl) (by rfl) (by repeat constructor) ?_))) ?_
  refine OpsH.first 4 _ (by kernel_rfl) rfl (by kernel_rfl) (by kernel_rfl) rfl (by first | exact p_move rfl | exact p_assign rfl | exact p_extract rfl rfl | exact q_fieldAddr rfl | exact p_nilCheck rfl | exact q_load rfl (by repeat (first | exact HMem.here | apply HMem.skip | apply HMem.there)) rfl | exact q_load_agg rfl (by repeat (first | exact HMem.here | apply HMem.skip | apply HMem.there)) (by repeat constructor) | exact q_len_slice rfl | exact q_len_str rfl | exact q_indexAddr rfl rfl (by omega) | exact q_slice_str rfl rfl rfl (by omega) (by omega) | exact q_makeInterface rfl | exact q_assert rfl | exact p_build rfl (by repeat' (first | exact BFill.nil | refine' BFill.one (by rfl) (by rfl) (by repeat constructor) ?_ | refine' BFill.agg (by rfl) (by rfl) (by repeat constructor) ?_))) ?_
  refine OpsH.first 5 _ (by kernel_rfl) rfl (by kernel_rfl) (by kernel_rfl) rfl (q_load rfl (hm _) rfl) ?_
  refine OpsH.only 0 _ (by kernel_rfl) rfl ?_
  refine s_call htmlEscaper_tr (fun u K hR => ?_)
  obtain ⟨g, rfl, rfl⟩ := hR
  (repeat' (first | refine k_nil ?_ | refine k_then ?_))
  refine ⟨(by repeat (first | exact SubH.nilR _ | refine SubH.pick (by repeat (first | exact HTake.here | apply HTake.there)) ?_)), ?_⟩
  refine OpsH.only 6 _ (by kernel_rfl) rfl ?_
  refine s_call (pairsWrite_tr g b v l R lr x.text hR hlim) (fun u K hR => ?_)
  obtain ⟨rfl, v', R', lr', h9, rfl⟩ := hR
  (repeat' (first | refine k_nil ?_ | refine k_then ?_))
  refine ⟨(by repeat (first | exact SubH.nilR _ | refine SubH.pick (by repeat (first | exact HTake.here | apply HTake.there)) ?_)), ?_⟩
  refine OpsH.nil (by kernel_rfl) ?_
  refine Fin.out (e_norm [IB, bufb b v' lr', R'] ⟨rfl, v', R', lr', h9, rfl⟩ (by repeat (first | exact SubH.nilR _ | refine SubH.pick (by repeat (first | exact HTake.here | apply HTake.there)) ?_)))

theorem htmlMeth (x : Itm) (q : Nat) (hcell : x.cells = [str x.text]) : MethodIs Tryz.prog x.ty (lp q) "PrintHTML" 243 (lp q) := by
  cases x with
  | plain t => exact fun w => by kernel_rfl
  | esc t => exact fun w => by kernel_rfl
  | brk => exact absurd hcell (by simp [Itm.cells])

theorem brkMeth (q : Nat) : MethodIs Tryz.prog Itm.brk.ty (lp q) "PrintHTML" 291 (lp q) := fun w => by kernel_rfl
theorem brkHTML_tr (q b : Nat) (v : Value) (l : List UInt8) (R : Blk) (lr : Int) (hR : BRow v l R) (hlim : l.length ≤ 1000000) :
    Tr Tryz.prog 291 [lp q, lp b] [bufb b v lr, R] fun u K => u = unit ∧ ∃ v' R' lr', BRow v' (l ++ [10]) R' ∧ K = [bufb b v' lr', R'] := by
  refine Tr.start (n := 6) (rs := []) rfl rfl rfl rfl fun B => ?_
  (repeat' (first | refine k_region ?_ | refine s_move ?_))
  refine s_call (writeString_tr b v l R lr [10] hR (by simp) (by simp) (by simp only [List.length_cons, List.length_nil]; omega)) (fun u K hR => ?_)
  obtain ⟨rfl, v1, R1, h1, rfl⟩ := hR
  (repeat' (first | refine k_nil ?_))
  exact e_norm _ ⟨rfl, v1, R1, 0, h1, rfl⟩ (by repeat (first | exact SubH.nilR _ | refine SubH.pick (by repeat (first | exact HTake.here | apply HTake.there)) ?_))

/-- The HTML of a list of texts. -/
def htmlOf (its : List Itm) : List UInt8 := its.flatMap fun x => escH x.text
theorem htmlOf_snoc {its : List Itm} {j : Nat} {x : Itm} (h : its[j]? = some x) : htmlOf (its.take (j + 1)) = htmlOf (its.take j) ++ escH x.text := by
  obtain ⟨h1, h2⟩ := List.getElem?_eq_some_iff.1 h
  rw [List.take_succ_eq_append_getElem h1, h2]; simp [htmlOf]

theorem textHTML_tr (t a b' b : Nat) (ja : Option Addr) (jm jc : Nat) (raw : List UInt8) (its : List Itm) (vals : List Value) (LB IB : Blk) (v : Value) (l : List UInt8) (R : Blk) (lr : Int)
    (hI : Items its vals IB) (hL : Inls (.slice ja jm jc) vals LB) (hR : BRow v l R) (hil : its.length ≤ 1000000) (hlim : ∀ k x, its[k]? = some x → (l ++ htmlOf (its.take k)).length + 6 * x.text.length ≤ 1000000) :
    Tr Tryz.prog 230 [lp t, lp b] [txb t a b' (.slice ja jm jc) raw, LB, IB, bufb b v lr, R] fun u K => u = unit ∧ ∃ v' R' lr', BRow v' (l ++ htmlOf its) R' ∧ K = [bufb b v' lr', R'] := by
  have hlen := hI.length
  have hjm : jm = its.length := by
    obtain ⟨_, ⟨h1, h2, _⟩ | ⟨g, cap, cur, h1, _⟩⟩ := hL
    · injection h1 with _ h1 _; omega
    · injection h1 with _ h1 _; omega
  subst hjm
  refine Tr.start (n := 19) (rs := []) rfl rfl rfl rfl fun B => ?_
  (repeat' (first | refine k_seq ?_ | refine k_region ?_ | refine k_nil ?_ | refine k_then ?_ | refine k_blk ?_ | refine s_move ?_ | refine s_load ?_ | refine s_field ?_ | refine s_nilp ?_ | refine s_len ?_))
  refine k_loop (fun x : PW => [(1, lp b), (9, .slice ja its.length jc), (10, inat its.length), (11, inat x.j)]) (fun x => [LB, IB, bufb b x.v x.lr, x.R])
    (fun x => x.j ≤ its.length ∧ BRow x.v (l ++ htmlOf (its.take x.j)) x.R) (fun x => its.length - x.j) ⟨0, v, R, lr⟩ ⟨Nat.zero_le _, by simpa [htmlOf] using hR⟩ (Knows.spec (by repeat (first | exact trivial | refine ⟨rfl, ?_⟩))) (by repeat (first | exact SubH.nilR _ | refine SubH.pick (by repeat (first | exact HTake.here | apply HTake.there)) ?_)) fun x hx => ?_
  obtain ⟨j, v, R, lr⟩ := x
  obtain ⟨x1, x2⟩ := hx
  simp only at x1 x2 ⊢
  by_cases hj : j < its.length
  · have hxj : its[j]? = some its[j] := List.getElem?_eq_getElem hj
    obtain ⟨q, h1, h2⟩ := hI.get j _ hxj
    have hsn := htmlOf_snoc hxj
    have hlm := hlim j _ hxj
    generalize its[j] = x at hxj h1 h2 hsn hlm
    have hL' : Own 109 1 (.slice ja its.length jc) (vals.length - 1 + 1) vals LB := by
      rw [show vals.length - 1 + 1 = vals.length by omega]; exact hL
    obtain ⟨g, cap, cur, e1, rfl, k1, k2, k3, k4⟩ := hL'.pos
    injection e1 with e1 e2 e3
    subst e1 e3
    have hc : cur[0 + j * 1]? = some (.iface x.ty (lp q)) := by
      rw [show 0 + j * 1 = j by omega, ← h1, ← k4, List.getElem?_take, if_pos (by omega)]
    (repeat' (first | refine s_load (hc := hc) ?_ | refine k_seq ?_ | refine k_region ?_ | refine k_nil ?_ | refine k_then ?_ | refine k_true ?_ | refine k_blk ?_ | refine k_skip ?_ | refine s_move ?_ | refine s_assign ?_ | refine s_lss_t ?_ | refine s_idxa ?_))
    by_cases hb : x = .brk
    · subst hb
      refine Ops.invoke (f := 291) (args := [lp b]) Cal.out rfl (brkMeth q) rfl (brkHTML_tr q b v (l ++ htmlOf (its.take j)) R lr x2 (by omega)) (by repeat' (first | exact HTakes.nil | exact HTake.here | apply HTakes.cons | apply HTake.there)) rfl (fun u K hR => ?_)
      obtain ⟨rfl, v', R', lr', h9, rfl⟩ := hR
      (repeat' (first | refine k_region ?_ | refine k_nil ?_ | refine k_then ?_ | refine k_block ?_ | refine s_move ?_ | refine s_add1 ?_))
      exact ⟨⟨j + 1, v', R', lr'⟩, (Knows.spec (by repeat (first | exact trivial | refine ⟨rfl, ?_⟩))), (by repeat (first | exact SubH.nilR _ | refine SubH.pick (by repeat (first | exact HTake.here | apply HTake.there)) ?_)), ⟨by simp only; omega, by simp only; rw [hsn, ← List.append_assoc]; exact h9⟩, by simp only; omega⟩
    · have hcell : x.cells = [str x.text] := by
        cases x with
        | plain t => rfl
        | esc t => rfl
        | brk => exact absurd rfl hb
      refine Ops.invoke (f := 243) (args := [lp b]) Cal.out rfl (htmlMeth x q hcell) rfl (plainHTML_tr x q b v (l ++ htmlOf (its.take j)) R IB lr hcell h2 x2 hlm) (by repeat' (first | exact HTakes.nil | exact HTake.here | apply HTakes.cons | apply HTake.there)) rfl (fun u K hR => ?_)
      obtain ⟨rfl, v', R', lr', h9, rfl⟩ := hR
      (repeat' (first | refine k_region ?_ | refine k_nil ?_ | refine k_then ?_ | refine k_block ?_ | refine s_move ?_ | refine s_add1 ?_))
      exact ⟨⟨j + 1, v', R', lr'⟩, (Knows.spec (by repeat (first | exact trivial | refine ⟨rfl, ?_⟩))), (by repeat (first | exact SubH.nilR _ | refine SubH.pick (by repeat (first | exact HTake.here | apply HTake.there)) ?_)), ⟨by simp only; omega, by simp only; rw [hsn, ← List.append_assoc]; exact h9⟩, by simp only; omega⟩
  · have : j = its.length := by omega
    subst this
    rw [List.take_length] at x2
    (repeat' (first | refine k_seq ?_ | refine k_region ?_ | refine k_nil ?_ | refine k_then ?_ | refine k_false ?_ | refine k_exit ?_ | refine k_exit_then ?_ | refine k_hit ?_ | refine s_lss_f ?_))
    exact e_norm _ ⟨rfl, v, R, lr, x2, rfl⟩ (by repeat (first | exact SubH.nilR _ | refine SubH.pick (by repeat (first | exact HTake.here | apply HTake.there)) ?_))

theorem paraHTML_tr (q t a b' b : Nat) (ja : Option Addr) (jm jc : Nat) (raw : List UInt8) (its : List Itm) (vals : List Value) (LB IB : Blk)
    (hI : Items its vals IB) (hL : Inls (.slice ja jm jc) vals LB) (hil : its.length ≤ 1000000) (hlim : ∀ k x, its[k]? = some x → ([60, 112, 62] ++ htmlOf (its.take k)).length + 6 * x.text.length ≤ 1000000) (hlim2 : (htmlOf its).length ≤ 100000000) :
    Tr Tryz.prog 263 [lp q, lp b] [pgb q a b' t, txb t a b' (.slice ja jm jc) raw, LB, IB, bufb b (.slice none 0 0) 0, []] fun u K => u = unit ∧ ∃ v' R' lr', BRow v' ([60, 112, 62] ++ htmlOf its ++ [60, 47, 112, 62, 10]) R' ∧ K = [bufb b v' lr', R'] := by
  refine Tr.start (n := 14) (rs := []) rfl rfl rfl rfl fun B => ?_
  (repeat' (first | refine k_seq ?_ | refine k_region ?_ | refine s_move ?_))
  refine s_call (writeString_tr b (.slice none 0 0) [] [] 0 [60, 112, 62] BRow.nil (by simp) (by simp) (by simp)) (fun u K hR => ?_)
  obtain ⟨rfl, v1, R1, h1, rfl⟩ := hR
  (repeat' (first | refine k_seq ?_ | refine k_region ?_ | refine k_nil ?_ | refine k_then ?_ | refine s_move ?_ | refine s_load ?_ | refine s_field ?_ | refine s_nilp ?_))
  refine s_call (textHTML_tr t a b' b ja jm jc raw its vals LB IB v1 [60, 112, 62] R1 0 hI hL h1 hil hlim) (fun u K hR => ?_)
  obtain ⟨rfl, v2, R2, lr2, h2, rfl⟩ := hR
  (repeat' (first | refine k_region ?_ | refine k_nil ?_ | refine k_then ?_ | refine s_move ?_))
  refine s_call (writeString_tr b v2 ([60, 112, 62] ++ htmlOf its) R2 lr2 [60, 47, 112, 62, 10] h2 (by simp) (by simp) (by simp only [List.length_append, List.length_cons, List.length_nil]; omega)) (fun u K hR => ?_)
  obtain ⟨rfl, v3, R3, h3, rfl⟩ := hR
  (repeat' (first | refine k_nil ?_))
  exact e_norm _ ⟨rfl, v3, R3, 0, h3, rfl⟩ (by repeat (first | exact SubH.nilR _ | refine SubH.pick (by repeat (first | exact HTake.here | apply HTake.there)) ?_))

/-- The HTML of a document of one paragraph. -/
abbrev paraOut (its : List Itm) : List UInt8 := [60, 112, 62] ++ htmlOf its ++ [60, 47, 112, 62, 10]

theorem docHTML_tr (d a b' q t a2 b2 b : Nat) (lk : Value) (ia : Option Addr) (im ic : Nat) (KB : Blk) (ja : Option Addr) (jm jc : Nat) (raw : List UInt8) (its : List Itm) (vals : List Value) (LB IB : Blk)
    (hB : Blks (.slice ia im ic) [.iface 130 (lp q)] KB)
    (hI : Items its vals IB) (hL : Inls (.slice ja jm jc) vals LB) (hil : its.length ≤ 1000000) (hlim : ∀ k x, its[k]? = some x → ([60, 112, 62] ++ htmlOf (its.take k)).length + 6 * x.text.length ≤ 1000000) (hlim2 : (htmlOf its).length ≤ 100000000) :
    Tr Tryz.prog 225 [lp d, lp b] [docb d a b' (.slice ia im ic) lk, pgb q a2 b2 t, txb t a2 b2 (.slice ja jm jc) raw, KB, LB, IB, bufb b (.slice none 0 0) 0, []] fun u K => u = unit ∧ ∃ v' R' lr', BRow v' (paraOut its) R' ∧ K = [bufb b v' lr', R'] := by
  obtain ⟨g, cap, cur, e1, rfl, k1, k2, k3, k4⟩ := (show Own 50 1 (.slice ia im ic) (0 + 1) _ KB from hB).pos
  injection e1 with e1 e2 e3
  subst e1 e2 e3
  have hc : cur[0]? = some (.iface 130 (lp q)) := by
    have h : (cur.take ((0 + 1) * 1))[0]? = cur[0]? := by rw [List.getElem?_take, if_pos (by omega)]
    rw [← h, k4]; rfl
  refine Tr.start (n := 19) (rs := []) rfl rfl rfl rfl fun B => ?_
  (repeat' (first | refine k_seq ?_ | refine k_region ?_ | refine k_nil ?_ | refine k_then ?_ | refine k_blk ?_ | refine s_move ?_ | refine s_load ?_ | refine s_field ?_ | refine s_nilp ?_ | refine s_len ?_))
  refine k_loop (fun x : PW => [(1, lp b), (9, .slice (some ⟨g, 0, none⟩) 1 ic), (10, inat 1), (11, inat x.j)]) (fun x => if x.j = 0 then [pgb q a2 b2 t, txb t a2 b2 (.slice ja jm jc) raw, [(g, cellsOf cur 50)], LB, IB, bufb b (.slice none 0 0) 0, []] else [bufb b x.v x.lr, x.R])
    (fun x => x.j = 0 ∨ (x.j = 1 ∧ BRow x.v (paraOut its) x.R)) (fun x => 1 - x.j) ⟨0, .slice none 0 0, [], 0⟩ (.inl rfl) (Knows.spec (by repeat (first | exact trivial | refine ⟨rfl, ?_⟩))) (by repeat (first | exact SubH.nilR _ | refine SubH.pick (by repeat (first | exact HTake.here | apply HTake.there)) ?_)) fun x hx => ?_
  obtain ⟨j, v, R, lr⟩ := x
  simp only at hx ⊢
  rcases hx with rfl | ⟨rfl, hx⟩
  · have hc' : cur[0 + 0 * 1]? = some (.iface 130 (lp q)) := hc
    simp only [if_pos]
    (repeat' (first | refine s_load (hc := hc') ?_ | refine k_seq ?_ | refine k_region ?_ | refine k_nil ?_ | refine k_then ?_ | refine k_true ?_ | refine k_blk ?_ | refine k_skip ?_ | refine s_move ?_ | refine s_assign ?_ | refine s_lss_t ?_ | refine s_idxa ?_))
    refine s_inv (paraHTML_tr q t a2 b2 b ja jm jc raw its vals LB IB hI hL hil hlim hlim2) (fun u K hR => ?_)
    obtain ⟨rfl, v3, R3, lr3, h3, rfl⟩ := hR
    (repeat' (first | refine k_region ?_ | refine k_nil ?_ | refine k_then ?_ | refine k_block ?_ | refine s_move ?_ | refine s_add1 ?_))
    exact ⟨⟨1, v3, R3, lr3⟩, (Knows.spec (by repeat (first | exact trivial | refine ⟨rfl, ?_⟩))), (by repeat (first | exact SubH.nilR _ | refine SubH.pick (by repeat (first | exact HTake.here | apply HTake.there)) ?_)), .inr ⟨rfl, h3⟩, by simp only; omega⟩
  · rw [if_neg (by omega)]
    (repeat' (first | refine k_seq ?_ | refine k_region ?_ | refine k_nil ?_ | refine k_then ?_ | refine k_false ?_ | refine k_exit ?_ | refine k_exit_then ?_ | refine k_hit ?_ | refine s_lss_f ?_))
    exact e_norm _ ⟨rfl, v, R, lr, hx, rfl⟩ (by repeat (first | exact SubH.nilR _ | refine SubH.pick (by repeat (first | exact HTake.here | apply HTake.there)) ?_))
end Go.Proofs

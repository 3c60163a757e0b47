/- mergePlain where no two texts stand side by side. Conditions: bounds. Tokens of literal bytes and runs, and emit. Conditions: bounds on the length. -/
import Derived.Test.YthmgajolaekpdaaGreatDoorT13
import Derived.Test.YthmgajolaekpdaaGreatDoorEngB
import Derived.Test.YthmgajolaekpdaaGreatDoorT12
namespace Go.Proofs
open Go Go.Eng
set_option maxRecDepth 20000
set_option maxHeartbeats 4000000

theorem mergePlain1_one (g off c q : Nat) (cur : List Value) (hq : cur[off]? = some (.iface 149 (lp q))) (m : Nat) (hm : m = 1) :
    TrD Tryz.prog 116 [.slice (some ⟨g, off, none⟩) m c] [[(g, cellsOf cur 125)]] (lp q) [[(g, cellsOf cur 125)]] := by
  subst hm
  have hq' : cur[off + 0 * 1]? = some (.iface 149 (lp q)) := hq
  refine Tr.start (n := 32) (rs := [.tmp 2]) rfl rfl rfl rfl fun B => ?_
  (repeat' (first | refine s_load (hc := hq') ?_ | refine s_pure (toPlain_yes q) ?_ | refine k_seq ?_ | refine k_region ?_ | refine k_nil ?_ | refine k_then ?_ | refine k_true ?_ | refine k_ret ?_ | refine k_ret_then ?_ | refine s_move ?_ | refine s_assign ?_ | refine s_eql_t ?_ | refine s_len ?_ | refine s_idxz ?_))
  exact e_ret _ ⟨rfl, rfl⟩ (by repeat (first | exact SubH.nilR _ | refine SubH.pick (by repeat (first | exact HTake.here | apply HTake.there)) ?_))

def isPl (v : Value) : Prop := ∃ q, v = .iface 149 (lp q)
def isEs (v : Value) : Prop := ∃ t u, v = .iface t u ∧ Nat.beq t 149 = false ∧ Nat.beq t 183 = false ∧ Nat.beq t 127 = false

theorem mergePlain_tr (p g n cap : Nat) (cur : List Value) (hn : n ≤ 1000000) (hn0 : 0 < n) (hcap : n ≤ cap) (hcl : cur.length = cap)
    (hv : ∀ j, j < n → ∃ v, cur[j]? = some v ∧ (isPl v ∨ isEs v)) (hadj : ∀ j v w, j + 1 < n → cur[j]? = some v → cur[j + 1]? = some w → isPl v → ¬ isPl w) :
    TrD Tryz.prog 76 [lp p, .slice (some ⟨g, 0, none⟩) n cap] [[(g, cellsOf cur 125)]] (.slice (some ⟨g, 0, none⟩) n cap) [[(g, cellsOf cur 125)]] := by
  refine Tr.start (n := 50) (rs := [.tmp 4]) rfl rfl rfl rfl fun B => ?_
  (repeat' (first | refine k_seq ?_ | refine k_region ?_ | refine k_nil ?_ | refine k_then ?_ | refine s_move ?_ | refine s_assign ?_ | refine s_slice0 ?_))
  refine k_mid [(5, .slice (some ⟨g, 0, none⟩) n cap)] [[(g, cellsOf cur 125)]] ?_ ?_
  · (repeat' (first | refine k_blk ?_))
    refine k_loop (fun x : Nat × Nat => [(1, .slice (some ⟨g, 0, none⟩) n cap), (5, .slice (some ⟨g, 0, none⟩) x.1 cap), (6, inat x.1), (7, inat x.2)]) (fun _ => [[(g, cellsOf cur 125)]])
      (fun x => x.1 ≤ x.2 ∧ x.2 ≤ n ∧ (x.2 = x.1 ∨ x.2 = x.1 + 1 ∧ ∃ v, cur[x.1]? = some v ∧ isPl v)) (fun x => n - x.2) (0, 0) ⟨by omega, by omega, .inl rfl⟩ (Knows.spec (by repeat (first | exact trivial | refine ⟨rfl, ?_⟩))) (by repeat (first | exact SubH.nilR _ | refine SubH.pick (by repeat (first | exact HTake.here | apply HTake.there)) ?_)) fun x hx => ?_
    obtain ⟨s, i⟩ := x
    obtain ⟨x1, x2, x3⟩ := hx
    simp only at x1 x2 x3 ⊢
    by_cases hi : i < n
    · obtain ⟨v, hv1, hv2⟩ := hv i hi
      rcases hv2 with ⟨q, rfl⟩ | ⟨ty, u, rfl, n1, n2, n3⟩
      · have hv1' : cur[0 + i * 1]? = some (.iface 149 (lp q)) := by rw [show 0 + i * 1 = i by omega]; exact hv1
        have his : i = s := by
          rcases x3 with h | ⟨h, v, h2, h3⟩
          · exact h
          · subst h; exact absurd ⟨q, rfl⟩ (hadj s _ _ hi h2 hv1 h3)
        subst his
        (repeat' (first | refine s_load (hc := hv1') ?_ | refine s_pure (toPlain_yes q) ?_ | refine k_seq ?_ | refine k_region ?_ | refine k_nil ?_ | refine k_then ?_ | refine k_true ?_ | refine k_blk ?_ | refine k_exit ?_ | refine k_exit_then ?_ | refine k_hit ?_ | refine s_grun ?_ | refine s_move ?_ | refine s_assign ?_ | refine s_add1 ?_ | refine s_lss_t ?_ | refine s_pickt ?_ | refine s_len ?_ | refine s_idxa ?_ | refine s_nep1 ?_))
        exact ⟨(i, i + 1), (Knows.spec (by repeat (first | exact trivial | refine ⟨rfl, ?_⟩))), (by repeat (first | exact SubH.nilR _ | refine SubH.pick (by repeat (first | exact HTake.here | apply HTake.there)) ?_)), ⟨by simp only; omega, by simp only; omega, .inr ⟨rfl, _, hv1, q, rfl⟩⟩, by simp only; omega⟩
      · have hv1' : cur[0 + i * 1]? = some (.iface ty u) := by rw [show 0 + i * 1 = i by omega]; exact hv1
        have hseti : cur.set i (.iface ty u) = cur := by
          obtain ⟨h1, h2⟩ := List.getElem?_eq_some_iff.1 hv1
          rw [← h2, List.set_getElem_self]
        rcases x3 with rfl | ⟨rfl, v, hs1, hsp⟩
        · (repeat' (first | refine s_load (hc := hv1') ?_ | refine s_pure (toPlain_no ty u n1 n2 n3) ?_ | refine k_seq ?_ | refine k_region ?_ | refine k_nil ?_ | refine k_then ?_ | refine k_false ?_ | refine k_blk ?_ | refine k_skip ?_ | refine s_grun ?_ | refine s_move ?_ | refine s_lss_t ?_ | refine s_lss_f ?_ | refine s_geq_f ?_ | refine s_pickt ?_ | refine s_len ?_ | refine s_idxa ?_ | refine s_nep0 ?_ | refine s_bsl1 (fun _ => ?_)))
          refine s_appin (m := i) (u := .iface ty u) hcl (by omega) ?_
          rw [hseti]
          (repeat' (first | refine k_region ?_ | refine k_nil ?_ | refine k_then ?_ | refine k_block ?_ | refine s_move ?_ | refine s_assign ?_ | refine s_add1 ?_))
          exact ⟨(i + 1, i + 1), (Knows.spec (by repeat (first | exact trivial | refine ⟨rfl, ?_⟩))), (by repeat (first | exact SubH.nilR _ | refine SubH.pick (by repeat (first | exact HTake.here | apply HTake.there)) ?_)), ⟨by simp only; omega, by simp only; omega, .inl rfl⟩, by simp only; omega⟩
        · obtain ⟨q, rfl⟩ := hsp
          have hs' : cur[0 + s * 1]? = some (.iface 149 (lp q)) := by rw [show 0 + s * 1 = s by omega]; exact hs1
          have hset : cur.set s (.iface 149 (lp q)) = cur := by
            obtain ⟨h1, h2⟩ := List.getElem?_eq_some_iff.1 hs1
            rw [← h2, List.set_getElem_self]
          (repeat' (first | refine s_load (hc := hv1') ?_ | refine s_pure (toPlain_no ty u n1 n2 n3) ?_ | refine s_callD (mergePlain1_one g _ _ q cur hs' (s + 1 - s) (by omega)) ?_ | refine k_seq ?_ | refine k_region ?_ | refine k_nil ?_ | refine k_then ?_ | refine k_true ?_ | refine k_false ?_ | refine k_blk ?_ | refine k_skip ?_ | refine s_grun ?_ | refine s_move ?_ | refine s_lss_t ?_ | refine s_pickt ?_ | refine s_len ?_ | refine s_idxa ?_ | refine s_mki ?_ | refine s_nep0 ?_ | refine s_slicelh ?_ | refine s_bsl1 (fun _ => ?_)))
          refine s_appin (m := s) (u := .iface 149 (lp q)) hcl (by omega) ?_
          rw [hset]
          (repeat' (first | refine s_load (hc := hv1') ?_ | refine k_seq ?_ | refine k_region ?_ | refine k_nil ?_ | refine k_then ?_ | refine k_false ?_ | refine k_skip ?_ | refine s_move ?_ | refine s_assign ?_ | refine s_geq_f ?_ | refine s_len ?_ | refine s_idxa ?_ | refine s_bsl1 (fun _ => ?_)))
          refine s_appin (m := s + 1) (u := .iface ty u) hcl (by omega) ?_
          rw [hseti]
          (repeat' (first | refine k_region ?_ | refine k_nil ?_ | refine k_then ?_ | refine k_block ?_ | refine s_move ?_ | refine s_assign ?_ | refine s_add1 ?_))
          exact ⟨(s + 1 + 1, s + 1 + 1), (Knows.spec (by repeat (first | exact trivial | refine ⟨rfl, ?_⟩))), (by repeat (first | exact SubH.nilR _ | refine SubH.pick (by repeat (first | exact HTake.here | apply HTake.there)) ?_)), ⟨by simp only; omega, by simp only; omega, .inl rfl⟩, by simp only; omega⟩
    · rcases x3 with rfl | ⟨rfl, v, hs1, hsp⟩
      · have : i = n := by omega
        subst this
        (repeat' (first | refine k_seq ?_ | refine k_region ?_ | refine k_nil ?_ | refine k_then ?_ | refine k_true ?_ | refine k_false ?_ | refine k_blk ?_ | refine k_skip ?_ | refine k_exit ?_ | refine k_exit_then ?_ | refine k_hit ?_ | refine k_miss ?_ | refine s_gskipt ?_ | refine s_move ?_ | refine s_lss_f ?_ | refine s_geq_t ?_ | refine s_pickf ?_ | refine s_len ?_))
        exact ⟨(by repeat (first | exact trivial | refine ⟨rfl, ?_⟩)), (by repeat (first | exact SubH.nilR _ | refine SubH.pick (by repeat (first | exact HTake.here | apply HTake.there)) ?_))⟩
      · obtain ⟨q, rfl⟩ := hsp
        have hs' : cur[0 + s * 1]? = some (.iface 149 (lp q)) := by rw [show 0 + s * 1 = s by omega]; exact hs1
        have hset : cur.set s (.iface 149 (lp q)) = cur := by
          obtain ⟨h1, h2⟩ := List.getElem?_eq_some_iff.1 hs1
          rw [← h2, List.set_getElem_self]
        have hn' : s + 1 = n := by omega
        subst hn'
        (repeat' (first | refine s_callD (mergePlain1_one g _ _ q cur hs' (s + 1 - s) (by omega)) ?_ | refine k_seq ?_ | refine k_region ?_ | refine k_nil ?_ | refine k_then ?_ | refine k_true ?_ | refine k_false ?_ | refine k_blk ?_ | refine k_skip ?_ | refine s_gskipt ?_ | refine s_move ?_ | refine s_lss_t ?_ | refine s_lss_f ?_ | refine s_pickf ?_ | refine s_len ?_ | refine s_mki ?_ | refine s_slicelh ?_ | refine s_bsl1 (fun _ => ?_)))
        refine s_appin (m := s) (u := .iface 149 (lp q)) hcl (by omega) ?_
        rw [hset]
        (repeat' (first | refine k_seq ?_ | refine k_region ?_ | refine k_nil ?_ | refine k_then ?_ | refine k_true ?_ | refine k_exit ?_ | refine k_exit_then ?_ | refine k_hit ?_ | refine k_miss ?_ | refine s_move ?_ | refine s_assign ?_ | refine s_geq_t ?_ | refine s_len ?_))
        exact ⟨(by repeat (first | exact trivial | refine ⟨rfl, ?_⟩)), (by repeat (first | exact SubH.nilR _ | refine SubH.pick (by repeat (first | exact HTake.here | apply HTake.there)) ?_))⟩
  · (repeat' (first | refine k_seq ?_ | refine k_region ?_ | refine k_nil ?_ | refine k_then ?_ | refine k_ret ?_ | refine s_move ?_ | refine s_assign ?_))
    exact e_ret _ ⟨rfl, rfl⟩ (by repeat (first | exact SubH.nilR _ | refine SubH.pick (by repeat (first | exact HTake.here | apply HTake.there)) ?_))

theorem Items.length {its : List Itm} {vals : List Value} {Bk : Blk} (h : Items its vals Bk) : vals.length = its.length := by
  induction h with
  | nil => rfl
  | snoc x q _ ih => simp [ih]
/-- Each value is that of its item. -/
theorem Items.get {its : List Itm} {vals : List Value} {Bk : Blk} (h : Items its vals Bk) : ∀ (j : Nat) (x : Itm), its[j]? = some x → ∃ q, vals[j]? = some (Value.iface x.ty (lp q)) ∧ x.cell q ∈ Bk := by
  induction h with
  | nil => intro j x hj; simp at hj
  | @snoc its vals Bk y q h ih =>
    intro j x hj
    have hlen := h.length
    by_cases hlt : j < its.length
    · rw [List.getElem?_append_left hlt] at hj
      obtain ⟨q', h1, h2⟩ := ih j x hj
      exact ⟨q', by rw [List.getElem?_append_left (by omega)]; exact h1, List.mem_cons_of_mem _ h2⟩
    · rw [List.getElem?_append_right (by omega)] at hj
      have hj0 : j - its.length = 0 := by
        cases hq : j - its.length with
        | zero => rfl
        | succ m => rw [hq] at hj; simp at hj
      rw [hj0] at hj
      simp at hj
      subst hj
      exact ⟨q, by rw [List.getElem?_append_right (by omega), show j - vals.length = 0 by omega]; rfl, List.mem_cons_self⟩
end Go.Proofs

namespace Go.Proofs
open Go Go.Eng
set_option maxRecDepth 20000
set_option maxHeartbeats 8000000

/-- A literal byte, or a run that opens or closes. -/
inductive Tk where
  | lit (c : UInt8)
  | run (r : UInt8) (n : Nat) (o : Bool)
def Tk.bytes : Tk → List UInt8
  | .lit c => [c]
  | .run r n _ => List.replicate n r
abbrev bytesT (l : List Tk) : List UInt8 := l.flatMap Tk.bytes
/-- Inlines that are texts and runs. -/
inductive It where
  | plain (t : List UInt8)
  | emph (t : List UInt8) (o c : Bool) (n : Nat)
def It.ty : It → Nat
  | .plain _ => 149
  | .emph .. => 183
def It.sty : It → Nat
  | .plain _ => 130
  | .emph .. => 185
def It.cells : It → List Value
  | .plain t => [str t]
  | .emph t o c n => [str t, .bool o, .bool c, inat 0, inat n]
abbrev It.cell (x : It) (q : Nat) : Nat × Obj := (q, cellsOf x.cells x.sty)
inductive ItsT : List It → List Value → Blk → Prop
  | nil : ItsT [] [] []
  | snoc {its : List It} {vals : List Value} {Bk : Blk} (x : It) (q : Nat) : ItsT its vals Bk → ItsT (its ++ [x]) (vals ++ [.iface x.ty (lp q)]) (x.cell q :: Bk)
theorem ItsT.length {its : List It} {vals : List Value} {Bk : Blk} (h : ItsT its vals Bk) : vals.length = its.length := by
  induction h with
  | nil => rfl
  | snoc x q _ ih => simp [ih]

def Tk.step (st : List It × List UInt8) : Tk → List It × List UInt8
  | .lit c => (st.1, st.2 ++ [c])
  | .run r n o => ((if st.2 = [] then st.1 else st.1 ++ [.plain st.2]) ++ [.emph (List.replicate n r) o (!o) n], [])
abbrev stT (l : List Tk) : List It × List UInt8 := l.foldl Tk.step ([], [])
theorem stT_snoc (l : List Tk) (t : Tk) : stT (l ++ [t]) = Tk.step (stT l) t := by simp [stT, Tk.step]
theorem at_litT (d r : List Tk) (c : UInt8) : (bytesT (d ++ .lit c :: r))[(bytesT d).length]? = some c := by
  simp [bytesT, Tk.bytes]
theorem at_runT (d rr : List Tk) (r : UInt8) (n : Nat) (o : Bool) (k : Nat) (hk : k < n) : (bytesT (d ++ .run r n o :: rr))[(bytesT d).length + k]? = some r := by
  have e : bytesT (d ++ .run r n o :: rr) = bytesT d ++ (List.replicate n r ++ bytesT rr) := by simp [bytesT, Tk.bytes]
  rw [e, List.getElem?_append_right (by omega), show (bytesT d).length + k - (bytesT d).length = k by omega, List.getElem?_append_left (by simpa using hk)]
  simp [hk]

/-- emit of what is not yet put out. -/
theorem emitP (p i e : Nat) (s : PS) (tx : List UInt8) (vals : List Value) (LB : Blk) (he : s.em = inat e) (hs : s.str = str tx) (h : e < i) (hi : i ≤ tx.length) (_hl : tx.length ≤ 140737488355328) (hv : Inls s.list vals LB) (hvl : vals.length ≤ 1000000) :
    Tr Tryz.prog 71 [lp p, inat i] [s.blk p, LB] fun u K => u = unit ∧ ∃ q v' LB', Inls v' (vals ++ [.iface 149 (lp q)]) LB' ∧
      K = [({ s with list := v', em := inat i } : PS).blk p, LB', [It.cell (.plain ((tx.take i).drop e)) q]] := by
  obtain ⟨par, root, links, lineno, stack, depth, corner, sv, em, list, lists, texts, bt⟩ := s
  subst he; subst hs
  refine Tr.start (n := 36) (rs := []) rfl rfl rfl rfl fun B => ?_
  (repeat' (first | refine k_seq ?_ | refine k_region ?_ | refine k_nil ?_ | refine k_then ?_ | refine k_true ?_ | refine s_move ?_ | refine s_load ?_ | refine s_field ?_ | refine s_nilp ?_ | refine s_lss_t ?_))
  refine Wp.draw_till (id := 1) [(⟨par, root, links, lineno, stack, depth, corner, str tx, inat e, list, lists, texts, bt⟩ : PS).blk p] 22 23 Mixed.out (by repeat (first | exact SubH.nilR _ | refine SubH.pick (by repeat (first | exact HTake.here | apply HTake.there)) ?_)) rfl ?_
  refine OpsK.first 0 _ (by rfl) (by kernel_rfl) rfl (by kernel_rfl) (by kernel_rfl) rfl (by first | exact p_move rfl | exact p_assign rfl | exact p_extract rfl rfl | exact q_fieldAddr rfl | exact p_nilCheck rfl | exact q_load rfl (by repeat (first | exact HMem.here | apply HMem.skip | apply HMem.there)) rfl | exact q_load_agg rfl (by repeat (first | exact HMem.here | apply HMem.skip | apply HMem.there)) (by repeat constructor) | exact q_len_slice rfl | exact q_len_str rfl | exact q_indexAddr rfl rfl (by omega) | exact q_slice_str rfl rfl rfl (by omega) (by omega) | exact q_makeInterface rfl | exact q_assert rfl | exact p_build rfl (by repeat' (first | exact BFill.nil | refine' BFill.one (by rfl) (by rfl) (by repeat constructor) ?_ | refine' BFill.agg (by rfl) (by rfl) (by repeat constructor) ?_))) ?_
  refine OpsK.first 1 _ (by rfl) (by kernel_rfl) rfl (by kernel_rfl) (by kernel_rfl) rfl (by first | exact p_move rfl | exact p_assign rfl | exact p_extract rfl rfl | exact q_fieldAddr rfl | exact p_nilCheck rfl | exact q_load rfl (by repeat (first | exact HMem.here | apply HMem.skip | apply HMem.there)) rfl | exact q_load_agg rfl (by repeat (first | exact HMem.here | apply HMem.skip | apply HMem.there)) (by repeat constructor) | exact q_len_slice rfl | exact q_len_str rfl | exact q_indexAddr rfl rfl (by omega) | exact q_slice_str rfl rfl rfl (by omega) (by omega) | exact q_makeInterface rfl | exact q_assert rfl | exact p_build rfl (by repeat' (first | exact BFill.nil | refine' BFill.one (by rfl) (by rfl) (by repeat constructor) ?_ | refine' BFill.agg (by rfl) (by rfl) (by repeat constructor) ?_))) ?_
  refine OpsK.first 2 _ (by rfl) (by kernel_rfl) rfl (by kernel_rfl) (by kernel_rfl) rfl (by first | exact p_move rfl | exact p_assign rfl | exact p_extract rfl rfl | exact q_fieldAddr rfl | exact p_nilCheck rfl | exact q_load rfl (by repeat (first | exact HMem.here | apply HMem.skip | apply HMem.there)) rfl | exact q_load_agg rfl (by repeat (first | exact HMem.here | apply HMem.skip | apply HMem.there)) (by repeat constructor) | exact q_len_slice rfl | exact q_len_str rfl | exact q_indexAddr rfl rfl (by omega) | exact q_slice_str rfl rfl rfl (by omega) (by omega) | exact q_makeInterface rfl | exact q_assert rfl | exact p_build rfl (by repeat' (first | exact BFill.nil | refine' BFill.one (by rfl) (by rfl) (by repeat constructor) ?_ | refine' BFill.agg (by rfl) (by rfl) (by repeat constructor) ?_))) ?_
  refine OpsK.first 3 _ (by rfl) (by kernel_rfl) rfl (by kernel_rfl) (by kernel_rfl) rfl (by first | exact p_move rfl | exact p_assign rfl | exact p_extract rfl rfl | exact q_fieldAddr rfl | exact p_nilCheck rfl | exact q_load rfl (by repeat (first | exact HMem.here | apply HMem.skip | apply HMem.there)) rfl | exact q_load_agg rfl (by repeat (first | exact HMem.here | apply HMem.skip | apply HMem.there)) (by repeat constructor) | exact q_len_slice rfl | exact q_len_str rfl | exact q_indexAddr rfl rfl (by omega) | exact q_slice_str rfl rfl rfl (by omega) (by omega) | exact q_makeInterface rfl | exact q_assert rfl | exact p_build rfl (by repeat' (first | exact BFill.nil | refine' BFill.one (by rfl) (by rfl) (by repeat constructor) ?_ | refine' BFill.agg (by rfl) (by rfl) (by repeat constructor) ?_))) ?_
  refine OpsK.firstL 4 [] _ (by rfl) (by kernel_rfl) (by kernel_rfl) rfl (by kernel_rfl) (by kernel_rfl) rfl (by first | exact p_move rfl | exact p_assign rfl | exact p_extract rfl rfl | exact q_fieldAddr rfl | exact p_nilCheck rfl | exact q_load rfl (by repeat (first | exact HMem.here | apply HMem.skip | apply HMem.there)) rfl | exact q_load_agg rfl (by repeat (first | exact HMem.here | apply HMem.skip | apply HMem.there)) (by repeat constructor) | exact q_len_slice rfl | exact q_len_str rfl | exact q_indexAddr rfl rfl (by omega) | exact q_slice_str rfl rfl rfl (by omega) (by omega) | exact q_makeInterface rfl | exact q_assert rfl | exact p_build rfl (by repeat' (first | exact BFill.nil | refine' BFill.one (by rfl) (by rfl) (by repeat constructor) ?_ | refine' BFill.agg (by rfl) (by rfl) (by repeat constructor) ?_))) ?_
  refine OpsK.first 5 _ (by rfl) (by kernel_rfl) rfl (by kernel_rfl) (by kernel_rfl) rfl (by first | exact p_move rfl | exact p_assign rfl | exact p_extract rfl rfl | exact q_fieldAddr rfl | exact p_nilCheck rfl | exact q_load rfl (by repeat (first | exact HMem.here | apply HMem.skip | apply HMem.there)) rfl | exact q_load_agg rfl (by repeat (first | exact HMem.here | apply HMem.skip | apply HMem.there)) (by repeat constructor) | exact q_len_slice rfl | exact q_len_str rfl | exact q_indexAddr rfl rfl (by omega) | exact q_slice_str rfl rfl rfl (by omega) (by omega) | exact q_makeInterface rfl | exact q_assert rfl | exact p_build rfl (by repeat' (first | exact BFill.nil | refine' BFill.one (by rfl) (by rfl) (by repeat constructor) ?_ | refine' BFill.agg (by rfl) (by rfl) (by repeat constructor) ?_))) ?_
  refine OpsK.first 6 _ (by rfl) (by kernel_rfl) rfl (by kernel_rfl) (by kernel_rfl) rfl (by first | exact p_move rfl | exact p_assign rfl | exact p_extract rfl rfl | exact q_fieldAddr rfl | exact p_nilCheck rfl | exact q_load rfl (by repeat (first | exact HMem.here | apply HMem.skip | apply HMem.there)) rfl | exact q_load_agg rfl (by repeat (first | exact HMem.here | apply HMem.skip | apply HMem.there)) (by repeat constructor) | exact q_len_slice rfl | exact q_len_str rfl | exact q_indexAddr rfl rfl (by omega) | exact q_slice_str rfl rfl rfl (by omega) (by omega) | exact q_makeInterface rfl | exact q_assert rfl | exact p_build rfl (by repeat' (first | exact BFill.nil | refine' BFill.one (by rfl) (by rfl) (by repeat constructor) ?_ | refine' BFill.agg (by rfl) (by rfl) (by repeat constructor) ?_))) ?_
  refine OpsK.first 7 _ (by rfl) (by kernel_rfl) rfl (by kernel_rfl) (by kernel_rfl) rfl (by first | exact p_move rfl | exact p_assign rfl | exact p_extract rfl rfl | exact q_fieldAddr rfl | exact p_nilCheck rfl | exact q_load rfl (by repeat (first | exact HMem.here | apply HMem.skip | apply HMem.there)) rfl | exact q_load_agg rfl (by repeat (first | exact HMem.here | apply HMem.skip | apply HMem.there)) (by repeat constructor) | exact q_len_slice rfl | exact q_len_str rfl | exact q_indexAddr rfl rfl (by omega) | exact q_slice_str rfl rfl rfl (by omega) (by omega) | exact q_makeInterface rfl | exact q_assert rfl | exact p_build rfl (by repeat' (first | exact BFill.nil | refine' BFill.one (by rfl) (by rfl) (by repeat constructor) ?_ | refine' BFill.agg (by rfl) (by rfl) (by repeat constructor) ?_))) ?_
  refine OpsK.firstL 8 [] _ (by rfl) (by kernel_rfl) (by kernel_rfl) rfl (by kernel_rfl) (by kernel_rfl) rfl (by first | exact p_move rfl | exact p_assign rfl | exact p_extract rfl rfl | exact q_fieldAddr rfl | exact p_nilCheck rfl | exact q_load rfl (by repeat (first | exact HMem.here | apply HMem.skip | apply HMem.there)) rfl | exact q_load_agg rfl (by repeat (first | exact HMem.here | apply HMem.skip | apply HMem.there)) (by repeat constructor) | exact q_len_slice rfl | exact q_len_str rfl | exact q_indexAddr rfl rfl (by omega) | exact q_slice_str rfl rfl rfl (by omega) (by omega) | exact q_makeInterface rfl | exact q_assert rfl | exact p_build rfl (by repeat' (first | exact BFill.nil | refine' BFill.one (by rfl) (by rfl) (by repeat constructor) ?_ | refine' BFill.agg (by rfl) (by rfl) (by repeat constructor) ?_))) ?_
  refine OpsK.first 9 _ (by rfl) (by kernel_rfl) rfl (by kernel_rfl) (by kernel_rfl) rfl (by first | exact p_move rfl | exact p_assign rfl | exact p_extract rfl rfl | exact q_fieldAddr rfl | exact p_nilCheck rfl | exact q_load rfl (by repeat (first | exact HMem.here | apply HMem.skip | apply HMem.there)) rfl | exact q_load_agg rfl (by repeat (first | exact HMem.here | apply HMem.skip | apply HMem.there)) (by repeat constructor) | exact q_len_slice rfl | exact q_len_str rfl | exact q_indexAddr rfl rfl (by omega) | exact q_slice_str rfl rfl rfl (by omega) (by omega) | exact q_makeInterface rfl | exact q_assert rfl | exact p_build rfl (by repeat' (first | exact BFill.nil | refine' BFill.one (by rfl) (by rfl) (by repeat constructor) ?_ | refine' BFill.agg (by rfl) (by rfl) (by repeat constructor) ?_))) ?_
  refine OpsK.first 10 _ (by rfl) (by kernel_rfl) rfl (by kernel_rfl) (by kernel_rfl) rfl (by first | exact p_move rfl | exact p_assign rfl | exact p_extract rfl rfl | exact q_fieldAddr rfl | exact p_nilCheck rfl | exact q_load rfl (by repeat (first | exact HMem.here | apply HMem.skip | apply HMem.there)) rfl | exact q_load_agg rfl (by repeat (first | exact HMem.here | apply HMem.skip | apply HMem.there)) (by repeat constructor) | exact q_len_slice rfl | exact q_len_str rfl | exact q_indexAddr rfl rfl (by omega) | exact q_slice_str rfl rfl rfl (by omega) (by omega) | exact q_makeInterface rfl | exact q_assert rfl | exact p_build rfl (by repeat' (first | exact BFill.nil | refine' BFill.one (by rfl) (by rfl) (by repeat constructor) ?_ | refine' BFill.agg (by rfl) (by rfl) (by repeat constructor) ?_))) ?_
  refine OpsK.first 11 _ (by rfl) (by kernel_rfl) rfl (by kernel_rfl) (by kernel_rfl) rfl (by first | exact p_move rfl | exact p_assign rfl | exact p_extract rfl rfl | exact q_fieldAddr rfl | exact p_nilCheck rfl | exact q_load rfl (by repeat (first | exact HMem.here | apply HMem.skip | apply HMem.there)) rfl | exact q_load_agg rfl (by repeat (first | exact HMem.here | apply HMem.skip | apply HMem.there)) (by repeat constructor) | exact q_len_slice rfl | exact q_len_str rfl | exact q_indexAddr rfl rfl (by omega) | exact q_slice_str rfl rfl rfl (by omega) (by omega) | exact q_makeInterface rfl | exact q_assert rfl | exact p_build rfl (by repeat' (first | exact BFill.nil | refine' BFill.one (by rfl) (by rfl) (by repeat constructor) ?_ | refine' BFill.agg (by rfl) (by rfl) (by repeat constructor) ?_))) ?_
  refine OpsK.firstL 12 [] _ (by rfl) (by kernel_rfl) (by kernel_rfl) rfl (by kernel_rfl) (by kernel_rfl) rfl (by first | exact p_move rfl | exact p_assign rfl | exact p_extract rfl rfl | exact q_fieldAddr rfl | exact p_nilCheck rfl | exact q_load rfl (by repeat (first | exact HMem.here | apply HMem.skip | apply HMem.there)) rfl | exact q_load_agg rfl (by repeat (first | exact HMem.here | apply HMem.skip | apply HMem.there)) (by repeat constructor) | exact q_len_slice rfl | exact q_len_str rfl | exact q_indexAddr rfl rfl (by omega) | exact q_slice_str rfl rfl rfl (by omega) (by omega) | exact q_makeInterface rfl | exact q_assert rfl | exact p_build rfl (by repeat' (first | exact BFill.nil | refine' BFill.one (by rfl) (by rfl) (by repeat constructor) ?_ | refine' BFill.agg (by rfl) (by rfl) (by repeat constructor) ?_))) ?_
  refine OpsK.first 13 _ (by rfl) (by kernel_rfl) rfl (by kernel_rfl) (by kernel_rfl) rfl (by first | exact p_move rfl | exact p_assign rfl | exact p_extract rfl rfl | exact q_fieldAddr rfl | exact p_nilCheck rfl | exact q_load rfl (by repeat (first | exact HMem.here | apply HMem.skip | apply HMem.there)) rfl | exact q_load_agg rfl (by repeat (first | exact HMem.here | apply HMem.skip | apply HMem.there)) (by repeat constructor) | exact q_len_slice rfl | exact q_len_str rfl | exact q_indexAddr rfl rfl (by omega) | exact q_slice_str rfl rfl rfl (by omega) (by omega) | exact q_makeInterface rfl | exact q_assert rfl | exact p_build rfl (by repeat' (first | exact BFill.nil | refine' BFill.one (by rfl) (by rfl) (by repeat constructor) ?_ | refine' BFill.agg (by rfl) (by rfl) (by repeat constructor) ?_))) ?_
  refine OpsK.first 14 _ (by rfl) (by kernel_rfl) rfl (by kernel_rfl) (by kernel_rfl) rfl (by first | exact p_move rfl | exact p_assign rfl | exact p_extract rfl rfl | exact q_fieldAddr rfl | exact p_nilCheck rfl | exact q_load rfl (by repeat (first | exact HMem.here | apply HMem.skip | apply HMem.there)) rfl | exact q_load_agg rfl (by repeat (first | exact HMem.here | apply HMem.skip | apply HMem.there)) (by repeat constructor) | exact q_len_slice rfl | exact q_len_str rfl | exact q_indexAddr rfl rfl (by omega) | exact q_slice_str rfl rfl rfl (by omega) (by omega) | exact q_makeInterface rfl | exact q_assert rfl | exact p_build rfl (by repeat' (first | exact BFill.nil | refine' BFill.one (by rfl) (by rfl) (by repeat constructor) ?_ | refine' BFill.agg (by rfl) (by rfl) (by repeat constructor) ?_))) ?_
  refine OpsK.first 15 _ (by rfl) (by kernel_rfl) rfl (by kernel_rfl) (by kernel_rfl) rfl (by first | exact p_move rfl | exact p_assign rfl | exact p_extract rfl rfl | exact q_fieldAddr rfl | exact p_nilCheck rfl | exact q_load rfl (by repeat (first | exact HMem.here | apply HMem.skip | apply HMem.there)) rfl | exact q_load_agg rfl (by repeat (first | exact HMem.here | apply HMem.skip | apply HMem.there)) (by repeat constructor) | exact q_len_slice rfl | exact q_len_str rfl | exact q_indexAddr rfl rfl (by omega) | exact q_slice_str rfl rfl rfl (by omega) (by omega) | exact q_makeInterface rfl | exact q_assert rfl | exact p_build rfl (by repeat' (first | exact BFill.nil | refine' BFill.one (by rfl) (by rfl) (by repeat constructor) ?_ | refine' BFill.agg (by rfl) (by rfl) (by repeat constructor) ?_))) ?_
  refine OpsK.only 16 _ (by kernel_rfl) rfl ?_
  (repeat' (first | refine k_nil ?_ | refine k_then ?_ | refine s_box (fun _ => ?_)))
  rename_i q
  refine ⟨fun _ => (by repeat (first | exact SubH.nilR _ | refine SubH.pick (by repeat (first | exact HTake.here | apply HTake.there)) ?_)), ?_⟩
  refine OpsK.first 17 _ (by rfl) (by kernel_rfl) rfl (by kernel_rfl) (by kernel_rfl) rfl (by first | exact p_move rfl | exact p_assign rfl | exact p_extract rfl rfl | exact q_fieldAddr rfl | exact p_nilCheck rfl | exact q_load rfl (by repeat (first | exact HMem.here | apply HMem.skip | apply HMem.there)) rfl | exact q_load_agg rfl (by repeat (first | exact HMem.here | apply HMem.skip | apply HMem.there)) (by repeat constructor) | exact q_len_slice rfl | exact q_len_str rfl | exact q_indexAddr rfl rfl (by omega) | exact q_slice_str rfl rfl rfl (by omega) (by omega) | exact q_makeInterface rfl | exact q_assert rfl | exact p_build rfl (by repeat' (first | exact BFill.nil | refine' BFill.one (by rfl) (by rfl) (by repeat constructor) ?_ | refine' BFill.agg (by rfl) (by rfl) (by repeat constructor) ?_))) ?_
  refine OpsK.only 18 _ (by kernel_rfl) rfl ?_
  (repeat' (first | refine k_nil ?_ | refine k_then ?_ | refine s_bsl1 (fun _ => ?_)))
  refine ⟨fun _ => (by repeat (first | exact SubH.nilR _ | refine SubH.pick (by repeat (first | exact HTake.here | apply HTake.there)) ?_)), ?_⟩
  refine OpsK.only 19 _ (by kernel_rfl) rfl ?_
  refine s_app hv (by omega) (fun v' LB' hL => ?_)
  obtain ⟨g2, cap2, cur2, rfl, rfl, k1, k2, k3, k4⟩ := hL.pos
  (repeat' (first | refine k_nil ?_ | refine k_then ?_))
  refine ⟨fun _ => (by repeat (first | exact SubH.nilR _ | refine SubH.pick (by repeat (first | exact HTake.here | apply HTake.there)) ?_)), ?_⟩
  refine OpsK.first 20 _ (by rfl) (by kernel_rfl) rfl (by kernel_rfl) (by kernel_rfl) rfl (by first | exact p_move rfl | exact p_assign rfl | exact p_extract rfl rfl | exact q_fieldAddr rfl | exact p_nilCheck rfl | exact q_load rfl (by repeat (first | exact HMem.here | apply HMem.skip | apply HMem.there)) rfl | exact q_load_agg rfl (by repeat (first | exact HMem.here | apply HMem.skip | apply HMem.there)) (by repeat constructor) | exact q_len_slice rfl | exact q_len_str rfl | exact q_indexAddr rfl rfl (by omega) | exact q_slice_str rfl rfl rfl (by omega) (by omega) | exact q_makeInterface rfl | exact q_assert rfl | exact p_build rfl (by repeat' (first | exact BFill.nil | refine' BFill.one (by rfl) (by rfl) (by repeat constructor) ?_ | refine' BFill.agg (by rfl) (by rfl) (by repeat constructor) ?_))) ?_
  refine OpsK.first 21 _ (by rfl) (by kernel_rfl) rfl (by kernel_rfl) (by kernel_rfl) rfl (by first | exact p_move rfl | exact p_assign rfl | exact p_extract rfl rfl | exact q_fieldAddr rfl | exact p_nilCheck rfl | exact q_load rfl (by repeat (first | exact HMem.here | apply HMem.skip | apply HMem.there)) rfl | exact q_load_agg rfl (by repeat (first | exact HMem.here | apply HMem.skip | apply HMem.there)) (by repeat constructor) | exact q_len_slice rfl | exact q_len_str rfl | exact q_indexAddr rfl rfl (by omega) | exact q_slice_str rfl rfl rfl (by omega) (by omega) | exact q_makeInterface rfl | exact q_assert rfl | exact p_build rfl (by repeat' (first | exact BFill.nil | refine' BFill.one (by rfl) (by rfl) (by repeat constructor) ?_ | refine' BFill.agg (by rfl) (by rfl) (by repeat constructor) ?_))) ?_
  refine OpsK.only 22 _ (by kernel_rfl) rfl ?_
  (repeat' (first | refine k_nil ?_ | refine k_then ?_ | refine s_store ?_))
  refine ⟨(fun h0 => Bool.noConfusion (show true = false from h0)), ?_⟩
  refine OpsK.nil (by kernel_rfl) ?_
  (repeat' (first | refine k_region ?_ | refine k_nil ?_ | refine s_move ?_ | refine s_field ?_ | refine s_nilp ?_ | refine s_store ?_))
  have hL2 : Inls (.slice (some ⟨g2, 0, none⟩) (vals.length + 1) cap2) (vals ++ [.iface 149 (lp q)]) [(g2, cellsOf cur2 125)] := by simpa [Inls] using hL
  exact e_norm [_, _, [It.cell (.plain ((tx.take i).drop e)) q]] ⟨rfl, q, _, _, hL2, rfl⟩ (by repeat (first | exact SubH.nilR _ | refine SubH.pick (by repeat (first | exact HTake.here | apply HTake.there)) ?_))

/-- Where the scan for inlines stands. -/
structure LT where
  d : List Tk
  r : List Tk
  e : Nat
  cn : Bool
  vals : List Value
  v : Value
  LB : Blk
  IB : Blk

/-- What the scan asks of its tokens: literal bytes begin nothing, and runs stand between words, behind some text. -/
structure TkOK (o : PO) (toks : List Tk) : Prop where
  lit : ∀ c, .lit c ∈ toks → (c.toNat ≠ 92 ∧ c.toNat ≠ 96 ∧ c.toNat ≠ 60 ∧ c.toNat ≠ 91 ∧ c.toNat ≠ 33 ∧ c.toNat ≠ 95 ∧ c.toNat ≠ 42 ∧ c.toNat ≠ 46 ∧ c.toNat ≠ 45 ∧ c.toNat ≠ 34 ∧ c.toNat ≠ 39 ∧ c.toNat ≠ 10 ∧ c.toNat ≠ 38 ∧ c.toNat ≠ 58 ∧ c.toNat ≠ 93) ∧ (c.toNat = 126 → o.del = false)
  run : ∀ d rr r n ob, toks = d ++ .run r n ob :: rr → (stT d).2 ≠ [] ∧ (∃ b a, Run (bytesT toks) (bytesT d).length n r b a ∧ decide (b.toNat = 32) = ob) ∧ (r.toNat = 126 → o.del = true) ∧ (r.toNat ≠ 126 → o.quotes = true)
  len : (bytesT toks).length ≤ 100000
  last : ∃ d c, toks = d ++ [.lit c]
  trim : btrim (bytesT toks) = bytesT toks

theorem itemsT_end {toks d : List Tk} {c : UInt8} (h : toks = d ++ [.lit c]) : (stT toks).2 ≠ [] := by
  subst h; rw [stT_snoc]; simp [Tk.step]
abbrev itemsT (toks : List Tk) : List It := (stT toks).1 ++ [.plain (stT toks).2]
end Go.Proofs

namespace Go.Proofs
open Go Go.Eng
set_option maxRecDepth 20000
set_option maxHeartbeats 8000000

/-- An inline without inlines of its own: its type, the type of what it points to, its cells. -/
structure LIt where
  ty : Nat
  sty : Nat
  cells : List Value
abbrev LIt.cell (x : LIt) (q : Nat) : Nat × Obj := (q, cellsOf x.cells x.sty)
abbrev plainL (t : List UInt8) : LIt := ⟨149, 130, [str t]⟩
inductive ItsL : List LIt → List Value → Blk → Prop
  | nil : ItsL [] [] []
  | snoc {its : List LIt} {vals : List Value} {Bk : Blk} (x : LIt) (q : Nat) : ItsL its vals Bk → ItsL (its ++ [x]) (vals ++ [.iface x.ty (lp q)]) (x.cell q :: Bk)
theorem ItsL.length {its : List LIt} {vals : List Value} {Bk : Blk} (h : ItsL its vals Bk) : vals.length = its.length := by
  induction h with
  | nil => rfl
  | snoc x q _ ih => simp [ih]
theorem ItsL.get {its : List LIt} {vals : List Value} {Bk : Blk} (h : ItsL its vals Bk) : ∀ (j : Nat) (x : LIt), its[j]? = some x → ∃ q, vals[j]? = some (Value.iface x.ty (lp q)) ∧ x.cell q ∈ Bk := by
  induction h with
  | nil => intro j x h; simp at h
  | @snoc its vals Bk y q hI ih =>
    intro j x hx
    have hlen := hI.length
    by_cases hj : j < its.length
    · rw [List.getElem?_append_left hj] at hx
      obtain ⟨q', h1, h2⟩ := ih j x hx
      exact ⟨q', by rw [List.getElem?_append_left (by omega)]; exact h1, List.mem_cons_of_mem _ h2⟩
    · rw [List.getElem?_append_right (by omega)] at hx
      have hj0 : j - its.length = 0 := by
        have := (List.getElem?_eq_some_iff.1 hx).1
        simp at this; omega
      rw [hj0] at hx
      simp only [List.getElem?_cons_zero, Option.some.injEq] at hx
      subst hx
      exact ⟨q, by rw [List.getElem?_append_right (by omega), show j - vals.length = 0 by omega]; rfl, by simp⟩

/-- A literal byte, or bytes that are an inline of their own. -/
inductive LTk where
  | lit (c : UInt8)
  | leaf (bs : List UInt8) (x : LIt)
def LTk.bytes : LTk → List UInt8
  | .lit c => [c]
  | .leaf bs _ => bs
abbrev bytesL (l : List LTk) : List UInt8 := l.flatMap LTk.bytes
def outL (its : List LIt) (t : List UInt8) : List LIt := if t = [] then its else its ++ [plainL t]
def LTk.step (st : List LIt × List UInt8) : LTk → List LIt × List UInt8
  | .lit c => (st.1, st.2 ++ [c])
  | .leaf _ x => (outL st.1 st.2 ++ [x], [])
abbrev stL (l : List LTk) : List LIt × List UInt8 := l.foldl LTk.step ([], [])
theorem stL_snoc (l : List LTk) (t : LTk) : stL (l ++ [t]) = LTk.step (stL l) t := by simp [stL, LTk.step]
abbrev itemsL (l : List LTk) : List LIt := outL (stL l).1 (stL l).2
theorem at_litL (d r : List LTk) (c : UInt8) : (bytesL (d ++ .lit c :: r))[(bytesL d).length]? = some c := by
  simp [bytesL, LTk.bytes]

theorem Tr.fr {f : FuncId} {args : List Value} {Hc F H : Heap} {R : Value → Heap → Prop} (h : Tr Tryz.prog f args Hc R) (ht : HTakes H Hc F) : Tr Tryz.prog f args H (fun v K => ∃ K0, R v K0 ∧ K = K0 ++ F) :=
  ⟨fun _B _w hw => (h.calls ht hw).mono fun _ _ ⟨v, H', h1, h2, h3⟩ => ⟨v, H' ++ F, h1, ⟨H', h2, rfl⟩, h3⟩⟩
theorem Tr.ps {f : FuncId} {args : List Value} {H : Heap} {R R' : Value → Heap → Prop} (h : Tr Tryz.prog f args H R) (hr : ∀ v H', R v H' → ∃ H'', R' v H'' ∧ SubH H' H'') : Tr Tryz.prog f args H R' :=
  ⟨fun B w hw => (h.run B w hw).mono fun _ _ ⟨v, H', h1, h2, h3⟩ => by
    obtain ⟨H'', k1, k2⟩ := hr v H' h2
    exact ⟨v, H'', h1, k1, h3.sub k2⟩⟩

/-- emit: what is not yet put out, if anything. -/
theorem emitL (p i e : Nat) (s : PS) (tx : List UInt8) (its : List LIt) (vals : List Value) (LB IB : Blk) (he : s.em = inat e) (hs : s.str = str tx) (h : e ≤ i) (hi : i ≤ tx.length) (hl : tx.length ≤ 140737488355328) (hv : Inls s.list vals LB) (hvl : vals.length ≤ 1000000) (hI : ItsL its vals IB) :
    Tr Tryz.prog 71 [lp p, inat i] [s.blk p, LB, IB] fun u K => u = unit ∧ ∃ vals' v' LB' IB', Inls v' vals' LB' ∧ ItsL (outL its ((tx.take i).drop e)) vals' IB' ∧ K = [({ s with list := v', em := inat i } : PS).blk p, LB', IB'] := by
  by_cases hei : e < i
  · have hne : (tx.take i).drop e ≠ [] := by
      intro h
      have := congrArg List.length h
      rw [List.length_drop, List.length_take] at this
      simp only [List.length_nil] at this
      omega
    refine Tr.ps (Tr.fr (F := [IB]) (emitP p i e s tx vals LB he hs hei hi hl hv hvl) (by repeat' (first | exact HTakes.nil | exact HTake.here | apply HTakes.cons | apply HTake.there))) ?_
    rintro u K ⟨K0, ⟨rfl, q, v', LB', h1, rfl⟩, rfl⟩
    exact ⟨[({ s with list := v', em := inat i } : PS).blk p, LB', (plainL ((tx.take i).drop e)).cell q :: IB], ⟨rfl, _, v', LB', _, h1, by unfold outL; rw [if_neg hne]; exact .snoc (plainL _) q hI, rfl⟩, SubH.keep (SubH.keep SubH.join)⟩
  · have : e = i := by omega
    subst this
    have hn : (tx.take e).drop e = [] := List.drop_eq_nil_of_le (by rw [List.length_take]; omega)
    obtain ⟨par, root, links, lineno, stack, depth, corner, sv, em, list, lists, texts, bt⟩ := s
    simp only at he hs hv
    subst he
    refine Tr.ps (Tr.fr (F := [LB, IB]) (emit_no p e e (⟨par, root, links, lineno, stack, depth, corner, sv, inat e, list, lists, texts, bt⟩ : PS) rfl (Nat.le_refl _)) (by repeat' (first | exact HTakes.nil | exact HTake.here | apply HTakes.cons | apply HTake.there))) ?_
    rintro u K ⟨K0, ⟨rfl, rfl⟩, rfl⟩
    exact ⟨_, ⟨rfl, vals, list, LB, IB, hv, by rw [hn]; exact hI, rfl⟩, SubH.refl _⟩
end Go.Proofs

namespace Go.Proofs
open Go Go.Eng
set_option maxRecDepth 20000
set_option maxHeartbeats 4000000

/-- From a sign @ on: domains with full stops between them, up to the bracket that closes. -/
def domsM (s : List UInt8) : Nat → Nat → Option Nat
  | 0, _ => none
  | f + 1, a => match skipDomM (s.drop (a + 1)) with
    | none => none
    | some n => match s[a + 1 + n]? with
      | none => none
      | some c => if c.toNat = 62 then some (a + 1 + n) else if c.toNat = 46 then domsM s f (a + 1 + n) else none
theorem domsM_lt {s : List UInt8} : ∀ {f a k : Nat}, domsM s f a = some k → a < k ∧ k < s.length
  | 0, _, _, h => by simp [domsM] at h
  | f + 1, a, k, h => by
    unfold domsM at h
    split at h
    · cases h
    · rename_i n hn
      split at h
      · cases h
      · rename_i c hc
        have h0 := (List.getElem?_eq_some_iff.1 hc).1
        split at h
        · have := Option.some.inj h
          omega
        · split at h
          · have := domsM_lt h
            omega
          · cases h
def emailM (s : List UInt8) (i : Nat) : Option Nat := match s[i]?, s[i + 1]? with
  | some c, some d => if c.toNat = 60 ∧ userB d = true then (if s[scan userB s (i + 1)]? = some 64 then domsM s (s.length + 1) (scan userB s (i + 1)) else none) else none
  | _, _ => none
theorem emailM_lt {s : List UInt8} {i k : Nat} (h : emailM s i = some k) : i < k ∧ k < s.length := by
  unfold emailM at h
  split at h
  · split at h
    · split at h
      · have := domsM_lt h
        have := scan_ge userB s (i + 1)
        omega
      · cases h
    · cases h
  · cases h
structure DT where
  a : Nat
  f : Nat

theorem emailG_tr (s : List UInt8) (i : Nat) (hl : s.length ≤ 1000000) (hi : i ≤ s.length) :
    Tr Tryz.prog 96 [str s, inat i] [] fun u K => ∃ q, u = autV q (emailM s i) ∧ K = autK q s [109, 97, 105, 108, 116, 111, 58] i (emailM s i) := by
  unfold emailM
  by_cases hlt : i + 1 < s.length
  · obtain ⟨c, hc⟩ := get_some (show i < s.length by omega)
    obtain ⟨d, hd⟩ := get_some hlt
    have hL := isUserB_tr d
    rw [hc, hd]
    dsimp only
    by_cases h60 : c.toNat = 60
    · cases hb : userB d with
      | false =>
        rw [hb] at hL
        rw [if_neg (by rintro ⟨_, h⟩; cases h)]
        refine Tr.start (n := 102) (rs := [.tmp 4, .tmp 5, .tmp 6]) rfl rfl rfl rfl fun B => ?_
        (repeat' (first | refine s_pure (hL) ?_ | refine k_seq ?_ | refine k_region ?_ | refine k_nil ?_ | refine k_then ?_ | refine k_true ?_ | refine k_ret ?_ | refine k_ret_then ?_ | refine s_grun ?_ | refine s_move ?_ | refine s_assign ?_ | refine s_add1 ?_ | refine s_geq_f ?_ | refine s_neq_f ?_ | refine s_pickf ?_ | refine s_lens ?_ | refine s_index ?_ | refine s_notf ?_))
        exact e_ret _ ⟨0, rfl, rfl⟩ (by repeat (first | exact SubH.nilR _ | refine SubH.pick (by repeat (first | exact HTake.here | apply HTake.there)) ?_))
      | true =>
        rw [hb] at hL
        rw [if_pos ⟨h60, rfl⟩]
        have h1 := scan_ge userB s (i + 1)
        have h2 := scan_le (p := userB) (s := s) (i := i + 1) (by omega)
        generalize hj : scan userB s (i + 1) = j at h1 h2 ⊢
        have hex : ∃ R, R = domsM s (s.length + 1) j := ⟨_, rfl⟩
        obtain ⟨R, hR⟩ := hex
        rw [← hR]
        refine Tr.start (n := 102) (rs := [.tmp 4, .tmp 5, .tmp 6]) rfl rfl rfl rfl fun B => ?_
        (repeat' (first | refine s_pure (hL) ?_ | refine k_seq ?_ | refine k_region ?_ | refine k_nil ?_ | refine k_then ?_ | refine k_false ?_ | refine k_skip ?_ | refine s_grun ?_ | refine s_move ?_ | refine s_assign ?_ | refine s_add1 ?_ | refine s_geq_f ?_ | refine s_neq_f ?_ | refine s_pickf ?_ | refine s_lens ?_ | refine s_index ?_ | refine s_nott ?_))
        refine k_mid [(0, str s), (1, inat i), (7, inat j)] [] ?_ ?_
        · (repeat' (first | refine k_blk ?_))
          refine k_loop (fun k : Nat => [(0, str s), (1, inat i), (7, inat k)]) (fun _ => []) (fun k => scan userB s k = j ∧ k ≤ s.length) (fun k => s.length - k) (i + 1) ⟨hj, by omega⟩ (Knows.spec (by repeat (first | exact trivial | refine ⟨rfl, ?_⟩))) (by repeat (first | exact SubH.nilR _ | refine SubH.pick (by repeat (first | exact HTake.here | apply HTake.there)) ?_)) fun k hk => ?_
          obtain ⟨hk1, hk2⟩ := hk
          by_cases hlt : k < s.length
          · obtain ⟨e, he⟩ := get_some hlt
            have hD := isUserB_tr e
            cases hb1 : userB e with
            | true =>
              rw [hb1] at hD
              (repeat' (first | refine s_pure (hD) ?_ | refine k_seq ?_ | refine k_region ?_ | refine k_nil ?_ | refine k_then ?_ | refine k_true ?_ | refine k_blk ?_ | refine k_skip ?_ | refine k_block ?_ | refine s_grun ?_ | refine s_move ?_ | refine s_assign ?_ | refine s_add1 ?_ | refine s_lss_t ?_ | refine s_pickt ?_ | refine s_lens ?_ | refine s_index ?_))
              exact ⟨k + 1, (Knows.spec (by repeat (first | exact trivial | refine ⟨rfl, ?_⟩))), (by repeat (first | exact SubH.nilR _ | refine SubH.pick (by repeat (first | exact HTake.here | apply HTake.there)) ?_)), ⟨by rw [← hk1, scan_step he hb1], by omega⟩, by omega⟩
            | false =>
              rw [hb1] at hD
              have : k = j := by rw [← hk1, scan_stop he hb1]
              subst this
              (repeat' (first | refine s_pure (hD) ?_ | refine k_seq ?_ | refine k_region ?_ | refine k_nil ?_ | refine k_then ?_ | refine k_false ?_ | refine k_exit ?_ | refine k_exit_then ?_ | refine k_hit ?_ | refine s_grun ?_ | refine s_move ?_ | refine s_lss_t ?_ | refine s_pickt ?_ | refine s_lens ?_ | refine s_index ?_))
              exact ⟨(by repeat (first | exact trivial | refine ⟨rfl, ?_⟩)), (by repeat (first | exact SubH.nilR _ | refine SubH.pick (by repeat (first | exact HTake.here | apply HTake.there)) ?_))⟩
          · have : k = j := by rw [← hk1, scan_end (by omega)]
            subst this
            (repeat' (first | refine k_seq ?_ | refine k_region ?_ | refine k_nil ?_ | refine k_then ?_ | refine k_false ?_ | refine k_exit ?_ | refine k_exit_then ?_ | refine k_hit ?_ | refine s_gskipt ?_ | refine s_move ?_ | refine s_lss_f ?_ | refine s_pickf ?_ | refine s_lens ?_))
            exact ⟨(by repeat (first | exact trivial | refine ⟨rfl, ?_⟩)), (by repeat (first | exact SubH.nilR _ | refine SubH.pick (by repeat (first | exact HTake.here | apply HTake.there)) ?_))⟩
        · by_cases hjl : j < s.length
          · obtain ⟨e, he⟩ := get_some hjl
            rw [he]
            by_cases h64 : e.toNat = 64
            · have e64 : e = 64 := UInt8.toNat_inj.1 h64
              rw [e64, if_pos rfl]
              (repeat' (first | refine k_seq ?_ | refine k_region ?_ | refine k_nil ?_ | refine k_then ?_ | refine k_false ?_ | refine k_skip ?_ | refine s_grun ?_ | refine s_move ?_ | refine s_geq_f ?_ | refine s_neq_f ?_ | refine s_pickf ?_ | refine s_lens ?_ | refine s_index ?_))
              refine k_midx (fun k : Nat => [(0, str s), (1, inat i), (7, inat k)]) (fun _ => []) (fun k => R = some k) ?_ ?_
              · (repeat' (first | refine k_blk ?_))
                refine k_loop (fun x : DT => [(0, str s), (1, inat i), (7, inat x.a)]) (fun _ => []) (fun x => domsM s x.f x.a = R ∧ x.a < s.length ∧ s.length < x.a + x.f) (fun x => s.length - x.a) ⟨j, s.length + 1⟩ ⟨hR.symm, hjl, by dsimp only; omega⟩ (Knows.spec (by repeat (first | exact trivial | refine ⟨rfl, ?_⟩))) (by repeat (first | exact SubH.nilR _ | refine SubH.pick (by repeat (first | exact HTake.here | apply HTake.there)) ?_)) fun x hx => ?_
                obtain ⟨a, f⟩ := x
                obtain ⟨i1, i2, i3⟩ := hx
                dsimp only at i1 i2 i3 ⊢
                obtain ⟨f, rfl⟩ : ∃ f', f = f' + 1 := ⟨f - 1, by omega⟩
                have hS := skipDomG_tr (s.drop (a + 1)) (by rw [List.length_drop]; omega)
                unfold domsM at i1
                cases hn : skipDomM (s.drop (a + 1)) with
                | none =>
                  rw [hn] at i1 hS
                  dsimp only at i1 hS
                  rw [← i1]
                  (repeat' (first | refine s_pure (hS) ?_ | refine k_seq ?_ | refine k_region ?_ | refine k_nil ?_ | refine k_then ?_ | refine k_true ?_ | refine k_blk ?_ | refine k_ret ?_ | refine k_ret_then ?_ | refine k_ret_block ?_ | refine s_move ?_ | refine s_assign ?_ | refine s_add1 ?_ | refine s_ext ?_ | refine s_slicef ?_ | refine s_notf ?_))
                  exact e_ret _ ⟨0, rfl, rfl⟩ (by repeat (first | exact SubH.nilR _ | refine SubH.pick (by repeat (first | exact HTake.here | apply HTake.there)) ?_))
                | some n =>
                  rw [hn] at i1 hS
                  dsimp only at i1 hS
                  have hnl := skipDomM_le hn
                  rw [List.length_drop] at hnl
                  by_cases hbl : a + 1 + n < s.length
                  · obtain ⟨g, hg⟩ := get_some hbl
                    rw [hg] at i1
                    dsimp only at i1
                    by_cases h62 : g.toNat = 62
                    · rw [if_pos h62] at i1
                      (repeat' (first | refine s_pure (hS) ?_ | refine k_seq ?_ | refine k_region ?_ | refine k_nil ?_ | refine k_then ?_ | refine k_true ?_ | refine k_false ?_ | refine k_blk ?_ | refine k_skip ?_ | refine k_exit ?_ | refine k_exit_then ?_ | refine k_hit ?_ | refine k_miss ?_ | refine s_grun ?_ | refine s_move ?_ | refine s_assign ?_ | refine s_add1 ?_ | refine s_add ?_ | refine s_geq_f ?_ | refine s_eql_t ?_ | refine s_neq_t ?_ | refine s_neq_f ?_ | refine s_pickt ?_ | refine s_pickf ?_ | refine s_lens ?_ | refine s_index ?_ | refine s_ext ?_ | refine s_slicef ?_ | refine s_nott ?_))
                      exact ⟨a + 1 + n, (by repeat (first | exact trivial | refine ⟨rfl, ?_⟩)), (by repeat (first | exact SubH.nilR _ | refine SubH.pick (by repeat (first | exact HTake.here | apply HTake.there)) ?_)), i1.symm⟩
                    · rw [if_neg h62] at i1
                      by_cases h46 : g.toNat = 46
                      · rw [if_pos h46] at i1
                        (repeat' (first | refine s_pure (hS) ?_ | refine k_seq ?_ | refine k_region ?_ | refine k_nil ?_ | refine k_then ?_ | refine k_false ?_ | refine k_blk ?_ | refine k_skip ?_ | refine k_block ?_ | refine s_grun ?_ | refine s_gskipt ?_ | refine s_move ?_ | refine s_assign ?_ | refine s_add1 ?_ | refine s_add ?_ | refine s_geq_f ?_ | refine s_eql_f ?_ | refine s_neq_f ?_ | refine s_pickf ?_ | refine s_lens ?_ | refine s_index ?_ | refine s_ext ?_ | refine s_slicef ?_ | refine s_nott ?_))
                        exact ⟨⟨a + 1 + n, f⟩, (Knows.spec (by repeat (first | exact trivial | refine ⟨rfl, ?_⟩))), (by repeat (first | exact SubH.nilR _ | refine SubH.pick (by repeat (first | exact HTake.here | apply HTake.there)) ?_)), ⟨i1, hbl, by dsimp only; omega⟩, by dsimp only; omega⟩
                      · rw [if_neg h46] at i1
                        rw [← i1]
                        (repeat' (first | refine s_pure (hS) ?_ | refine k_seq ?_ | refine k_region ?_ | refine k_nil ?_ | refine k_then ?_ | refine k_true ?_ | refine k_false ?_ | refine k_blk ?_ | refine k_skip ?_ | refine k_ret ?_ | refine k_ret_then ?_ | refine k_ret_block ?_ | refine s_grun ?_ | refine s_move ?_ | refine s_assign ?_ | refine s_add1 ?_ | refine s_add ?_ | refine s_geq_f ?_ | refine s_neq_t ?_ | refine s_pickt ?_ | refine s_pickf ?_ | refine s_lens ?_ | refine s_index ?_ | refine s_ext ?_ | refine s_slicef ?_ | refine s_nott ?_))
                        exact e_ret _ ⟨0, rfl, rfl⟩ (by repeat (first | exact SubH.nilR _ | refine SubH.pick (by repeat (first | exact HTake.here | apply HTake.there)) ?_))
                  · rw [List.getElem?_eq_none (by omega)] at i1
                    dsimp only at i1
                    rw [← i1]
                    (repeat' (first | refine s_pure (hS) ?_ | refine k_seq ?_ | refine k_region ?_ | refine k_nil ?_ | refine k_then ?_ | refine k_true ?_ | refine k_false ?_ | refine k_blk ?_ | refine k_skip ?_ | refine k_ret ?_ | refine k_ret_then ?_ | refine k_ret_block ?_ | refine s_gskipf ?_ | refine s_gskipu ?_ | refine s_move ?_ | refine s_assign ?_ | refine s_add1 ?_ | refine s_add ?_ | refine s_geq_t ?_ | refine s_pickt ?_ | refine s_lens ?_ | refine s_ext ?_ | refine s_slicef ?_ | refine s_nott ?_))
                    exact e_ret _ ⟨0, rfl, rfl⟩ (by repeat (first | exact SubH.nilR _ | refine SubH.pick (by repeat (first | exact HTake.here | apply HTake.there)) ?_))
              · rintro k hk
                have hkl := domsM_lt (hR.symm.trans hk)
                rw [hk]
                have hsl : ((s.take k).drop (i + 1)).length ≤ s.length := by rw [List.length_drop, List.length_take]; omega
                (repeat' (first | refine s_addsx ?_ | refine k_seq ?_ | refine k_region ?_ | refine k_nil ?_ | refine k_then ?_ | refine k_ret ?_ | refine s_move ?_ | refine s_assign ?_ | refine s_add1 ?_ | refine s_slices ?_ | refine s_mki ?_ | refine s_buildx ?_ | refine s_box (fun _ => ?_)))
                rename_i q
                exact e_ret _ ⟨q, rfl, rfl⟩ (by repeat (first | exact SubH.nilR _ | refine SubH.pick (by repeat (first | exact HTake.here | apply HTake.there)) ?_))
            · rw [if_neg (fun h => by cases h; exact h64 rfl)]
              (repeat' (first | refine k_seq ?_ | refine k_region ?_ | refine k_nil ?_ | refine k_then ?_ | refine k_true ?_ | refine k_ret ?_ | refine k_ret_then ?_ | refine s_grun ?_ | refine s_move ?_ | refine s_assign ?_ | refine s_geq_f ?_ | refine s_neq_t ?_ | refine s_pickf ?_ | refine s_lens ?_ | refine s_index ?_))
              exact e_ret _ ⟨0, rfl, rfl⟩ (by repeat (first | exact SubH.nilR _ | refine SubH.pick (by repeat (first | exact HTake.here | apply HTake.there)) ?_))
          · rw [List.getElem?_eq_none (by omega), if_neg (by simp)]
            (repeat' (first | refine k_seq ?_ | refine k_region ?_ | refine k_nil ?_ | refine k_then ?_ | refine k_true ?_ | refine k_ret ?_ | refine k_ret_then ?_ | refine s_gskipf ?_ | refine s_move ?_ | refine s_assign ?_ | refine s_geq_t ?_ | refine s_pickt ?_ | refine s_lens ?_))
            exact e_ret _ ⟨0, rfl, rfl⟩ (by repeat (first | exact SubH.nilR _ | refine SubH.pick (by repeat (first | exact HTake.here | apply HTake.there)) ?_))
    · rw [if_neg (by rintro ⟨h, _⟩; exact h60 h)]
      refine Tr.start (n := 102) (rs := [.tmp 4, .tmp 5, .tmp 6]) rfl rfl rfl rfl fun B => ?_
      (repeat' (first | refine k_seq ?_ | refine k_region ?_ | refine k_nil ?_ | refine k_then ?_ | refine k_true ?_ | refine k_ret ?_ | refine k_ret_then ?_ | refine s_grun ?_ | refine s_gskipf ?_ | refine s_move ?_ | refine s_assign ?_ | refine s_add1 ?_ | refine s_geq_f ?_ | refine s_neq_t ?_ | refine s_pickt ?_ | refine s_pickf ?_ | refine s_lens ?_ | refine s_index ?_))
      exact e_ret _ ⟨0, rfl, rfl⟩ (by repeat (first | exact SubH.nilR _ | refine SubH.pick (by repeat (first | exact HTake.here | apply HTake.there)) ?_))
  · rw [List.getElem?_eq_none (show s.length ≤ i + 1 by omega)]
    have e : ∀ (o : Option UInt8) (f : UInt8 → UInt8 → Option Nat), (match o, (none : Option UInt8) with
      | some c, some d => f c d
      | _, _ => none) = (none : Option Nat) := fun o f => by cases o <;> rfl
    rw [e]
    refine Tr.start (n := 102) (rs := [.tmp 4, .tmp 5, .tmp 6]) rfl rfl rfl rfl fun B => ?_
    (repeat' (first | refine k_seq ?_ | refine k_region ?_ | refine k_nil ?_ | refine k_then ?_ | refine k_true ?_ | refine k_ret ?_ | refine k_ret_then ?_ | refine s_gskipf ?_ | refine s_move ?_ | refine s_assign ?_ | refine s_add1 ?_ | refine s_geq_t ?_ | refine s_pickt ?_ | refine s_lens ?_))
    exact e_ret _ ⟨0, rfl, rfl⟩ (by repeat (first | exact SubH.nilR _ | refine SubH.pick (by repeat (first | exact HTake.here | apply HTake.there)) ?_))

/-- What stands between angle brackets: the inline, and the place behind it. -/
def angM (s : List UInt8) (i : Nat) : Option (LIt × Nat) := match autoURIM s i with
  | some j => some (⟨255, 257, [str ((s.take j).drop (i + 1)), str ((s.take j).drop (i + 1))]⟩, j + 1)
  | none => match emailM s i with
    | some j => some (⟨255, 257, [str ((s.take j).drop (i + 1)), str ([109, 97, 105, 108, 116, 111, 58] ++ (s.take j).drop (i + 1))]⟩, j + 1)
    | none => match htmlTagM s i with
      | some j => some (⟨279, 280, [str ((s.take j).drop i)]⟩, j)
      | none => none
/-- The values that a parser of inlines gives, and the memory of what it gives. -/
def inlV (q i : Nat) : Option (LIt × Nat) → Value
  | some (x, j) => .tuple #[.iface x.ty (lp q), inat i, inat j, .bool true]
  | none => .tuple #[.nilIface, inat 0, inat 0, .bool false]
def inlK (q : Nat) : Option (LIt × Nat) → Heap
  | some (x, _) => [[x.cell q]]
  | none => []
theorem angM_lt {s : List UInt8} {i : Nat} {x : LIt} {k : Nat} (h : angM s i = some (x, k)) : i < k ∧ k ≤ s.length := by
  unfold angM at h
  split at h
  · rename_i j hj
    have := autoURIM_lt hj
    have h2 := congrArg Prod.snd (Option.some.inj h)
    dsimp only at h2
    omega
  · split at h
    · rename_i j hj
      have := emailM_lt hj
      have h2 := congrArg Prod.snd (Option.some.inj h)
      dsimp only at h2
      omega
    · split at h
      · rename_i j hj
        have := htmlTagM_lt hj
        have h2 := congrArg Prod.snd (Option.some.inj h)
        dsimp only at h2
        omega
      · cases h
theorem angG_tr (p : Nat) (st : PS) (s : List UInt8) (i : Nat) (hl : s.length ≤ 1000000) (hi : i ≤ s.length) (cn : Bool) (hcn : st.corner = .bool cn) :
    Tr Tryz.prog 62 [lp p, str s, inat i] [st.blk p] fun u K => ∃ q cn', u = inlV q i (angM s i) ∧ K = ({ st with corner := .bool cn' } : PS).blk p :: inlK q (angM s i) := by
  obtain ⟨par, root, links, lineno, stack, depth, corner, sv, em, list, lists, texts, bt⟩ := st
  subst hcn
  unfold angM
  refine Tr.start (n := 53) (rs := [.tmp 6, .tmp 7, .tmp 8, .tmp 9]) rfl rfl rfl rfl fun B => ?_
  (repeat' (first | refine k_seq ?_ | refine k_region ?_ | refine k_nil ?_ | refine k_then ?_ | refine s_move ?_ | refine s_assign ?_))
  refine s_call (autoURIG_tr s i hl hi) (fun u K hR => ?_)
  obtain ⟨q, rfl, rfl⟩ := hR
  cases h1 : autoURIM s i with
  | some j =>
    dsimp only
    (repeat' (first | refine k_seq ?_ | refine k_region ?_ | refine k_nil ?_ | refine k_then ?_ | refine k_true ?_ | refine k_ret ?_ | refine k_ret_then ?_ | refine s_move ?_ | refine s_assign ?_ | refine s_ext ?_))
    exact e_ret _ ⟨q, cn, rfl, rfl⟩ (by repeat (first | exact SubH.nilR _ | refine SubH.pick (by repeat (first | exact HTake.here | apply HTake.there)) ?_))
  | none =>
    dsimp only
    (repeat' (first | refine k_seq ?_ | refine k_region ?_ | refine k_nil ?_ | refine k_then ?_ | refine k_false ?_ | refine k_skip ?_ | refine s_move ?_ | refine s_assign ?_ | refine s_ext ?_))
    refine s_call (emailG_tr s i hl hi) (fun u K hR => ?_)
    obtain ⟨q, rfl, rfl⟩ := hR
    cases h2 : emailM s i with
    | some j =>
      dsimp only
      (repeat' (first | refine k_seq ?_ | refine k_region ?_ | refine k_nil ?_ | refine k_then ?_ | refine k_true ?_ | refine k_ret ?_ | refine k_ret_then ?_ | refine s_move ?_ | refine s_assign ?_ | refine s_ext ?_))
      exact e_ret _ ⟨q, cn, rfl, rfl⟩ (by repeat (first | exact SubH.nilR _ | refine SubH.pick (by repeat (first | exact HTake.here | apply HTake.there)) ?_))
    | none =>
      dsimp only
      (repeat' (first | refine k_seq ?_ | refine k_region ?_ | refine k_nil ?_ | refine k_then ?_ | refine k_false ?_ | refine k_skip ?_ | refine s_move ?_ | refine s_assign ?_ | refine s_ext ?_))
      refine s_call (htmlTagG_tr p _ s i hl hi cn rfl) (fun u K hR => ?_)
      obtain ⟨q, cn', rfl, rfl⟩ := hR
      cases h3 : htmlTagM s i with
      | some j =>
        dsimp only
        (repeat' (first | refine k_seq ?_ | refine k_region ?_ | refine k_nil ?_ | refine k_then ?_ | refine k_true ?_ | refine k_ret ?_ | refine k_ret_then ?_ | refine s_move ?_ | refine s_assign ?_ | refine s_ext ?_))
        exact e_ret _ ⟨q, cn', rfl, rfl⟩ (by repeat (first | exact SubH.nilR _ | refine SubH.pick (by repeat (first | exact HTake.here | apply HTake.there)) ?_))
      | none =>
        dsimp only
        (repeat' (first | refine k_seq ?_ | refine k_region ?_ | refine k_nil ?_ | refine k_then ?_ | refine k_false ?_ | refine k_skip ?_ | refine k_ret ?_ | refine s_move ?_ | refine s_assign ?_ | refine s_ext ?_))
        exact e_ret _ ⟨q, cn', rfl, rfl⟩ (by repeat (first | exact SubH.nilR _ | refine SubH.pick (by repeat (first | exact HTake.here | apply HTake.there)) ?_))
end Go.Proofs

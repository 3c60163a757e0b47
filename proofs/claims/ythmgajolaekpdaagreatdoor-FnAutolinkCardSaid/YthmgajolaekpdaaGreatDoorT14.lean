/- inline of a text of literal bytes and runs. Conditions: TkOK, and contracts of emph and mergePlain for its items. strings.IndexByte, and laws.only. Conditions: bounds on the length. laws.FnSeven returns true whatever the arguments. Condition: the text's length is that of a Go string. -/
import Derived.Test.YthmgajolaekpdaaGreatDoorT12
import Derived.Test.YthmgajolaekpdaaGreatDoorT05
import Derived.Test.YthmgajolaekpdaaGreatDoorEngB
import Derived.Lib.IndexLaws
import Derived.Laws.StandIn
import Derived.Test.YthmgajolaekpdaaGreatDoorT09
import Derived.Test.YthmgajolaekpdaaGreatDoorT10
import Derived.Test.YthmgajolaekpdaaGreatDoorT13
namespace Go.Proofs
open Go Go.Eng
set_option maxRecDepth 20000
set_option maxHeartbeats 8000000

theorem run_text {tx : List UInt8} {i n : Nat} {r b a : UInt8} (h : Run tx i n r b a) : (tx.take (i + n)).drop i = List.replicate n r := by
  have hlen := (List.getElem?_eq_some_iff.1 h.aft).1
  apply List.ext_getElem?
  intro k
  rw [List.getElem?_drop, List.getElem?_take, List.getElem?_replicate]
  by_cases hk : k < n
  · rw [if_pos (by omega), if_pos hk]; exact h.run k hk
  · rw [if_neg (by omega), if_neg hk]

theorem w_sub {B : Base} {n : Nat} {L : Eng.Loc} {H H' : Heap} {Q : Eng.Post} {c : Code} (hs : SubH H H') (h : Wp Tryz.prog B n c L H' Q) : Wp Tryz.prog B n c L H Q :=
  ⟨fun a w ha hw => h.run a w ha (hw.sub hs)⟩

theorem inlineT_tr (p pr : Nat) (o : PO) (s : PS) (toks : List Tk) (hok : TkOK o toks) (cn0 : Bool) (hcn : s.corner = .bool cn0)
    (hq1 : o.dots = false) (hq2 : o.dashes = false) (hq5 : o.emoji = false) (hq6 : o.auto = false) (hpar : s.par = lp pr)
    (M : Nat → List Value → Blk → Prop) (IL : Option Addr → Nat → Nat → Blk → Prop)
    (hE : ∀ (g cap : Nat) (cur vals : List Value) (IB : Blk), ItsT (itemsT toks) vals IB → (itemsT toks).length ≤ cap → cur.length = cap → cur.take (itemsT toks).length = vals →
      Tr Tryz.prog 75 [lp p, .slice (some ⟨g, 0, none⟩) 0 cap, .slice (some ⟨g, 0, none⟩) (itemsT toks).length cap] [[(g, cellsOf cur 125)], IB] fun u K => ∃ im cur' G, u = .slice (some ⟨g, 0, none⟩) im cap ∧ cur'.length = cap ∧ im ≤ cap ∧ M im cur' G ∧ K = [[(g, cellsOf cur' 125)], G])
    (hM : ∀ (g cap im : Nat) (cur : List Value) (G : Blk), cur.length = cap → im ≤ cap → M im cur G → Tr Tryz.prog 76 [lp p, .slice (some ⟨g, 0, none⟩) im cap] [[(g, cellsOf cur 125)], G] fun u K => ∃ ja jm jc G', u = .slice ja jm jc ∧ IL ja jm jc G' ∧ K = [G']) :
    Tr Tryz.prog 50 [lp p, str (bytesT toks)] [s.blk p, o.blk pr] fun u K => ∃ (s' : PS) (ia : Option Addr) (im ic : Nat) (G : Blk), u = .slice ia im ic ∧ IL ia im ic G ∧ s'.par = s.par ∧ s'.root = s.root ∧ K = [s'.blk p, o.blk pr, G] := by
  obtain ⟨par, root, links, lineno, stack, depth, corner, sv, em, list, lists, texts, bt⟩ := s
  obtain ⟨o1, o2, o3, o4, o5, o6, o7, o8, o9, o10⟩ := o
  subst hq1; subst hq2; subst hq5; subst hq6; subst hpar; subst hcn
  have hlen0 := hok.len
  have hl' : (bytesT toks).length ≤ 140737488355328 := by omega
  have hbt := btrim_tr (bytesT toks) hl'
  rw [hok.trim] at hbt
  refine Tr.start (n := 335) (rs := [.tmp 4]) rfl rfl rfl rfl fun B => ?_
  (repeat' (first | refine s_pure (hbt) ?_ | refine k_seq ?_ | refine k_region ?_ | refine k_nil ?_ | refine k_then ?_ | refine s_move ?_ | refine s_assign ?_ | refine s_field ?_ | refine s_nilp ?_ | refine s_store ?_))
  refine k_midx (fun x : LT => [(0, lp p), (1, str (bytesT toks))]) (fun x => [(⟨lp pr, root, links, lineno, stack, depth, .bool x.cn, str (bytesT toks), inat x.e, x.v, lists, texts, bt⟩ : PS).blk p, (⟨o1, o2, o3, false, o5, o6, false, false, false, o10⟩ : PO).blk pr, x.LB, x.IB]) (fun x => x.r = [] ∧ toks = x.d ++ x.r ∧ x.e ≤ (bytesT x.d).length ∧ ((bytesT toks).take (bytesT x.d).length).drop x.e = (stT x.d).2 ∧ ItsT (stT x.d).1 x.vals x.IB ∧ Inls x.v x.vals x.LB ∧ x.vals.length ≤ x.e) ?_ ?_
  · (repeat' (first | refine k_blk ?_))
    refine k_loop (fun x : LT => [(0, lp p), (1, str (bytesT toks)), (5, .slice none 0 0), (6, .int .i64 0), (7, .bool false), (8, inat (bytesT x.d).length)]) (fun x => [(⟨lp pr, root, links, lineno, stack, depth, .bool x.cn, str (bytesT toks), inat x.e, x.v, lists, texts, bt⟩ : PS).blk p, (⟨o1, o2, o3, false, o5, o6, false, false, false, o10⟩ : PO).blk pr, x.LB, x.IB])
      (fun x => toks = x.d ++ x.r ∧ x.e ≤ (bytesT x.d).length ∧ ((bytesT toks).take (bytesT x.d).length).drop x.e = (stT x.d).2 ∧ ItsT (stT x.d).1 x.vals x.IB ∧ Inls x.v x.vals x.LB ∧ x.vals.length ≤ x.e) (fun x => x.r.length) ⟨[], toks, 0, cn0, [], .slice none 0 0, [], []⟩ ⟨rfl, Nat.le_refl _, by simp [bytesT], .nil, Own.nil _ _, Nat.le_refl _⟩ (Knows.spec (by repeat (first | exact trivial | refine ⟨rfl, ?_⟩))) (SubH.trans (H' := [_, _]) (by repeat (first | exact SubH.nilR _ | refine SubH.pick (by repeat (first | exact HTake.here | apply HTake.there)) ?_)) SubH.nil2) fun x hx => ?_
    obtain ⟨d, r, e, cn, vals, v, LB, IB⟩ := x
    obtain ⟨i1, i2, i3, i4, i5, i6⟩ := hx
    simp only at i1 i2 i3 i4 i5 i6 ⊢
    cases r with
    | nil =>
      have hd : d = toks := by simpa using i1.symm
      subst hd
      (repeat' (first | refine k_seq ?_ | refine k_region ?_ | refine k_nil ?_ | refine k_then ?_ | refine k_false ?_ | refine k_exit ?_ | refine k_exit_then ?_ | refine k_hit ?_ | refine s_move ?_ | refine s_lss_f ?_ | refine s_lens ?_))
      exact ⟨⟨d, [], e, cn, vals, v, LB, IB⟩, (by repeat (first | exact trivial | refine ⟨rfl, ?_⟩)), (by repeat (first | exact SubH.nilR _ | refine SubH.pick (by repeat (first | exact HTake.here | apply HTake.there)) ?_)), rfl, (by simp), i2, i3, i4, i5, i6⟩
    | cons t r =>
      have hlen : (bytesT toks).length = (bytesT d).length + t.bytes.length + (bytesT r).length := by rw [i1]; simp [bytesT]; omega
      cases t with
      | lit c =>
        have hc : (bytesT toks)[(bytesT d).length]? = some c := by rw [i1]; exact at_litT d r c
        obtain ⟨hq, hdel⟩ := hok.lit c (by rw [i1]; simp)
        simp only [Tk.bytes, List.length_cons, List.length_nil] at hlen
        have e1 : (bytesT (d ++ [.lit c])).length = (bytesT d).length + 1 := by simp [bytesT, Tk.bytes]
        have fin : toks = (d ++ [.lit c]) ++ r ∧ e ≤ (bytesT (d ++ [.lit c])).length ∧ ((bytesT toks).take (bytesT (d ++ [.lit c])).length).drop e = (stT (d ++ [.lit c])).2 ∧ ItsT (stT (d ++ [.lit c])).1 vals IB ∧ Inls v vals LB ∧ vals.length ≤ e := by
          refine ⟨by simp [i1], by omega, ?_, by rw [stT_snoc]; exact i4, i5, i6⟩
          rw [e1, stT_snoc, take_snoc hc, List.drop_append_of_le_length (by rw [List.length_take]; omega), i3]; rfl
        by_cases h126 : c.toNat = 126
        · have ho2 : o2 = false := hdel h126
          subst ho2
          (repeat' (first | refine k_seq ?_ | refine k_region ?_ | refine k_nil ?_ | refine k_then ?_ | refine k_true ?_ | refine k_false ?_ | refine k_blk ?_ | refine k_skip ?_ | refine k_block ?_ | refine s_gskipt ?_ | refine s_move ?_ | refine s_assign ?_ | refine s_load ?_ | refine s_field ?_ | refine s_nilp ?_ | refine s_add1 ?_ | refine s_lss_t ?_ | refine s_eql_t ?_ | refine s_eql_f ?_ | refine s_pickf ?_ | refine s_lens ?_ | refine s_index ?_ | refine s_nenf ?_))
          exact ⟨⟨d ++ [.lit c], r, e, cn, vals, v, LB, IB⟩, (by simp only [e1]; exact (Knows.spec (by repeat (first | exact trivial | refine ⟨rfl, ?_⟩)))), (by repeat (first | exact SubH.nilR _ | refine SubH.pick (by repeat (first | exact HTake.here | apply HTake.there)) ?_)), fin, (by simp)⟩
        · (repeat' (first | refine k_seq ?_ | refine k_region ?_ | refine k_nil ?_ | refine k_then ?_ | refine k_true ?_ | refine k_false ?_ | refine k_blk ?_ | refine k_skip ?_ | refine k_block ?_ | refine s_gskipt ?_ | refine s_move ?_ | refine s_assign ?_ | refine s_add1 ?_ | refine s_lss_t ?_ | refine s_eql_f ?_ | refine s_pickf ?_ | refine s_lens ?_ | refine s_index ?_ | refine s_nenf ?_))
          exact ⟨⟨d ++ [.lit c], r, e, cn, vals, v, LB, IB⟩, (by simp only [e1]; exact (Knows.spec (by repeat (first | exact trivial | refine ⟨rfl, ?_⟩)))), (by repeat (first | exact SubH.nilR _ | refine SubH.pick (by repeat (first | exact HTake.here | apply HTake.there)) ?_)), fin, (by simp)⟩
      | run c n ob =>
        obtain ⟨hp0, ⟨b, a, hR, hob⟩, hdel, hquo⟩ := hok.run d r c n ob i1
        have hc : (bytesT toks)[(bytesT d).length]? = some c := by
          have := hR.run 0 (by rcases hR.kind with h | h | h | h <;> omega)
          simpa using this
        simp only [Tk.bytes, List.length_replicate] at hlen
        have e1 : (bytesT (d ++ [.run c n ob])).length = (bytesT d).length + n := by simp [bytesT, Tk.bytes]
        have hei : e < (bytesT d).length := by
          refine Classical.byContradiction fun hge => hp0 ?_
          rw [← i3]
          exact List.drop_eq_nil_of_le (by rw [List.length_take]; omega)
        have hob2 : decide (b.toNat ≠ 32) = !ob := by rw [← hob]; simp
        have hP := fun s' hs' => parseEmph_tr p s' (bytesT toks) (bytesT d).length n c b a cn hs' (by omega) hR
        simp only [run_text hR, hob, hob2] at hP
        have hkk : c.toNat = 126 ∨ c.toNat = 34 ∨ c.toNat = 39 := by rcases hR.kind with h | h | h | h <;> omega
        have hn12 : 1 ≤ n ∧ n ≤ 2 := by rcases hR.kind with h | h | h | h <;> omega
        rcases hkk with hk | hk | hk
        · have ho := hdel hk
          simp only at ho
          subst ho
          (repeat' (first | refine k_seq ?_ | refine k_region ?_ | refine k_nil ?_ | refine k_then ?_ | refine k_true ?_ | refine k_false ?_ | refine k_blk ?_ | refine k_skip ?_ | refine k_block ?_ | refine s_move ?_ | refine s_assign ?_ | refine s_load ?_ | refine s_field ?_ | refine s_nilp ?_ | refine s_lss_t ?_ | refine s_eql_t ?_ | refine s_eql_f ?_ | refine s_lens ?_ | refine s_index ?_ | refine s_nefn ?_))
          refine s_valR (hP _ rfl) (fun u K hR => ?_)
          obtain ⟨q, cn', rfl, rfl⟩ := hR
          (repeat' (first | refine k_seq ?_ | refine k_region ?_ | refine k_nil ?_ | refine k_then ?_ | refine k_true ?_ | refine s_move ?_ | refine s_assign ?_ | refine s_ext ?_))
          refine s_call (emitP p (bytesT d).length e _ (bytesT toks) vals LB rfl rfl hei (by omega) hl' i5 (by omega)) (fun u K hR => ?_)
          obtain ⟨rfl, q2, v', LB', hL', rfl⟩ := hR
          (repeat' (first | refine k_seq ?_ | refine k_region ?_ | refine k_nil ?_ | refine k_then ?_ | refine k_false ?_ | refine k_skip ?_ | refine s_move ?_ | refine s_assign ?_ | refine s_load ?_ | refine s_field ?_ | refine s_nilp ?_ | refine s_ext ?_ | refine s_asno ?_ | refine s_bsl1 (fun _ => ?_)))
          refine s_app hL' (by simp only [List.length_append, List.length_cons, List.length_nil]; omega) (fun v2 LB2 hL2 => ?_)
          obtain ⟨g2, cap2, cur2, rfl, rfl, k1, k2, k3, k4⟩ := hL2.pos
          (repeat' (first | refine s_callD (skip_tr p ((bytesT d).length + n) (⟨lp pr, root, links, lineno, stack, depth, .bool cn', str (bytesT toks), inat (bytesT d).length, .slice (some ⟨g2, 0, none⟩) ((vals ++ [Value.iface 149 (lp q2)]).length + 1) cap2, lists, texts, bt⟩ : PS)) ?_ | refine k_seq ?_ | refine k_region ?_ | refine k_nil ?_ | refine k_then ?_ | refine k_exit ?_ | refine k_exit_then ?_ | refine k_hit ?_ | refine s_move ?_ | refine s_assign ?_ | refine s_field ?_ | refine s_nilp ?_ | refine s_store ?_))
          have hL3 : Inls (.slice (some ⟨g2, 0, none⟩) ((vals ++ [Value.iface 149 (lp q2)]).length + 1) cap2) ((vals ++ [Value.iface 149 (lp q2)]) ++ [.iface 183 (lp q)]) [(g2, cellsOf cur2 125)] := by simpa [Inls] using hL2
          refine ⟨⟨d ++ [.run c n ob], r, (bytesT d).length + n, cn', (vals ++ [Value.iface 149 (lp q2)]) ++ [.iface 183 (lp q)], _, _, It.cell (.emph (List.replicate n c) ob (!ob) n) q :: It.cell (.plain (((bytesT toks).take (bytesT d).length).drop e)) q2 :: IB⟩, (by simp only [e1]; exact (Knows.spec (by repeat (first | exact trivial | refine ⟨rfl, ?_⟩)))), SubH.trans (H' := [_, _, _, [It.cell (.emph (List.replicate n c) ob (!ob) n) q], [It.cell (.plain (((bytesT toks).take (bytesT d).length).drop e)) q2], IB]) (by repeat (first | exact SubH.nilR _ | refine SubH.pick (by repeat (first | exact HTake.here | apply HTake.there)) ?_)) (SubH.keep (SubH.keep (SubH.keep (SubH.trans (SubH.keep SubH.join) SubH.join)))), ⟨by simp [i1], by simp only [e1]; exact Nat.le_refl _, ?_, ?_, hL3, ?_⟩, by simp⟩
          · simp only [e1]
            rw [stT_snoc]
            exact List.drop_eq_nil_of_le (by rw [List.length_take]; omega)
          · simp only []
            rw [stT_snoc]
            simp only [Tk.step, if_neg hp0]
            rw [i3]
            exact .snoc (.emph (List.replicate n c) ob (!ob) n) q (.snoc (.plain (stT d).2) q2 i4)
          · simp only [List.length_append, List.length_cons, List.length_nil]; omega
        · have ho := hquo (by omega)
          simp only at ho
          subst ho
          (repeat' (first | refine k_seq ?_ | refine k_region ?_ | refine k_nil ?_ | refine k_then ?_ | refine k_true ?_ | refine k_false ?_ | refine k_blk ?_ | refine k_skip ?_ | refine k_block ?_ | refine s_move ?_ | refine s_assign ?_ | refine s_load ?_ | refine s_field ?_ | refine s_nilp ?_ | refine s_lss_t ?_ | refine s_eql_t ?_ | refine s_eql_f ?_ | refine s_lens ?_ | refine s_index ?_ | refine s_nefn ?_))
          refine s_valR (hP _ rfl) (fun u K hR => ?_)
          obtain ⟨q, cn', rfl, rfl⟩ := hR
          (repeat' (first | refine k_seq ?_ | refine k_region ?_ | refine k_nil ?_ | refine k_then ?_ | refine k_true ?_ | refine s_move ?_ | refine s_assign ?_ | refine s_ext ?_))
          refine s_call (emitP p (bytesT d).length e _ (bytesT toks) vals LB rfl rfl hei (by omega) hl' i5 (by omega)) (fun u K hR => ?_)
          obtain ⟨rfl, q2, v', LB', hL', rfl⟩ := hR
          (repeat' (first | refine k_seq ?_ | refine k_region ?_ | refine k_nil ?_ | refine k_then ?_ | refine k_false ?_ | refine k_skip ?_ | refine s_move ?_ | refine s_assign ?_ | refine s_load ?_ | refine s_field ?_ | refine s_nilp ?_ | refine s_ext ?_ | refine s_asno ?_ | refine s_bsl1 (fun _ => ?_)))
          refine s_app hL' (by simp only [List.length_append, List.length_cons, List.length_nil]; omega) (fun v2 LB2 hL2 => ?_)
          obtain ⟨g2, cap2, cur2, rfl, rfl, k1, k2, k3, k4⟩ := hL2.pos
          (repeat' (first | refine s_callD (skip_tr p ((bytesT d).length + n) (⟨lp pr, root, links, lineno, stack, depth, .bool cn', str (bytesT toks), inat (bytesT d).length, .slice (some ⟨g2, 0, none⟩) ((vals ++ [Value.iface 149 (lp q2)]).length + 1) cap2, lists, texts, bt⟩ : PS)) ?_ | refine k_seq ?_ | refine k_region ?_ | refine k_nil ?_ | refine k_then ?_ | refine k_exit ?_ | refine k_exit_then ?_ | refine k_hit ?_ | refine s_move ?_ | refine s_assign ?_ | refine s_field ?_ | refine s_nilp ?_ | refine s_store ?_))
          have hL3 : Inls (.slice (some ⟨g2, 0, none⟩) ((vals ++ [Value.iface 149 (lp q2)]).length + 1) cap2) ((vals ++ [Value.iface 149 (lp q2)]) ++ [.iface 183 (lp q)]) [(g2, cellsOf cur2 125)] := by simpa [Inls] using hL2
          refine ⟨⟨d ++ [.run c n ob], r, (bytesT d).length + n, cn', (vals ++ [Value.iface 149 (lp q2)]) ++ [.iface 183 (lp q)], _, _, It.cell (.emph (List.replicate n c) ob (!ob) n) q :: It.cell (.plain (((bytesT toks).take (bytesT d).length).drop e)) q2 :: IB⟩, (by simp only [e1]; exact (Knows.spec (by repeat (first | exact trivial | refine ⟨rfl, ?_⟩)))), SubH.trans (H' := [_, _, _, [It.cell (.emph (List.replicate n c) ob (!ob) n) q], [It.cell (.plain (((bytesT toks).take (bytesT d).length).drop e)) q2], IB]) (by repeat (first | exact SubH.nilR _ | refine SubH.pick (by repeat (first | exact HTake.here | apply HTake.there)) ?_)) (SubH.keep (SubH.keep (SubH.keep (SubH.trans (SubH.keep SubH.join) SubH.join)))), ⟨by simp [i1], by simp only [e1]; exact Nat.le_refl _, ?_, ?_, hL3, ?_⟩, by simp⟩
          · simp only [e1]
            rw [stT_snoc]
            exact List.drop_eq_nil_of_le (by rw [List.length_take]; omega)
          · simp only []
            rw [stT_snoc]
            simp only [Tk.step, if_neg hp0]
            rw [i3]
            exact .snoc (.emph (List.replicate n c) ob (!ob) n) q (.snoc (.plain (stT d).2) q2 i4)
          · simp only [List.length_append, List.length_cons, List.length_nil]; omega
        · have ho := hquo (by omega)
          simp only at ho
          subst ho
          (repeat' (first | refine k_seq ?_ | refine k_region ?_ | refine k_nil ?_ | refine k_then ?_ | refine k_true ?_ | refine k_false ?_ | refine k_blk ?_ | refine k_skip ?_ | refine k_block ?_ | refine s_move ?_ | refine s_assign ?_ | refine s_load ?_ | refine s_field ?_ | refine s_nilp ?_ | refine s_lss_t ?_ | refine s_eql_t ?_ | refine s_eql_f ?_ | refine s_lens ?_ | refine s_index ?_ | refine s_nefn ?_))
          refine s_valR (hP _ rfl) (fun u K hR => ?_)
          obtain ⟨q, cn', rfl, rfl⟩ := hR
          (repeat' (first | refine k_seq ?_ | refine k_region ?_ | refine k_nil ?_ | refine k_then ?_ | refine k_true ?_ | refine s_move ?_ | refine s_assign ?_ | refine s_ext ?_))
          refine s_call (emitP p (bytesT d).length e _ (bytesT toks) vals LB rfl rfl hei (by omega) hl' i5 (by omega)) (fun u K hR => ?_)
          obtain ⟨rfl, q2, v', LB', hL', rfl⟩ := hR
          (repeat' (first | refine k_seq ?_ | refine k_region ?_ | refine k_nil ?_ | refine k_then ?_ | refine k_false ?_ | refine k_skip ?_ | refine s_move ?_ | refine s_assign ?_ | refine s_load ?_ | refine s_field ?_ | refine s_nilp ?_ | refine s_ext ?_ | refine s_asno ?_ | refine s_bsl1 (fun _ => ?_)))
          refine s_app hL' (by simp only [List.length_append, List.length_cons, List.length_nil]; omega) (fun v2 LB2 hL2 => ?_)
          obtain ⟨g2, cap2, cur2, rfl, rfl, k1, k2, k3, k4⟩ := hL2.pos
          (repeat' (first | refine s_callD (skip_tr p ((bytesT d).length + n) (⟨lp pr, root, links, lineno, stack, depth, .bool cn', str (bytesT toks), inat (bytesT d).length, .slice (some ⟨g2, 0, none⟩) ((vals ++ [Value.iface 149 (lp q2)]).length + 1) cap2, lists, texts, bt⟩ : PS)) ?_ | refine k_seq ?_ | refine k_region ?_ | refine k_nil ?_ | refine k_then ?_ | refine k_exit ?_ | refine k_exit_then ?_ | refine k_hit ?_ | refine s_move ?_ | refine s_assign ?_ | refine s_field ?_ | refine s_nilp ?_ | refine s_store ?_))
          have hL3 : Inls (.slice (some ⟨g2, 0, none⟩) ((vals ++ [Value.iface 149 (lp q2)]).length + 1) cap2) ((vals ++ [Value.iface 149 (lp q2)]) ++ [.iface 183 (lp q)]) [(g2, cellsOf cur2 125)] := by simpa [Inls] using hL2
          refine ⟨⟨d ++ [.run c n ob], r, (bytesT d).length + n, cn', (vals ++ [Value.iface 149 (lp q2)]) ++ [.iface 183 (lp q)], _, _, It.cell (.emph (List.replicate n c) ob (!ob) n) q :: It.cell (.plain (((bytesT toks).take (bytesT d).length).drop e)) q2 :: IB⟩, (by simp only [e1]; exact (Knows.spec (by repeat (first | exact trivial | refine ⟨rfl, ?_⟩)))), SubH.trans (H' := [_, _, _, [It.cell (.emph (List.replicate n c) ob (!ob) n) q], [It.cell (.plain (((bytesT toks).take (bytesT d).length).drop e)) q2], IB]) (by repeat (first | exact SubH.nilR _ | refine SubH.pick (by repeat (first | exact HTake.here | apply HTake.there)) ?_)) (SubH.keep (SubH.keep (SubH.keep (SubH.trans (SubH.keep SubH.join) SubH.join)))), ⟨by simp [i1], by simp only [e1]; exact Nat.le_refl _, ?_, ?_, hL3, ?_⟩, by simp⟩
          · simp only [e1]
            rw [stT_snoc]
            exact List.drop_eq_nil_of_le (by rw [List.length_take]; omega)
          · simp only []
            rw [stT_snoc]
            simp only [Tk.step, if_neg hp0]
            rw [i3]
            exact .snoc (.emph (List.replicate n c) ob (!ob) n) q (.snoc (.plain (stT d).2) q2 i4)
          · simp only [List.length_append, List.length_cons, List.length_nil]; omega
  · rintro ⟨d, r, e, cn, vals, v, LB, IB⟩ ⟨hr, i1, i2, i3, i4, i5, i6⟩
    simp only at hr i1 i2 i3 i4 i5 i6 ⊢
    subst hr
    have hd : d = toks := by simpa using i1.symm
    subst hd
    rw [List.take_length] at i3
    obtain ⟨d0, c0, hlast⟩ := hok.last
    have hp0 := itemsT_end hlast
    have hei : e < (bytesT d).length := by
      refine Classical.byContradiction fun hge => hp0 ?_
      rw [← i3]
      exact List.drop_eq_nil_of_le (by omega)
    (repeat' (first | refine k_seq ?_ | refine k_region ?_ | refine s_move ?_ | refine s_lens ?_))
    refine s_call (emitP p (bytesT d).length e _ (bytesT d) vals LB rfl rfl hei (Nat.le_refl _) hl' i5 (by omega)) (fun u K hR => ?_)
    obtain ⟨rfl, q2, v', LB', hL', rfl⟩ := hR
    have j1 : ItsT (itemsT d) (vals ++ [.iface 149 (lp q2)]) (It.cell (.plain (((bytesT d).take (bytesT d).length).drop e)) q2 :: IB) := by
      rw [List.take_length, i3]
      exact .snoc (.plain (stT d).2) q2 i4
    have hlenv : (itemsT d).length = vals.length + 1 := by rw [← j1.length, List.length_append]; rfl
    have j2' : Own 125 1 v' (vals.length + 1) (vals ++ [.iface 149 (lp q2)]) LB' := by simpa [Inls] using hL'
    obtain ⟨g, cap, cur, rfl, rfl, k1, k2, k3, k4⟩ := j2'.pos
    have he := hE g cap cur _ _ j1 (by omega) (by omega) (by rw [hlenv, ← k4, Nat.mul_one])
    rw [hlenv] at he
    (repeat' (first | refine k_seq ?_ | refine k_nil ?_ | refine k_then ?_))
    refine w_sub (H' := [(⟨lp pr, root, links, lineno, stack, depth, .bool cn, str (bytesT d), inat (bytesT d).length, .slice (some ⟨g, 0, none⟩) (vals.length + 1) cap, lists, texts, bt⟩ : PS).blk p, (⟨o1, o2, o3, false, o5, o6, false, false, false, o10⟩ : PO).blk pr, [(g, cellsOf cur 125)], It.cell (.plain (((bytesT d).take (bytesT d).length).drop e)) q2 :: IB]) (SubH.trans (H' := [_, _, _, [It.cell (.plain (((bytesT d).take (bytesT d).length).drop e)) q2], IB]) (by repeat (first | exact SubH.nilR _ | refine SubH.pick (by repeat (first | exact HTake.here | apply HTake.there)) ?_)) (SubH.keep (SubH.keep (SubH.keep SubH.join)))) ?_
    refine Wp.draw_till (id := 78) [(⟨lp pr, root, links, lineno, stack, depth, .bool cn, str (bytesT d), inat (bytesT d).length, .slice (some ⟨g, 0, none⟩) (vals.length + 1) cap, lists, texts, bt⟩ : PS).blk p] 14 15 Mixed.out (by repeat (first | exact SubH.nilR _ | refine SubH.pick (by repeat (first | exact HTake.here | apply HTake.there)) ?_)) rfl ?_
    refine OpsK.first 0 _ (by rfl) (by kernel_rfl) rfl (by kernel_rfl) (by kernel_rfl) rfl (by first | exact p_move rfl | exact p_assign rfl | exact p_extract rfl rfl | exact q_fieldAddr rfl | exact p_nilCheck rfl | exact q_load rfl (by repeat (first | exact HMem.here | apply HMem.skip | apply HMem.there)) rfl | exact q_load_agg rfl (by repeat (first | exact HMem.here | apply HMem.skip | apply HMem.there)) (by repeat constructor) | exact q_len_slice rfl | exact q_len_str rfl | exact q_indexAddr rfl rfl (by omega) | exact q_slice_str rfl rfl rfl (by omega) (by omega) | exact q_makeInterface rfl | exact q_assert rfl | exact p_build rfl (by repeat' (first | exact BFill.nil | refine' BFill.one (by rfl) (by rfl) (by repeat constructor) ?_ | refine' BFill.agg (by rfl) (by rfl) (by repeat constructor) ?_))) ?_
    refine OpsK.first 1 _ (by rfl) (by kernel_rfl) rfl (by kernel_rfl) (by kernel_rfl) rfl (by first | exact p_move rfl | exact p_assign rfl | exact p_extract rfl rfl | exact q_fieldAddr rfl | exact p_nilCheck rfl | exact q_load rfl (by repeat (first | exact HMem.here | apply HMem.skip | apply HMem.there)) rfl | exact q_load_agg rfl (by repeat (first | exact HMem.here | apply HMem.skip | apply HMem.there)) (by repeat constructor) | exact q_len_slice rfl | exact q_len_str rfl | exact q_indexAddr rfl rfl (by omega) | exact q_slice_str rfl rfl rfl (by omega) (by omega) | exact q_makeInterface rfl | exact q_assert rfl | exact p_build rfl (by repeat' (first | exact BFill.nil | refine' BFill.one (by rfl) (by rfl) (by repeat constructor) ?_ | refine' BFill.agg (by rfl) (by rfl) (by repeat constructor) ?_))) ?_
    refine OpsK.first 2 _ (by rfl) (by kernel_rfl) rfl (by kernel_rfl) (by kernel_rfl) rfl (by first | exact p_move rfl | exact p_assign rfl | exact p_extract rfl rfl | exact q_fieldAddr rfl | exact p_nilCheck rfl | exact q_load rfl (by repeat (first | exact HMem.here | apply HMem.skip | apply HMem.there)) rfl | exact q_load_agg rfl (by repeat (first | exact HMem.here | apply HMem.skip | apply HMem.there)) (by repeat constructor) | exact q_len_slice rfl | exact q_len_str rfl | exact q_indexAddr rfl rfl (by omega) | exact q_slice_str rfl rfl rfl (by omega) (by omega) | exact q_makeInterface rfl | exact q_assert rfl | exact p_build rfl (by repeat' (first | exact BFill.nil | refine' BFill.one (by rfl) (by rfl) (by repeat constructor) ?_ | refine' BFill.agg (by rfl) (by rfl) (by repeat constructor) ?_))) ?_
    refine OpsK.first 3 _ (by rfl) (by kernel_rfl) rfl (by kernel_rfl) (by kernel_rfl) rfl (by first | exact p_move rfl | exact p_assign rfl | exact p_extract rfl rfl | exact q_fieldAddr rfl | exact p_nilCheck rfl | exact q_load rfl (by repeat (first | exact HMem.here | apply HMem.skip | apply HMem.there)) rfl | exact q_load_agg rfl (by repeat (first | exact HMem.here | apply HMem.skip | apply HMem.there)) (by repeat constructor) | exact q_len_slice rfl | exact q_len_str rfl | exact q_indexAddr rfl rfl (by omega) | exact q_slice_str rfl rfl rfl (by omega) (by omega) | exact q_makeInterface rfl | exact q_assert rfl | exact p_build rfl (by repeat' (first | exact BFill.nil | refine' BFill.one (by rfl) (by rfl) (by repeat constructor) ?_ | refine' BFill.agg (by rfl) (by rfl) (by repeat constructor) ?_))) ?_
    refine OpsK.first 4 _ (by rfl) (by kernel_rfl) rfl (by kernel_rfl) (by kernel_rfl) rfl (by first | exact p_move rfl | exact p_assign rfl | exact p_extract rfl rfl | exact q_fieldAddr rfl | exact p_nilCheck rfl | exact q_load rfl (by repeat (first | exact HMem.here | apply HMem.skip | apply HMem.there)) rfl | exact q_load_agg rfl (by repeat (first | exact HMem.here | apply HMem.skip | apply HMem.there)) (by repeat constructor) | exact q_len_slice rfl | exact q_len_str rfl | exact q_indexAddr rfl rfl (by omega) | exact q_slice_str rfl rfl rfl (by omega) (by omega) | exact q_makeInterface rfl | exact q_assert rfl | exact p_build rfl (by repeat' (first | exact BFill.nil | refine' BFill.one (by rfl) (by rfl) (by repeat constructor) ?_ | refine' BFill.agg (by rfl) (by rfl) (by repeat constructor) ?_))) ?_
    refine OpsK.firstL 5 [] _ (by rfl) (by kernel_rfl) (by kernel_rfl) rfl (by kernel_rfl) (by kernel_rfl) rfl (by first | exact p_move rfl | exact p_assign rfl | exact p_extract rfl rfl | exact q_fieldAddr rfl | exact p_nilCheck rfl | exact q_load rfl (by repeat (first | exact HMem.here | apply HMem.skip | apply HMem.there)) rfl | exact q_load_agg rfl (by repeat (first | exact HMem.here | apply HMem.skip | apply HMem.there)) (by repeat constructor) | exact q_len_slice rfl | exact q_len_str rfl | exact q_indexAddr rfl rfl (by omega) | exact q_slice_str rfl rfl rfl (by omega) (by omega) | exact q_makeInterface rfl | exact q_assert rfl | exact p_build rfl (by repeat' (first | exact BFill.nil | refine' BFill.one (by rfl) (by rfl) (by repeat constructor) ?_ | refine' BFill.agg (by rfl) (by rfl) (by repeat constructor) ?_))) ?_
    refine OpsK.first 6 _ (by rfl) (by kernel_rfl) rfl (by kernel_rfl) (by kernel_rfl) rfl (p_slice_hi (b := 0) USlice.out Siz.out rfl rfl (Nat.zero_le _)) ?_
    refine OpsK.first 7 _ (by rfl) (by kernel_rfl) rfl (by kernel_rfl) (by kernel_rfl) rfl (by first | exact p_move rfl | exact p_assign rfl | exact p_extract rfl rfl | exact q_fieldAddr rfl | exact p_nilCheck rfl | exact q_load rfl (by repeat (first | exact HMem.here | apply HMem.skip | apply HMem.there)) rfl | exact q_load_agg rfl (by repeat (first | exact HMem.here | apply HMem.skip | apply HMem.there)) (by repeat constructor) | exact q_len_slice rfl | exact q_len_str rfl | exact q_indexAddr rfl rfl (by omega) | exact q_slice_str rfl rfl rfl (by omega) (by omega) | exact q_makeInterface rfl | exact q_assert rfl | exact p_build rfl (by repeat' (first | exact BFill.nil | refine' BFill.one (by rfl) (by rfl) (by repeat constructor) ?_ | refine' BFill.agg (by rfl) (by rfl) (by repeat constructor) ?_))) ?_
    refine OpsK.first 8 _ (by rfl) (by kernel_rfl) rfl (by kernel_rfl) (by kernel_rfl) rfl (by first | exact p_move rfl | exact p_assign rfl | exact p_extract rfl rfl | exact q_fieldAddr rfl | exact p_nilCheck rfl | exact q_load rfl (by repeat (first | exact HMem.here | apply HMem.skip | apply HMem.there)) rfl | exact q_load_agg rfl (by repeat (first | exact HMem.here | apply HMem.skip | apply HMem.there)) (by repeat constructor) | exact q_len_slice rfl | exact q_len_str rfl | exact q_indexAddr rfl rfl (by omega) | exact q_slice_str rfl rfl rfl (by omega) (by omega) | exact q_makeInterface rfl | exact q_assert rfl | exact p_build rfl (by repeat' (first | exact BFill.nil | refine' BFill.one (by rfl) (by rfl) (by repeat constructor) ?_ | refine' BFill.agg (by rfl) (by rfl) (by repeat constructor) ?_))) ?_
    refine OpsK.first 9 _ (by rfl) (by kernel_rfl) rfl (by kernel_rfl) (by kernel_rfl) rfl (by first | exact p_move rfl | exact p_assign rfl | exact p_extract rfl rfl | exact q_fieldAddr rfl | exact p_nilCheck rfl | exact q_load rfl (by repeat (first | exact HMem.here | apply HMem.skip | apply HMem.there)) rfl | exact q_load_agg rfl (by repeat (first | exact HMem.here | apply HMem.skip | apply HMem.there)) (by repeat constructor) | exact q_len_slice rfl | exact q_len_str rfl | exact q_indexAddr rfl rfl (by omega) | exact q_slice_str rfl rfl rfl (by omega) (by omega) | exact q_makeInterface rfl | exact q_assert rfl | exact p_build rfl (by repeat' (first | exact BFill.nil | refine' BFill.one (by rfl) (by rfl) (by repeat constructor) ?_ | refine' BFill.agg (by rfl) (by rfl) (by repeat constructor) ?_))) ?_
    refine OpsK.firstL 10 [] _ (by rfl) (by kernel_rfl) (by kernel_rfl) rfl (by kernel_rfl) (by kernel_rfl) rfl (by first | exact p_move rfl | exact p_assign rfl | exact p_extract rfl rfl | exact q_fieldAddr rfl | exact p_nilCheck rfl | exact q_load rfl (by repeat (first | exact HMem.here | apply HMem.skip | apply HMem.there)) rfl | exact q_load_agg rfl (by repeat (first | exact HMem.here | apply HMem.skip | apply HMem.there)) (by repeat constructor) | exact q_len_slice rfl | exact q_len_str rfl | exact q_indexAddr rfl rfl (by omega) | exact q_slice_str rfl rfl rfl (by omega) (by omega) | exact q_makeInterface rfl | exact q_assert rfl | exact p_build rfl (by repeat' (first | exact BFill.nil | refine' BFill.one (by rfl) (by rfl) (by repeat constructor) ?_ | refine' BFill.agg (by rfl) (by rfl) (by repeat constructor) ?_))) ?_
    refine OpsK.only 11 _ (by kernel_rfl) rfl ?_
    refine s_call he (fun u K hR => ?_)
    obtain ⟨im, cur', G, rfl, hcl, him, hMm, rfl⟩ := hR
    (repeat' (first | refine k_nil ?_ | refine k_then ?_))
    refine ⟨fun _ => (by repeat (first | exact SubH.nilR _ | refine SubH.pick (by repeat (first | exact HTake.here | apply HTake.there)) ?_)), ?_⟩
    refine OpsK.first 12 _ (by rfl) (by kernel_rfl) rfl (by kernel_rfl) (by kernel_rfl) rfl (by first | exact p_move rfl | exact p_assign rfl | exact p_extract rfl rfl | exact q_fieldAddr rfl | exact p_nilCheck rfl | exact q_load rfl (by repeat (first | exact HMem.here | apply HMem.skip | apply HMem.there)) rfl | exact q_load_agg rfl (by repeat (first | exact HMem.here | apply HMem.skip | apply HMem.there)) (by repeat constructor) | exact q_len_slice rfl | exact q_len_str rfl | exact q_indexAddr rfl rfl (by omega) | exact q_slice_str rfl rfl rfl (by omega) (by omega) | exact q_makeInterface rfl | exact q_assert rfl | exact p_build rfl (by repeat' (first | exact BFill.nil | refine' BFill.one (by rfl) (by rfl) (by repeat constructor) ?_ | refine' BFill.agg (by rfl) (by rfl) (by repeat constructor) ?_))) ?_
    refine OpsK.first 13 _ (by rfl) (by kernel_rfl) rfl (by kernel_rfl) (by kernel_rfl) rfl (by first | exact p_move rfl | exact p_assign rfl | exact p_extract rfl rfl | exact q_fieldAddr rfl | exact p_nilCheck rfl | exact q_load rfl (by repeat (first | exact HMem.here | apply HMem.skip | apply HMem.there)) rfl | exact q_load_agg rfl (by repeat (first | exact HMem.here | apply HMem.skip | apply HMem.there)) (by repeat constructor) | exact q_len_slice rfl | exact q_len_str rfl | exact q_indexAddr rfl rfl (by omega) | exact q_slice_str rfl rfl rfl (by omega) (by omega) | exact q_makeInterface rfl | exact q_assert rfl | exact p_build rfl (by repeat' (first | exact BFill.nil | refine' BFill.one (by rfl) (by rfl) (by repeat constructor) ?_ | refine' BFill.agg (by rfl) (by rfl) (by repeat constructor) ?_))) ?_
    refine OpsK.only 14 _ (by kernel_rfl) rfl ?_
    (repeat' (first | refine k_nil ?_ | refine k_then ?_ | refine s_store ?_))
    refine ⟨(fun h0 => Bool.noConfusion (show true = false from h0)), ?_⟩
    refine OpsK.nil (by kernel_rfl) ?_
    (repeat' (first | refine k_seq ?_ | refine k_region ?_ | refine s_move ?_ | refine s_load ?_ | refine s_field ?_ | refine s_nilp ?_))
    refine s_call (hM g cap im cur' G hcl him hMm) (fun u K hR => ?_)
    obtain ⟨ja, jm, jc, G', rfl, hIL, rfl⟩ := hR
    (repeat' (first | refine s_callD (autoLinkText_no p pr (⟨o1, o2, o3, false, o5, o6, false, false, false, o10⟩ : PO) (⟨lp pr, root, links, lineno, stack, depth, .bool cn, str (bytesT d), inat (bytesT d).length, .slice ja jm jc, lists, texts, bt⟩ : PS) (.slice ja jm jc) rfl rfl) ?_ | refine k_seq ?_ | refine k_region ?_ | refine k_nil ?_ | refine k_then ?_ | refine k_ret ?_ | refine s_move ?_ | refine s_assign ?_ | refine s_load ?_ | refine s_field ?_ | refine s_nilp ?_ | refine s_store ?_))
    exact e_ret _ ⟨(⟨lp pr, root, links, lineno, stack, depth, .bool cn, str (bytesT d), inat (bytesT d).length, .slice ja jm jc, lists, texts, bt⟩ : PS), ja, jm, jc, G', rfl, hIL, rfl, rfl, rfl⟩ (by repeat (first | exact SubH.nilR _ | refine SubH.pick (by repeat (first | exact HTake.here | apply HTake.there)) ?_))
end Go.Proofs

namespace Go.Proofs
open Go Go.Eng
set_option maxRecDepth 20000
set_option maxHeartbeats 4000000

theorem idxByte_lt {l : List UInt8} {c : UInt8} : (Lib.indexByte l c < 0) ↔ ¬ c ∈ l := by
  have h1 := Lib.indexByte_ge l c
  constructor
  · intro h hc
    have : Lib.indexByte l c = -1 := by omega
    obtain ⟨k, hk⟩ := List.getElem?_of_mem hc
    exact Lib.indexByte_none this k hk
  · intro h
    refine Classical.byContradiction fun hn => ?_
    obtain ⟨o, ho⟩ : ∃ o : Nat, Lib.indexByte l c = o := ⟨(Lib.indexByte l c).toNat, by omega⟩
    exact h (List.mem_of_getElem? (Lib.indexByte_some ho).1)

theorem indexByte_tr (l : List UInt8) (c : UInt8) : TrP Tryz.prog 21 [str l, .int .u8 c.toNat] (.int .i64 (Lib.indexByte l c)) := by
  have hf : ∀ w, (callFunc 43 #[str l, .int .u8 c.toNat]).run Tryz.prog w = .ok (.value (.int .i64 (Lib.indexByte l c))) w := by
    intro w
    rw [run_callFunc_indexByte (P := Tryz.prog) (f := 43) Tryz.func43 rfl rfl (by kernel_rfl) (by rfl)]
    have h := Lib.run_indexByteString (P := Tryz.prog) ⟨l.toArray⟩ c.toNat w
    simp at h
    show (Sem.run Tryz.prog (Extern.BytealgIndexByte.indexByte #[.string ⟨l.toArray⟩, .int .u8 c.toNat]) w).andThen _ = _
    rw [h]
    rfl
  have hs : TrP Tryz.prog 33 [str l, .int .u8 c.toNat] (.int .i64 (Lib.indexByte l c)) := by
    refine Tr.start (n := 8) (rs := [.tmp 4]) rfl rfl rfl rfl fun B => ?_
    (repeat' (first | refine Ops.pure _ (p_extern2 (by rfl) (by rfl) hf) (by rfl) ?_ | refine k_seq ?_ | refine k_region ?_ | refine k_nil ?_ | refine k_then ?_ | refine k_ret ?_ | refine s_move ?_ | refine s_assign ?_))
    exact e_pure ⟨rfl, rfl⟩
  refine Tr.start (n := 8) (rs := [.tmp 4]) rfl rfl rfl rfl fun B => ?_
  (repeat' (first | refine s_pure (hs) ?_ | refine k_seq ?_ | refine k_region ?_ | refine k_nil ?_ | refine k_then ?_ | refine k_ret ?_ | refine s_move ?_ | refine s_assign ?_))
  exact e_pure ⟨rfl, rfl⟩

theorem only_tr (l al : List UInt8) (most : Nat) (hl : l.length ≤ 2147483647) : Tr Tryz.prog 8 [str l, str al, inat most] [] fun u K => K = [] ∧ ∃ r, u = .bool r ∧ (r = true → l.length ≤ most ∧ ∀ c ∈ l, c ∈ al) := by
  refine Tr.start (n := 24) (rs := [.tmp 6]) rfl rfl rfl rfl fun B => ?_
  by_cases hm : most < l.length
  · (repeat' (first | refine k_seq ?_ | refine k_region ?_ | refine k_nil ?_ | refine k_then ?_ | refine k_true ?_ | refine k_ret ?_ | refine k_ret_then ?_ | refine s_move ?_ | refine s_assign ?_ | refine s_gtr_t ?_ | refine s_lens ?_))
    exact e_ret [] ⟨rfl, false, rfl, fun h => Bool.noConfusion h⟩ (by repeat (first | exact SubH.nilR _ | refine SubH.pick (by repeat (first | exact HTake.here | apply HTake.there)) ?_))
  (repeat' (first | refine k_seq ?_ | refine k_region ?_ | refine k_nil ?_ | refine k_then ?_ | refine k_false ?_ | refine k_skip ?_ | refine s_move ?_ | refine s_assign ?_ | refine s_gtr_f ?_ | refine s_lens ?_))
  refine k_midx (fun _ : Unit => []) (fun _ => []) (fun _ => l.length ≤ most ∧ ∀ c ∈ l, c ∈ al) ?_ ?_
  · (repeat' (first | refine k_blk ?_))
    refine k_loop (fun j : Nat => [(0, str l), (1, str al), (13, inat l.length), (14, inat j)]) (fun _ => []) (fun j => j ≤ l.length ∧ ∀ c ∈ l.take j, c ∈ al) (fun j => l.length - j) 0 ⟨Nat.zero_le _, by simp⟩ (Knows.spec (by repeat (first | exact trivial | refine ⟨rfl, ?_⟩))) (by repeat (first | exact SubH.nilR _ | refine SubH.pick (by repeat (first | exact HTake.here | apply HTake.there)) ?_)) fun j hj => ?_
    obtain ⟨hj, hA⟩ := hj
    by_cases h : j < l.length
    · obtain ⟨c, hc⟩ : ∃ c, l[j]? = some c := ⟨_, List.getElem?_eq_getElem h⟩
      have hI := indexByte_tr al c
      by_cases hin : c ∈ al
      · have hge : ¬ Lib.indexByte al c < 0 := fun hh => idxByte_lt.1 hh hin
        (repeat' (first | refine s_pure (hI) ?_ | refine k_seq ?_ | refine k_region ?_ | refine k_nil ?_ | refine k_then ?_ | refine k_true ?_ | refine k_false ?_ | refine k_blk ?_ | refine k_skip ?_ | refine k_block ?_ | refine s_move ?_ | refine s_assign ?_ | refine s_add1 ?_ | refine s_lss_t ?_ | refine s_lss_f ?_ | refine s_index ?_))
        refine ⟨j + 1, (Knows.spec (by repeat (first | exact trivial | refine ⟨rfl, ?_⟩))), (by repeat (first | exact SubH.nilR _ | refine SubH.pick (by repeat (first | exact HTake.here | apply HTake.there)) ?_)), ⟨by omega, fun d hd => ?_⟩, by omega⟩
        rw [List.take_add_one, hc] at hd
        rcases List.mem_append.1 hd with hd | hd
        · exact hA d hd
        · simp at hd; subst hd; exact hin
      · have hlt : Lib.indexByte al c < 0 := idxByte_lt.2 hin
        (repeat' (first | refine s_pure (hI) ?_ | refine k_seq ?_ | refine k_region ?_ | refine k_nil ?_ | refine k_then ?_ | refine k_true ?_ | refine k_blk ?_ | refine k_skip ?_ | refine k_ret ?_ | refine k_ret_then ?_ | refine k_ret_block ?_ | refine s_move ?_ | refine s_assign ?_ | refine s_lss_t ?_ | refine s_index ?_))
        exact e_ret [] ⟨rfl, false, rfl, fun h => Bool.noConfusion h⟩ (by repeat (first | exact SubH.nilR _ | refine SubH.pick (by repeat (first | exact HTake.here | apply HTake.there)) ?_))
    · have : j = l.length := by omega
      subst this
      rw [List.take_length] at hA
      (repeat' (first | refine k_seq ?_ | refine k_region ?_ | refine k_nil ?_ | refine k_then ?_ | refine k_false ?_ | refine k_exit ?_ | refine k_exit_then ?_ | refine k_hit ?_ | refine s_lss_f ?_))
      exact ⟨(), (by repeat (first | exact trivial | refine ⟨rfl, ?_⟩)), (by repeat (first | exact SubH.nilR _ | refine SubH.pick (by repeat (first | exact HTake.here | apply HTake.there)) ?_)), by omega, hA⟩
  · rintro _ hA
    (repeat' (first | refine k_seq ?_ | refine k_region ?_ | refine k_nil ?_ | refine k_then ?_ | refine k_ret ?_ | refine s_assign ?_))
    exact e_ret [] ⟨rfl, true, rfl, fun _ => hA⟩ (by repeat (first | exact SubH.nilR _ | refine SubH.pick (by repeat (first | exact HTake.here | apply HTake.there)) ?_))

end Go.Proofs

namespace Go.Proofs
open Go Go.Eng
set_option maxRecDepth 20000
set_option maxHeartbeats 4000000

abbrev optO (d q : Bool) : Value := .agg #[.bool d, .bool false, .bool false, .bool false, .bool false, .bool false, .bool false, .bool q, .bool false, .bool false]
abbrev poO (d q : Bool) : PO := ⟨false, d, false, false, false, false, false, false, false, q⟩
theorem parserO_tr (d q : Bool) : Tr Tryz.prog 23 [optO d q] [] fun u K => ∃ pr, u = lp pr ∧ K = [(poO d q).blk pr] := by
  refine Tr.start (n := 25) (rs := [.tmp 2]) rfl rfl rfl rfl fun B => ?_
  (repeat' (first | refine k_seq ?_ | refine k_region ?_ | refine k_nil ?_ | refine k_then ?_ | refine k_ret ?_ | refine s_assign ?_ | refine s_load ?_ | refine s_field ?_ | refine s_buildx ?_ | refine s_box (fun _ => ?_)))
  rename_i r1 r2
  exact e_ret [(poO d q).blk r2] ⟨r2, rfl, rfl⟩ (by repeat (first | exact SubH.nilR _ | refine SubH.pick (by repeat (first | exact HTake.here | apply HTake.there)) ?_))

/-- Bytes of words, spaces, tildes and quotation marks. -/
abbrev sch (c : Nat) : Prop := wch c ∨ c = 32 ∨ c = 126 ∨ c = 34 ∨ c = 39
theorem plW {tx : List UInt8} {c : UInt8} {r : List UInt8} (e : tx = c :: r) (hc : wch c.toNat) (hall : ∀ d ∈ tx, sch d.toNat) (hl : tx.length ≤ 10000) : PL tx := by
  have h0 : at0 tx 0 = c.toNat := by rw [e]; rfl
  have hns : nsp tx = 0 := by rw [e]; simp [nsp]; omega
  have hsp : sp3 0 tx = 0 := by unfold sp3; rw [List.drop_zero, hns, Nat.zero_min]
  have hlt : ltrim tx = tx := by
    rw [e]; unfold ltrim
    rw [List.dropWhile_cons_of_neg]
    simp [isBl]; omega
  have hat : ∀ j, at0 tx j = 0 ∨ sch (at0 tx j) := fun j => by
    unfold at0
    split
    · rename_i d hd; exact .inr (hall d (List.mem_of_getElem? hd))
    · exact .inl rfl
  have hnt : NoTab tx := fun d hd => by have := hall d hd; omega
  have hq : ∀ k, k ≠ c.toNat → at0 tx (sp3 0 tx) ≠ k := fun k hk => by rw [hsp, h0]; exact fun h => hk h.symm
  refine ⟨⟨hnt, by omega, Nat.zero_le _, by rw [List.drop_zero, hlt, e]; simp, by rw [List.drop_zero, hns]; omega, hq _ (by omega), fun nl q nq nv => trimHeading_no q nq 0 nv tx nl hnt (by omega) (Nat.zero_le _) (hq 35 (by omega)), hq _ (by omega), hq _ (by omega), hq _ (by omega), hq _ (by omega), hq _ (by omega), hq _ (by omega), hq _ (by omega), ?_⟩, hlt, fun d hd => ?_⟩
  · rw [hsp, List.drop_zero]
    refine ⟨by omega, by omega, by omega, fun j hj hj0 => ?_⟩
    have := hat j
    omega
  · have := hall d hd
    refine ⟨fun h => ?_, fun h => ?_, fun h => ?_⟩ <;> (subst h; exact absurd this (by decide))

theorem docO_tr (pr : Nat) (d q : Bool) (toks : List Tk) (out : List UInt8) (hok : TkOK (poO d q) toks) (hp : PL (bytesT toks)) (m32 : at0 (bytesT toks) 0 ≠ 32) (m9 : at0 (bytesT toks) 0 ≠ 9) (m10 : at0 (bytesT toks) 0 ≠ 10) (m91 : at0 (bytesT toks) 0 ≠ 91)
    (M : Nat → List Value → Blk → Prop)
    (hE : ∀ (p g cap : Nat) (cur vals : List Value) (IB : Blk), ItsT (itemsT toks) vals IB → (itemsT toks).length ≤ cap → cur.length = cap → cur.take (itemsT toks).length = vals →
      Tr Tryz.prog 75 [lp p, .slice (some ⟨g, 0, none⟩) 0 cap, .slice (some ⟨g, 0, none⟩) (itemsT toks).length cap] [[(g, cellsOf cur 125)], IB] fun u K => ∃ im cur' G, u = .slice (some ⟨g, 0, none⟩) im cap ∧ cur'.length = cap ∧ im ≤ cap ∧ M im cur' G ∧ K = [[(g, cellsOf cur' 125)], G])
    (hM : ∀ (p g cap im : Nat) (cur : List Value) (G : Blk), cur.length = cap → im ≤ cap → M im cur G → Tr Tryz.prog 76 [lp p, .slice (some ⟨g, 0, none⟩) im cap] [[(g, cellsOf cur 125)], G] fun u K => ∃ ja jm jc G', u = .slice ja jm jc ∧ (∃ g' outs, ja = some ⟨g', 0, none⟩ ∧ jm ≤ 100000 ∧ Shown g' jm G' outs ∧ outs.flatten = out) ∧ K = [G']) :
    Tr Tryz.prog 24 [lp pr, str (bytesT toks)] [(poO d q).blk pr] fun u K => ∃ dd e qq t ia im ic KB g m c outs G, u = lp dd ∧ Blks (.slice ia im ic) [.iface 146 (lp qq)] KB ∧ Shown g m G outs ∧ outs.flatten = out ∧ m ≤ 100000 ∧
      K = [docb dd 0 e (.slice ia im ic) (.map none), pgb qq 1 (1 + 1 - 1) t, txb t 1 (1 + 1 - 1) (.slice (some ⟨g, 0, none⟩) m c) (bytesT toks), KB, G] := by
  have hlen := hok.len
  have hpt := parse_tr pr (poO d q) [bytesT toks] (bytesT toks) (jn_one _) (by simp) (by simp) (by omega) (fun l hl => by simp at hl; subst hl; exact hp) (fun ia im ic G => ∃ g' outs, ia = some ⟨g', 0, none⟩ ∧ im ≤ 100000 ∧ Shown g' im G outs ∧ outs.flatten = out) rfl rfl m32 m9 m10 m91
    (fun p s hs hcn => inlineT_tr p pr (poO d q) s toks hok false hcn rfl rfl rfl rfl hs M _ (fun g cap => hE p g cap) (fun g cap => hM p g cap))
  refine Tr.start (n := 14) (rs := [.tmp 4]) rfl rfl rfl rfl fun B => ?_
  (repeat' (first | refine k_seq ?_ | refine k_region ?_ | refine k_nil ?_ | refine k_then ?_ | refine s_move ?_ | refine s_assign ?_))
  refine s_call hpt (fun u K hR => ?_)
  obtain ⟨dd, qq, t, cv, e, ia, im, ic, KB, ja, jm, jc, G, rfl, hB, ⟨g, outs, rfl, hjm, hS, ho⟩, rfl⟩ := hR
  (repeat' (first | refine k_seq ?_ | refine k_region ?_ | refine k_nil ?_ | refine k_then ?_ | refine k_ret ?_ | refine s_move ?_ | refine s_assign ?_ | refine s_ext ?_))
  exact e_ret [docb dd 0 e (.slice ia im ic) (.map none), pgb qq 1 (1 + 1 - 1) t, txb t 1 (1 + 1 - 1) (.slice (some ⟨g, 0, none⟩) jm jc) (bytesT toks), KB, G] ⟨dd, e, qq, t, ia, im, ic, KB, g, jm, jc, outs, G, rfl, hB, hS, ho, hjm, rfl⟩ (by repeat (first | exact SubH.nilR _ | refine SubH.pick (by repeat (first | exact HTake.here | apply HTake.there)) ?_))

theorem htmlO_tr (d q : Bool) (toks : List Tk) (out : List UInt8) (hok : TkOK (poO d q) toks) (hp : PL (bytesT toks)) (m32 : at0 (bytesT toks) 0 ≠ 32) (m9 : at0 (bytesT toks) 0 ≠ 9) (m10 : at0 (bytesT toks) 0 ≠ 10) (m91 : at0 (bytesT toks) 0 ≠ 91)
    (M : Nat → List Value → Blk → Prop)
    (hE : ∀ (p g cap : Nat) (cur vals : List Value) (IB : Blk), ItsT (itemsT toks) vals IB → (itemsT toks).length ≤ cap → cur.length = cap → cur.take (itemsT toks).length = vals →
      Tr Tryz.prog 75 [lp p, .slice (some ⟨g, 0, none⟩) 0 cap, .slice (some ⟨g, 0, none⟩) (itemsT toks).length cap] [[(g, cellsOf cur 125)], IB] fun u K => ∃ im cur' G, u = .slice (some ⟨g, 0, none⟩) im cap ∧ cur'.length = cap ∧ im ≤ cap ∧ M im cur' G ∧ K = [[(g, cellsOf cur' 125)], G])
    (hM : ∀ (p g cap im : Nat) (cur : List Value) (G : Blk), cur.length = cap → im ≤ cap → M im cur G → Tr Tryz.prog 76 [lp p, .slice (some ⟨g, 0, none⟩) im cap] [[(g, cellsOf cur 125)], G] fun u K => ∃ ja jm jc G', u = .slice ja jm jc ∧ (∃ g' outs, ja = some ⟨g', 0, none⟩ ∧ jm ≤ 100000 ∧ Shown g' jm G' outs ∧ outs.flatten = out) ∧ K = [G']) :
    TrD Tryz.prog 10 [optO d q, str (bytesT toks)] [] (str (paraO out)) [] := by
  refine Tr.start (n := 11) (rs := [.tmp 4]) rfl rfl rfl rfl fun B => ?_
  (repeat' (first | refine k_seq ?_ | refine k_region ?_ | refine k_nil ?_ | refine k_then ?_ | refine s_assign ?_ | refine s_loada ?_ | refine s_box (fun _ => ?_)))
  rename_i r
  refine s_call (parserO_tr d q) (fun u K hR => ?_)
  obtain ⟨pr, rfl, rfl⟩ := hR
  (repeat' (first | refine s_move ?_))
  refine s_call (docO_tr pr d q toks out hok hp m32 m9 m10 m91 M hE hM) (fun u K hR => ?_)
  obtain ⟨dd, e, qq, t, ia, im, ic, KB, g, m, c, outs, G, rfl, hB, hS, ho, hjm, rfl⟩ := hR
  (repeat' (first | refine s_mki ?_))
  refine s_call (toP_tr dd 0 e qq t 1 (1 + 1 - 1) (.map none) ia im ic KB g m c (bytesT toks) outs G hB hS hjm) (fun u K hR => ?_)
  obtain ⟨rfl, rfl⟩ := hR
  rw [ho]
  (repeat' (first | refine k_nil ?_ | refine k_then ?_ | refine k_ret ?_ | refine s_assign ?_))
  exact e_ret [] ⟨rfl, rfl⟩ (by repeat (first | exact SubH.nilR _ | refine SubH.pick (by repeat (first | exact HTake.here | apply HTake.there)) ?_))
end Go.Proofs

namespace Go.Proofs
open Go Go.Eng
set_option maxRecDepth 20000
set_option maxHeartbeats 4000000

/-- What a list of inlines puts out. -/
structure OutsL (its : List LIt) (outs : List (List UInt8)) : Prop where
  len : outs.length = its.length
  pr : ∀ (j : Nat) (x : LIt) (out : List UInt8), its[j]? = some x → outs[j]? = some out → ∀ (q : Nat) (G : Blk), x.cell q ∈ G → Prn x.ty (lp q) G out
  lim : outs.flatten.length ≤ 400000

theorem shownL {its : List LIt} {vals : List Value} {IB LB : Blk} {ia : Option Addr} {im ic : Nat} {outs : List (List UInt8)} (hI : ItsL its vals IB) (hL : Inls (.slice ia im ic) vals LB) (hne : its ≠ []) (hO : OutsL its outs) (hl : its.length ≤ 100000) :
    ∃ g, ia = some ⟨g, 0, none⟩ ∧ im ≤ 100000 ∧ Shown g im (LB ++ IB) outs := by
  have hlen := hI.length
  obtain ⟨n, hn⟩ : ∃ n, vals.length = n + 1 := by
    cases its with
    | nil => exact absurd rfl hne
    | cons a b => exact ⟨b.length, by rw [hlen]; rfl⟩
  have h : Own 125 1 (.slice ia im ic) (n + 1) vals LB := hn ▸ hL
  obtain ⟨g, cap, cur, e1, rfl, k1, k2, k3, k4⟩ := h.pos
  injection e1 with e1 e2 e3
  subst e1 e2 e3
  refine ⟨g, rfl, by omega, ⟨⟨cur, by simp, by omega, fun j hj => ?_⟩, by rw [hO.len]; omega, hO.lim⟩⟩
  obtain ⟨x, hx⟩ : ∃ x, its[j]? = some x := ⟨_, List.getElem?_eq_getElem (by omega)⟩
  obtain ⟨out, ho⟩ : ∃ o, outs[j]? = some o := ⟨_, List.getElem?_eq_getElem (by rw [hO.len]; omega)⟩
  obtain ⟨q, h1, h2⟩ := hI.get j x hx
  have h3 : cur[j]? = some (.iface x.ty (lp q)) := by
    rw [← h1, ← k4, List.getElem?_take, if_pos (by omega)]
  exact ⟨_, _, out, h3, ho, hO.pr j x out hx ho q _ (by simp [h2])⟩

theorem htmlA_tr (tx : List UInt8) (m j : Nat) (hA : ALink tx 0 m j) (hp : ALine tx) (hcc : ∀ d ∈ tx, d ≠ 10 ∧ d ≠ 13 ∧ d ≠ 0) (hlt0 : ltrim tx = tx) (toks : List LTk) (hb : bytesL toks = tx) (hok : LTkOK toks) (outs : List (List UInt8)) (hO : OutsL (itemsL toks) outs) (hil : (itemsL toks).length ≤ 100000) :
    TrD Tryz.prog 10 [optO false false, str tx] [] (str (paraO outs.flatten)) [] := by
  subst hb
  obtain ⟨c60, hc60, h60⟩ := hA.o
  have hat : at0 (bytesL toks) 0 = 60 := by rw [at0_some hc60, h60]
  have hD : ∀ pr, Tr Tryz.prog 24 [lp pr, str (bytesL toks)] [(poO false false).blk pr] fun u K => ∃ dd e qq t ia im ic KB g m c G, u = lp dd ∧ Blks (.slice ia im ic) [.iface 146 (lp qq)] KB ∧ Shown g m G outs ∧ m ≤ 100000 ∧
      K = [docb dd 0 e (.slice ia im ic) (.map none), pgb qq 1 (1 + 1 - 1) t, txb t 1 (1 + 1 - 1) (.slice (some ⟨g, 0, none⟩) m c) (bytesL toks), KB, G] := by
    intro pr
    have hpt := parse_al pr (poO false false) (bytesL toks) m j hA hp hcc hlt0 (fun ia im ic G => ∃ g', ia = some ⟨g', 0, none⟩ ∧ im ≤ 100000 ∧ Shown g' im G outs) rfl rfl (by omega) (by omega) (by omega) (by omega)
      (fun p s hs ⟨cn, hcn⟩ => (inlineL_tr p pr (poO false false) s toks hok cn hcn rfl rfl rfl rfl rfl rfl hs).mono (by
        rintro u K ⟨s', ia, im, ic, G, rfl, ⟨vals, LB, IB, h1, h2, rfl⟩, h3, h4, rfl⟩
        exact ⟨s', ia, im, ic, _, rfl, shownL h1 h2 hok.ne hO hil, h3, h4, rfl⟩))
    refine Tr.start (n := 14) (rs := [.tmp 4]) rfl rfl rfl rfl fun B => ?_
    (repeat' (first | refine k_seq ?_ | refine k_region ?_ | refine k_nil ?_ | refine k_then ?_ | refine s_move ?_ | refine s_assign ?_))
    refine s_call hpt (fun u K hR => ?_)
    obtain ⟨dd, qq, t, cv, e, ia, im, ic, KB, ja, jm, jc, G, rfl, hB, ⟨g, rfl, hjm, hS⟩, rfl⟩ := hR
    (repeat' (first | refine k_seq ?_ | refine k_region ?_ | refine k_nil ?_ | refine k_then ?_ | refine k_ret ?_ | refine s_move ?_ | refine s_assign ?_ | refine s_ext ?_))
    exact e_ret [docb dd 0 e (.slice ia im ic) (.map none), pgb qq 1 (1 + 1 - 1) t, txb t 1 (1 + 1 - 1) (.slice (some ⟨g, 0, none⟩) jm jc) (bytesL toks), KB, G] ⟨dd, e, qq, t, ia, im, ic, KB, g, jm, jc, G, rfl, hB, hS, hjm, rfl⟩ (by repeat (first | exact SubH.nilR _ | refine SubH.pick (by repeat (first | exact HTake.here | apply HTake.there)) ?_))
  refine Tr.start (n := 11) (rs := [.tmp 4]) rfl rfl rfl rfl fun B => ?_
  (repeat' (first | refine k_seq ?_ | refine k_region ?_ | refine k_nil ?_ | refine k_then ?_ | refine s_assign ?_ | refine s_loada ?_ | refine s_box (fun _ => ?_)))
  rename_i r
  refine s_call (parserO_tr false false) (fun u K hR => ?_)
  obtain ⟨pr, rfl, rfl⟩ := hR
  (repeat' (first | refine s_move ?_))
  refine s_call (hD pr) (fun u K hR => ?_)
  obtain ⟨dd, e, qq, t, ia, im, ic, KB, g, m, c, G, rfl, hB, hS, hjm, rfl⟩ := hR
  (repeat' (first | refine s_mki ?_))
  refine s_call (toP_tr dd 0 e qq t 1 (1 + 1 - 1) (.map none) ia im ic KB g m c (bytesL toks) outs G hB hS hjm) (fun u K hR => ?_)
  obtain ⟨rfl, rfl⟩ := hR
  (repeat' (first | refine k_nil ?_ | refine k_then ?_ | refine k_ret ?_ | refine s_assign ?_))
  exact e_ret [] ⟨rfl, rfl⟩ (by repeat (first | exact SubH.nilR _ | refine SubH.pick (by repeat (first | exact HTake.here | apply HTake.there)) ?_))
end Go.Proofs

namespace Go.Proofs
open Go Go.Eng
set_option maxRecDepth 20000
set_option maxHeartbeats 4000000

theorem btrim_ink {l s p : List UInt8} {c z : UInt8} (h1 : l = c :: s) (hc : isBl c = false) (h2 : l = p ++ [z]) (hz : isBl z = false) : btrim l = l := by
  have e1 : ltrim l = l := by
    rw [h1]; unfold ltrim
    rw [List.dropWhile_cons_of_neg (by simp [hc])]
  unfold btrim
  rw [e1]
  unfold rtrim
  rw [h2, List.reverse_append]
  simp [hz]

/-- What the law lets in. -/
structure AText (sc rest : List UInt8) : Prop where
  two : 2 ≤ sc.length
  most : sc.length ≤ 32
  sch : ∀ c ∈ sc, let8 c.toNat
  len : rest.length ≤ 60
  url : ∀ c ∈ rest, 32 < c.toNat ∧ c.toNat < 127 ∧ c.toNat ≠ 60 ∧ c.toNat ≠ 62

abbrev autoS (sc rest : List UInt8) : List UInt8 := sc ++ [58] ++ rest
abbrev autoT (sc rest : List UInt8) : List UInt8 := [60] ++ autoS sc rest ++ [62]
abbrev autoX (s : List UInt8) : LIt := ⟨255, 257, [str s, str s]⟩
abbrev autoOut (s : List UInt8) : List UInt8 := [60, 97, 32, 104, 114, 101, 102, 61, 34] ++ pairH linkPairs s ++ [34, 62] ++ escH s ++ [60, 47, 97, 62]

theorem alink_of {sc rest : List UInt8} (h : AText sc rest) : ALink (autoT sc rest) 0 (sc.length + 1) (sc.length + rest.length + 2) := by
  have e : autoT sc rest = 60 :: (sc ++ 58 :: (rest ++ [62])) := by simp
  rw [e]
  refine ⟨⟨60, rfl, rfl⟩, by have := h.two; omega, by have := h.most; omega, fun k h1 h2 => ?_, ⟨58, ?_, rfl⟩, by omega, fun k h1 h2 => ?_, ⟨62, ?_, rfl⟩⟩
  · obtain ⟨k, rfl⟩ : ∃ k', k = k' + 1 := ⟨k - 1, by omega⟩
    have hk : k < sc.length := by omega
    refine ⟨sc[k], ?_, h.sch _ (List.getElem_mem hk)⟩
    rw [List.getElem?_cons_succ, List.getElem?_append_left hk, List.getElem?_eq_getElem hk]
  · rw [List.getElem?_cons_succ, List.getElem?_append_right (Nat.le_refl _), Nat.sub_self]; rfl
  · obtain ⟨k, rfl⟩ : ∃ k', k = sc.length + k' + 2 := ⟨k - sc.length - 2, by omega⟩
    have hk : k < rest.length := by omega
    refine ⟨rest[k], ?_, ?_⟩
    · rw [show sc.length + k + 2 = (sc.length + k + 1) + 1 by omega, List.getElem?_cons_succ, List.getElem?_append_right (by omega), show sc.length + k + 1 - sc.length = k + 1 by omega, List.getElem?_cons_succ, List.getElem?_append_left hk, List.getElem?_eq_getElem hk]
    · obtain ⟨a, _, b, c⟩ := h.url _ (List.getElem_mem hk)
      exact ⟨a, b, c⟩
  · rw [show sc.length + rest.length + 2 = (sc.length + rest.length + 1) + 1 by omega, List.getElem?_cons_succ, List.getElem?_append_right (by omega), show sc.length + rest.length + 1 - sc.length = rest.length + 1 by omega, List.getElem?_cons_succ, List.getElem?_append_right (by omega), Nat.sub_self]; rfl

theorem autoT_mem {sc rest : List UInt8} (h : AText sc rest) : ∀ d ∈ autoT sc rest, 32 < d.toNat ∧ d.toNat < 127 := by
  intro d hd
  simp only [List.mem_append, List.mem_singleton] at hd
  rcases hd with (rfl | (hd | rfl) | hd) | rfl
  · decide
  · have := h.sch d hd; omega
  · decide
  · have := h.url d hd; omega
  · decide

theorem autoT_cut {sc rest : List UInt8} : ((autoT sc rest).take (sc.length + rest.length + 2)).drop (0 + 1) = autoS sc rest := by
  have e : autoT sc rest = (60 :: autoS sc rest) ++ [62] := by simp
  rw [e, List.take_append_of_le_length (by simp; omega), List.take_of_length_le (by simp; omega)]
  rfl

theorem htmlAuto_tr {sc rest : List UInt8} (h : AText sc rest) : TrD Tryz.prog 10 [optO false false, str (autoT sc rest)] [] (str (paraO (autoOut (autoS sc rest)))) [] := by
  have hA := alink_of h
  have hmem := autoT_mem h
  have hlen : (autoT sc rest).length = sc.length + rest.length + 3 := by simp; omega
  have hl1 := h.most
  have hl2 := h.len
  have hnt : NoTab (autoT sc rest) := fun d hd => by have := hmem d hd; omega
  have hsl : (autoS sc rest).length ≤ 1000 := by simp; omega
  have hp := aline_of hA hnt (by omega)
  have hlt : ltrim (autoT sc rest) = autoT sc rest := by
    unfold ltrim
    rw [show autoT sc rest = 60 :: (autoS sc rest ++ [62]) by simp, List.dropWhile_cons_of_neg (by decide)]
  have hbt : btrim (autoT sc rest) = autoT sc rest := btrim_ink (c := 60) (s := autoS sc rest ++ [62]) (p := 60 :: autoS sc rest) (z := 62) (by simp) (by decide) (by simp) (by decide)
  have hb : bytesL [.leaf (autoT sc rest) (autoX (autoS sc rest))] = autoT sc rest := by simp [bytesL, LTk.bytes]
  have hits : itemsL [.leaf (autoT sc rest) (autoX (autoS sc rest))] = [autoX (autoS sc rest)] := rfl
  have hok : LTkOK [.leaf (autoT sc rest) (autoX (autoS sc rest))] := by
    refine ⟨fun c hc => by simp at hc, fun d r bs x he => ?_, by rw [hb]; omega, by rw [hb]; exact hbt, by rw [hits]; simp, fun x hx => ?_, fun j x y hx hy _ => ?_⟩
    · cases d with
      | cons a d => simp at he
      | nil =>
        simp only [List.nil_append, List.cons.injEq, LTk.leaf.injEq] at he
        obtain ⟨⟨rfl, rfl⟩, rfl⟩ := he
        refine ⟨by simp, ⟨60, by rw [hb]; rfl, rfl⟩, rfl, fun p s cn hcn => ?_⟩
        refine Tr.ps (Tr.fr (F := [s.blk p]) (autoLink_tr p _ 0 (sc.length + 1) (sc.length + rest.length + 2) (by rw [hb]; omega) (by rw [hb]; exact hA)) HTakes.nil) ?_
        rintro u K ⟨K0, ⟨q, rfl, rfl⟩, rfl⟩
        refine ⟨[s.blk p, [(autoX (autoS sc rest)).cell q]], ⟨q, cn, ?_, ?_⟩, ?_⟩
        · have e1 : (bytesL ([] : List LTk)).length = 0 := rfl
          rw [e1, hlen, Nat.zero_add]
        · rw [← hcn]
        · rw [hb, autoT_cut]
          exact (by repeat (first | exact SubH.nilR _ | refine SubH.pick (by repeat (first | exact HTake.here | apply HTake.there)) ?_))
    · rw [hits, List.mem_singleton] at hx
      subst hx
      exact .inr ⟨rfl, rfl, rfl⟩
    · rw [hits] at hy
      simp at hy
  have hO : OutsL (itemsL [.leaf (autoT sc rest) (autoX (autoS sc rest))]) [autoOut (autoS sc rest)] := by
    have k1 := pairH_len linkOK (autoS sc rest)
    have k2 := escH_len (autoS sc rest)
    refine ⟨rfl, fun j x out hx ho q G hG => ?_, ?_⟩
    · rw [hits] at hx
      cases j with
      | succ j => simp at hx
      | zero =>
        simp only [List.getElem?_cons_zero, Option.some.injEq] at hx ho
        subst hx; subst ho
        exact prnAuto q _ G hG hsl
    · simp only [List.flatten_cons, List.flatten_nil, List.length_append, List.length_cons, List.length_nil] at k1 k2 ⊢
      omega
  have := htmlA_tr (autoT sc rest) _ _ hA hp (fun d hd => by have := hmem d hd; refine ⟨?_, ?_, ?_⟩ <;> (intro h; subst h; revert this; decide)) hlt _ hb hok _ hO (by rw [hits]; simp)
  simpa using this
end Go.Proofs

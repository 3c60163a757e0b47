/- inline of a text of literal bytes and runs. Conditions: TkOK, and contracts of emph and mergePlain for its items. -/
import Derived.Test.YtblaoglgknjepaaGreatDoorS2
namespace Go.Proofs
open Go Go.Eng
set_option maxRecDepth 20000
set_option maxHeartbeats 8000000

theorem run_text {tx : List UInt8} {i n : Nat} {r b a : UInt8} (h : Run tx i n r b a) : (tx.take (i + n)).drop i = List.replicate n r := by
  have hlen := (List.getElem?_eq_some_iff.1 h.aft).1
  apply List.ext_getElem?
  intro k
  rw [List.getElem?_drop, List.getElem?_take, List.getElem?_replicate]
  by_cases hk : k < n
  · rw [if_pos (by omega), if_pos hk]; exact h.run k hk
  · rw [if_neg (by omega), if_neg hk]

theorem w_sub {B : Base} {n : Nat} {L : Eng.Loc} {H H' : Heap} {Q : Eng.Post} {c : Code} (hs : SubH H H') (h : Wp Tryz.prog B n c L H' Q) : Wp Tryz.prog B n c L H Q :=
  ⟨fun a w ha hw => h.run a w ha (hw.sub hs)⟩

theorem inlineT_tr (p pr : Nat) (o : PO) (s : PS) (toks : List Tk) (hok : TkOK o toks) (cn0 : Bool) (hcn : s.corner = .bool cn0)
    (hq1 : o.dots = false) (hq2 : o.dashes = false) (hq5 : o.emoji = false) (hq6 : o.auto = false) (hpar : s.par = lp pr)
    (M : Nat → List Value → Blk → Prop) (IL : Option Addr → Nat → Nat → Blk → Prop)
    (hE : ∀ (g cap : Nat) (cur vals : List Value) (IB : Blk), ItsT (itemsT toks) vals IB → (itemsT toks).length ≤ cap → cur.length = cap → cur.take (itemsT toks).length = vals →
      Tr Tryz.prog 54 [lp p, .slice (some ⟨g, 0, none⟩) 0 cap, .slice (some ⟨g, 0, none⟩) (itemsT toks).length cap] [[(g, cellsOf cur 99)], IB] fun u K => ∃ im cur' G, u = .slice (some ⟨g, 0, none⟩) im cap ∧ cur'.length = cap ∧ im ≤ cap ∧ M im cur' G ∧ K = [[(g, cellsOf cur' 99)], G])
    (hM : ∀ (g cap im : Nat) (cur : List Value) (G : Blk), cur.length = cap → im ≤ cap → M im cur G → Tr Tryz.prog 55 [lp p, .slice (some ⟨g, 0, none⟩) im cap] [[(g, cellsOf cur 99)], G] fun u K => ∃ ja jm jc G', u = .slice ja jm jc ∧ IL ja jm jc G' ∧ K = [G']) :
    Tr Tryz.prog 30 [lp p, str (bytesT toks)] [s.blk p, o.blk pr] fun u K => ∃ (s' : PS) (ia : Option Addr) (im ic : Nat) (G : Blk), u = .slice ia im ic ∧ IL ia im ic G ∧ s'.par = s.par ∧ s'.root = s.root ∧ K = [s'.blk p, o.blk pr, G] := by
  obtain ⟨par, root, links, lineno, stack, depth, corner, sv, em, list, lists, texts, bt⟩ := s
  obtain ⟨o1, o2, o3, o4, o5, o6, o7, o8, o9, o10⟩ := o
  subst hq1; subst hq2; subst hq5; subst hq6; subst hpar; subst hcn
  have hlen0 := hok.len
  have hl' : (bytesT toks).length ≤ 140737488355328 := by omega
  have hbt := btrim_tr (bytesT toks) hl'
  rw [hok.trim] at hbt
  refine Tr.start (n := 335) (rs := [.tmp 4]) rfl rfl rfl rfl fun B => ?_
  (repeat' (first | refine s_pure (hbt) ?_ | refine k_seq ?_ | refine k_region ?_ | refine k_nil ?_ | refine k_then ?_ | refine s_move ?_ | refine s_assign ?_ | refine s_field ?_ | refine s_nilp ?_ | refine s_store ?_))
  refine k_midx (fun x : LT => [(0, lp p), (1, str (bytesT toks))]) (fun x => [(⟨lp pr, root, links, lineno, stack, depth, .bool x.cn, str (bytesT toks), inat x.e, x.v, lists, texts, bt⟩ : PS).blk p, (⟨o1, o2, o3, false, o5, o6, false, false, false, o10⟩ : PO).blk pr, x.LB, x.IB]) (fun x => x.r = [] ∧ toks = x.d ++ x.r ∧ x.e ≤ (bytesT x.d).length ∧ ((bytesT toks).take (bytesT x.d).length).drop x.e = (stT x.d).2 ∧ ItsT (stT x.d).1 x.vals x.IB ∧ Inls x.v x.vals x.LB ∧ x.vals.length ≤ x.e) ?_ ?_
  · (repeat' (first | refine k_blk ?_))
    refine k_loop (fun x : LT => [(0, lp p), (1, str (bytesT toks)), (5, .slice none 0 0), (6, .int .i64 0), (7, .bool false), (8, inat (bytesT x.d).length)]) (fun x => [(⟨lp pr, root, links, lineno, stack, depth, .bool x.cn, str (bytesT toks), inat x.e, x.v, lists, texts, bt⟩ : PS).blk p, (⟨o1, o2, o3, false, o5, o6, false, false, false, o10⟩ : PO).blk pr, x.LB, x.IB])
      (fun x => toks = x.d ++ x.r ∧ x.e ≤ (bytesT x.d).length ∧ ((bytesT toks).take (bytesT x.d).length).drop x.e = (stT x.d).2 ∧ ItsT (stT x.d).1 x.vals x.IB ∧ Inls x.v x.vals x.LB ∧ x.vals.length ≤ x.e) (fun x => x.r.length) ⟨[], toks, 0, cn0, [], .slice none 0 0, [], []⟩ ⟨rfl, Nat.le_refl _, by simp [bytesT], .nil, Own.nil _ _, Nat.le_refl _⟩ (Knows.spec (by repeat (first | exact trivial | refine ⟨rfl, ?_⟩))) (SubH.trans (H' := [_, _]) (by repeat (first | exact SubH.nilR _ | refine SubH.pick (by repeat (first | exact HTake.here | apply HTake.there)) ?_)) SubH.nil2) fun x hx => ?_
    obtain ⟨d, r, e, cn, vals, v, LB, IB⟩ := x
    obtain ⟨i1, i2, i3, i4, i5, i6⟩ := hx
    simp only at i1 i2 i3 i4 i5 i6 ⊢
    cases r with
    | nil =>
      have hd : d = toks := by simpa using i1.symm
      subst hd
      (repeat' (first | refine k_seq ?_ | refine k_region ?_ | refine k_nil ?_ | refine k_then ?_ | refine k_false ?_ | refine k_exit ?_ | refine k_exit_then ?_ | refine k_hit ?_ | refine s_move ?_ | refine s_lss_f ?_ | refine s_lens ?_))
      exact ⟨⟨d, [], e, cn, vals, v, LB, IB⟩, (by repeat (first | exact trivial | refine ⟨rfl, ?_⟩)), (by repeat (first | exact SubH.nilR _ | refine SubH.pick (by repeat (first | exact HTake.here | apply HTake.there)) ?_)), rfl, (by simp), i2, i3, i4, i5, i6⟩
    | cons t r =>
      have hlen : (bytesT toks).length = (bytesT d).length + t.bytes.length + (bytesT r).length := by rw [i1]; simp [bytesT]; omega
      cases t with
      | lit c =>
        have hc : (bytesT toks)[(bytesT d).length]? = some c := by rw [i1]; exact at_litT d r c
        obtain ⟨hq, hdel⟩ := hok.lit c (by rw [i1]; simp)
        simp only [Tk.bytes, List.length_cons, List.length_nil] at hlen
        have e1 : (bytesT (d ++ [.lit c])).length = (bytesT d).length + 1 := by simp [bytesT, Tk.bytes]
        have fin : toks = (d ++ [.lit c]) ++ r ∧ e ≤ (bytesT (d ++ [.lit c])).length ∧ ((bytesT toks).take (bytesT (d ++ [.lit c])).length).drop e = (stT (d ++ [.lit c])).2 ∧ ItsT (stT (d ++ [.lit c])).1 vals IB ∧ Inls v vals LB ∧ vals.length ≤ e := by
          refine ⟨by simp [i1], by omega, ?_, by rw [stT_snoc]; exact i4, i5, i6⟩
          rw [e1, stT_snoc, take_snoc hc, List.drop_append_of_le_length (by rw [List.length_take]; omega), i3]; rfl
        by_cases h126 : c.toNat = 126
        · have ho2 : o2 = false := hdel h126
          subst ho2
          (repeat' (first | refine k_seq ?_ | refine k_region ?_ | refine k_nil ?_ | refine k_then ?_ | refine k_true ?_ | refine k_false ?_ | refine k_blk ?_ | refine k_skip ?_ | refine k_block ?_ | refine s_gskipt ?_ | refine s_move ?_ | refine s_assign ?_ | refine s_load ?_ | refine s_field ?_ | refine s_nilp ?_ | refine s_add1 ?_ | refine s_lss_t ?_ | refine s_eql_t ?_ | refine s_eql_f ?_ | refine s_pickf ?_ | refine s_lens ?_ | refine s_index ?_ | refine s_nenf ?_))
          exact ⟨⟨d ++ [.lit c], r, e, cn, vals, v, LB, IB⟩, (by simp only [e1]; exact (Knows.spec (by repeat (first | exact trivial | refine ⟨rfl, ?_⟩)))), (by repeat (first | exact SubH.nilR _ | refine SubH.pick (by repeat (first | exact HTake.here | apply HTake.there)) ?_)), fin, (by simp)⟩
        · (repeat' (first | refine k_seq ?_ | refine k_region ?_ | refine k_nil ?_ | refine k_then ?_ | refine k_true ?_ | refine k_false ?_ | refine k_blk ?_ | refine k_skip ?_ | refine k_block ?_ | refine s_gskipt ?_ | refine s_move ?_ | refine s_assign ?_ | refine s_add1 ?_ | refine s_lss_t ?_ | refine s_eql_f ?_ | refine s_pickf ?_ | refine s_lens ?_ | refine s_index ?_ | refine s_nenf ?_))
          exact ⟨⟨d ++ [.lit c], r, e, cn, vals, v, LB, IB⟩, (by simp only [e1]; exact (Knows.spec (by repeat (first | exact trivial | refine ⟨rfl, ?_⟩)))), (by repeat (first | exact SubH.nilR _ | refine SubH.pick (by repeat (first | exact HTake.here | apply HTake.there)) ?_)), fin, (by simp)⟩
      | run c n ob =>
        obtain ⟨hp0, ⟨b, a, hR, hob⟩, hdel, hquo⟩ := hok.run d r c n ob i1
        have hc : (bytesT toks)[(bytesT d).length]? = some c := by
          have := hR.run 0 (by rcases hR.kind with h | h | h | h <;> omega)
          simpa using this
        simp only [Tk.bytes, List.length_replicate] at hlen
        have e1 : (bytesT (d ++ [.run c n ob])).length = (bytesT d).length + n := by simp [bytesT, Tk.bytes]
        have hei : e < (bytesT d).length := by
          refine Classical.byContradiction fun hge => hp0 ?_
          rw [← i3]
          exact List.drop_eq_nil_of_le (by rw [List.length_take]; omega)
        have hob2 : decide (b.toNat ≠ 32) = !ob := by rw [← hob]; simp
        have hP := fun s' hs' => parseEmph_tr p s' (bytesT toks) (bytesT d).length n c b a cn hs' (by omega) hR
        simp only [run_text hR, hob, hob2] at hP
        have hkk : c.toNat = 126 ∨ c.toNat = 34 ∨ c.toNat = 39 := by rcases hR.kind with h | h | h | h <;> omega
        have hn12 : 1 ≤ n ∧ n ≤ 2 := by rcases hR.kind with h | h | h | h <;> omega
        rcases hkk with hk | hk | hk
        · have ho := hdel hk
          simp only at ho
          subst ho
          (repeat' (first | refine k_seq ?_ | refine k_region ?_ | refine k_nil ?_ | refine k_then ?_ | refine k_true ?_ | refine k_false ?_ | refine k_blk ?_ | refine k_skip ?_ | refine k_block ?_ | refine s_move ?_ | refine s_assign ?_ | refine s_load ?_ | refine s_field ?_ | refine s_nilp ?_ | refine s_lss_t ?_ | refine s_eql_t ?_ | refine s_eql_f ?_ | refine s_lens ?_ | refine s_index ?_ | refine s_nefn ?_))
          refine s_valR (hP _ rfl) (fun u K hR => ?_)
          obtain ⟨q, cn', rfl, rfl⟩ := hR
          (repeat' (first | refine k_seq ?_ | refine k_region ?_ | refine k_nil ?_ | refine k_then ?_ | refine k_true ?_ | refine s_move ?_ | refine s_assign ?_ | refine s_ext ?_))
          refine s_call (emitP p (bytesT d).length e _ (bytesT toks) vals LB rfl rfl hei (by omega) hl' i5 (by omega)) (fun u K hR => ?_)
          obtain ⟨rfl, q2, v', LB', hL', rfl⟩ := hR
          (repeat' (first | refine k_seq ?_ | refine k_region ?_ | refine k_nil ?_ | refine k_then ?_ | refine k_false ?_ | refine k_skip ?_ | refine s_move ?_ | refine s_assign ?_ | refine s_load ?_ | refine s_field ?_ | refine s_nilp ?_ | refine s_ext ?_ | refine s_asno ?_ | refine s_bsl1 (fun _ => ?_)))
          refine s_app hL' (by simp only [List.length_append, List.length_cons, List.length_nil]; omega) (fun v2 LB2 hL2 => ?_)
          obtain ⟨g2, cap2, cur2, rfl, rfl, k1, k2, k3, k4⟩ := hL2.pos
          (repeat' (first | refine s_callD (skip_tr p ((bytesT d).length + n) (⟨lp pr, root, links, lineno, stack, depth, .bool cn', str (bytesT toks), inat (bytesT d).length, .slice (some ⟨g2, 0, none⟩) ((vals ++ [Value.iface 123 (lp q2)]).length + 1) cap2, lists, texts, bt⟩ : PS)) ?_ | refine k_seq ?_ | refine k_region ?_ | refine k_nil ?_ | refine k_then ?_ | refine k_exit ?_ | refine k_exit_then ?_ | refine k_hit ?_ | refine s_move ?_ | refine s_assign ?_ | refine s_field ?_ | refine s_nilp ?_ | refine s_store ?_))
          have hL3 : Inls (.slice (some ⟨g2, 0, none⟩) ((vals ++ [Value.iface 123 (lp q2)]).length + 1) cap2) ((vals ++ [Value.iface 123 (lp q2)]) ++ [.iface 159 (lp q)]) [(g2, cellsOf cur2 99)] := by simpa [Inls] using hL2
          refine ⟨⟨d ++ [.run c n ob], r, (bytesT d).length + n, cn', (vals ++ [Value.iface 123 (lp q2)]) ++ [.iface 159 (lp q)], _, _, It.cell (.emph (List.replicate n c) ob (!ob) n) q :: It.cell (.plain (((bytesT toks).take (bytesT d).length).drop e)) q2 :: IB⟩, (by simp only [e1]; exact (Knows.spec (by repeat (first | exact trivial | refine ⟨rfl, ?_⟩)))), SubH.trans (H' := [_, _, _, [It.cell (.emph (List.replicate n c) ob (!ob) n) q], [It.cell (.plain (((bytesT toks).take (bytesT d).length).drop e)) q2], IB]) (by repeat (first | exact SubH.nilR _ | refine SubH.pick (by repeat (first | exact HTake.here | apply HTake.there)) ?_)) (SubH.keep (SubH.keep (SubH.keep (SubH.trans (SubH.keep SubH.join) SubH.join)))), ⟨by simp [i1], by simp only [e1]; exact Nat.le_refl _, ?_, ?_, hL3, ?_⟩, by simp⟩
          · simp only [e1]
            rw [stT_snoc]
            exact List.drop_eq_nil_of_le (by rw [List.length_take]; omega)
          · simp only []
            rw [stT_snoc]
            simp only [Tk.step, if_neg hp0]
            rw [i3]
            exact .snoc (.emph (List.replicate n c) ob (!ob) n) q (.snoc (.plain (stT d).2) q2 i4)
          · simp only [List.length_append, List.length_cons, List.length_nil]; omega
        · have ho := hquo (by omega)
          simp only at ho
          subst ho
          (repeat' (first | refine k_seq ?_ | refine k_region ?_ | refine k_nil ?_ | refine k_then ?_ | refine k_true ?_ | refine k_false ?_ | refine k_blk ?_ | refine k_skip ?_ | refine k_block ?_ | refine s_move ?_ | refine s_assign ?_ | refine s_load ?_ | refine s_field ?_ | refine s_nilp ?_ | refine s_lss_t ?_ | refine s_eql_t ?_ | refine s_eql_f ?_ | refine s_lens ?_ | refine s_index ?_ | refine s_nefn ?_))
          refine s_valR (hP _ rfl) (fun u K hR => ?_)
          obtain ⟨q, cn', rfl, rfl⟩ := hR
          (repeat' (first | refine k_seq ?_ | refine k_region ?_ | refine k_nil ?_ | refine k_then ?_ | refine k_true ?_ | refine s_move ?_ | refine s_assign ?_ | refine s_ext ?_))
          refine s_call (emitP p (bytesT d).length e _ (bytesT toks) vals LB rfl rfl hei (by omega) hl' i5 (by omega)) (fun u K hR => ?_)
          obtain ⟨rfl, q2, v', LB', hL', rfl⟩ := hR
          (repeat' (first | refine k_seq ?_ | refine k_region ?_ | refine k_nil ?_ | refine k_then ?_ | refine k_false ?_ | refine k_skip ?_ | refine s_move ?_ | refine s_assign ?_ | refine s_load ?_ | refine s_field ?_ | refine s_nilp ?_ | refine s_ext ?_ | refine s_asno ?_ | refine s_bsl1 (fun _ => ?_)))
          refine s_app hL' (by simp only [List.length_append, List.length_cons, List.length_nil]; omega) (fun v2 LB2 hL2 => ?_)
          obtain ⟨g2, cap2, cur2, rfl, rfl, k1, k2, k3, k4⟩ := hL2.pos
          (repeat' (first | refine s_callD (skip_tr p ((bytesT d).length + n) (⟨lp pr, root, links, lineno, stack, depth, .bool cn', str (bytesT toks), inat (bytesT d).length, .slice (some ⟨g2, 0, none⟩) ((vals ++ [Value.iface 123 (lp q2)]).length + 1) cap2, lists, texts, bt⟩ : PS)) ?_ | refine k_seq ?_ | refine k_region ?_ | refine k_nil ?_ | refine k_then ?_ | refine k_exit ?_ | refine k_exit_then ?_ | refine k_hit ?_ | refine s_move ?_ | refine s_assign ?_ | refine s_field ?_ | refine s_nilp ?_ | refine s_store ?_))
          have hL3 : Inls (.slice (some ⟨g2, 0, none⟩) ((vals ++ [Value.iface 123 (lp q2)]).length + 1) cap2) ((vals ++ [Value.iface 123 (lp q2)]) ++ [.iface 159 (lp q)]) [(g2, cellsOf cur2 99)] := by simpa [Inls] using hL2
          refine ⟨⟨d ++ [.run c n ob], r, (bytesT d).length + n, cn', (vals ++ [Value.iface 123 (lp q2)]) ++ [.iface 159 (lp q)], _, _, It.cell (.emph (List.replicate n c) ob (!ob) n) q :: It.cell (.plain (((bytesT toks).take (bytesT d).length).drop e)) q2 :: IB⟩, (by simp only [e1]; exact (Knows.spec (by repeat (first | exact trivial | refine ⟨rfl, ?_⟩)))), SubH.trans (H' := [_, _, _, [It.cell (.emph (List.replicate n c) ob (!ob) n) q], [It.cell (.plain (((bytesT toks).take (bytesT d).length).drop e)) q2], IB]) (by repeat (first | exact SubH.nilR _ | refine SubH.pick (by repeat (first | exact HTake.here | apply HTake.there)) ?_)) (SubH.keep (SubH.keep (SubH.keep (SubH.trans (SubH.keep SubH.join) SubH.join)))), ⟨by simp [i1], by simp only [e1]; exact Nat.le_refl _, ?_, ?_, hL3, ?_⟩, by simp⟩
          · simp only [e1]
            rw [stT_snoc]
            exact List.drop_eq_nil_of_le (by rw [List.length_take]; omega)
          · simp only []
            rw [stT_snoc]
            simp only [Tk.step, if_neg hp0]
            rw [i3]
            exact .snoc (.emph (List.replicate n c) ob (!ob) n) q (.snoc (.plain (stT d).2) q2 i4)
          · simp only [List.length_append, List.length_cons, List.length_nil]; omega
        · have ho := hquo (by omega)
          simp only at ho
          subst ho
          (repeat' (first | refine k_seq ?_ | refine k_region ?_ | refine k_nil ?_ | refine k_then ?_ | refine k_true ?_ | refine k_false ?_ | refine k_blk ?_ | refine k_skip ?_ | refine k_block ?_ | refine s_move ?_ | refine s_assign ?_ | refine s_load ?_ | refine s_field ?_ | refine s_nilp ?_ | refine s_lss_t ?_ | refine s_eql_t ?_ | refine s_eql_f ?_ | refine s_lens ?_ | refine s_index ?_ | refine s_nefn ?_))
          refine s_valR (hP _ rfl) (fun u K hR => ?_)
          obtain ⟨q, cn', rfl, rfl⟩ := hR
          (repeat' (first | refine k_seq ?_ | refine k_region ?_ | refine k_nil ?_ | refine k_then ?_ | refine k_true ?_ | refine s_move ?_ | refine s_assign ?_ | refine s_ext ?_))
          refine s_call (emitP p (bytesT d).length e _ (bytesT toks) vals LB rfl rfl hei (by omega) hl' i5 (by omega)) (fun u K hR => ?_)
          obtain ⟨rfl, q2, v', LB', hL', rfl⟩ := hR
          (repeat' (first | refine k_seq ?_ | refine k_region ?_ | refine k_nil ?_ | refine k_then ?_ | refine k_false ?_ | refine k_skip ?_ | refine s_move ?_ | refine s_assign ?_ | refine s_load ?_ | refine s_field ?_ | refine s_nilp ?_ | refine s_ext ?_ | refine s_asno ?_ | refine s_bsl1 (fun _ => ?_)))
          refine s_app hL' (by simp only [List.length_append, List.length_cons, List.length_nil]; omega) (fun v2 LB2 hL2 => ?_)
          obtain ⟨g2, cap2, cur2, rfl, rfl, k1, k2, k3, k4⟩ := hL2.pos
          (repeat' (first | refine s_callD (skip_tr p ((bytesT d).length + n) (⟨lp pr, root, links, lineno, stack, depth, .bool cn', str (bytesT toks), inat (bytesT d).length, .slice (some ⟨g2, 0, none⟩) ((vals ++ [Value.iface 123 (lp q2)]).length + 1) cap2, lists, texts, bt⟩ : PS)) ?_ | refine k_seq ?_ | refine k_region ?_ | refine k_nil ?_ | refine k_then ?_ | refine k_exit ?_ | refine k_exit_then ?_ | refine k_hit ?_ | refine s_move ?_ | refine s_assign ?_ | refine s_field ?_ | refine s_nilp ?_ | refine s_store ?_))
          have hL3 : Inls (.slice (some ⟨g2, 0, none⟩) ((vals ++ [Value.iface 123 (lp q2)]).length + 1) cap2) ((vals ++ [Value.iface 123 (lp q2)]) ++ [.iface 159 (lp q)]) [(g2, cellsOf cur2 99)] := by simpa [Inls] using hL2
          refine ⟨⟨d ++ [.run c n ob], r, (bytesT d).length + n, cn', (vals ++ [Value.iface 123 (lp q2)]) ++ [.iface 159 (lp q)], _, _, It.cell (.emph (List.replicate n c) ob (!ob) n) q :: It.cell (.plain (((bytesT toks).take (bytesT d).length).drop e)) q2 :: IB⟩, (by simp only [e1]; exact (Knows.spec (by repeat (first | exact trivial | refine ⟨rfl, ?_⟩)))), SubH.trans (H' := [_, _, _, [It.cell (.emph (List.replicate n c) ob (!ob) n) q], [It.cell (.plain (((bytesT toks).take (bytesT d).length).drop e)) q2], IB]) (by repeat (first | exact SubH.nilR _ | refine SubH.pick (by repeat (first | exact HTake.here | apply HTake.there)) ?_)) (SubH.keep (SubH.keep (SubH.keep (SubH.trans (SubH.keep SubH.join) SubH.join)))), ⟨by simp [i1], by simp only [e1]; exact Nat.le_refl _, ?_, ?_, hL3, ?_⟩, by simp⟩
          · simp only [e1]
            rw [stT_snoc]
            exact List.drop_eq_nil_of_le (by rw [List.length_take]; omega)
          · simp only []
            rw [stT_snoc]
            simp only [Tk.step, if_neg hp0]
            rw [i3]
            exact .snoc (.emph (List.replicate n c) ob (!ob) n) q (.snoc (.plain (stT d).2) q2 i4)
          · simp only [List.length_append, List.length_cons, List.length_nil]; omega
  · rintro ⟨d, r, e, cn, vals, v, LB, IB⟩ ⟨hr, i1, i2, i3, i4, i5, i6⟩
    simp only at hr i1 i2 i3 i4 i5 i6 ⊢
    subst hr
    have hd : d = toks := by simpa using i1.symm
    subst hd
    rw [List.take_length] at i3
    obtain ⟨d0, c0, hlast⟩ := hok.last
    have hp0 := itemsT_end hlast
    have hei : e < (bytesT d).length := by
      refine Classical.byContradiction fun hge => hp0 ?_
      rw [← i3]
      exact List.drop_eq_nil_of_le (by omega)
    (repeat' (first | refine k_seq ?_ | refine k_region ?_ | refine s_move ?_ | refine s_lens ?_))
    refine s_call (emitP p (bytesT d).length e _ (bytesT d) vals LB rfl rfl hei (Nat.le_refl _) hl' i5 (by omega)) (fun u K hR => ?_)
    obtain ⟨rfl, q2, v', LB', hL', rfl⟩ := hR
    have j1 : ItsT (itemsT d) (vals ++ [.iface 123 (lp q2)]) (It.cell (.plain (((bytesT d).take (bytesT d).length).drop e)) q2 :: IB) := by
      rw [List.take_length, i3]
      exact .snoc (.plain (stT d).2) q2 i4
    have hlenv : (itemsT d).length = vals.length + 1 := by rw [← j1.length, List.length_append]; rfl
    have j2' : Own 99 1 v' (vals.length + 1) (vals ++ [.iface 123 (lp q2)]) LB' := by simpa [Inls] using hL'
    obtain ⟨g, cap, cur, rfl, rfl, k1, k2, k3, k4⟩ := j2'.pos
    have he := hE g cap cur _ _ j1 (by omega) (by omega) (by rw [hlenv, ← k4, Nat.mul_one])
    rw [hlenv] at he
    (repeat' (first | refine k_seq ?_ | refine k_nil ?_ | refine k_then ?_))
    refine w_sub (H' := [(⟨lp pr, root, links, lineno, stack, depth, .bool cn, str (bytesT d), inat (bytesT d).length, .slice (some ⟨g, 0, none⟩) (vals.length + 1) cap, lists, texts, bt⟩ : PS).blk p, (⟨o1, o2, o3, false, o5, o6, false, false, false, o10⟩ : PO).blk pr, [(g, cellsOf cur 99)], It.cell (.plain (((bytesT d).take (bytesT d).length).drop e)) q2 :: IB]) (SubH.trans (H' := [_, _, _, [It.cell (.plain (((bytesT d).take (bytesT d).length).drop e)) q2], IB]) (by repeat (first | exact SubH.nilR _ | refine SubH.pick (by repeat (first | exact HTake.here | apply HTake.there)) ?_)) (SubH.keep (SubH.keep (SubH.keep SubH.join)))) ?_
    refine Wp.draw_till (id := 78) [(⟨lp pr, root, links, lineno, stack, depth, .bool cn, str (bytesT d), inat (bytesT d).length, .slice (some ⟨g, 0, none⟩) (vals.length + 1) cap, lists, texts, bt⟩ : PS).blk p] 14 15 Mixed.out (by repeat (first | exact SubH.nilR _ | refine SubH.pick (by repeat (first | exact HTake.here | apply HTake.there)) ?_)) rfl ?_
    refine OpsK.first 0 _ (by rfl) (by kernel_rfl) rfl (by kernel_rfl) (by kernel_rfl) rfl (by first | exact p_move rfl | exact p_assign rfl | exact p_extract rfl rfl | exact q_fieldAddr rfl | exact p_nilCheck rfl | exact q_load rfl (by repeat (first | exact HMem.here | apply HMem.skip | apply HMem.there)) rfl | exact q_load_agg rfl (by repeat (first | exact HMem.here | apply HMem.skip | apply HMem.there)) (by repeat constructor) | exact q_len_slice rfl | exact q_len_str rfl | exact q_indexAddr rfl rfl (by omega) | exact q_slice_str rfl rfl rfl (by omega) (by omega) | exact q_makeInterface rfl | exact q_assert rfl | exact p_build rfl (by repeat' (first | exact BFill.nil | refine' BFill.one (by rfl) (by rfl) (by repeat constructor) ?_ | refine' BFill.agg (by rfl) (by rfl) (by repeat constructor) ?_))) ?_
    refine OpsK.first 1 _ (by rfl) (by kernel_rfl) rfl (by kernel_rfl) (by kernel_rfl) rfl (by first | exact p_move rfl | exact p_assign rfl | exact p_extract rfl rfl | exact q_fieldAddr rfl | exact p_nilCheck rfl | exact q_load rfl (by repeat (first | exact HMem.here | apply HMem.skip | apply HMem.there)) rfl | exact q_load_agg rfl (by repeat (first | exact HMem.here | apply HMem.skip | apply HMem.there)) (by repeat constructor) | exact q_len_slice rfl | exact q_len_str rfl | exact q_indexAddr rfl rfl (by omega) | exact q_slice_str rfl rfl rfl (by omega) (by omega) | exact q_makeInterface rfl | exact q_assert rfl | exact p_build rfl (by repeat' (first | exact BFill.nil | refine' BFill.one (by rfl) (by rfl) (by repeat constructor) ?_ | refine' BFill.agg (by rfl) (by rfl) (by repeat constructor) ?_))) ?_
    refine OpsK.first 2 _ (by rfl) (by kernel_rfl) rfl (by kernel_rfl) (by kernel_rfl) rfl (by first | exact p_move rfl | exact p_assign rfl | exact p_extract rfl rfl | exact q_fieldAddr rfl | exact p_nilCheck rfl | exact q_load rfl (by repeat (first | exact HMem.here | apply HMem.skip | apply HMem.there)) rfl | exact q_load_agg rfl (by repeat (first | exact HMem.here | apply HMem.skip | apply HMem.there)) (by repeat constructor) | exact q_len_slice rfl | exact q_len_str rfl | exact q_indexAddr rfl rfl (by omega) | exact q_slice_str rfl rfl rfl (by omega) (by omega) | exact q_makeInterface rfl | exact q_assert rfl | exact p_build rfl (by repeat' (first | exact BFill.nil | refine' BFill.one (by rfl) (by rfl) (by repeat constructor) ?_ | refine' BFill.agg (by rfl) (by rfl) (by repeat constructor) ?_))) ?_
    refine OpsK.first 3 _ (by rfl) (by kernel_rfl) rfl (by kernel_rfl) (by kernel_rfl) rfl (by first | exact p_move rfl | exact p_assign rfl | exact p_extract rfl rfl | exact q_fieldAddr rfl | exact p_nilCheck rfl | exact q_load rfl (by repeat (first | exact HMem.here | apply HMem.skip | apply HMem.there)) rfl | exact q_load_agg rfl (by repeat (first | exact HMem.here | apply HMem.skip | apply HMem.there)) (by repeat constructor) | exact q_len_slice rfl | exact q_len_str rfl | exact q_indexAddr rfl rfl (by omega) | exact q_slice_str rfl rfl rfl (by omega) (by omega) | exact q_makeInterface rfl | exact q_assert rfl | exact p_build rfl (by repeat' (first | exact BFill.nil | refine' BFill.one (by rfl) (by rfl) (by repeat constructor) ?_ | refine' BFill.agg (by rfl) (by rfl) (by repeat constructor) ?_))) ?_
    refine OpsK.first 4 _ (by rfl) (by kernel_rfl) rfl (by kernel_rfl) (by kernel_rfl) rfl (by first | exact p_move rfl | exact p_assign rfl | exact p_extract rfl rfl | exact q_fieldAddr rfl | exact p_nilCheck rfl | exact q_load rfl (by repeat (first | exact HMem.here | apply HMem.skip | apply HMem.there)) rfl | exact q_load_agg rfl (by repeat (first | exact HMem.here | apply HMem.skip | apply HMem.there)) (by repeat constructor) | exact q_len_slice rfl | exact q_len_str rfl | exact q_indexAddr rfl rfl (by omega) | exact q_slice_str rfl rfl rfl (by omega) (by omega) | exact q_makeInterface rfl | exact q_assert rfl | exact p_build rfl (by repeat' (first | exact BFill.nil | refine' BFill.one (by rfl) (by rfl) (by repeat constructor) ?_ | refine' BFill.agg (by rfl) (by rfl) (by repeat constructor) ?_))) ?_
    refine OpsK.firstL 5 [] _ (by rfl) (by kernel_rfl) (by kernel_rfl) rfl (by kernel_rfl) (by kernel_rfl) rfl (by first | exact p_move rfl | exact p_assign rfl | exact p_extract rfl rfl | exact q_fieldAddr rfl | exact p_nilCheck rfl | exact q_load rfl (by repeat (first | exact HMem.here | apply HMem.skip | apply HMem.there)) rfl | exact q_load_agg rfl (by repeat (first | exact HMem.here | apply HMem.skip | apply HMem.there)) (by repeat constructor) | exact q_len_slice rfl | exact q_len_str rfl | exact q_indexAddr rfl rfl (by omega) | exact q_slice_str rfl rfl rfl (by omega) (by omega) | exact q_makeInterface rfl | exact q_assert rfl | exact p_build rfl (by repeat' (first | exact BFill.nil | refine' BFill.one (by rfl) (by rfl) (by repeat constructor) ?_ | refine' BFill.agg (by rfl) (by rfl) (by repeat constructor) ?_))) ?_
    refine OpsK.first 6 _ (by rfl) (by kernel_rfl) rfl (by kernel_rfl) (by kernel_rfl) rfl (p_slice_hi (b := 0) USlice.out Siz.out rfl rfl (Nat.zero_le _)) ?_
    refine OpsK.first 7 _ (by rfl) (by kernel_rfl) rfl (by kernel_rfl) (by kernel_rfl) rfl (by first | exact p_move rfl | exact p_assign rfl | exact p_extract rfl rfl | exact q_fieldAddr rfl | exact p_nilCheck rfl | exact q_load rfl (by repeat (first | exact HMem.here | apply HMem.skip | apply HMem.there)) rfl | exact q_load_agg rfl (by repeat (first | exact HMem.here | apply HMem.skip | apply HMem.there)) (by repeat constructor) | exact q_len_slice rfl | exact q_len_str rfl | exact q_indexAddr rfl rfl (by omega) | exact q_slice_str rfl rfl rfl (by omega) (by omega) | exact q_makeInterface rfl | exact q_assert rfl | exact p_build rfl (by repeat' (first | exact BFill.nil | refine' BFill.one (by rfl) (by rfl) (by repeat constructor) ?_ | refine' BFill.agg (by rfl) (by rfl) (by repeat constructor) ?_))) ?_
    refine OpsK.first 8 _ (by rfl) (by kernel_rfl) rfl (by kernel_rfl) (by kernel_rfl) rfl (by first | exact p_move rfl | exact p_assign rfl | exact p_extract rfl rfl | exact q_fieldAddr rfl | exact p_nilCheck rfl | exact q_load rfl (by repeat (first | exact HMem.here | apply HMem.skip | apply HMem.there)) rfl | exact q_load_agg rfl (by repeat (first | exact HMem.here | apply HMem.skip | apply HMem.there)) (by repeat constructor) | exact q_len_slice rfl | exact q_len_str rfl | exact q_indexAddr rfl rfl (by omega) | exact q_slice_str rfl rfl rfl (by omega) (by omega) | exact q_makeInterface rfl | exact q_assert rfl | exact p_build rfl (by repeat' (first | exact BFill.nil | refine' BFill.one (by rfl) (by rfl) (by repeat constructor) ?_ | refine' BFill.agg (by rfl) (by rfl) (by repeat constructor) ?_))) ?_
    refine OpsK.first 9 _ (by rfl) (by kernel_rfl) rfl (by kernel_rfl) (by kernel_rfl) rfl (by first | exact p_move rfl | exact p_assign rfl | exact p_extract rfl rfl | exact q_fieldAddr rfl | exact p_nilCheck rfl | exact q_load rfl (by repeat (first | exact HMem.here | apply HMem.skip | apply HMem.there)) rfl | exact q_load_agg rfl (by repeat (first | exact HMem.here | apply HMem.skip | apply HMem.there)) (by repeat constructor) | exact q_len_slice rfl | exact q_len_str rfl | exact q_indexAddr rfl rfl (by omega) | exact q_slice_str rfl rfl rfl (by omega) (by omega) | exact q_makeInterface rfl | exact q_assert rfl | exact p_build rfl (by repeat' (first | exact BFill.nil | refine' BFill.one (by rfl) (by rfl) (by repeat constructor) ?_ | refine' BFill.agg (by rfl) (by rfl) (by repeat constructor) ?_))) ?_
    refine OpsK.firstL 10 [] _ (by rfl) (by kernel_rfl) (by kernel_rfl) rfl (by kernel_rfl) (by kernel_rfl) rfl (by first | exact p_move rfl | exact p_assign rfl | exact p_extract rfl rfl | exact q_fieldAddr rfl | exact p_nilCheck rfl | exact q_load rfl (by repeat (first | exact HMem.here | apply HMem.skip | apply HMem.there)) rfl | exact q_load_agg rfl (by repeat (first | exact HMem.here | apply HMem.skip | apply HMem.there)) (by repeat constructor) | exact q_len_slice rfl | exact q_len_str rfl | exact q_indexAddr rfl rfl (by omega) | exact q_slice_str rfl rfl rfl (by omega) (by omega) | exact q_makeInterface rfl | exact q_assert rfl | exact p_build rfl (by repeat' (first | exact BFill.nil | refine' BFill.one (by rfl) (by rfl) (by repeat constructor) ?_ | refine' BFill.agg (by rfl) (by rfl) (by repeat constructor) ?_))) ?_
    refine OpsK.only 11 _ (by kernel_rfl) rfl ?_
    refine s_call he (fun u K hR => ?_)
    obtain ⟨im, cur', G, rfl, hcl, him, hMm, rfl⟩ := hR
    (repeat' (first | refine k_nil ?_ | refine k_then ?_))
    refine ⟨fun _ => (by repeat (first | exact SubH.nilR _ | refine SubH.pick (by repeat (first | exact HTake.here | apply HTake.there)) ?_)), ?_⟩
    refine OpsK.first 12 _ (by rfl) (by kernel_rfl) rfl (by kernel_rfl) (by kernel_rfl) rfl (by first | exact p_move rfl | exact p_assign rfl | exact p_extract rfl rfl | exact q_fieldAddr rfl | exact p_nilCheck rfl | exact q_load rfl (by repeat (first | exact HMem.here | apply HMem.skip | apply HMem.there)) rfl | exact q_load_agg rfl (by repeat (first | exact HMem.here | apply HMem.skip | apply HMem.there)) (by repeat constructor) | exact q_len_slice rfl | exact q_len_str rfl | exact q_indexAddr rfl rfl (by omega) | exact q_slice_str rfl rfl rfl (by omega) (by omega) | exact q_makeInterface rfl | exact q_assert rfl | exact p_build rfl (by repeat' (first | exact BFill.nil | refine' BFill.one (by rfl) (by rfl) (by repeat constructor) ?_ | refine' BFill.agg (by rfl) (by rfl) (by repeat constructor) ?_))) ?_
    refine OpsK.first 13 _ (by rfl) (by kernel_rfl) rfl (by kernel_rfl) (by kernel_rfl) rfl (by first | exact p_move rfl | exact p_assign rfl | exact p_extract rfl rfl | exact q_fieldAddr rfl | exact p_nilCheck rfl | exact q_load rfl (by repeat (first | exact HMem.here | apply HMem.skip | apply HMem.there)) rfl | exact q_load_agg rfl (by repeat (first | exact HMem.here | apply HMem.skip | apply HMem.there)) (by repeat constructor) | exact q_len_slice rfl | exact q_len_str rfl | exact q_indexAddr rfl rfl (by omega) | exact q_slice_str rfl rfl rfl (by omega) (by omega) | exact q_makeInterface rfl | exact q_assert rfl | exact p_build rfl (by repeat' (first | exact BFill.nil | refine' BFill.one (by rfl) (by rfl) (by repeat constructor) ?_ | refine' BFill.agg (by rfl) (by rfl) (by repeat constructor) ?_))) ?_
    refine OpsK.only 14 _ (by kernel_rfl) rfl ?_
    (repeat' (first | refine k_nil ?_ | refine k_then ?_ | refine s_store ?_))
    refine ⟨(fun h0 => Bool.noConfusion (show true = false from h0)), ?_⟩
    refine OpsK.nil (by kernel_rfl) ?_
    (repeat' (first | refine k_seq ?_ | refine k_region ?_ | refine s_move ?_ | refine s_load ?_ | refine s_field ?_ | refine s_nilp ?_))
    refine s_call (hM g cap im cur' G hcl him hMm) (fun u K hR => ?_)
    obtain ⟨ja, jm, jc, G', rfl, hIL, rfl⟩ := hR
    (repeat' (first | refine s_callD (autoLinkText_no p pr (⟨o1, o2, o3, false, o5, o6, false, false, false, o10⟩ : PO) (⟨lp pr, root, links, lineno, stack, depth, .bool cn, str (bytesT d), inat (bytesT d).length, .slice ja jm jc, lists, texts, bt⟩ : PS) (.slice ja jm jc) rfl rfl) ?_ | refine k_seq ?_ | refine k_region ?_ | refine k_nil ?_ | refine k_then ?_ | refine k_ret ?_ | refine s_move ?_ | refine s_assign ?_ | refine s_load ?_ | refine s_field ?_ | refine s_nilp ?_ | refine s_store ?_))
    exact e_ret _ ⟨(⟨lp pr, root, links, lineno, stack, depth, .bool cn, str (bytesT d), inat (bytesT d).length, .slice ja jm jc, lists, texts, bt⟩ : PS), ja, jm, jc, G', rfl, hIL, rfl, rfl, rfl⟩ (by repeat (first | exact SubH.nilR _ | refine SubH.pick (by repeat (first | exact HTake.here | apply HTake.there)) ?_))
end Go.Proofs

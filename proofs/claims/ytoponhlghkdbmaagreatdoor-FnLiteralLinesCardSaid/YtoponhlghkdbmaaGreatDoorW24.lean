/- inline of a text of literal and escaped characters. Conditions: options off, a bound on the length. -/
import Derived.Test.YtoponhlghkdbmaaGreatDoorW23
import Derived.Test.YtoponhlghkdbmaaGreatDoorEngB
namespace Go.Proofs
open Go Go.Eng
set_option maxRecDepth 20000
set_option maxHeartbeats 8000000

theorem inline_tr (p pr : Nat) (o : PO) (s : PS) (toks : List Tok) (hok : ∀ t ∈ toks, t.ok) (hl : (bytesOf toks).length ≤ 1000000) (hb : btrim (bytesOf toks) = bytesOf toks)
    (hq1 : o.dots = false) (hq2 : o.dashes = false) (hq3 : o.quotes = false) (hq4 : o.del = false) (hq5 : o.emoji = false) (hq6 : o.auto = false) (hpar : s.par = lp pr) (hne : toks ≠ []) (hnl : ∀ d r, toks = d ++ .nl :: r → (∀ c, 0 < (bytesOf d).length → (bytesOf toks)[(bytesOf d).length - 1]? = some c → ¬ c.toNat = 32 ∧ ¬ c.toNat = 9) ∧ (∀ c, (bytesOf toks)[(bytesOf d).length + 1]? = some c → ¬ c.toNat = 32 ∧ ¬ c.toNat = 9)) :
    Tr Tryz.prog 33 [lp p, str (bytesOf toks)] [s.blk p, o.blk pr] fun u K => ∃ (s' : PS) (ia : Option Addr) (im ic : Nat) (G : Blk), u = .slice ia im ic ∧ (∃ vals LB IB, Items (itemsOf toks) vals IB ∧ Inls (.slice ia im ic) vals LB ∧ G = LB ++ IB) ∧ s'.par = s.par ∧ s'.root = s.root ∧ K = [s'.blk p, o.blk pr, G] := by
  obtain ⟨par, root, links, lineno, stack, depth, corner, sv, em, list, lists, texts, bt⟩ := s
  obtain ⟨o1, o2, o3, o4, o5, o6, o7, o8, o9, o10⟩ := o
  subst hq1; subst hq2; subst hq3; subst hq4; subst hq5; subst hq6; subst hpar
  have hl' : (bytesOf toks).length ≤ 140737488355328 := by omega
  have hbt := btrim_tr (bytesOf toks) hl'
  rw [hb] at hbt
  refine Tr.start (n := 335) (rs := [.tmp 4]) rfl rfl rfl rfl fun B => ?_
  (repeat' (first | refine s_pure (hbt) ?_ | refine k_seq ?_ | refine k_region ?_ | refine k_nil ?_ | refine k_then ?_ | refine s_move ?_ | refine s_assign ?_ | refine s_field ?_ | refine s_nilp ?_ | refine s_store ?_))
  refine k_midx (fun x : LS => [(0, lp p), (1, str (bytesOf toks))]) (fun x => [(⟨lp pr, root, links, lineno, stack, depth, corner, str (bytesOf toks), inat x.e, x.v, lists, texts, bt⟩ : PS).blk p, (⟨o1, false, o3, false, o5, o6, false, false, false, false⟩ : PO).blk pr, x.LB, x.IB]) (fun x => x.r = [] ∧ toks = x.d ++ x.r ∧ x.e ≤ (bytesOf x.d).length ∧ ((bytesOf toks).take (bytesOf x.d).length).drop x.e = (stOf x.d).2 ∧ Items (stOf x.d).1 x.vals x.IB ∧ Inls x.v x.vals x.LB ∧ x.vals.length ≤ x.e) ?_ ?_
  · (repeat' (first | refine k_blk ?_))
    refine k_loop (fun x : LS => [(0, lp p), (1, str (bytesOf toks)), (5, .slice none 0 0), (6, .int .i64 0), (7, .bool false), (8, inat (bytesOf x.d).length)]) (fun x => [(⟨lp pr, root, links, lineno, stack, depth, corner, str (bytesOf toks), inat x.e, x.v, lists, texts, bt⟩ : PS).blk p, (⟨o1, false, o3, false, o5, o6, false, false, false, false⟩ : PO).blk pr, x.LB, x.IB])
      (fun x => toks = x.d ++ x.r ∧ x.e ≤ (bytesOf x.d).length ∧ ((bytesOf toks).take (bytesOf x.d).length).drop x.e = (stOf x.d).2 ∧ Items (stOf x.d).1 x.vals x.IB ∧ Inls x.v x.vals x.LB ∧ x.vals.length ≤ x.e) (fun x => x.r.length) ⟨[], toks, 0, [], .slice none 0 0, [], []⟩ ⟨rfl, Nat.le_refl _, by simp [bytesOf], .nil, Own.nil _ _, Nat.le_refl _⟩ (Knows.spec (by repeat (first | exact trivial | refine ⟨rfl, ?_⟩))) (SubH.trans (H' := [_, _]) (by repeat (first | exact SubH.nilR _ | refine SubH.pick (by repeat (first | exact HTake.here | apply HTake.there)) ?_)) SubH.nil2) fun x hx => ?_
    obtain ⟨d, r, e, vals, v, LB, IB⟩ := x
    obtain ⟨i1, i2, i3, i4, i5, i6⟩ := hx
    simp only at i1 i2 i3 i4 i5 i6 ⊢
    cases r with
    | nil =>
      have hd : d = toks := by simpa using i1.symm
      subst hd
      (repeat' (first | refine k_seq ?_ | refine k_region ?_ | refine k_nil ?_ | refine k_then ?_ | refine k_false ?_ | refine k_exit ?_ | refine k_exit_then ?_ | refine k_hit ?_ | refine s_move ?_ | refine s_lss_f ?_ | refine s_lens ?_))
      exact ⟨⟨d, [], e, vals, v, LB, IB⟩, (by repeat (first | exact trivial | refine ⟨rfl, ?_⟩)), (by repeat (first | exact SubH.nilR _ | refine SubH.pick (by repeat (first | exact HTake.here | apply HTake.there)) ?_)), rfl, (by simp), i2, i3, i4, i5, i6⟩
    | cons t r =>
      have hlen : (bytesOf toks).length = (bytesOf d).length + t.bytes.length + (bytesOf r).length := by rw [i1]; simp [bytesOf]; omega
      cases t with
      | lit c =>
        have hc : (bytesOf toks)[(bytesOf d).length]? = some c := by rw [i1]; exact at_lit d r c
        have hq : quiet c := hok (.lit c) (by rw [i1]; simp)
        simp only [Tok.bytes, List.length_cons, List.length_nil] at hlen
        (repeat' (first | refine k_seq ?_ | refine k_region ?_ | refine k_nil ?_ | refine k_then ?_ | refine k_true ?_ | refine k_false ?_ | refine k_blk ?_ | refine k_skip ?_ | refine k_block ?_ | refine s_gskipt ?_ | refine s_move ?_ | refine s_assign ?_ | refine s_add1 ?_ | refine s_lss_t ?_ | refine s_eql_f ?_ | refine s_pickf ?_ | refine s_lens ?_ | refine s_index ?_ | refine s_nenf ?_))
        have e1 : (bytesOf (d ++ [.lit c])).length = (bytesOf d).length + 1 := by simp [bytesOf, Tok.bytes]
        refine ⟨⟨d ++ [.lit c], r, e, vals, v, LB, IB⟩, ?_, (by repeat (first | exact SubH.nilR _ | refine SubH.pick (by repeat (first | exact HTake.here | apply HTake.there)) ?_)), ⟨?_, ?_, ?_, ?_, i5, i6⟩, ?_⟩
        · simp only [e1]; exact (Knows.spec (by repeat (first | exact trivial | refine ⟨rfl, ?_⟩)))
        · simp [i1]
        · simp only [e1]; omega
        · simp only [e1]
          rw [stOf_snoc, take_snoc hc, List.drop_append_of_le_length (by rw [List.length_take]; omega), i3]; rfl
        · simp only []
          rw [stOf_snoc]; exact i4
        · simp
      | esc c =>
        have hc : (bytesOf toks)[(bytesOf d).length]? = some 92 := by rw [i1]; exact at_esc d r c
        have hc1 : (bytesOf toks)[(bytesOf d).length + 1]? = some c := by rw [i1]; exact at_esc1 d r c
        have hq : punct c := hok (.esc c) (by rw [i1]; simp)
        have h92 : ((92 : UInt8).toNat) = 92 := rfl
        simp only [Tok.bytes, List.length_cons, List.length_nil] at hlen
        have e1 : (bytesOf (d ++ [.esc c])).length = (bytesOf d).length + 2 := by simp [bytesOf, Tok.bytes]
        (repeat' (first | refine k_seq ?_ | refine k_region ?_ | refine k_nil ?_ | refine k_then ?_ | refine k_true ?_ | refine k_blk ?_ | refine k_skip ?_ | refine k_block ?_ | refine s_move ?_ | refine s_assign ?_ | refine s_lss_t ?_ | refine s_eql_t ?_ | refine s_lens ?_ | refine s_index ?_ | refine s_nefn ?_))
        refine s_valR (parseEscape_yes p (bytesOf d).length (bytesOf toks) c hl' hc1 hq) (fun u K hR => ?_)
        obtain ⟨q, rfl, rfl⟩ := hR
        by_cases hE : e = (bytesOf d).length
        · have hp0 : (stOf d).2 = [] := by rw [← i3]; exact List.drop_eq_nil_of_le (by rw [List.length_take]; omega)
          (repeat' (first | refine s_callD (emit_no p (bytesOf d).length e _ rfl (by omega)) ?_ | refine k_seq ?_ | refine k_region ?_ | refine k_nil ?_ | refine k_then ?_ | refine k_true ?_ | refine k_false ?_ | refine k_skip ?_ | refine s_move ?_ | refine s_assign ?_ | refine s_load ?_ | refine s_field ?_ | refine s_nilp ?_ | refine s_ext ?_ | refine s_asno ?_))
          (repeat' (first | refine s_bsl1 (fun _ => ?_)))
          refine s_app (i5) (by omega) (fun v2 LB2 hL2 => ?_)
          obtain ⟨g2, cap2, cur2, rfl, rfl, k1, k2, k3, k4⟩ := hL2.pos
          (repeat' (first | refine s_callD (skip_tr p ((bytesOf d).length + 2) (⟨lp pr, root, links, lineno, stack, depth, corner, str (bytesOf toks), inat e, .slice (some ⟨g2, 0, none⟩) (vals.length + 1) cap2, lists, texts, bt⟩ : PS)) ?_ | refine k_seq ?_ | refine k_region ?_ | refine k_nil ?_ | refine k_then ?_ | refine k_exit ?_ | refine k_exit_then ?_ | refine k_hit ?_ | refine s_move ?_ | refine s_assign ?_ | refine s_field ?_ | refine s_nilp ?_ | refine s_store ?_))
          have hL3 : Inls (.slice (some ⟨g2, 0, none⟩) ((vals).length + 1) cap2) (vals ++ [.iface 153 (lp q)]) [(g2, cellsOf cur2 109)] := by simpa [Inls] using hL2
          refine ⟨⟨d ++ [.esc c], r, (bytesOf d).length + 2, vals ++ [.iface 153 (lp q)], _, _, Itm.cell (.esc [c]) q :: IB⟩, ?_, SubH.trans (H' := [_, _, _, [Itm.cell (.esc [c]) q], IB]) (by repeat (first | exact SubH.nilR _ | refine SubH.pick (by repeat (first | exact HTake.here | apply HTake.there)) ?_)) (SubH.keep (SubH.keep (SubH.keep SubH.join))), ⟨?_, ?_, ?_, ?_, hL3, ?_⟩, ?_⟩
          · simp only [e1]; exact (Knows.spec (by repeat (first | exact trivial | refine ⟨rfl, ?_⟩)))
          · simp [i1]
          · simp only [e1]; omega
          · simp only [e1]
            rw [stOf_snoc]
            exact List.drop_eq_nil_of_le (by rw [List.length_take]; omega)
          · simp only []
            rw [stOf_snoc]
            simp only [Tok.step, hp0, if_true]
            exact .snoc (.esc [c]) q i4
          · simp only [List.length_append, List.length_cons, List.length_nil]; omega
          · simp
        · have hp0 : ¬ (stOf d).2 = [] := by
            rw [← i3]; intro h
            have := congrArg List.length h
            rw [List.length_drop, List.length_take] at this
            simp only [List.length_nil] at this
            omega
          (repeat' (first | refine k_seq ?_ | refine k_region ?_ | refine k_nil ?_ | refine k_then ?_ | refine k_true ?_ | refine s_move ?_ | refine s_assign ?_ | refine s_ext ?_))
          refine s_call (emit_yes p (bytesOf d).length e _ (bytesOf toks) vals (stOf d).1 LB IB rfl rfl (by omega) (by omega) hl' i5 (by omega) i4) (fun u K hR => ?_)
          obtain ⟨rfl, q2, v', LB', hL', hI', rfl⟩ := hR
          (repeat' (first | refine k_seq ?_ | refine k_region ?_ | refine k_nil ?_ | refine k_then ?_ | refine k_false ?_ | refine k_skip ?_ | refine s_move ?_ | refine s_assign ?_ | refine s_load ?_ | refine s_field ?_ | refine s_nilp ?_ | refine s_ext ?_ | refine s_asno ?_ | refine s_bsl1 (fun _ => ?_)))
          refine s_app (hL') (by simp only [List.length_append, List.length_cons, List.length_nil]; omega) (fun v2 LB2 hL2 => ?_)
          obtain ⟨g2, cap2, cur2, rfl, rfl, k1, k2, k3, k4⟩ := hL2.pos
          (repeat' (first | refine s_callD (skip_tr p ((bytesOf d).length + 2) (⟨lp pr, root, links, lineno, stack, depth, corner, str (bytesOf toks), inat (bytesOf d).length, .slice (some ⟨g2, 0, none⟩) ((vals ++ [Value.iface 133 (lp q2)]).length + 1) cap2, lists, texts, bt⟩ : PS)) ?_ | refine k_seq ?_ | refine k_region ?_ | refine k_nil ?_ | refine k_then ?_ | refine k_exit ?_ | refine k_exit_then ?_ | refine k_hit ?_ | refine s_move ?_ | refine s_assign ?_ | refine s_field ?_ | refine s_nilp ?_ | refine s_store ?_))
          have hL3 : Inls (.slice (some ⟨g2, 0, none⟩) (((vals ++ [Value.iface 133 (lp q2)])).length + 1) cap2) ((vals ++ [Value.iface 133 (lp q2)]) ++ [.iface 153 (lp q)]) [(g2, cellsOf cur2 109)] := by simpa [Inls] using hL2
          refine ⟨⟨d ++ [.esc c], r, (bytesOf d).length + 2, (vals ++ [Value.iface 133 (lp q2)]) ++ [.iface 153 (lp q)], _, _, Itm.cell (.esc [c]) q :: (Itm.cell (.plain (((bytesOf toks).take (bytesOf d).length).drop e)) q2 :: IB)⟩, ?_, SubH.trans (H' := [_, _, _, [Itm.cell (.esc [c]) q], (Itm.cell (.plain (((bytesOf toks).take (bytesOf d).length).drop e)) q2 :: IB)]) (by repeat (first | exact SubH.nilR _ | refine SubH.pick (by repeat (first | exact HTake.here | apply HTake.there)) ?_)) (SubH.keep (SubH.keep (SubH.keep SubH.join))), ⟨?_, ?_, ?_, ?_, hL3, ?_⟩, ?_⟩
          · simp only [e1]; exact (Knows.spec (by repeat (first | exact trivial | refine ⟨rfl, ?_⟩)))
          · simp [i1]
          · simp only [e1]; omega
          · simp only [e1]
            rw [stOf_snoc]
            exact List.drop_eq_nil_of_le (by rw [List.length_take]; omega)
          · simp only []
            rw [stOf_snoc]
            simp only [Tok.step, if_neg hp0]
            exact .snoc (.esc [c]) q (i3 ▸ hI')
          · simp only [List.length_append, List.length_cons, List.length_nil]; omega
          · simp
      | nl =>
        have hc : (bytesOf toks)[(bytesOf d).length]? = some 10 := by rw [i1]; exact at_nl d r
        have hq := hnl d r i1
        have h10 : ((10 : UInt8).toNat) = 10 := rfl
        simp only [Tok.bytes, List.length_cons, List.length_nil] at hlen
        have e1 : (bytesOf (d ++ [.nl])).length = (bytesOf d).length + 1 := by simp [bytesOf, Tok.bytes]
        (repeat' (first | refine k_seq ?_ | refine k_region ?_ | refine k_nil ?_ | refine k_then ?_ | refine k_true ?_ | refine k_false ?_ | refine k_blk ?_ | refine k_skip ?_ | refine k_block ?_ | refine s_move ?_ | refine s_assign ?_ | refine s_lss_t ?_ | refine s_eql_t ?_ | refine s_eql_f ?_ | refine s_lens ?_ | refine s_index ?_ | refine s_nefn ?_))
        refine s_valR (parseBreak_soft p (bytesOf d).length (bytesOf toks) hl' (by omega) hq.1 hq.2) (fun u K hR => ?_)
        obtain ⟨q, rfl, rfl⟩ := hR
        by_cases hE : e = (bytesOf d).length
        · have hp0 : (stOf d).2 = [] := by rw [← i3]; exact List.drop_eq_nil_of_le (by rw [List.length_take]; omega)
          (repeat' (first | refine s_callD (emit_no p (bytesOf d).length e _ rfl (by omega)) ?_ | refine k_seq ?_ | refine k_region ?_ | refine k_nil ?_ | refine k_then ?_ | refine k_true ?_ | refine k_false ?_ | refine k_skip ?_ | refine s_move ?_ | refine s_assign ?_ | refine s_load ?_ | refine s_field ?_ | refine s_nilp ?_ | refine s_ext ?_ | refine s_asno ?_))
          (repeat' (first | refine s_bsl1 (fun _ => ?_)))
          refine s_app (i5) (by omega) (fun v2 LB2 hL2 => ?_)
          obtain ⟨g2, cap2, cur2, rfl, rfl, k1, k2, k3, k4⟩ := hL2.pos
          (repeat' (first | refine s_callD (skip_tr p ((bytesOf d).length + 1) (⟨lp pr, root, links, lineno, stack, depth, corner, str (bytesOf toks), inat e, .slice (some ⟨g2, 0, none⟩) (vals.length + 1) cap2, lists, texts, bt⟩ : PS)) ?_ | refine k_seq ?_ | refine k_region ?_ | refine k_nil ?_ | refine k_then ?_ | refine k_exit ?_ | refine k_exit_then ?_ | refine k_hit ?_ | refine s_move ?_ | refine s_assign ?_ | refine s_field ?_ | refine s_nilp ?_ | refine s_store ?_))
          have hL3 : Inls (.slice (some ⟨g2, 0, none⟩) ((vals).length + 1) cap2) (vals ++ [.iface 170 (lp q)]) [(g2, cellsOf cur2 109)] := by simpa [Inls] using hL2
          refine ⟨⟨d ++ [.nl], r, (bytesOf d).length + 1, vals ++ [.iface 170 (lp q)], _, _, Itm.cell (.brk) q :: IB⟩, ?_, SubH.trans (H' := [_, _, _, [Itm.cell (.brk) q], IB]) (by repeat (first | exact SubH.nilR _ | refine SubH.pick (by repeat (first | exact HTake.here | apply HTake.there)) ?_)) (SubH.keep (SubH.keep (SubH.keep SubH.join))), ⟨?_, ?_, ?_, ?_, hL3, ?_⟩, ?_⟩
          · simp only [e1]; exact (Knows.spec (by repeat (first | exact trivial | refine ⟨rfl, ?_⟩)))
          · simp [i1]
          · simp only [e1]; omega
          · simp only [e1]
            rw [stOf_snoc]
            exact List.drop_eq_nil_of_le (by rw [List.length_take]; omega)
          · simp only []
            rw [stOf_snoc]
            simp only [Tok.step, hp0, if_true]
            exact .snoc (.brk) q i4
          · simp only [List.length_append, List.length_cons, List.length_nil]; omega
          · simp
        · have hp0 : ¬ (stOf d).2 = [] := by
            rw [← i3]; intro h
            have := congrArg List.length h
            rw [List.length_drop, List.length_take] at this
            simp only [List.length_nil] at this
            omega
          (repeat' (first | refine k_seq ?_ | refine k_region ?_ | refine k_nil ?_ | refine k_then ?_ | refine k_true ?_ | refine s_move ?_ | refine s_assign ?_ | refine s_ext ?_))
          refine s_call (emit_yes p (bytesOf d).length e _ (bytesOf toks) vals (stOf d).1 LB IB rfl rfl (by omega) (by omega) hl' i5 (by omega) i4) (fun u K hR => ?_)
          obtain ⟨rfl, q2, v', LB', hL', hI', rfl⟩ := hR
          (repeat' (first | refine k_seq ?_ | refine k_region ?_ | refine k_nil ?_ | refine k_then ?_ | refine k_false ?_ | refine k_skip ?_ | refine s_move ?_ | refine s_assign ?_ | refine s_load ?_ | refine s_field ?_ | refine s_nilp ?_ | refine s_ext ?_ | refine s_asno ?_ | refine s_bsl1 (fun _ => ?_)))
          refine s_app (hL') (by simp only [List.length_append, List.length_cons, List.length_nil]; omega) (fun v2 LB2 hL2 => ?_)
          obtain ⟨g2, cap2, cur2, rfl, rfl, k1, k2, k3, k4⟩ := hL2.pos
          (repeat' (first | refine s_callD (skip_tr p ((bytesOf d).length + 1) (⟨lp pr, root, links, lineno, stack, depth, corner, str (bytesOf toks), inat (bytesOf d).length, .slice (some ⟨g2, 0, none⟩) ((vals ++ [Value.iface 133 (lp q2)]).length + 1) cap2, lists, texts, bt⟩ : PS)) ?_ | refine k_seq ?_ | refine k_region ?_ | refine k_nil ?_ | refine k_then ?_ | refine k_exit ?_ | refine k_exit_then ?_ | refine k_hit ?_ | refine s_move ?_ | refine s_assign ?_ | refine s_field ?_ | refine s_nilp ?_ | refine s_store ?_))
          have hL3 : Inls (.slice (some ⟨g2, 0, none⟩) (((vals ++ [Value.iface 133 (lp q2)])).length + 1) cap2) ((vals ++ [Value.iface 133 (lp q2)]) ++ [.iface 170 (lp q)]) [(g2, cellsOf cur2 109)] := by simpa [Inls] using hL2
          refine ⟨⟨d ++ [.nl], r, (bytesOf d).length + 1, (vals ++ [Value.iface 133 (lp q2)]) ++ [.iface 170 (lp q)], _, _, Itm.cell (.brk) q :: (Itm.cell (.plain (((bytesOf toks).take (bytesOf d).length).drop e)) q2 :: IB)⟩, ?_, SubH.trans (H' := [_, _, _, [Itm.cell (.brk) q], (Itm.cell (.plain (((bytesOf toks).take (bytesOf d).length).drop e)) q2 :: IB)]) (by repeat (first | exact SubH.nilR _ | refine SubH.pick (by repeat (first | exact HTake.here | apply HTake.there)) ?_)) (SubH.keep (SubH.keep (SubH.keep SubH.join))), ⟨?_, ?_, ?_, ?_, hL3, ?_⟩, ?_⟩
          · simp only [e1]; exact (Knows.spec (by repeat (first | exact trivial | refine ⟨rfl, ?_⟩)))
          · simp [i1]
          · simp only [e1]; omega
          · simp only [e1]
            rw [stOf_snoc]
            exact List.drop_eq_nil_of_le (by rw [List.length_take]; omega)
          · simp only []
            rw [stOf_snoc]
            simp only [Tok.step, if_neg hp0]
            exact .snoc (.brk) q (i3 ▸ hI')
          · simp only [List.length_append, List.length_cons, List.length_nil]; omega
          · simp
  · rintro ⟨d, r, e, vals, v, LB, IB⟩ ⟨hr, i1, i2, i3, i4, i5, i6⟩
    simp only at hr i1 i2 i3 i4 i5 i6 ⊢
    subst hr
    have hd : d = toks := by simpa using i1.symm
    subst hd
    rw [List.take_length] at i3
    refine k_seq ?_
    refine k_midx (fun x : LS => [(0, lp p), (1, str (bytesOf d))]) (fun x => [(⟨lp pr, root, links, lineno, stack, depth, corner, str (bytesOf d), inat (bytesOf d).length, x.v, lists, texts, bt⟩ : PS).blk p, (⟨o1, false, o3, false, o5, o6, false, false, false, false⟩ : PO).blk pr, x.LB, x.IB]) (fun x => Items (itemsOf d) x.vals x.IB ∧ Inls x.v x.vals x.LB ∧ x.vals.length ≤ (bytesOf d).length) ?_ ?_
    · by_cases hE : e = (bytesOf d).length
      · subst hE
        have hp0 : (stOf d).2 = [] := by rw [← i3]; exact List.drop_eq_nil_of_le (Nat.le_refl _)
        have hit : itemsOf d = (stOf d).1 := by rw [itemsOf, if_pos hp0]
        (repeat' (first | refine s_callD (emit_no p (bytesOf d).length (bytesOf d).length (⟨lp pr, root, links, lineno, stack, depth, corner, str (bytesOf d), inat (bytesOf d).length, v, lists, texts, bt⟩ : PS) rfl (Nat.le_refl _)) ?_ | refine k_region ?_ | refine k_nil ?_ | refine k_then ?_ | refine s_move ?_ | refine s_lens ?_))
        exact ⟨⟨d, [], 0, vals, v, LB, IB⟩, (by repeat (first | exact trivial | refine ⟨rfl, ?_⟩)), (by repeat (first | exact SubH.nilR _ | refine SubH.pick (by repeat (first | exact HTake.here | apply HTake.there)) ?_)), hit ▸ i4, i5, i6⟩
      · have hp0 : ¬ (stOf d).2 = [] := by
          rw [← i3]; intro h
          have := congrArg List.length h
          rw [List.length_drop] at this
          simp only [List.length_nil] at this
          omega
        have hit : itemsOf d = (stOf d).1 ++ [.plain (stOf d).2] := by rw [itemsOf, if_neg hp0]
        (repeat' (first | refine k_region ?_ | refine s_move ?_ | refine s_lens ?_))
        refine s_call (emit_yes p (bytesOf d).length e _ (bytesOf d) vals (stOf d).1 LB IB rfl rfl (by omega) (Nat.le_refl _) hl' i5 (by omega) i4) (fun u K hR => ?_)
        obtain ⟨rfl, q2, v', LB', hL', hI', rfl⟩ := hR
        have h9 : Items (itemsOf d) (vals ++ [.iface 133 (lp q2)]) (Itm.cell (.plain (((bytesOf d).take (bytesOf d).length).drop e)) q2 :: IB) := by
          rw [List.take_length, i3] at hI' ⊢; exact hit ▸ hI'
        (repeat' (first | refine k_nil ?_ | refine k_then ?_))
        exact ⟨⟨d, [], 0, _, v', LB', Itm.cell (.plain (((bytesOf d).take (bytesOf d).length).drop e)) q2 :: IB⟩, (by repeat (first | exact trivial | refine ⟨rfl, ?_⟩)), (by repeat (first | exact SubH.nilR _ | refine SubH.pick (by repeat (first | exact HTake.here | apply HTake.there)) ?_)), h9, hL', by simp only [List.length_append, List.length_cons, List.length_nil]; omega⟩
    · rintro ⟨_, _, _, vals, v, LB, IB⟩ ⟨j1, j2, j3⟩
      simp only at j1 j2 j3 ⊢
      have hlenv : vals.length = (itemsOf d).length := j1.length
      have hvl : (itemsOf d).length ≠ 0 := fun h => items_ne d hne (List.eq_nil_of_length_eq_zero h)
      obtain ⟨k, hk⟩ : ∃ k, vals.length = k + 1 := ⟨vals.length - 1, by omega⟩
      have j2' : Own 109 1 v (k + 1) vals LB := hk ▸ j2
      obtain ⟨g, cap, cur, rfl, rfl, k1, k2, k3, k4⟩ := j2'.pos
      have hcv : ∀ j, j < k + 1 → ∃ (x : Itm) (q : Nat), (itemsOf d)[j]? = some x ∧ cur[j]? = some (.iface x.ty (lp q)) := by
        intro j hj
        have hx : (itemsOf d)[j]? = some (itemsOf d)[j] := List.getElem?_eq_getElem (by omega)
        obtain ⟨q, h1, _⟩ := j1.get j _ hx
        have h2 : vals[j]? = cur[j]? := by rw [← k4, List.getElem?_take, if_pos (by omega)]
        exact ⟨_, q, hx, by rw [← h2]; exact h1⟩
      have he := emph_tr p g (k + 1) cap cur (by omega) k1 (by omega) (fun j hj => by
        obtain ⟨x, q, _, hc⟩ := hcv j hj
        exact ⟨_, _, hc, by cases x <;> rfl, by cases x <;> rfl⟩)
      have hm := mergePlain_tr p g (k + 1) cap cur (by omega) (by omega) k1 (by omega) (fun j hj => by
        obtain ⟨x, q, _, hc⟩ := hcv j hj
        refine ⟨_, hc, ?_⟩
        cases x with
        | plain t => exact .inl ⟨q, rfl⟩
        | esc t => exact .inr ⟨_, _, rfl, rfl, rfl, rfl⟩
        | brk => exact .inr ⟨_, _, rfl, rfl, rfl, rfl⟩) (fun j v w hj hv hw hp hq => by
        obtain ⟨x, q, hx, hc⟩ := hcv j (by omega)
        obtain ⟨y, q', hy, hc'⟩ := hcv (j + 1) hj
        rw [hc] at hv
        rw [hc'] at hw
        cases hv
        cases hw
        have h3 := items_ok d j x y hx hy
        obtain ⟨r1, e1⟩ := hp
        obtain ⟨r2, e2⟩ := hq
        injection e1 with e1 _
        injection e2 with e2 _
        cases x with
        | plain t => cases y with
          | plain t' => exact Bool.noConfusion (h3 rfl)
          | esc t' => simp [Itm.ty] at e2
          | brk => simp [Itm.ty] at e2
        | esc t => simp [Itm.ty] at e1
        | brk => simp [Itm.ty] at e1)
      (repeat' (first | refine k_seq ?_))
      refine Wp.draw_till (id := 78) [(⟨lp pr, root, links, lineno, stack, depth, corner, str (bytesOf d), inat (bytesOf d).length, .slice (some ⟨g, 0, none⟩) (k + 1) cap, lists, texts, bt⟩ : PS).blk p, [(g, cellsOf cur 109)]] 14 15 Mixed.out (by repeat (first | exact SubH.nilR _ | refine SubH.pick (by repeat (first | exact HTake.here | apply HTake.there)) ?_)) rfl ?_
      refine OpsK.first 0 _ (by rfl) (by kernel_rfl) rfl (by kernel_rfl) (by kernel_rfl) rfl (by first | exact p_move rfl | exact p_assign rfl | exact p_extract rfl rfl | exact q_fieldAddr rfl | exact p_nilCheck rfl | exact q_load rfl (by repeat (first | exact HMem.here | apply HMem.skip | apply HMem.there)) rfl | exact q_load_agg rfl (by repeat (first | exact HMem.here | apply HMem.skip | apply HMem.there)) (by repeat constructor) | exact q_len_slice rfl | exact q_len_str rfl | exact q_indexAddr rfl rfl (by omega) | exact q_slice_str rfl rfl rfl (by omega) (by omega) | exact q_makeInterface rfl | exact q_assert rfl | exact p_build rfl (by repeat' (first | exact BFill.nil | refine' BFill.one (by rfl) (by rfl) (by repeat constructor) ?_ | refine' BFill.agg (by rfl) (by rfl) (by repeat constructor) ?_))) ?_
      refine OpsK.first 1 _ (by rfl) (by kernel_rfl) rfl (by kernel_rfl) (by kernel_rfl) rfl (by first | exact p_move rfl | exact p_assign rfl | exact p_extract rfl rfl | exact q_fieldAddr rfl | exact p_nilCheck rfl | exact q_load rfl (by repeat (first | exact HMem.here | apply HMem.skip | apply HMem.there)) rfl | exact q_load_agg rfl (by repeat (first | exact HMem.here | apply HMem.skip | apply HMem.there)) (by repeat constructor) | exact q_len_slice rfl | exact q_len_str rfl | exact q_indexAddr rfl rfl (by omega) | exact q_slice_str rfl rfl rfl (by omega) (by omega) | exact q_makeInterface rfl | exact q_assert rfl | exact p_build rfl (by repeat' (first | exact BFill.nil | refine' BFill.one (by rfl) (by rfl) (by repeat constructor) ?_ | refine' BFill.agg (by rfl) (by rfl) (by repeat constructor) ?_))) ?_
      refine OpsK.first 2 _ (by rfl) (by kernel_rfl) rfl (by kernel_rfl) (by kernel_rfl) rfl (by first | exact p_move rfl | exact p_assign rfl | exact p_extract rfl rfl | exact q_fieldAddr rfl | exact p_nilCheck rfl | exact q_load rfl (by repeat (first | exact HMem.here | apply HMem.skip | apply HMem.there)) rfl | exact q_load_agg rfl (by repeat (first | exact HMem.here | apply HMem.skip | apply HMem.there)) (by repeat constructor) | exact q_len_slice rfl | exact q_len_str rfl | exact q_indexAddr rfl rfl (by omega) | exact q_slice_str rfl rfl rfl (by omega) (by omega) | exact q_makeInterface rfl | exact q_assert rfl | exact p_build rfl (by repeat' (first | exact BFill.nil | refine' BFill.one (by rfl) (by rfl) (by repeat constructor) ?_ | refine' BFill.agg (by rfl) (by rfl) (by repeat constructor) ?_))) ?_
      refine OpsK.first 3 _ (by rfl) (by kernel_rfl) rfl (by kernel_rfl) (by kernel_rfl) rfl (by first | exact p_move rfl | exact p_assign rfl | exact p_extract rfl rfl | exact q_fieldAddr rfl | exact p_nilCheck rfl | exact q_load rfl (by repeat (first | exact HMem.here | apply HMem.skip | apply HMem.there)) rfl | exact q_load_agg rfl (by repeat (first | exact HMem.here | apply HMem.skip | apply HMem.there)) (by repeat constructor) | exact q_len_slice rfl | exact q_len_str rfl | exact q_indexAddr rfl rfl (by omega) | exact q_slice_str rfl rfl rfl (by omega) (by omega) | exact q_makeInterface rfl | exact q_assert rfl | exact p_build rfl (by repeat' (first | exact BFill.nil | refine' BFill.one (by rfl) (by rfl) (by repeat constructor) ?_ | refine' BFill.agg (by rfl) (by rfl) (by repeat constructor) ?_))) ?_
      refine OpsK.first 4 _ (by rfl) (by kernel_rfl) rfl (by kernel_rfl) (by kernel_rfl) rfl (by first | exact p_move rfl | exact p_assign rfl | exact p_extract rfl rfl | exact q_fieldAddr rfl | exact p_nilCheck rfl | exact q_load rfl (by repeat (first | exact HMem.here | apply HMem.skip | apply HMem.there)) rfl | exact q_load_agg rfl (by repeat (first | exact HMem.here | apply HMem.skip | apply HMem.there)) (by repeat constructor) | exact q_len_slice rfl | exact q_len_str rfl | exact q_indexAddr rfl rfl (by omega) | exact q_slice_str rfl rfl rfl (by omega) (by omega) | exact q_makeInterface rfl | exact q_assert rfl | exact p_build rfl (by repeat' (first | exact BFill.nil | refine' BFill.one (by rfl) (by rfl) (by repeat constructor) ?_ | refine' BFill.agg (by rfl) (by rfl) (by repeat constructor) ?_))) ?_
      refine OpsK.firstL 5 [] _ (by rfl) (by kernel_rfl) (by kernel_rfl) rfl (by kernel_rfl) (by kernel_rfl) rfl (by first | exact p_move rfl | exact p_assign rfl | exact p_extract rfl rfl | exact q_fieldAddr rfl | exact p_nilCheck rfl | exact q_load rfl (by repeat (first | exact HMem.here | apply HMem.skip | apply HMem.there)) rfl | exact q_load_agg rfl (by repeat (first | exact HMem.here | apply HMem.skip | apply HMem.there)) (by repeat constructor) | exact q_len_slice rfl | exact q_len_str rfl | exact q_indexAddr rfl rfl (by omega) | exact q_slice_str rfl rfl rfl (by omega) (by omega) | exact q_makeInterface rfl | exact q_assert rfl | exact p_build rfl (by repeat' (first | exact BFill.nil | refine' BFill.one (by rfl) (by rfl) (by repeat constructor) ?_ | refine' BFill.agg (by rfl) (by rfl) (by repeat constructor) ?_))) ?_
      refine OpsK.first 6 _ (by rfl) (by kernel_rfl) rfl (by kernel_rfl) (by kernel_rfl) rfl (p_slice_hi (b := 0) USlice.out Siz.out rfl rfl (Nat.zero_le _)) ?_
      refine OpsK.first 7 _ (by rfl) (by kernel_rfl) rfl (by kernel_rfl) (by kernel_rfl) rfl (by first | exact p_move rfl | exact p_assign rfl | exact p_extract rfl rfl | exact q_fieldAddr rfl | exact p_nilCheck rfl | exact q_load rfl (by repeat (first | exact HMem.here | apply HMem.skip | apply HMem.there)) rfl | exact q_load_agg rfl (by repeat (first | exact HMem.here | apply HMem.skip | apply HMem.there)) (by repeat constructor) | exact q_len_slice rfl | exact q_len_str rfl | exact q_indexAddr rfl rfl (by omega) | exact q_slice_str rfl rfl rfl (by omega) (by omega) | exact q_makeInterface rfl | exact q_assert rfl | exact p_build rfl (by repeat' (first | exact BFill.nil | refine' BFill.one (by rfl) (by rfl) (by repeat constructor) ?_ | refine' BFill.agg (by rfl) (by rfl) (by repeat constructor) ?_))) ?_
      refine OpsK.first 8 _ (by rfl) (by kernel_rfl) rfl (by kernel_rfl) (by kernel_rfl) rfl (by first | exact p_move rfl | exact p_assign rfl | exact p_extract rfl rfl | exact q_fieldAddr rfl | exact p_nilCheck rfl | exact q_load rfl (by repeat (first | exact HMem.here | apply HMem.skip | apply HMem.there)) rfl | exact q_load_agg rfl (by repeat (first | exact HMem.here | apply HMem.skip | apply HMem.there)) (by repeat constructor) | exact q_len_slice rfl | exact q_len_str rfl | exact q_indexAddr rfl rfl (by omega) | exact q_slice_str rfl rfl rfl (by omega) (by omega) | exact q_makeInterface rfl | exact q_assert rfl | exact p_build rfl (by repeat' (first | exact BFill.nil | refine' BFill.one (by rfl) (by rfl) (by repeat constructor) ?_ | refine' BFill.agg (by rfl) (by rfl) (by repeat constructor) ?_))) ?_
      refine OpsK.first 9 _ (by rfl) (by kernel_rfl) rfl (by kernel_rfl) (by kernel_rfl) rfl (by first | exact p_move rfl | exact p_assign rfl | exact p_extract rfl rfl | exact q_fieldAddr rfl | exact p_nilCheck rfl | exact q_load rfl (by repeat (first | exact HMem.here | apply HMem.skip | apply HMem.there)) rfl | exact q_load_agg rfl (by repeat (first | exact HMem.here | apply HMem.skip | apply HMem.there)) (by repeat constructor) | exact q_len_slice rfl | exact q_len_str rfl | exact q_indexAddr rfl rfl (by omega) | exact q_slice_str rfl rfl rfl (by omega) (by omega) | exact q_makeInterface rfl | exact q_assert rfl | exact p_build rfl (by repeat' (first | exact BFill.nil | refine' BFill.one (by rfl) (by rfl) (by repeat constructor) ?_ | refine' BFill.agg (by rfl) (by rfl) (by repeat constructor) ?_))) ?_
      refine OpsK.firstL 10 [] _ (by rfl) (by kernel_rfl) (by kernel_rfl) rfl (by kernel_rfl) (by kernel_rfl) rfl (by first | exact p_move rfl | exact p_assign rfl | exact p_extract rfl rfl | exact q_fieldAddr rfl | exact p_nilCheck rfl | exact q_load rfl (by repeat (first | exact HMem.here | apply HMem.skip | apply HMem.there)) rfl | exact q_load_agg rfl (by repeat (first | exact HMem.here | apply HMem.skip | apply HMem.there)) (by repeat constructor) | exact q_len_slice rfl | exact q_len_str rfl | exact q_indexAddr rfl rfl (by omega) | exact q_slice_str rfl rfl rfl (by omega) (by omega) | exact q_makeInterface rfl | exact q_assert rfl | exact p_build rfl (by repeat' (first | exact BFill.nil | refine' BFill.one (by rfl) (by rfl) (by repeat constructor) ?_ | refine' BFill.agg (by rfl) (by rfl) (by repeat constructor) ?_))) ?_
      refine OpsK.only 11 _ (by kernel_rfl) rfl ?_
      (repeat' (first | refine s_callD (he) ?_ | refine k_nil ?_ | refine k_then ?_))
      refine ⟨fun _ => (by repeat (first | exact SubH.nilR _ | refine SubH.pick (by repeat (first | exact HTake.here | apply HTake.there)) ?_)), ?_⟩
      refine OpsK.first 12 _ (by rfl) (by kernel_rfl) rfl (by kernel_rfl) (by kernel_rfl) rfl (by first | exact p_move rfl | exact p_assign rfl | exact p_extract rfl rfl | exact q_fieldAddr rfl | exact p_nilCheck rfl | exact q_load rfl (by repeat (first | exact HMem.here | apply HMem.skip | apply HMem.there)) rfl | exact q_load_agg rfl (by repeat (first | exact HMem.here | apply HMem.skip | apply HMem.there)) (by repeat constructor) | exact q_len_slice rfl | exact q_len_str rfl | exact q_indexAddr rfl rfl (by omega) | exact q_slice_str rfl rfl rfl (by omega) (by omega) | exact q_makeInterface rfl | exact q_assert rfl | exact p_build rfl (by repeat' (first | exact BFill.nil | refine' BFill.one (by rfl) (by rfl) (by repeat constructor) ?_ | refine' BFill.agg (by rfl) (by rfl) (by repeat constructor) ?_))) ?_
      refine OpsK.first 13 _ (by rfl) (by kernel_rfl) rfl (by kernel_rfl) (by kernel_rfl) rfl (by first | exact p_move rfl | exact p_assign rfl | exact p_extract rfl rfl | exact q_fieldAddr rfl | exact p_nilCheck rfl | exact q_load rfl (by repeat (first | exact HMem.here | apply HMem.skip | apply HMem.there)) rfl | exact q_load_agg rfl (by repeat (first | exact HMem.here | apply HMem.skip | apply HMem.there)) (by repeat constructor) | exact q_len_slice rfl | exact q_len_str rfl | exact q_indexAddr rfl rfl (by omega) | exact q_slice_str rfl rfl rfl (by omega) (by omega) | exact q_makeInterface rfl | exact q_assert rfl | exact p_build rfl (by repeat' (first | exact BFill.nil | refine' BFill.one (by rfl) (by rfl) (by repeat constructor) ?_ | refine' BFill.agg (by rfl) (by rfl) (by repeat constructor) ?_))) ?_
      refine OpsK.only 14 _ (by kernel_rfl) rfl ?_
      (repeat' (first | refine k_nil ?_ | refine k_then ?_ | refine s_store ?_))
      refine ⟨(fun h0 => Bool.noConfusion (show true = false from h0)), ?_⟩
      refine OpsK.nil (by kernel_rfl) ?_
      (repeat' (first | refine s_callD (hm) ?_ | refine s_callD (autoLinkText_no p pr (⟨o1, false, o3, false, o5, o6, false, false, false, false⟩ : PO) (⟨lp pr, root, links, lineno, stack, depth, corner, str (bytesOf d), inat (bytesOf d).length, .slice (some ⟨g, 0, none⟩) (k + 1) cap, lists, texts, bt⟩ : PS) (.slice (some ⟨g, 0, none⟩) (k + 1) cap) rfl rfl) ?_ | refine k_seq ?_ | refine k_region ?_ | refine k_nil ?_ | refine k_then ?_ | refine k_ret ?_ | refine s_move ?_ | refine s_assign ?_ | refine s_load ?_ | refine s_field ?_ | refine s_nilp ?_ | refine s_store ?_))
      refine e_ret _ ⟨(⟨lp pr, root, links, lineno, stack, depth, corner, str (bytesOf d), inat (bytesOf d).length, .slice (some ⟨g, 0, none⟩) (k + 1) cap, lists, texts, bt⟩ : PS), some ⟨g, 0, none⟩, k + 1, cap, [(g, cellsOf cur 109)] ++ IB, rfl, ⟨vals, [(g, cellsOf cur 109)], IB, j1, j2, rfl⟩, rfl, rfl, rfl⟩ ?_
      exact SubH.trans (H' := [_, _, [(g, cellsOf cur 109)], IB]) (by repeat (first | exact SubH.nilR _ | refine SubH.pick (by repeat (first | exact HTake.here | apply HTake.there)) ?_)) (SubH.keep (SubH.keep SubH.join))
end Go.Proofs

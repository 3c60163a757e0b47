/- Steps of the walk of the program and plain facts on what it computes. Conditions: as each theorem states them. -/
import Derived.Test.YthmgajolaekpdaaGreatDoorT12
import Derived.Test.YthmgajolaekpdaaGreatDoorT08
import Derived.Test.YthmgajolaekpdaaGreatDoorT09
namespace Go.Proofs
open Go Go.Eng
set_option maxRecDepth 20000
set_option maxHeartbeats 8000000

/-- Where the scan for inlines stands. -/
structure LA where
  d : List LTk
  r : List LTk
  e : Nat
  cn : Bool
  vals : List Value
  v : Value
  LB : Blk
  IB : Blk

/-- What the scan asks of its tokens. -/
structure LTkOK (toks : List LTk) : Prop where
  lit : ∀ c, .lit c ∈ toks → quiet c
  leaf : ∀ d r bs x, toks = d ++ .leaf bs x :: r → bs ≠ [] ∧ (∃ c, (bytesL toks)[(bytesL d).length]? = some c ∧ c.toNat = 60) ∧ Nat.beq x.ty 127 = false ∧
    ∀ (p : Nat) (s : PS) (cn : Bool), s.corner = .bool cn → Tr Tryz.prog 62 [lp p, str (bytesL toks), inat (bytesL d).length] [s.blk p] fun u K => ∃ q cn', u = .tuple #[.iface x.ty (lp q), inat (bytesL d).length, inat ((bytesL d).length + bs.length), .bool true] ∧ K = [({ s with corner := .bool cn' } : PS).blk p, [x.cell q]]
  len : (bytesL toks).length ≤ 100000
  trim : btrim (bytesL toks) = bytesL toks
  ne : itemsL toks ≠ []
  kind : ∀ x ∈ itemsL toks, x.ty = 149 ∨ (Nat.beq x.ty 149 = false ∧ Nat.beq x.ty 183 = false ∧ Nat.beq x.ty 127 = false)
  adj : ∀ (j : Nat) (x y : LIt), (itemsL toks)[j]? = some x → (itemsL toks)[j + 1]? = some y → x.ty = 149 → y.ty ≠ 149

theorem inlineL_tr (p pr : Nat) (o : PO) (s : PS) (toks : List LTk) (hok : LTkOK toks) (cn0 : Bool) (hcn : s.corner = .bool cn0)
    (hq1 : o.dots = false) (hq2 : o.dashes = false) (hq3 : o.quotes = false) (hq4 : o.del = false) (hq5 : o.emoji = false) (hq6 : o.auto = false) (hpar : s.par = lp pr) :
    Tr Tryz.prog 50 [lp p, str (bytesL toks)] [s.blk p, o.blk pr] fun u K => ∃ (s' : PS) (ia : Option Addr) (im ic : Nat) (G : Blk), u = .slice ia im ic ∧ (∃ vals LB IB, ItsL (itemsL toks) vals IB ∧ Inls (.slice ia im ic) vals LB ∧ G = LB ++ IB) ∧ s'.par = s.par ∧ s'.root = s.root ∧ K = [s'.blk p, o.blk pr, G] := by
  obtain ⟨par, root, links, lineno, stack, depth, corner, sv, em, list, lists, texts, bt⟩ := s
  obtain ⟨o1, o2, o3, o4, o5, o6, o7, o8, o9, o10⟩ := o
  subst hq1; subst hq2; subst hq3; subst hq4; subst hq5; subst hq6; subst hpar; subst hcn
  have hlen0 := hok.len
  have hl' : (bytesL toks).length ≤ 140737488355328 := by omega
  have hbt := btrim_tr (bytesL toks) hl'
  rw [hok.trim] at hbt
  refine Tr.start (n := 335) (rs := [.tmp 4]) rfl rfl rfl rfl fun B => ?_
  (repeat' (first | refine s_pure (hbt) ?_ | refine k_seq ?_ | refine k_region ?_ | refine k_nil ?_ | refine k_then ?_ | refine s_move ?_ | refine s_assign ?_ | refine s_field ?_ | refine s_nilp ?_ | refine s_store ?_))
  refine k_midx (fun x : LA => [(0, lp p), (1, str (bytesL toks))]) (fun x => [(⟨lp pr, root, links, lineno, stack, depth, .bool x.cn, str (bytesL toks), inat x.e, x.v, lists, texts, bt⟩ : PS).blk p, (⟨o1, false, o3, false, o5, o6, false, false, false, false⟩ : PO).blk pr, x.LB, x.IB])
    (fun x => x.r = [] ∧ toks = x.d ++ x.r ∧ x.e ≤ (bytesL x.d).length ∧ ((bytesL toks).take (bytesL x.d).length).drop x.e = (stL x.d).2 ∧ ItsL (stL x.d).1 x.vals x.IB ∧ Inls x.v x.vals x.LB ∧ x.vals.length ≤ 2 * x.e) ?_ ?_
  · (repeat' (first | refine k_blk ?_))
    refine k_loop (fun x : LA => [(0, lp p), (1, str (bytesL toks)), (5, .slice none 0 0), (6, .int .i64 0), (7, .bool false), (8, inat (bytesL x.d).length)]) (fun x => [(⟨lp pr, root, links, lineno, stack, depth, .bool x.cn, str (bytesL toks), inat x.e, x.v, lists, texts, bt⟩ : PS).blk p, (⟨o1, false, o3, false, o5, o6, false, false, false, false⟩ : PO).blk pr, x.LB, x.IB])
      (fun x => toks = x.d ++ x.r ∧ x.e ≤ (bytesL x.d).length ∧ ((bytesL toks).take (bytesL x.d).length).drop x.e = (stL x.d).2 ∧ ItsL (stL x.d).1 x.vals x.IB ∧ Inls x.v x.vals x.LB ∧ x.vals.length ≤ 2 * x.e) (fun x => x.r.length) ⟨[], toks, 0, cn0, [], .slice none 0 0, [], []⟩ ⟨rfl, Nat.le_refl _, by simp [bytesL], .nil, Own.nil _ _, Nat.le_refl _⟩ (Knows.spec (by repeat (first | exact trivial | refine ⟨rfl, ?_⟩))) (SubH.trans (H' := [_, _]) (by repeat (first | exact SubH.nilR _ | refine SubH.pick (by repeat (first | exact HTake.here | apply HTake.there)) ?_)) SubH.nil2) fun x hx => ?_
    obtain ⟨d, r, e, cn, vals, v, LB, IB⟩ := x
    obtain ⟨i1, i2, i3, i4, i5, i6⟩ := hx
    simp only at i1 i2 i3 i4 i5 i6 ⊢
    cases r with
    | nil =>
      have hd : d = toks := by simpa using i1.symm
      subst hd
      (repeat' (first | refine k_seq ?_ | refine k_region ?_ | refine k_nil ?_ | refine k_then ?_ | refine k_false ?_ | refine k_exit ?_ | refine k_exit_then ?_ | refine k_hit ?_ | refine s_move ?_ | refine s_lss_f ?_ | refine s_lens ?_))
      exact ⟨⟨d, [], e, cn, vals, v, LB, IB⟩, (by repeat (first | exact trivial | refine ⟨rfl, ?_⟩)), (by repeat (first | exact SubH.nilR _ | refine SubH.pick (by repeat (first | exact HTake.here | apply HTake.there)) ?_)), rfl, (by simp), i2, i3, i4, i5, i6⟩
    | cons t r =>
      have hlen : (bytesL toks).length = (bytesL d).length + t.bytes.length + (bytesL r).length := by rw [i1]; simp [bytesL]; omega
      cases t with
      | lit c =>
        have hc : (bytesL toks)[(bytesL d).length]? = some c := by rw [i1]; exact at_litL d r c
        have hq : quiet c := hok.lit c (by rw [i1]; simp)
        simp only [LTk.bytes, List.length_cons, List.length_nil] at hlen
        have e1 : (bytesL (d ++ [.lit c])).length = (bytesL d).length + 1 := by simp [bytesL, LTk.bytes]
        (repeat' (first | refine k_seq ?_ | refine k_region ?_ | refine k_nil ?_ | refine k_then ?_ | refine k_true ?_ | refine k_false ?_ | refine k_blk ?_ | refine k_skip ?_ | refine k_block ?_ | refine s_gskipt ?_ | refine s_move ?_ | refine s_assign ?_ | refine s_add1 ?_ | refine s_lss_t ?_ | refine s_eql_f ?_ | refine s_pickf ?_ | refine s_lens ?_ | refine s_index ?_ | refine s_nenf ?_))
        refine ⟨⟨d ++ [.lit c], r, e, cn, vals, v, LB, IB⟩, ?_, (by repeat (first | exact SubH.nilR _ | refine SubH.pick (by repeat (first | exact HTake.here | apply HTake.there)) ?_)), ⟨?_, ?_, ?_, ?_, i5, i6⟩, ?_⟩
        · simp only [e1]; exact (Knows.spec (by repeat (first | exact trivial | refine ⟨rfl, ?_⟩)))
        · simp [i1]
        · simp only [e1]; omega
        · simp only [e1]
          rw [stL_snoc, take_snoc hc, List.drop_append_of_le_length (by rw [List.length_take]; omega), i3]; rfl
        · simp only []
          rw [stL_snoc]; exact i4
        · simp
      | leaf bs x =>
        obtain ⟨hne, ⟨c, hc, h60⟩, hop, hP⟩ := hok.leaf d r bs x i1
        have hbl : 0 < bs.length := by cases bs with | nil => exact absurd rfl hne | cons _ _ => simp
        simp only [LTk.bytes] at hlen
        have e1 : (bytesL (d ++ [.leaf bs x])).length = (bytesL d).length + bs.length := by simp [bytesL, LTk.bytes]
        (repeat' (first | refine k_seq ?_ | refine k_region ?_ | refine k_nil ?_ | refine k_then ?_ | refine k_true ?_ | refine k_false ?_ | refine k_blk ?_ | refine k_skip ?_ | refine k_block ?_ | refine s_move ?_ | refine s_assign ?_ | refine s_lss_t ?_ | refine s_eql_t ?_ | refine s_eql_f ?_ | refine s_lens ?_ | refine s_index ?_ | refine s_nefn ?_))
        refine s_valR (hP p _ cn rfl) (fun u K hR => ?_)
        obtain ⟨q, cn', rfl, rfl⟩ := hR
        (repeat' (first | refine k_seq ?_ | refine k_region ?_ | refine k_nil ?_ | refine k_then ?_ | refine k_true ?_ | refine s_move ?_ | refine s_assign ?_ | refine s_ext ?_))
        refine s_call (emitL p (bytesL d).length e _ (bytesL toks) (stL d).1 vals LB IB rfl rfl i2 (by omega) hl' i5 (by omega) i4) (fun u K hR => ?_)
        obtain ⟨rfl, vals', v', LB', IB', hL', hI', rfl⟩ := hR
        have hvl : vals'.length ≤ vals.length + 1 := by
          have h1 := hI'.length
          have h2 := i4.length
          rw [h1, h2]
          unfold outL
          split <;> simp
        (repeat' (first | refine s_asno (hne := hop) ?_ | refine k_seq ?_ | refine k_region ?_ | refine k_nil ?_ | refine k_then ?_ | refine k_false ?_ | refine k_skip ?_ | refine s_move ?_ | refine s_assign ?_ | refine s_load ?_ | refine s_field ?_ | refine s_nilp ?_ | refine s_ext ?_ | refine s_bsl1 (fun _ => ?_)))
        refine s_app hL' (by omega) (fun v2 LB2 hL2 => ?_)
        obtain ⟨g2, cap2, cur2, rfl, rfl, k1, k2, k3, k4⟩ := hL2.pos
        (repeat' (first | refine s_callD (skip_tr p ((bytesL d).length + bs.length) (⟨lp pr, root, links, lineno, stack, depth, .bool cn', str (bytesL toks), inat (bytesL d).length, .slice (some ⟨g2, 0, none⟩) (vals'.length + 1) cap2, lists, texts, bt⟩ : PS)) ?_ | refine k_seq ?_ | refine k_region ?_ | refine k_nil ?_ | refine k_then ?_ | refine k_exit ?_ | refine k_exit_then ?_ | refine k_hit ?_ | refine s_move ?_ | refine s_assign ?_ | refine s_field ?_ | refine s_nilp ?_ | refine s_store ?_))
        have hL3 : Inls (.slice (some ⟨g2, 0, none⟩) (vals'.length + 1) cap2) (vals' ++ [.iface x.ty (lp q)]) [(g2, cellsOf cur2 125)] := by simpa [Inls] using hL2
        refine ⟨⟨d ++ [.leaf bs x], r, (bytesL d).length + bs.length, cn', vals' ++ [.iface x.ty (lp q)], _, _, x.cell q :: IB'⟩, ?_, SubH.trans (H' := [_, _, _, [x.cell q], IB']) (by repeat (first | exact SubH.nilR _ | refine SubH.pick (by repeat (first | exact HTake.here | apply HTake.there)) ?_)) (SubH.keep (SubH.keep (SubH.keep SubH.join))), ⟨?_, ?_, ?_, ?_, hL3, ?_⟩, ?_⟩
        · simp only [e1]; exact (Knows.spec (by repeat (first | exact trivial | refine ⟨rfl, ?_⟩)))
        · simp [i1]
        · simp only [e1]; omega
        · simp only [e1]
          rw [stL_snoc]
          exact List.drop_eq_nil_of_le (by rw [List.length_take]; omega)
        · simp only []
          rw [stL_snoc]
          simp only [LTk.step]
          exact .snoc x q (i3 ▸ hI')
        · simp only [List.length_append, List.length_cons, List.length_nil]; omega
        · simp
  · rintro ⟨d, r, e, cn, vals, v, LB, IB⟩ ⟨hr, i1, i2, i3, i4, i5, i6⟩
    simp only at hr i1 i2 i3 i4 i5 i6 ⊢
    subst hr
    have hd : d = toks := by simpa using i1.symm
    subst hd
    (repeat' (first | refine k_seq ?_ | refine k_region ?_ | refine s_move ?_ | refine s_lens ?_))
    refine s_call (emitL p (bytesL d).length e _ (bytesL d) (stL d).1 vals LB IB rfl rfl i2 (Nat.le_refl _) hl' i5 (by omega) i4) (fun u K hR => ?_)
    obtain ⟨rfl, vals', v', LB', IB', hL', hI', rfl⟩ := hR
    rw [i3] at hI'
    have hvl := hI'.length
    have hpos : itemsL d ≠ [] := hok.ne
    obtain ⟨k, hk⟩ : ∃ k, vals'.length = k + 1 := by
      cases hh : itemsL d with
      | nil => exact absurd hh hpos
      | cons a b => exact ⟨b.length, by rw [hvl]; show (itemsL d).length = _; rw [hh]; rfl⟩
    have hk2 : k ≤ 300000 := by
      have h2 := i4.length
      have : vals'.length ≤ vals.length + 1 := by rw [hvl, h2]; unfold outL; split <;> simp
      omega
    have j2' : Own 125 1 v' (k + 1) vals' LB' := hk ▸ hL'
    obtain ⟨g, cap, cur, rfl, rfl, k1, k2, k3, k4⟩ := j2'.pos
    rw [Nat.mul_one] at k4
    have j1 : ItsL (itemsL d) vals' IB' := hI'
    have hcv : ∀ j, j < k + 1 → ∃ (x : LIt) (q : Nat), (itemsL d)[j]? = some x ∧ cur[j]? = some (.iface x.ty (lp q)) := by
      intro j hj
      have hlt : j < (itemsL d).length := by
        have : (itemsL d).length = k + 1 := by rw [← hk]; exact hvl.symm
        omega
      have hx : (itemsL d)[j]? = some ((itemsL d)[j]'hlt) := List.getElem?_eq_getElem _
      obtain ⟨q, h1, _⟩ := j1.get j _ hx
      have h2 : vals'[j]? = cur[j]? := by rw [← k4, List.getElem?_take, if_pos (by omega)]
      exact ⟨_, q, hx, by rw [← h2]; exact h1⟩
    have he := emph_tr p g (k + 1) cap cur (by omega) k1 (by omega) (fun j hj => by
      obtain ⟨x, q, hx, hc⟩ := hcv j hj
      rcases hok.kind x (List.mem_of_getElem? hx) with h | ⟨h1, h2, h3⟩
      · exact ⟨_, _, hc, by rw [h]; rfl, by rw [h]; rfl⟩
      · exact ⟨_, _, hc, h3, h2⟩)
    have hm := mergePlain_tr p g (k + 1) cap cur (by omega) (by omega) k1 (by omega) (fun j hj => by
      obtain ⟨x, q, hx, hc⟩ := hcv j hj
      refine ⟨_, hc, ?_⟩
      rcases hok.kind x (List.mem_of_getElem? hx) with h | ⟨h1, h2, h3⟩
      · exact .inl ⟨q, by rw [h]⟩
      · exact .inr ⟨_, _, rfl, h1, h2, h3⟩) (fun j v w hj hv hw hp hq => by
      obtain ⟨x, q, hx, hc⟩ := hcv j (by omega)
      obtain ⟨y, q', hy, hc'⟩ := hcv (j + 1) hj
      rw [hc] at hv
      rw [hc'] at hw
      cases hv
      cases hw
      obtain ⟨r1, e1⟩ := hp
      obtain ⟨r2, e2⟩ := hq
      injection e1 with e1 _
      injection e2 with e2 _
      exact hok.adj j x y hx hy e1 e2)
    (repeat' (first | refine k_seq ?_ | refine k_nil ?_ | refine k_then ?_))
    refine Wp.draw_till (id := 78) [(⟨lp pr, root, links, lineno, stack, depth, .bool cn, str (bytesL d), inat (bytesL d).length, .slice (some ⟨g, 0, none⟩) (k + 1) cap, lists, texts, bt⟩ : PS).blk p, [(g, cellsOf cur 125)]] 14 15 Mixed.out (by repeat (first | exact SubH.nilR _ | refine SubH.pick (by repeat (first | exact HTake.here | apply HTake.there)) ?_)) rfl ?_
    refine OpsK.first 0 _ (by rfl) (by kernel_rfl) rfl (by kernel_rfl) (by kernel_rfl) rfl (by first | exact p_move rfl | exact p_assign rfl | exact p_extract rfl rfl | exact q_fieldAddr rfl | exact p_nilCheck rfl | exact q_load rfl (by repeat (first | exact HMem.here | apply HMem.skip | apply HMem.there)) rfl | exact q_load_agg rfl (by repeat (first | exact HMem.here | apply HMem.skip | apply HMem.there)) (by repeat constructor) | exact q_len_slice rfl | exact q_len_str rfl | exact q_indexAddr rfl rfl (by omega) | exact q_slice_str rfl rfl rfl (by omega) (by omega) | exact q_makeInterface rfl | exact q_assert rfl | exact p_build rfl (by repeat' (first | exact BFill.nil | refine' BFill.one (by rfl) (by rfl) (by repeat constructor) ?_ | refine' BFill.agg (by rfl) (by rfl) (by repeat constructor) ?_))) ?_
    refine OpsK.first 1 _ (by rfl) (by kernel_rfl) rfl (by kernel_rfl) (by kernel_rfl) rfl (by first | exact p_move rfl | exact p_assign rfl | exact p_extract rfl rfl | exact q_fieldAddr rfl | exact p_nilCheck rfl | exact q_load rfl (by repeat (first | exact HMem.here | apply HMem.skip | apply HMem.there)) rfl | exact q_load_agg rfl (by repeat (first | exact HMem.here | apply HMem.skip | apply HMem.there)) (by repeat constructor) | exact q_len_slice rfl | exact q_len_str rfl | exact q_indexAddr rfl rfl (by omega) | exact q_slice_str rfl rfl rfl (by omega) (by omega) | exact q_makeInterface rfl | exact q_assert rfl | exact p_build rfl (by repeat' (first | exact BFill.nil | refine' BFill.one (by rfl) (by rfl) (by repeat constructor) ?_ | refine' BFill.agg (by rfl) (by rfl) (by repeat constructor) ?_))) ?_
    refine OpsK.first 2 _ (by rfl) (by kernel_rfl) rfl (by kernel_rfl) (by kernel_rfl) rfl (by first | exact p_move rfl | exact p_assign rfl | exact p_extract rfl rfl | exact q_fieldAddr rfl | exact p_nilCheck rfl | exact q_load rfl (by repeat (first | exact HMem.here | apply HMem.skip | apply HMem.there)) rfl | exact q_load_agg rfl (by repeat (first | exact HMem.here | apply HMem.skip | apply HMem.there)) (by repeat constructor) | exact q_len_slice rfl | exact q_len_str rfl | exact q_indexAddr rfl rfl (by omega) | exact q_slice_str rfl rfl rfl (by omega) (by omega) | exact q_makeInterface rfl | exact q_assert rfl | exact p_build rfl (by repeat' (first | exact BFill.nil | refine' BFill.one (by rfl) (by rfl) (by repeat constructor) ?_ | refine' BFill.agg (by rfl) (by rfl) (by repeat constructor) ?_))) ?_
    refine OpsK.first 3 _ (by rfl) (by kernel_rfl) rfl (by kernel_rfl) (by kernel_rfl) rfl (by first | exact p_move rfl | exact p_assign rfl | exact p_extract rfl rfl | exact q_fieldAddr rfl | exact p_nilCheck rfl | exact q_load rfl (by repeat (first | exact HMem.here | apply HMem.skip | apply HMem.there)) rfl | exact q_load_agg rfl (by repeat (first | exact HMem.here | apply HMem.skip | apply HMem.there)) (by repeat constructor) | exact q_len_slice rfl | exact q_len_str rfl | exact q_indexAddr rfl rfl (by omega) | exact q_slice_str rfl rfl rfl (by omega) (by omega) | exact q_makeInterface rfl | exact q_assert rfl | exact p_build rfl (by repeat' (first | exact BFill.nil | refine' BFill.one (by rfl) (by rfl) (by repeat constructor) ?_ | refine' BFill.agg (by rfl) (by rfl) (by repeat constructor) ?_))) ?_
    refine OpsK.first 4 _ (by rfl) (by kernel_rfl) rfl (by kernel_rfl) (by kernel_rfl) rfl (by first | exact p_move rfl | exact p_assign rfl | exact p_extract rfl rfl | exact q_fieldAddr rfl | exact p_nilCheck rfl | exact q_load rfl (by repeat (first | exact HMem.here | apply HMem.skip | apply HMem.there)) rfl | exact q_load_agg rfl (by repeat (first | exact HMem.here | apply HMem.skip | apply HMem.there)) (by repeat constructor) | exact q_len_slice rfl | exact q_len_str rfl | exact q_indexAddr rfl rfl (by omega) | exact q_slice_str rfl rfl rfl (by omega) (by omega) | exact q_makeInterface rfl | exact q_assert rfl | exact p_build rfl (by repeat' (first | exact BFill.nil | refine' BFill.one (by rfl) (by rfl) (by repeat constructor) ?_ | refine' BFill.agg (by rfl) (by rfl) (by repeat constructor) ?_))) ?_
    refine OpsK.firstL 5 [] _ (by rfl) (by kernel_rfl) (by kernel_rfl) rfl (by kernel_rfl) (by kernel_rfl) rfl (by first | exact p_move rfl | exact p_assign rfl | exact p_extract rfl rfl | exact q_fieldAddr rfl | exact p_nilCheck rfl | exact q_load rfl (by repeat (first | exact HMem.here | apply HMem.skip | apply HMem.there)) rfl | exact q_load_agg rfl (by repeat (first | exact HMem.here | apply HMem.skip | apply HMem.there)) (by repeat constructor) | exact q_len_slice rfl | exact q_len_str rfl | exact q_indexAddr rfl rfl (by omega) | exact q_slice_str rfl rfl rfl (by omega) (by omega) | exact q_makeInterface rfl | exact q_assert rfl | exact p_build rfl (by repeat' (first | exact BFill.nil | refine' BFill.one (by rfl) (by rfl) (by repeat constructor) ?_ | refine' BFill.agg (by rfl) (by rfl) (by repeat constructor) ?_))) ?_
    refine OpsK.first 6 _ (by rfl) (by kernel_rfl) rfl (by kernel_rfl) (by kernel_rfl) rfl (p_slice_hi (b := 0) USlice.out Siz.out rfl rfl (Nat.zero_le _)) ?_
    refine OpsK.first 7 _ (by rfl) (by kernel_rfl) rfl (by kernel_rfl) (by kernel_rfl) rfl (by first | exact p_move rfl | exact p_assign rfl | exact p_extract rfl rfl | exact q_fieldAddr rfl | exact p_nilCheck rfl | exact q_load rfl (by repeat (first | exact HMem.here | apply HMem.skip | apply HMem.there)) rfl | exact q_load_agg rfl (by repeat (first | exact HMem.here | apply HMem.skip | apply HMem.there)) (by repeat constructor) | exact q_len_slice rfl | exact q_len_str rfl | exact q_indexAddr rfl rfl (by omega) | exact q_slice_str rfl rfl rfl (by omega) (by omega) | exact q_makeInterface rfl | exact q_assert rfl | exact p_build rfl (by repeat' (first | exact BFill.nil | refine' BFill.one (by rfl) (by rfl) (by repeat constructor) ?_ | refine' BFill.agg (by rfl) (by rfl) (by repeat constructor) ?_))) ?_
    refine OpsK.first 8 _ (by rfl) (by kernel_rfl) rfl (by kernel_rfl) (by kernel_rfl) rfl (by first | exact p_move rfl | exact p_assign rfl | exact p_extract rfl rfl | exact q_fieldAddr rfl | exact p_nilCheck rfl | exact q_load rfl (by repeat (first | exact HMem.here | apply HMem.skip | apply HMem.there)) rfl | exact q_load_agg rfl (by repeat (first | exact HMem.here | apply HMem.skip | apply HMem.there)) (by repeat constructor) | exact q_len_slice rfl | exact q_len_str rfl | exact q_indexAddr rfl rfl (by omega) | exact q_slice_str rfl rfl rfl (by omega) (by omega) | exact q_makeInterface rfl | exact q_assert rfl | exact p_build rfl (by repeat' (first | exact BFill.nil | refine' BFill.one (by rfl) (by rfl) (by repeat constructor) ?_ | refine' BFill.agg (by rfl) (by rfl) (by repeat constructor) ?_))) ?_
    refine OpsK.first 9 _ (by rfl) (by kernel_rfl) rfl (by kernel_rfl) (by kernel_rfl) rfl (by first | exact p_move rfl | exact p_assign rfl | exact p_extract rfl rfl | exact q_fieldAddr rfl | exact p_nilCheck rfl | exact q_load rfl (by repeat (first | exact HMem.here | apply HMem.skip | apply HMem.there)) rfl | exact q_load_agg rfl (by repeat (first | exact HMem.here | apply HMem.skip | apply HMem.there)) (by repeat constructor) | exact q_len_slice rfl | exact q_len_str rfl | exact q_indexAddr rfl rfl (by omega) | exact q_slice_str rfl rfl rfl (by omega) (by omega) | exact q_makeInterface rfl | exact q_assert rfl | exact p_build rfl (by repeat' (first | exact BFill.nil | refine' BFill.one (by rfl) (by rfl) (by repeat constructor) ?_ | refine' BFill.agg (by rfl) (by rfl) (by repeat constructor) ?_))) ?_
    refine OpsK.firstL 10 [] _ (by rfl) (by kernel_rfl) (by kernel_rfl) rfl (by kernel_rfl) (by kernel_rfl) rfl (by first | exact p_move rfl | exact p_assign rfl | exact p_extract rfl rfl | exact q_fieldAddr rfl | exact p_nilCheck rfl | exact q_load rfl (by repeat (first | exact HMem.here | apply HMem.skip | apply HMem.there)) rfl | exact q_load_agg rfl (by repeat (first | exact HMem.here | apply HMem.skip | apply HMem.there)) (by repeat constructor) | exact q_len_slice rfl | exact q_len_str rfl | exact q_indexAddr rfl rfl (by omega) | exact q_slice_str rfl rfl rfl (by omega) (by omega) | exact q_makeInterface rfl | exact q_assert rfl | exact p_build rfl (by repeat' (first | exact BFill.nil | refine' BFill.one (by rfl) (by rfl) (by repeat constructor) ?_ | refine' BFill.agg (by rfl) (by rfl) (by repeat constructor) ?_))) ?_
    refine OpsK.only 11 _ (by kernel_rfl) rfl ?_
    (repeat' (first | refine s_callD (he) ?_ | refine k_nil ?_ | refine k_then ?_))
    refine ⟨fun _ => (by repeat (first | exact SubH.nilR _ | refine SubH.pick (by repeat (first | exact HTake.here | apply HTake.there)) ?_)), ?_⟩
    refine OpsK.first 12 _ (by rfl) (by kernel_rfl) rfl (by kernel_rfl) (by kernel_rfl) rfl (by first | exact p_move rfl | exact p_assign rfl | exact p_extract rfl rfl | exact q_fieldAddr rfl | exact p_nilCheck rfl | exact q_load rfl (by repeat (first | exact HMem.here | apply HMem.skip | apply HMem.there)) rfl | exact q_load_agg rfl (by repeat (first | exact HMem.here | apply HMem.skip | apply HMem.there)) (by repeat constructor) | exact q_len_slice rfl | exact q_len_str rfl | exact q_indexAddr rfl rfl (by omega) | exact q_slice_str rfl rfl rfl (by omega) (by omega) | exact q_makeInterface rfl | exact q_assert rfl | exact p_build rfl (by repeat' (first | exact BFill.nil | refine' BFill.one (by rfl) (by rfl) (by repeat constructor) ?_ | refine' BFill.agg (by rfl) (by rfl) (by repeat constructor) ?_))) ?_
    refine OpsK.first 13 _ (by rfl) (by kernel_rfl) rfl (by kernel_rfl) (by kernel_rfl) rfl (by first | exact p_move rfl | exact p_assign rfl | exact p_extract rfl rfl | exact q_fieldAddr rfl | exact p_nilCheck rfl | exact q_load rfl (by repeat (first | exact HMem.here | apply HMem.skip | apply HMem.there)) rfl | exact q_load_agg rfl (by repeat (first | exact HMem.here | apply HMem.skip | apply HMem.there)) (by repeat constructor) | exact q_len_slice rfl | exact q_len_str rfl | exact q_indexAddr rfl rfl (by omega) | exact q_slice_str rfl rfl rfl (by omega) (by omega) | exact q_makeInterface rfl | exact q_assert rfl | exact p_build rfl (by repeat' (first | exact BFill.nil | refine' BFill.one (by rfl) (by rfl) (by repeat constructor) ?_ | refine' BFill.agg (by rfl) (by rfl) (by repeat constructor) ?_))) ?_
    refine OpsK.only 14 _ (by kernel_rfl) rfl ?_
    (repeat' (first | refine k_nil ?_ | refine k_then ?_ | refine s_store ?_))
    refine ⟨(fun h0 => Bool.noConfusion (show true = false from h0)), ?_⟩
    refine OpsK.nil (by kernel_rfl) ?_
    (repeat' (first | refine s_callD (hm) ?_ | refine s_callD (autoLinkText_no p pr (⟨o1, false, o3, false, o5, o6, false, false, false, false⟩ : PO) (⟨lp pr, root, links, lineno, stack, depth, .bool cn, str (bytesL d), inat (bytesL d).length, .slice (some ⟨g, 0, none⟩) (k + 1) cap, lists, texts, bt⟩ : PS) (.slice (some ⟨g, 0, none⟩) (k + 1) cap) rfl rfl) ?_ | refine k_seq ?_ | refine k_region ?_ | refine k_nil ?_ | refine k_then ?_ | refine k_ret ?_ | refine s_move ?_ | refine s_assign ?_ | refine s_load ?_ | refine s_field ?_ | refine s_nilp ?_ | refine s_store ?_))
    have j2 : Inls (.slice (some ⟨g, 0, none⟩) (k + 1) cap) vals' [(g, cellsOf cur 125)] := by
      show Own _ _ _ vals'.length _ _
      rw [hk]; exact j2'
    refine e_ret _ ⟨(⟨lp pr, root, links, lineno, stack, depth, .bool cn, str (bytesL d), inat (bytesL d).length, .slice (some ⟨g, 0, none⟩) (k + 1) cap, lists, texts, bt⟩ : PS), some ⟨g, 0, none⟩, k + 1, cap, [(g, cellsOf cur 125)] ++ IB', rfl, ⟨vals', [(g, cellsOf cur 125)], IB', j1, j2, rfl⟩, rfl, rfl, rfl⟩ ?_
    exact SubH.trans (H' := [_, _, [(g, cellsOf cur 125)], IB']) (by repeat (first | exact SubH.nilR _ | refine SubH.pick (by repeat (first | exact HTake.here | apply HTake.there)) ?_)) (SubH.keep (SubH.keep SubH.join))
end Go.Proofs

namespace Go.Proofs
open Go Go.Eng
set_option maxRecDepth 20000
set_option maxHeartbeats 8000000

/-- A byte by a table of pairs. -/
abbrev Pairs := List (UInt8 × List UInt8)
def pairB : Pairs → UInt8 → List UInt8
  | [], c => [c]
  | x :: r, c => if x.1 = c then x.2 else pairB r c
abbrev pairH (ps : Pairs) (l : List UInt8) : List UInt8 := l.flatMap (pairB ps)
def pairCells (ps : Pairs) : List Value := ps.flatMap fun x => [str [x.1], str x.2]
abbrev pairRow (g : Nat) (ps : Pairs) : Blk := [(g, cellsOf (pairCells ps) 9)]
structure PairsOK (ps : Pairs) : Prop where
  all : ∀ x ∈ ps, x.2 ≠ [] ∧ x.2.length ≤ 6
  len : ps.length ≤ 1000
theorem pairCells_len (ps : Pairs) : (pairCells ps).length = 2 * ps.length := by
  induction ps with
  | nil => rfl
  | cons x r ih => simp only [pairCells, List.flatMap_cons, List.length_append, List.length_cons, List.length_nil] at ih ⊢; omega
theorem pairCells_at : ∀ {ps : Pairs} {m : Nat} {x : UInt8 × List UInt8}, ps[m]? = some x → (pairCells ps)[2 * m]? = some (str [x.1]) ∧ (pairCells ps)[2 * m + 1]? = some (str x.2)
  | [], m, x, h => by simp at h
  | y :: r, 0, x, h => by
    simp only [List.getElem?_cons_zero, Option.some.injEq] at h
    subst h
    exact ⟨rfl, rfl⟩
  | y :: r, m + 1, x, h => by
    have ih := pairCells_at (ps := r) (m := m) (x := x) (by simpa using h)
    have e : pairCells (y :: r) = str [y.1] :: str y.2 :: pairCells r := by simp [pairCells]
    rw [e, show 2 * (m + 1) = 2 * m + 1 + 1 by omega, show 2 * m + 1 + 1 + 1 = (2 * m + 1) + 1 + 1 by omega]
    simpa using ih
theorem pairB_hit : ∀ {ps : Pairs} {c : UInt8} {m : Nat} {x : UInt8 × List UInt8}, ps[m]? = some x → x.1 = c → (∀ k y, k < m → ps[k]? = some y → y.1 ≠ c) → pairB ps c = x.2
  | [], c, m, x, h, _, _ => by simp at h
  | y :: r, c, 0, x, h, e, _ => by
    simp only [List.getElem?_cons_zero, Option.some.injEq] at h
    subst h
    simp [pairB, e]
  | y :: r, c, m + 1, x, h, e, hn => by
    have h0 : ¬ y.1 = c := hn 0 y (by omega) rfl
    simp only [pairB, if_neg h0]
    exact pairB_hit (m := m) (by simpa using h) e (fun k z hk hz => hn (k + 1) z (by omega) (by simpa using hz))
theorem pairB_none : ∀ {ps : Pairs} {c : UInt8}, (∀ k y, k < ps.length → ps[k]? = some y → y.1 ≠ c) → pairB ps c = [c]
  | [], c, _ => rfl
  | y :: r, c, hn => by
    have h0 : ¬ y.1 = c := hn 0 y (by simp) rfl
    simp only [pairB, if_neg h0]
    exact pairB_none fun k z hk hz => hn (k + 1) z (by simp; omega) (by simpa using hz)
theorem pairB_len : ∀ {ps : Pairs} (_ : ∀ x ∈ ps, x.2 ≠ [] ∧ x.2.length ≤ 6) (c : UInt8), (pairB ps c).length ≤ 6
  | [], _, c => by simp [pairB]
  | y :: r, h, c => by
    simp only [pairB]
    split
    · exact (h y (by simp)).2
    · exact pairB_len (fun x hx => h x (by simp [hx])) c
theorem pairH_len {ps : Pairs} (h : PairsOK ps) (l : List UInt8) : (pairH ps l).length ≤ 6 * l.length := by
  induction l with
  | nil => simp
  | cons c l ih => have := pairB_len h.all c; simp only [pairH, List.flatMap_cons, List.length_append, List.length_cons] at ih ⊢; omega
theorem pairH_snoc {ps : Pairs} {s : List UInt8} {j : Nat} {c : UInt8} (h : s[j]? = some c) : pairH ps (s.take (j + 1)) = pairH ps (s.take j) ++ pairB ps c := by
  obtain ⟨h1, h2⟩ := List.getElem?_eq_some_iff.1 h
  rw [List.take_succ_eq_append_getElem h1, h2]; simp [pairH]

theorem pairsW_tr (ps : Pairs) (hps : PairsOK ps) (g b : Nat) (v : Value) (l : List UInt8) (R : Blk) (lr : Int) (s : List UInt8) (hR : BRow v l R) (hlim : l.length + 6 * s.length ≤ 1000000) :
    Tr Tryz.prog 251 [.slice (some ⟨g, 0, none⟩) (2 * ps.length) (2 * ps.length), lp b, str s] [pairRow g ps, bufb b v lr, R] fun u K => u = unit ∧ ∃ v' R' lr', BRow v' (l ++ pairH ps s) R' ∧ K = [pairRow g ps, bufb b v' lr', R'] := by
  have hpl := pairCells_len ps
  have hp1000 := hps.len
  refine Tr.start (n := 41) (rs := []) rfl rfl rfl rfl fun B => ?_
  (repeat' (first | refine k_seq ?_ | refine k_region ?_ | refine k_nil ?_ | refine k_then ?_ | refine k_blk ?_ | refine k_scope ?_ | refine k_label ?_ | refine s_assign ?_))
  refine k_loop (fun x : PW => [(0, .slice (some ⟨g, 0, none⟩) (2 * ps.length) (2 * ps.length)), (1, lp b), (2, str s), (6, inat x.j)]) (fun x => [pairRow g ps, bufb b x.v x.lr, x.R])
    (fun x => x.j ≤ s.length ∧ BRow x.v (l ++ pairH ps (s.take x.j)) x.R) (fun x => s.length - x.j) ⟨0, v, R, lr⟩ ⟨Nat.zero_le _, by simpa using hR⟩ (Knows.spec (by repeat (first | exact trivial | refine ⟨rfl, ?_⟩))) (by repeat (first | exact SubH.nilR _ | refine SubH.pick (by repeat (first | exact HTake.here | apply HTake.there)) ?_)) fun x hx => ?_
  obtain ⟨j, v, R, lr⟩ := x
  obtain ⟨x1, x2⟩ := hx
  simp only at x1 x2 ⊢
  have hb : (l ++ pairH ps (s.take j)).length ≤ l.length + 6 * j := by
    have := pairH_len hps (s.take j)
    rw [List.length_append]; rw [List.length_take] at this; omega
  by_cases hj : j < s.length
  · obtain ⟨c, hc⟩ : ∃ c, s[j]? = some c := ⟨_, List.getElem?_eq_getElem hj⟩
    have hsn := pairH_snoc (ps := ps) hc
    (repeat' (first | refine k_seq ?_ | refine k_region ?_ | refine k_nil ?_ | refine k_then ?_ | refine k_true ?_ | refine k_blk ?_ | refine k_skip ?_ | refine s_move ?_ | refine s_assign ?_ | refine s_lss_t ?_ | refine s_lens ?_))
    refine k_loop (fun k : Nat => [(0, .slice (some ⟨g, 0, none⟩) (2 * ps.length) (2 * ps.length)), (1, lp b), (2, str s), (6, inat j), (7, inat (2 * k))]) (fun _ => [pairRow g ps, bufb b v lr, R])
      (fun k => k ≤ ps.length ∧ ∀ k' y, k' < k → ps[k']? = some y → y.1 ≠ c) (fun k => ps.length - k) 0 ⟨by omega, fun k' y h => by omega⟩ (Knows.spec (by repeat (first | exact trivial | refine ⟨rfl, ?_⟩))) (by repeat (first | exact SubH.nilR _ | refine SubH.pick (by repeat (first | exact HTake.here | apply HTake.there)) ?_)) fun k hk => ?_
    obtain ⟨hk1, hk2⟩ := hk
    by_cases hkl : k < ps.length
    · obtain ⟨x, hx⟩ : ∃ x, ps[k]? = some x := ⟨_, List.getElem?_eq_getElem hkl⟩
      obtain ⟨c1, c2⟩ := pairCells_at hx
      have c1' : (pairCells ps)[0 + 2 * k * 1]? = some (str [x.1]) := by rw [show 0 + 2 * k * 1 = 2 * k by omega]; exact c1
      have c2' : (pairCells ps)[0 + (2 * k + 1) * 1]? = some (str x.2) := by rw [show 0 + (2 * k + 1) * 1 = 2 * k + 1 by omega]; exact c2
      have z1 : ([x.1] : List UInt8)[0]? = some x.1 := rfl
      obtain ⟨hx1, hx2⟩ := hps.all x (List.mem_of_getElem? hx)
      by_cases hxc : x.1 = c
      · have e1 := pairB_hit hx hxc hk2
        have hcn : c.toNat = x.1.toNat := by rw [hxc]
        (repeat' (first | refine Wp.draw_all (id := 6) Mixed.out (by kernel_rfl) ?_ | refine u_load (hc := c1') ?_ | refine s_load (hc := c2') ?_ | refine k_seq ?_ | refine k_region ?_ | refine k_nil ?_ | refine k_then ?_ | refine k_true ?_ | refine k_blk ?_ | refine k_skip ?_ | refine s_move ?_ | refine s_add1 ?_ | refine s_lss_t ?_ | refine s_len ?_ | refine s_idxa ?_ | refine u_nil ?_ | refine u_move ?_ | refine u_eql_t ?_ | refine u_index ?_ | refine u_idxa ?_))
        refine s_call (writeString_tr b v (l ++ pairH ps (s.take j)) R lr x.2 x2 hx1 (by omega) (by omega)) (fun u K hR => ?_)
        obtain ⟨rfl, v', R', h9, rfl⟩ := hR
        (repeat' (first | refine k_region ?_ | refine k_nil ?_ | refine k_then ?_ | refine k_exit ?_ | refine k_exit_then ?_ | refine k_hit ?_ | refine k_miss ?_ | refine s_move ?_ | refine s_assign ?_ | refine s_add1 ?_))
        exact ⟨⟨j + 1, v', R', 0⟩, (Knows.spec (by repeat (first | exact trivial | refine ⟨rfl, ?_⟩))), (by repeat (first | exact SubH.nilR _ | refine SubH.pick (by repeat (first | exact HTake.here | apply HTake.there)) ?_)), ⟨by simp only; omega, by simp only; rw [hsn, e1, ← List.append_assoc]; exact h9⟩, by simp only; omega⟩
      · have hcn : ¬ c.toNat = x.1.toNat := fun h => hxc (UInt8.toNat_inj.1 h.symm)
        (repeat' (first | refine Wp.draw_all (id := 6) Mixed.out (by kernel_rfl) ?_ | refine u_load (hc := c1') ?_ | refine k_seq ?_ | refine k_region ?_ | refine k_nil ?_ | refine k_then ?_ | refine k_true ?_ | refine k_false ?_ | refine k_blk ?_ | refine k_skip ?_ | refine k_block ?_ | refine s_move ?_ | refine s_assign ?_ | refine s_add2 ?_ | refine s_lss_t ?_ | refine s_len ?_ | refine u_nil ?_ | refine u_move ?_ | refine u_eql_f ?_ | refine u_index ?_ | refine u_idxa ?_))
        exact ⟨k + 1, (Knows.spec (by repeat (first | exact trivial | refine ⟨rfl, ?_⟩))), (by repeat (first | exact SubH.nilR _ | refine SubH.pick (by repeat (first | exact HTake.here | apply HTake.there)) ?_)), ⟨by omega, fun k' y hk' hy => by
          by_cases hkk : k' < k
          · exact hk2 k' y hkk hy
          · have : k' = k := by omega
            subst this
            rw [hx] at hy
            injection hy with hy
            subst hy
            exact hxc⟩, by omega⟩
    · have hkk : k = ps.length := by omega
      subst hkk
      have e1 := pairB_none hk2
      (repeat' (first | refine k_seq ?_ | refine k_region ?_ | refine k_nil ?_ | refine k_then ?_ | refine k_false ?_ | refine k_exit ?_ | refine k_exit_then ?_ | refine k_hit ?_ | refine s_move ?_ | refine s_lss_f ?_ | refine s_len ?_ | refine s_index ?_))
      refine s_call (writeByte_tr b v (l ++ pairH ps (s.take j)) R lr c x2 (by omega)) (fun u K hR => ?_)
      obtain ⟨rfl, v', R', h9, rfl⟩ := hR
      (repeat' (first | refine k_region ?_ | refine k_nil ?_ | refine k_then ?_ | refine k_block ?_ | refine s_move ?_ | refine s_assign ?_ | refine s_add1 ?_))
      exact ⟨⟨j + 1, v', R', 0⟩, (Knows.spec (by repeat (first | exact trivial | refine ⟨rfl, ?_⟩))), (by repeat (first | exact SubH.nilR _ | refine SubH.pick (by repeat (first | exact HTake.here | apply HTake.there)) ?_)), ⟨by simp only; omega, by simp only; rw [hsn, e1, ← List.append_assoc]; exact h9⟩, by simp only; omega⟩
  · have : j = s.length := by omega
    subst this
    rw [List.take_length] at x2
    (repeat' (first | refine k_seq ?_ | refine k_region ?_ | refine k_nil ?_ | refine k_then ?_ | refine k_false ?_ | refine k_exit ?_ | refine k_exit_then ?_ | refine k_hit ?_ | refine k_nogo ?_ | refine s_move ?_ | refine s_lss_f ?_ | refine s_lens ?_))
    exact e_norm _ ⟨rfl, v, R, lr, x2, rfl⟩ (by repeat (first | exact SubH.nilR _ | refine SubH.pick (by repeat (first | exact HTake.here | apply HTake.there)) ?_))

theorem replaceP_tr (ps : Pairs) (hps : PairsOK ps) (g : Nat) (s : List UInt8) (hlim : 6 * s.length ≤ 1000000) :
    Tr Tryz.prog 258 [.slice (some ⟨g, 0, none⟩) (2 * ps.length) (2 * ps.length), str s] [pairRow g ps] fun u K => u = str (pairH ps s) ∧ K = [] := by
  refine Tr.start (n := 10) (rs := [.tmp 4]) rfl rfl rfl rfl fun B => ?_
  (repeat' (first | refine k_seq ?_ | refine k_region ?_ | refine k_nil ?_ | refine k_then ?_ | refine s_move ?_ | refine s_assign ?_ | refine s_alloc (fun _ => ?_)))
  rename_i b
  refine s_nilblk ?_
  refine s_call (pairsW_tr ps hps g b (.slice none 0 0) [] [] 0 s BRow.nil (by simp; omega)) (fun u K hR => ?_)
  obtain ⟨rfl, v', R', lr', h9, rfl⟩ := hR
  rw [List.nil_append] at h9
  by_cases hn : pairH ps s = []
  · rw [hn] at h9 ⊢
    rcases h9 with ⟨_, rfl, rfl⟩ | ⟨h, _⟩
    · (repeat' (first | refine s_callD (bufString_nil b lr') ?_ | refine k_seq ?_ | refine k_region ?_ | refine k_nil ?_ | refine k_then ?_ | refine k_ret ?_ | refine s_assign ?_))
      exact e_ret [] ⟨rfl, rfl⟩ (by repeat (first | exact SubH.nilR _ | refine SubH.pick (by repeat (first | exact HTake.here | apply HTake.there)) ?_))
    · exact absurd rfl h
  · (repeat' (first | refine s_callD (bufString_tr b v' (pairH ps s) R' lr' h9 hn) ?_ | refine k_seq ?_ | refine k_region ?_ | refine k_nil ?_ | refine k_then ?_ | refine k_ret ?_ | refine s_assign ?_))
    exact e_ret [] ⟨rfl, rfl⟩ (by repeat (first | exact SubH.nilR _ | refine SubH.pick (by repeat (first | exact HTake.here | apply HTake.there)) ?_))
end Go.Proofs

namespace Go.Proofs
open Go Go.Eng
set_option maxRecDepth 40000
set_option maxHeartbeats 8000000

def linkPairs : Pairs := [(34, [37, 50, 50]), (38, [38, 97, 109, 112, 59]), (60, [37, 51, 67]), (62, [37, 51, 69]), (92, [37, 53, 67]), (32, [37, 50, 48]), (96, [37, 54, 48]), (91, [37, 53, 66]), (93, [37, 53, 68]), (94, [37, 53, 69]), (123, [37, 55, 66]), (125, [37, 55, 68]), (0, [37, 48, 48]), (1, [37, 48, 49]), (2, [37, 48, 50]), (3, [37, 48, 51]), (4, [37, 48, 52]), (5, [37, 48, 53]), (6, [37, 48, 54]), (7, [37, 48, 55]), (8, [37, 48, 56]), (11, [37, 48, 66]), (12, [37, 48, 67]), (14, [37, 48, 69]), (15, [37, 48, 70]), (16, [37, 49, 48]), (17, [37, 49, 49]), (18, [37, 49, 50]), (19, [37, 49, 51]), (20, [37, 49, 52]), (21, [37, 49, 53]), (22, [37, 49, 54]), (23, [37, 49, 55]), (24, [37, 49, 56]), (25, [37, 49, 57]), (26, [37, 49, 65]), (27, [37, 49, 66]), (28, [37, 49, 67]), (29, [37, 49, 68]), (30, [37, 49, 69]), (31, [37, 49, 70]), (127, [37, 55, 70]), (128, [37, 56, 48]), (129, [37, 56, 49]), (130, [37, 56, 50]), (131, [37, 56, 51]), (132, [37, 56, 52]), (133, [37, 56, 53]), (134, [37, 56, 54]), (135, [37, 56, 55]), (136, [37, 56, 56]), (137, [37, 56, 57]), (138, [37, 56, 65]), (139, [37, 56, 66]), (140, [37, 56, 67]), (141, [37, 56, 68]), (142, [37, 56, 69]), (143, [37, 56, 70]), (144, [37, 57, 48]), (145, [37, 57, 49]), (146, [37, 57, 50]), (147, [37, 57, 51]), (148, [37, 57, 52]), (149, [37, 57, 53]), (150, [37, 57, 54]), (151, [37, 57, 55]), (152, [37, 57, 56]), (153, [37, 57, 57]), (154, [37, 57, 65]), (155, [37, 57, 66]), (156, [37, 57, 67]), (157, [37, 57, 68]), (158, [37, 57, 69]), (159, [37, 57, 70]), (160, [37, 65, 48]), (161, [37, 65, 49]), (162, [37, 65, 50]), (163, [37, 65, 51]), (164, [37, 65, 52]), (165, [37, 65, 53]), (166, [37, 65, 54]), (167, [37, 65, 55]), (168, [37, 65, 56]), (169, [37, 65, 57]), (170, [37, 65, 65]), (171, [37, 65, 66]), (172, [37, 65, 67]), (173, [37, 65, 68]), (174, [37, 65, 69]), (175, [37, 65, 70]), (176, [37, 66, 48]), (177, [37, 66, 49]), (178, [37, 66, 50]), (179, [37, 66, 51]), (180, [37, 66, 52]), (181, [37, 66, 53]), (182, [37, 66, 54]), (183, [37, 66, 55]), (184, [37, 66, 56]), (185, [37, 66, 57]), (186, [37, 66, 65]), (187, [37, 66, 66]), (188, [37, 66, 67]), (189, [37, 66, 68]), (190, [37, 66, 69]), (191, [37, 66, 70]), (192, [37, 67, 48]), (193, [37, 67, 49]), (194, [37, 67, 50]), (195, [37, 67, 51]), (196, [37, 67, 52]), (197, [37, 67, 53]), (198, [37, 67, 54]), (199, [37, 67, 55]), (200, [37, 67, 56]), (201, [37, 67, 57]), (202, [37, 67, 65]), (203, [37, 67, 66]), (204, [37, 67, 67]), (205, [37, 67, 68]), (206, [37, 67, 69]), (207, [37, 67, 70]), (208, [37, 68, 48]), (209, [37, 68, 49]), (210, [37, 68, 50]), (211, [37, 68, 51]), (212, [37, 68, 52]), (213, [37, 68, 53]), (214, [37, 68, 54]), (215, [37, 68, 55]), (216, [37, 68, 56]), (217, [37, 68, 57]), (218, [37, 68, 65]), (219, [37, 68, 66]), (220, [37, 68, 67]), (221, [37, 68, 68]), (222, [37, 68, 69]), (223, [37, 68, 70]), (224, [37, 69, 48]), (225, [37, 69, 49]), (226, [37, 69, 50]), (227, [37, 69, 51]), (228, [37, 69, 52]), (229, [37, 69, 53]), (230, [37, 69, 54]), (231, [37, 69, 55]), (232, [37, 69, 56]), (233, [37, 69, 57]), (234, [37, 69, 65]), (235, [37, 69, 66]), (236, [37, 69, 67]), (237, [37, 69, 68]), (238, [37, 69, 69]), (239, [37, 69, 70]), (240, [37, 70, 48]), (241, [37, 70, 49]), (242, [37, 70, 50]), (243, [37, 70, 51]), (244, [37, 70, 52]), (245, [37, 70, 53]), (246, [37, 70, 54]), (247, [37, 70, 55]), (248, [37, 70, 56]), (249, [37, 70, 57]), (250, [37, 70, 65]), (251, [37, 70, 66]), (252, [37, 70, 67]), (253, [37, 70, 68]), (254, [37, 70, 69]), (255, [37, 70, 70])]

def linkPV : List (Nat × Value) := (pairCells linkPairs).zipIdx.map fun x => (x.2, x.1)
theorem linkOK : PairsOK linkPairs := by
  refine ⟨?_, by decide⟩
  have h : (linkPairs.all fun x => !x.2.isEmpty && Nat.ble x.2.length 6) = true := by kernel_rfl
  intro x hx
  have h1 := List.all_eq_true.1 h x hx
  simp only [Bool.and_eq_true, Bool.not_eq_true', List.isEmpty_eq_false_iff, Nat.ble_eq] at h1
  exact h1

theorem htmlLinkEscaper_tr : Tr Tryz.prog 257 [] [] fun u K => ∃ g, u = .slice (some ⟨g, 0, none⟩) (2 * linkPairs.length) (2 * linkPairs.length) ∧ K = [pairRow g linkPairs] := by
  refine Tr.start (n := 2) (rs := [.tmp 0]) rfl rfl rfl rfl fun B => ?_
  (repeat' (first | refine k_seq ?_ | refine k_region ?_ | refine k_nil ?_ | refine k_then ?_ | refine s_assign ?_))
  refine s_bsln (pv := linkPV) (cs := pairCells linkPairs) (fun g => ?_) (by kernel_rfl) (by kernel_rfl) (by kernel_rfl)
  (repeat' (first | refine k_nil ?_ | refine k_then ?_ | refine k_ret ?_ | refine s_assign ?_))
  exact e_ret [pairRow g linkPairs] ⟨g, by kernel_rfl, rfl⟩ (by repeat (first | exact SubH.nilR _ | refine SubH.pick (by repeat (first | exact HTake.here | apply HTake.there)) ?_))

theorem autoP_tr (q b : Nat) (t : List UInt8) (v : Value) (l : List UInt8) (R G : Blk) (lr : Int) (hx : (q, cellsOf [str t, str t] 257) ∈ G) (ht : t.length ≤ 1000) (hR : BRow v l R) (hln : l ≠ []) (hlim : l.length ≤ 600000) :
    Tr Tryz.prog 331 [lp q, lp b] [G, bufb b v lr, R] fun u K => u = unit ∧ ∃ v' R' lr', BRow v' (l ++ ([60, 97, 32, 104, 114, 101, 102, 61, 34] ++ pairH linkPairs t ++ [34, 62] ++ escH t ++ [60, 47, 97, 62])) R' ∧ K = [G, bufb b v' lr', R'] := by
  have hm : ∀ H, HMem (G :: H) q (cellsOf [str t, str t] 257) := fun H => HMem.of_chunk hx
  have hl1 := pairH_len linkOK t
  have hl2 := escH_len t
  refine Tr.start (n := 22) (rs := []) rfl rfl rfl rfl fun B => ?_
  refine Wp.draw_held (id := 0) [G] 18 Mixed.out (by repeat (first | exact SubH.nilR _ | refine SubH.pick (by repeat (first | exact HTake.here | apply HTake.there)) ?_)) rfl ?_
  refine OpsH.first 0 _ (by kernel_rfl) rfl (by kernel_rfl) (by kernel_rfl) rfl (by first | exact p_move rfl | exact p_assign rfl | exact p_extract rfl rfl | exact q_fieldAddr rfl | exact p_nilCheck rfl | exact q_load rfl (by repeat (first | exact HMem.here | apply HMem.skip | apply HMem.there)) rfl | exact q_load_agg rfl (by repeat (first | exact HMem.here | apply HMem.skip | apply HMem.there)) (by repeat constructor) | exact q_len_slice rfl | exact q_len_str rfl | exact q_indexAddr rfl rfl (by omega) | exact q_slice_str rfl rfl rfl (by omega) (by omega) | exact q_makeInterface rfl | exact q_assert rfl | exact p_build rfl (by repeat' (first | exact BFill.nil | refine' BFill.one (by rfl) (by rfl) (by repeat constructor) ?_ | refine' BFill.agg (by rfl) (by rfl) (by repeat constructor) ?_))) ?_
  refine OpsH.first 2 _ (by kernel_rfl) rfl (by kernel_rfl) (by kernel_rfl) rfl (by first | exact p_move rfl | exact p_assign rfl | exact p_extract rfl rfl | exact q_fieldAddr rfl | exact p_nilCheck rfl | exact q_load rfl (by repeat (first | exact HMem.here | apply HMem.skip | apply HMem.there)) rfl | exact q_load_agg rfl (by repeat (first | exact HMem.here | apply HMem.skip | apply HMem.there)) (by repeat constructor) | exact q_len_slice rfl | exact q_len_str rfl | exact q_indexAddr rfl rfl (by omega) | exact q_slice_str rfl rfl rfl (by omega) (by omega) | exact q_makeInterface rfl | exact q_assert rfl | exact p_build rfl (by repeat' (first | exact BFill.nil | refine' BFill.one (by rfl) (by rfl) (by repeat constructor) ?_ | refine' BFill.agg (by rfl) (by rfl) (by repeat constructor) ?_))) ?_
  refine OpsH.first 3 _ (by kernel_rfl) rfl (by kernel_rfl) (by kernel_rfl) rfl (by first | exact p_move rfl | exact p_assign rfl | exact p_extract rfl rfl | exact q_fieldAddr rfl | exact p_nilCheck rfl | exact q_load rfl (by repeat (first | exact HMem.here | apply HMem.skip | apply HMem.there)) rfl | exact q_load_agg rfl (by repeat (first | exact HMem.here | apply HMem.skip | apply HMem.there)) (by repeat constructor) | exact q_len_slice rfl | exact q_len_str rfl | exact q_indexAddr rfl rfl (by omega) | exact q_slice_str rfl rfl rfl (by omega) (by omega) | exact q_makeInterface rfl | exact q_assert rfl | exact p_build rfl (by repeat' (first | exact BFill.nil | refine' BFill.one (by rfl) (by rfl) (by repeat constructor) ?_ | refine' BFill.agg (by rfl) (by rfl) (by repeat constructor) ?_))) ?_
  refine OpsH.first 4 _ (by kernel_rfl) rfl (by kernel_rfl) (by kernel_rfl) rfl (by first | exact p_move rfl | exact p_assign rfl | exact p_extract rfl rfl | exact q_fieldAddr rfl | exact p_nilCheck rfl | exact q_load rfl (by repeat (first | exact HMem.here | apply HMem.skip | apply HMem.there)) rfl | exact q_load_agg rfl (by repeat (first | exact HMem.here | apply HMem.skip | apply HMem.there)) (by repeat constructor) | exact q_len_slice rfl | exact q_len_str rfl | exact q_indexAddr rfl rfl (by omega) | exact q_slice_str rfl rfl rfl (by omega) (by omega) | exact q_makeInterface rfl | exact q_assert rfl | exact p_build rfl (by repeat' (first | exact BFill.nil | refine' BFill.one (by rfl) (by rfl) (by repeat constructor) ?_ | refine' BFill.agg (by rfl) (by rfl) (by repeat constructor) ?_))) ?_
  refine OpsH.first 5 _ (by kernel_rfl) rfl (by kernel_rfl) (by kernel_rfl) rfl (q_load rfl (hm _) rfl) ?_
  refine OpsH.first 10 _ (by kernel_rfl) rfl (by kernel_rfl) (by kernel_rfl) rfl (by first | exact p_move rfl | exact p_assign rfl | exact p_extract rfl rfl | exact q_fieldAddr rfl | exact p_nilCheck rfl | exact q_load rfl (by repeat (first | exact HMem.here | apply HMem.skip | apply HMem.there)) rfl | exact q_load_agg rfl (by repeat (first | exact HMem.here | apply HMem.skip | apply HMem.there)) (by repeat constructor) | exact q_len_slice rfl | exact q_len_str rfl | exact q_indexAddr rfl rfl (by omega) | exact q_slice_str rfl rfl rfl (by omega) (by omega) | exact q_makeInterface rfl | exact q_assert rfl | exact p_build rfl (by repeat' (first | exact BFill.nil | refine' BFill.one (by rfl) (by rfl) (by repeat constructor) ?_ | refine' BFill.agg (by rfl) (by rfl) (by repeat constructor) ?_))) ?_
  refine OpsH.first 11 _ (by kernel_rfl) rfl (by kernel_rfl) (by kernel_rfl) rfl (by first | exact p_move rfl | exact p_assign rfl | exact p_extract rfl rfl | exact q_fieldAddr rfl | exact p_nilCheck rfl | exact q_load rfl (by repeat (first | exact HMem.here | apply HMem.skip | apply HMem.there)) rfl | exact q_load_agg rfl (by repeat (first | exact HMem.here | apply HMem.skip | apply HMem.there)) (by repeat constructor) | exact q_len_slice rfl | exact q_len_str rfl | exact q_indexAddr rfl rfl (by omega) | exact q_slice_str rfl rfl rfl (by omega) (by omega) | exact q_makeInterface rfl | exact q_assert rfl | exact p_build rfl (by repeat' (first | exact BFill.nil | refine' BFill.one (by rfl) (by rfl) (by repeat constructor) ?_ | refine' BFill.agg (by rfl) (by rfl) (by repeat constructor) ?_))) ?_
  refine OpsH.first 12 _ (by kernel_rfl) rfl (by kernel_rfl) (by kernel_rfl) rfl (by first | exact p_move rfl | exact p_assign rfl | exact p_extract rfl rfl | exact q_fieldAddr rfl | exact p_nilCheck rfl | exact q_load rfl (by repeat (first | exact HMem.here | apply HMem.skip | apply HMem.there)) rfl | exact q_load_agg rfl (by repeat (first | exact HMem.here | apply HMem.skip | apply HMem.there)) (by repeat constructor) | exact q_len_slice rfl | exact q_len_str rfl | exact q_indexAddr rfl rfl (by omega) | exact q_slice_str rfl rfl rfl (by omega) (by omega) | exact q_makeInterface rfl | exact q_assert rfl | exact p_build rfl (by repeat' (first | exact BFill.nil | refine' BFill.one (by rfl) (by rfl) (by repeat constructor) ?_ | refine' BFill.agg (by rfl) (by rfl) (by repeat constructor) ?_))) ?_
  refine OpsH.first 13 _ (by kernel_rfl) rfl (by kernel_rfl) (by kernel_rfl) rfl (q_load rfl (hm _) rfl) ?_
  refine OpsH.only 1 _ (by kernel_rfl) rfl ?_
  refine s_call htmlLinkEscaper_tr (fun u K hR => ?_)
  obtain ⟨g, rfl, rfl⟩ := hR
  (repeat' (first | refine k_nil ?_ | refine k_then ?_))
  refine ⟨(by repeat (first | exact SubH.nilR _ | refine SubH.pick (by repeat (first | exact HTake.here | apply HTake.there)) ?_)), ?_⟩
  refine OpsH.only 6 _ (by kernel_rfl) rfl ?_
  refine s_call (replaceP_tr linkPairs linkOK g t (by omega)) (fun u K hR => ?_)
  obtain ⟨rfl, rfl⟩ := hR
  (repeat' (first | refine k_nil ?_ | refine k_then ?_))
  refine ⟨(by repeat (first | exact SubH.nilR _ | refine SubH.pick (by repeat (first | exact HTake.here | apply HTake.there)) ?_)), ?_⟩
  refine OpsH.first 7 _ (by kernel_rfl) rfl (by kernel_rfl) (by kernel_rfl) rfl (p_add_str (a := [60, 97, 32, 104, 114, 101, 102, 61, 34]) (b := pairH linkPairs t) rfl rfl rfl (by simp only [List.length_append, List.length_cons, List.length_nil]; omega)) ?_
  refine OpsH.first 8 _ (by kernel_rfl) rfl (by kernel_rfl) (by kernel_rfl) rfl (p_add_str (a := [60, 97, 32, 104, 114, 101, 102, 61, 34] ++ pairH linkPairs t) (b := [34, 62]) rfl rfl rfl (by simp only [List.length_append, List.length_cons, List.length_nil]; omega)) ?_
  refine OpsH.only 9 _ (by kernel_rfl) rfl ?_
  refine s_call htmlEscaper_tr (fun u K hR => ?_)
  obtain ⟨g2, rfl, rfl⟩ := hR
  (repeat' (first | refine k_nil ?_ | refine k_then ?_))
  refine ⟨(by repeat (first | exact SubH.nilR _ | refine SubH.pick (by repeat (first | exact HTake.here | apply HTake.there)) ?_)), ?_⟩
  refine OpsH.only 14 _ (by kernel_rfl) rfl ?_
  refine s_call (replaceEsc_tr g2 t (by omega)) (fun u K hR => ?_)
  obtain ⟨rfl, rfl⟩ := hR
  (repeat' (first | refine k_nil ?_ | refine k_then ?_))
  refine ⟨(by repeat (first | exact SubH.nilR _ | refine SubH.pick (by repeat (first | exact HTake.here | apply HTake.there)) ?_)), ?_⟩
  refine OpsH.first 15 _ (by kernel_rfl) rfl (by kernel_rfl) (by kernel_rfl) rfl (p_add_str (a := ([60, 97, 32, 104, 114, 101, 102, 61, 34] ++ pairH linkPairs t) ++ [34, 62]) (b := escH t) rfl rfl rfl (by simp only [List.length_append, List.length_cons, List.length_nil]; omega)) ?_
  refine OpsH.first 16 _ (by kernel_rfl) rfl (by kernel_rfl) (by kernel_rfl) rfl (p_add_str (a := (([60, 97, 32, 104, 114, 101, 102, 61, 34] ++ pairH linkPairs t) ++ [34, 62]) ++ escH t) (b := [60, 47, 97, 62]) rfl rfl rfl (by simp only [List.length_append, List.length_cons, List.length_nil]; omega)) ?_
  refine OpsH.only 17 _ (by kernel_rfl) rfl ?_
  refine s_call (writeAny_tr b v l R lr (((([60, 97, 32, 104, 114, 101, 102, 61, 34] ++ pairH linkPairs t) ++ [34, 62]) ++ escH t) ++ [60, 47, 97, 62]) hR hln (by simp only [List.length_append, List.length_cons, List.length_nil]; omega)) (fun u K hR => ?_)
  obtain ⟨rfl, v', R', h9, rfl⟩ := hR
  (repeat' (first | refine k_nil ?_ | refine k_then ?_))
  refine ⟨(by repeat (first | exact SubH.nilR _ | refine SubH.pick (by repeat (first | exact HTake.here | apply HTake.there)) ?_)), ?_⟩
  refine OpsH.nil (by kernel_rfl) ?_
  refine Fin.out (e_norm [G, bufb b v' 0, R'] ⟨rfl, v', R', 0, by simpa only [List.append_assoc, List.cons_append, List.nil_append] using h9, rfl⟩ (by repeat (first | exact SubH.nilR _ | refine SubH.pick (by repeat (first | exact HTake.here | apply HTake.there)) ?_)))

theorem prnAuto (q : Nat) (t : List UInt8) (G : Blk) (hx : (q, cellsOf [str t, str t] 257) ∈ G) (ht : t.length ≤ 1000) :
    Prn 255 (lp q) G ([60, 97, 32, 104, 114, 101, 102, 61, 34] ++ pairH linkPairs t ++ [34, 62] ++ escH t ++ [60, 47, 97, 62]) :=
  ⟨by have := pairH_len linkOK t; have := escH_len t; simp only [List.length_append, List.length_cons, List.length_nil]; omega, 331, inferInstance, fun w => by kernel_rfl, fun b v l R lr hR hn hl => autoP_tr q b t v l R G lr hx ht hR hn (by omega)⟩
end Go.Proofs

/- Steps of the walk of the program and plain facts on what it computes. Conditions: as each theorem states them. -/
import Derived.Test.YtjbpohkcmgelkaaGreatDoorT19
namespace Go.Proofs
open Go Go.Eng
set_option maxRecDepth 20000
set_option maxHeartbeats 4000000

theorem emphG_tr (b : Bool) (p g off cap n : Nat) (src : List In) (svals cur0 : List Value) (dv : Value) (W SK : Blk) (hw : ∀ x ∈ src, EmWF x) (ha : Apart src) (hn : src.length = n) (hn2 : n ≤ 1000000) (hR : Rw InlT g off cap n svals cur0 0 b dv [] W) (hS : InsR src svals SK) :
    Tr Tryz.prog 77 [lp p, dv, .slice (some ⟨g, off, none⟩) n cap] [W, SK] fun u H => ∃ dvals W' K, Rw InlT g off cap n svals cur0 n b u dvals W' ∧ DsR 0 (emphM src) dvals K ∧ H = [W', K] := by
  obtain ⟨da, dc, hdv⟩ := rwShape hR
  rw [List.length_nil] at hdv
  subst hdv
  refine Tr.start (n := 436) (rs := [.tmp 6]) rfl rfl rfl rfl fun B => ?_
  (repeat' (first | refine z7 ?_ | refine z6 ?_ | refine z2 ?_ | refine z1 ?_ | refine zc9 ?_ | refine zcb ?_ | refine za ?_ | refine zeb ?_ | refine zai (fun _ => ?_) | refine zdk (fun _ => ?_)))
  rename_i r4 r7
  refine zau (fun x : EL => [(0, lp p), (4, lp r4)]) (fun x => [x.W, dstv r4 x.dv, x.K]) (fun x => x.i = n ∧ EI b g off cap n src svals cur0 x) ?_ ?_
  · refine zf ?_
    refine za6 (fun x : EL => [(0, lp p), (2, .slice (some ⟨g, off, none⟩) n cap), (4, lp r4), (7, lp r7), (8, .func (.func 105) #[] #[]), (9, .func (.func 106) #[] #[lp r7, lp r4]), (10, inat x.i)])
      (fun x => [x.W, dstv r4 x.dv, arrb r7 x.sv, x.SK, x.K, x.SB]) (fun x => EI b g off cap n src svals cur0 x) (fun x => n - x.i) ⟨0, emS0, .slice da 0 dc, [], W, [], SK, [.slice none 0 0, .slice none 0 0, .slice none 0 0, .slice none 0 0, .slice none 0 0], []⟩
      ⟨rfl, Nat.zero_le _, hR, .nil, hS, stks0 _⟩ kB (SubH.trans (H' := [W, dstv r4 (.slice da 0 dc), arrb r7 [.slice none 0 0, .slice none 0 0, .slice none 0 0, .slice none 0 0, .slice none 0 0], SK]) sA SubH.nil6) fun x hx => ?_
    obtain ⟨i, S, dv, dvals, W, K, SK, sv, SB⟩ := x
    obtain ⟨i1, i2, i3, i4, i5, i6⟩ := hx
    dsimp only at i1 i2 i3 i4 i5 i6 ⊢
    by_cases hlt : i < n
    · obtain ⟨x, hx⟩ : ∃ x, src[i]? = some x := ⟨_, List.getElem?_eq_getElem (by omega)⟩
      have hgood : EGood S i x := i1 ▸ em_at hw ha i x hx
      obtain ⟨v, G, SK', hv, rfl, hG, hSK⟩ := i5.at_drop hx
      obtain ⟨cur, hcW, hcur⟩ := i3.src
      have hcv : cur[off + i * 1]? = some v := by rw [hcur i (Nat.le_refl _) hlt]; exact hv
      have hcm : ∀ H, HMem (W :: H) g (cellsOf cur 89) := fun H => HMem.of_chunk hcW
      have hrw := i3.step hlt
      have hdl := i4.length
      have hle := hgood.le
      refine w_sub SubH.cutS ?_
      by_cases hop : ∃ t k, x = .op t k
      · obtain ⟨t, k, rfl⟩ := hop
        cases hG with
        | @op _ _ q =>
        (repeat' (first | refine zn (hm := hcm _) (hc := hcv) ?_ | refine z7 ?_ | refine z6 ?_ | refine z2 ?_ | refine z1 ?_ | refine zc ?_ | refine zf ?_ | refine zd ?_ | refine z8 ?_ | refine za ?_ | refine zm ?_ | refine zah ?_ | refine za0 ?_ | refine zal ?_ | refine zcf ?_))
        refine Wp.draw_till (id := 9) [dstv r4 dv] 7 8 Mixed.out sA rfl ?_
        refine OpsK.firstL 0 [] _ (by rfl) (by kernel_rfl) (by kernel_rfl) rfl (by kernel_rfl) (by kernel_rfl) rfl (by first | exact zbr rfl | exact zbj rfl | exact zbe rfl rfl | exact zbp rfl | exact zbo rfl | exact zar rfl (by repeat (first | exact HMem.here | apply HMem.skip | apply HMem.there)) rfl | exact zbs rfl (by repeat (first | exact HMem.here | apply HMem.skip | apply HMem.there)) (by repeat constructor) | exact zbk rfl | exact zbm rfl | exact zbi rfl rfl (by omega) | exact zbb rfl rfl rfl (by omega) (by omega) | exact zbu rfl | exact zbv rfl | exact zbn rfl (by repeat' (first | exact BFill.nil | refine' BFill.one (by rfl) (by rfl) (by repeat constructor) ?_ | refine' BFill.agg (by rfl) (by rfl) (by repeat constructor) ?_))) ?_
        refine kF 1 ?_
        refine kF 2 ?_
        refine kF 3 ?_
        refine kF 4 ?_
        refine kO 5 ?_
        (repeat' (first | refine z2 ?_ | refine z1 ?_ | refine zb7 (fun _ => ?_)))
        refine ⟨fun _ => sA, ?_⟩
        refine kO 6 ?_
        refine zc6 hrw (by omega) (by omega) (fun v' W' hrw' => ?_)
        have hov : oneCell v' = true := by obtain ⟨_, _, h⟩ := rwShape hrw'; rw [h]; rfl
        (repeat' (first | refine z2 ?_ | refine z1 ?_))
        refine ⟨fun _ => sA, ?_⟩
        refine kO 7 ?_
        (repeat' (first | refine za5 (hv := hov) ?_ | refine z2 ?_ | refine z1 ?_))
        refine ⟨(fun h0 => Bool.noConfusion (show true = false from h0)), ?_⟩
        refine OpsK.nil (by kernel_rfl) ?_
        (repeat' (first | refine z6 ?_ | refine z2 ?_ | refine z1 ?_ | refine zw ?_ | refine zy ?_ | refine zz ?_ | refine z8 ?_ | refine za ?_ | refine zl ?_))
        have hd : DsR 0 (emStep S (.op t k)).dst (dvals ++ [_]) (K ++ [_]) := i4.snoc (x := .plain t) (.other (by intros; intro e; cases e) (.plain (q := q) (T := 169) (r := [inat k])))
        refine ⟨_, kB, SubH.trans (H' := [W', dstv r4 v', arrb r7 sv, SK', K, _, SB]) sA SubH.five, EI.push hx i1 rfl hlt hrw' hd hSK i6.app, by dsimp only; omega⟩
      by_cases hem : ∃ t o c nn, x = .em t o c nn
      · obtain ⟨t, o, c, nn, rfl⟩ := hem
        have hwf := hw _ (List.mem_of_getElem? hx)
        obtain ⟨ch, m0, rfl, hm1, hm2, hnn, hcls⟩ := emWF_cases hwf
        cases hG with
        | @em _ _ _ _ i0 q =>
        have hstk := stackOfG ch (by rcases hcls with h | ⟨h, _⟩; exact .inl h; exact .inr h)
        have h5 := emIdx_lt ch
        (repeat' (first | refine zn (hm := hcm _) (hc := hcv) ?_ | refine z7 ?_ | refine z6 ?_ | refine z2 ?_ | refine z1 ?_ | refine zc ?_ | refine zb ?_ | refine zf ?_ | refine zd ?_ | refine z8 ?_ | refine za ?_ | refine zn ?_ | refine zp ?_ | refine zq ?_ | refine zm ?_ | refine zah ?_ | refine za0 ?_ | refine zal ?_ | refine zaq ?_ | refine zcf ?_ | refine zby ?_))
        refine zau (fun y : EM => [(0, lp p), (2, .slice (some ⟨g, off, none⟩) n cap), (4, lp r4), (7, lp r7), (8, .func (.func 105) #[] #[]), (9, .func (.func 106) #[] #[lp r7, lp r4]), (10, inat i), (13, lp q)]) (fun y => [y.W, dstv r4 y.dv, arrb r7 y.sv, emb q (List.replicate y.m ch) o c i0 nn, SK', y.K, y.SB]) (fun y => EMI b g off cap n svals cur0 i (.em (List.replicate m0 ch) o c nn) y ∧ emStep S (.em (List.replicate m0 ch) o c nn) = finS ch o c nn y.m y.S ∧ (isQ ch = true → y.m = 1) ∧ y.m ≤ m0) ?_ ?_
        · cases c with
          | false =>
            (repeat' (first | refine z1 ?_ | refine zb ?_ | refine zd ?_))
            exact ⟨⟨m0, S, dv, dvals, W, K, sv, SB⟩, kA, sA, ⟨hrw, hgood, i4, i6⟩, emStep_no hm1, fun h => by
              rcases hcls with h' | ⟨_, h', _⟩
              · rw [isQ_run h'] at h; cases h
              · exact h', Nat.le_refl _⟩
          | true =>
            have hc0 : (List.replicate m0 ch)[0]? = some ch := by
              cases m0 with
              | zero => omega
              | succ m => rfl
            have hqr : isQ ch = true → m0 = 1 ∧ o = false := fun h => by
              rcases hcls with h' | ⟨_, h', h2⟩
              · rw [isQ_run h'] at h; cases h
              · exact ⟨h', by simpa using h2⟩
            (repeat' (first | refine Ops.pure _ (zc0 ch (i := 0) (by rfl) (by rfl) hc0) (by rfl) ?_ | refine zbl hstk ?_ | refine zca ?_ | refine z7 ?_ | refine z6 ?_ | refine z2 ?_ | refine z1 ?_ | refine zc ?_ | refine zc9 ?_ | refine zcb ?_ | refine z8 ?_ | refine za ?_ | refine zn ?_ | refine zp ?_ | refine zq ?_))
            refine zf ?_
            refine za6 (fun y : EM × Nat => [(0, lp p), (2, .slice (some ⟨g, off, none⟩) n cap), (4, lp r4), (7, lp r7), (8, .func (.func 105) #[] #[]), (9, .func (.func 106) #[] #[lp r7, lp r4]), (10, inat i), (13, lp q), (15, .pointer (some ⟨r7, 0 + emIdx ch * 1, none⟩))]) (fun y => [y.1.W, dstv r4 y.1.dv, arrb r7 y.1.sv, emb q (List.replicate y.1.m ch) o true i0 nn, SK', y.1.K, y.1.SB]) (fun y => EMI b g off cap n svals cur0 i (.em (List.replicate m0 ch) o true nn) y.1 ∧ emStep S (.em (List.replicate m0 ch) o true nn) = finC ch o nn y.2 y.1.m y.1.S ∧ (isQ ch = true → y.1.m = 1 ∧ y.1.S = S) ∧ y.1.m ≤ m0 ∧ y.1.m ≤ y.2) (fun y => y.1.m) (⟨m0, S, dv, dvals, W, K, sv, SB⟩, m0) ⟨⟨hrw, hgood, i4, i6⟩, emStep_yes hm1, fun h => ⟨(hqr h).1, rfl⟩, Nat.le_refl _, Nat.le_refl _⟩ kB sA fun y hy => ?_
            obtain ⟨⟨m, S1, dv1, dvals1, W1, K1, sv1, SB1⟩, f⟩ := y
            obtain ⟨⟨e1, e2, e3, e4⟩, hfin, hq1, hmm, hmf⟩ := hy
            dsimp only at e1 e2 e3 e4 hfin hq1 hmm hmf ⊢
            cases m with
            | zero =>
              have hz : List.replicate 0 ch = [] := rfl
              have hnq : isQ ch = false := by
                cases h : isQ ch with
                | false => rfl
                | true => have := (hq1 h).1; omega
              have hfin' : emStep S (.em (List.replicate m0 ch) o true nn) = finS ch o true nn 0 S1 := by
                rw [hfin]
                unfold finC
                rw [hnq]
                simp only [Bool.false_eq_true, if_false, closeF_zero]
              (repeat' (first | refine z7 ?_ | refine z6 ?_ | refine z2 ?_ | refine z1 ?_ | refine zb ?_ | refine zw ?_ | refine zy ?_ | refine zz ?_ | refine zd5 ?_ | refine z8 ?_ | refine zn ?_ | refine zp ?_ | refine zq ?_ | refine zd2 ?_))
              exact ⟨⟨0, S1, dv1, dvals1, W1, K1, sv1, SB1⟩, kA, sA, ⟨e1, e2, e3, e4⟩, hfin', (fun h => by rw [hnq] at h; cases h), Nat.zero_le _⟩
            | succ m =>
              obtain ⟨f, rfl⟩ : ∃ f', f = f' + 1 := ⟨f - 1, by omega⟩
              have hc1 : (List.replicate (m + 1) ch)[0]? = some ch := rfl
              have hnz : ¬ List.replicate (m + 1) ch = [] := by simp
              have hdl1 := e3.length
              obtain ⟨f1, f2, f3⟩ := e2
              have hps := f1.get h5
              obtain ⟨A, R, C, v, qs, rfl, hv, hk, hset⟩ := e4.at _ hps
              have hsvl := (List.getElem?_eq_some_iff.1 hv).1
              have hv' : sv1[0 + emIdx ch * 1]? = some v := by rw [Nat.zero_add, Nat.mul_one]; exact hv
              have hpsl : (S1.st.getD (emIdx ch) []).length ≤ S1.dst.length := pairwise_le (f1.inc _ _ hps) fun p hp => f1.lt hps hp
              obtain ⟨ps, hpse⟩ : ∃ ps, S1.st.getD (emIdx ch) [] = ps := ⟨_, rfl⟩
              rw [hpse] at hps hk hpsl
              obtain ⟨va, vc, hvsh⟩ := ownShape hk.own
              subst hvsh
              (repeat (refine z7 ?_))
              ((repeat (refine z7 ?_)); refine z6 ?_; (repeat' (first | refine z8 ?_ | refine zn ?_ | refine zp ?_ | refine zq ?_ | refine zcd ?_)); refine z2 ?_; refine z1 ?_)
              (repeat (refine z7 ?_))
              refine zc ?_
              refine zd ?_
              refine z1 ?_
              (repeat (refine z7 ?_))
              refine zf ?_
              ((repeat (refine z7 ?_)); refine z6 ?_; (repeat' (first | refine zn (hc := hv') ?_ | refine zd9 ?_ | refine z8 ?_ | refine za ?_ | refine zq ?_ | refine zah ?_)); refine z2 ?_; refine z1 ?_)
              (repeat (refine z7 ?_))
              refine zf ?_
              refine za6 (fun k : Nat => [(0, lp p), (2, .slice (some ⟨g, off, none⟩) n cap), (4, lp r4), (7, lp r7), (8, .func (.func 105) #[] #[]), (9, .func (.func 106) #[] #[lp r7, lp r4]), (10, inat i), (13, lp q), (15, .pointer (some ⟨r7, 0 + emIdx ch * 1, none⟩)), (16, .int .i64 ((k : Int) - 1))]) (fun _ => [W1, dstv r4 dv1, arrb r7 sv1, emb q (List.replicate (m + 1) ch) o true i0 nn, SK', K1, A ++ (R ++ C)]) (fun k => k ≤ ps.length ∧ (isQ ch = true → k = ps.length) ∧ findTop (okM S1.dst ch (m + 1) o true nn) ps k = findTop (okM S1.dst ch (m + 1) o true nn) ps ps.length) (fun k => k) ps.length ⟨Nat.le_refl _, fun _ => rfl, rfl⟩ kB sA fun k hk2 => ?_
              obtain ⟨hk1, hkq, hkf⟩ := hk2
              cases k with
              | zero =>
                have hfin' : emStep S (.em (List.replicate m0 ch) o true nn) = finS ch o true nn (m + 1) S1 := by
                  rw [hfin]
                  unfold finC
                  cases hq : isQ ch with
                  | true =>
                    rw [if_pos rfl, (hq1 hq).2]
                    have hnil : ps = [] := List.eq_nil_of_length_eq_zero (hkq hq).symm
                    unfold quoteM finS
                    dsimp only
                    rw [if_neg (by rintro ⟨_, h⟩; rw [← (hq1 hq).2, hpse] at h; exact h hnil), if_neg (by omega), hq, if_pos rfl]
                  | false =>
                    simp only [Bool.false_eq_true, if_false]
                    have : closeF ch o true nn (f + 1) (m + 1) S1 = (m + 1, S1) := by
                      unfold closeF
                      rw [if_neg (by omega)]
                      dsimp only
                      rw [hpse, ← hkf]
                      rfl
                    rw [this]
                (repeat' (first | refine z7 ?_ | refine z6 ?_ | refine z2 ?_ | refine z1 ?_ | refine zb ?_ | refine zw ?_ | refine zy ?_ | refine zz ?_ | refine zaw ?_ | refine zd5 ?_ | refine z8 ?_ | refine zab ?_))
                exact ⟨⟨m + 1, S1, dv1, dvals1, W1, K1, sv1, A ++ (R ++ C)⟩, kA, sA, ⟨e1, ⟨f1, f2, f3⟩, e3, e4⟩, hfin', (fun h => (hq1 h).1), hmm⟩
              | succ j =>
                have hnn0 : ps ≠ [] := by intro h; rw [h] at hk1; simp at hk1
                obtain ⟨g5, cap5, cur5, hve, rfl, g1, g2, g3, g4⟩ := hk.pos hnn0
                injection hve with hve1 _ hve2
                subst hve1; subst hve2
                obtain ⟨pos, hpos⟩ : ∃ pos, ps[j]? = some pos := ⟨_, List.getElem?_eq_getElem (by omega)⟩
                have hposD : ps.getD j 0 = pos := by rw [List.getD, hpos]; rfl
                obtain ⟨qs1, hqs1⟩ : ∃ x, qs[j]? = some x := ⟨_, List.getElem?_eq_getElem (by have := hk.len; omega)⟩
                have hvals := hk.at_ j pos qs1 hpos hqs1
                obtain ⟨ts, sc, sn, hst, hsn, hcl3, hclq⟩ := f1.open_ _ _ hps pos (List.mem_of_getElem? hpos)
                obtain ⟨K1a, Gs, K1c, vs0, rfl, hvs0, hGs, hKa, hKc, hKset⟩ := e3.at pos hst
                rw [hvals] at hvs0
                cases hvs0
                generalize hvv : vEm qs1 = vv at hGs hKset
                rw [Nat.zero_add] at hGs hKset
                cases hGs with
                | other hx _ => exact absurd rfl (hx _ _ _)
                | opener =>
                rename_i qq
                have hqq := vEm_inj hvv
                subst hqq
                have hlenp := (List.getElem?_eq_some_iff.1 hst).1
                have htl : ts.length ≤ 1000000 := by
                  by_cases h3 : emIdx ch < 3
                  · obtain ⟨_, m2, _, rfl, _, h⟩ := hcl3 h3; simpa using h
                  · have := (hclq (by omega)).1; omega
                have hce : cur5[0 + j * 1]? = some (lp qs1) := by rw [Nat.zero_add, Nat.mul_one]; exact g4 j qs1 hqs1
                rw [show ((j + 1 : Nat) : Int) - 1 = (j : Nat) by omega]
                (repeat (refine z7 ?_))
                ((repeat (refine z7 ?_)); refine z6 ?_; (repeat' (first | refine z8 ?_ | refine zas ?_)); refine z2 ?_; refine z1 ?_)
                (repeat (refine z7 ?_))
                refine zc ?_
                refine zd ?_
                refine z1 ?_
                (repeat (refine z7 ?_))
                refine zf ?_
                cases hq : isQ ch with
                | true =>
                  obtain ⟨hm0, hSe⟩ := hq1 hq
                  have hmz : m = 0 := by omega
                  have hkl := hkq hq
                  have ho := (hqr hq).2
                  refine Wp.weak [(0, lp p), (2, .slice (some ⟨g, off, none⟩) n cap), (4, lp r4), (7, lp r7), (8, .func (.func 105) #[] #[]), (9, .func (.func 106) #[] #[lp r7, lp r4]), (10, inat i), (13, lp q), (15, .pointer (some ⟨r7, 0 + emIdx ch * 1, none⟩)), (16, inat j)] _ kB (SubH.refl _) (candQ B _ b p r4 r7 g off n cap i q i0 nn m j pos qs1 sn g5 vc ch o sc ts svals cur0 S1 dv1 dvals1 sv1 W1 SK' K1a K1c A C cur5 ps qs hn2 hnn hsn (by omega) hlt h5 e1 hdl1 f1 f2 e4 hps hpse hk hset hsvl hv' (by omega) hposD hce (by omega) hvals hst htl hKa hKc hKset hq hmz ho hkl ?_ _ (by rfl))
                  intro v' W' K' sv' SB' hrw' hd2 hk2 L' H' hK hH
                  have hfin' : emStep S (.em (List.replicate m0 ch) o true nn) = ⟨S1.dst.set pos (.em (openQ ch) true sc sn) ++ [.em (closeQ ch) false true nn], S1.st.set (emIdx ch) (ps.take j)⟩ := by
                    subst hSe
                    rw [hfin, ho]
                    unfold finC quoteM
                    dsimp only
                    rw [hq, if_pos rfl, hpse, if_pos ⟨rfl, hnn0⟩, ← hkl, Nat.add_sub_cancel, hposD, hst]
                  refine (?_ : Eng.Fin (.exit 1) L' H' _).out
                  (repeat' (first | refine zy ?_ | refine zaw ?_ | refine zd3 ?_ | refine zz ?_ | refine z1 ?_))
                  refine Wp.weak [(0, lp p), (2, .slice (some ⟨g, off, none⟩) n cap), (4, lp r4), (7, lp r7), (8, .func (.func 105) #[] #[]), (9, .func (.func 106) #[] #[lp r7, lp r4]), (10, inat i), (13, lp q)] _ hK.spec hH ?_
                  (repeat' (first | refine z6 ?_ | refine z2 ?_ | refine z1 ?_ | refine z8 ?_ | refine za ?_ | refine zl ?_))
                  exact ⟨⟨i + 1, _, v', dvals1 ++ [vEm q], W', K', SK', sv', SB'⟩, kB, sA, EI.push hx i1 hfin' hlt hrw' hd2 hSK hk2, by dsimp only; omega⟩
                | false =>
                  have hr : isRunC ch := by
                    rcases hcls with h | ⟨h, _⟩
                    · exact h
                    · rw [hq] at h; cases h
                  obtain ⟨hx3, hxc⟩ := emIdx_run hr
                  obtain ⟨ch2, m2, hch2, hts, hm21, hm22⟩ := hcl3 hx3
                  have hce2 : ch2 = ch := UInt8.toNat_inj.1 (by rw [hch2, hxc])
                  rw [hce2] at hts
                  have hst2 : S1.dst[pos]? = some (.em (List.replicate m2 ch) true sc sn) := by rw [← hts]; exact hst
                  have hin := f3.inner (runOf_rep hm1 hr) hr hst2 hm21
                  have hlr2 : (List.replicate m2 ch).length = m2 := List.length_replicate
                  refine Wp.weak [(0, lp p), (2, .slice (some ⟨g, off, none⟩) n cap), (4, lp r4), (7, lp r7), (8, .func (.func 105) #[] #[]), (9, .func (.func 106) #[] #[lp r7, lp r4]), (10, inat i), (13, lp q), (15, .pointer (some ⟨r7, 0 + emIdx ch * 1, none⟩)), (16, inat j)] _ kB (SubH.refl _) (candR B _ b p r4 r7 g off n cap i q i0 nn m j pos qs1 sn g5 vc ch o sc ts svals cur0 S1 dv1 dvals1 sv1 W1 SK' K1a K1c A C cur5 ps qs hn2 hnn hsn (by omega) hlt h5 e1 hdl1 f1 f2 e4 hps hpse hk hset hsvl hv' (by omega) hposD hce (by omega) hvals hst htl hKa hKc hKset hr hin m2 hts hm21 ?_ ?_ _ (by rfl))
                  · intro hnok L' H' hK hH
                    refine (?_ : Eng.Fin (.exit 5) L' H' _).out
                    (repeat' (first | refine zy ?_ | refine zaw ?_ | refine zd3 ?_ | refine zz ?_ | refine z1 ?_))
                    refine Wp.weak [(0, lp p), (2, .slice (some ⟨g, off, none⟩) n cap), (4, lp r4), (7, lp r7), (8, .func (.func 105) #[] #[]), (9, .func (.func 106) #[] #[lp r7, lp r4]), (10, inat i), (13, lp q), (15, .pointer (some ⟨r7, 0 + emIdx ch * 1, none⟩)), (16, inat j)] _ hK.spec hH ?_
                    (repeat' (first | refine zd9 ?_ | refine z6 ?_ | refine z2 ?_ | refine z1 ?_ | refine z8 ?_ | refine za ?_))
                    refine ⟨j, kB, sA, ⟨by omega, fun h => (by cases h), ?_⟩, by omega⟩
                    rw [← hkf, findTop, hposD, hnok]; rfl
                  · intro hok d dv' dvals' W' K' sv' SB' hd hrw' hds hsk L' H' hK hH
                    have hdle : 1 ≤ d ∧ d ≤ m + 1 := by rw [hd]; exact dOf_le (by omega)
                    have hft : findTop (okM S1.dst ch (m + 1) o true nn) ps ps.length = some j := by rw [← hkf, findTop, hposD, hok]; rfl
                    have hgood2 : EGood (closeStep ch d pos (List.replicate m2 ch) true sc sn S1) i (.em (List.replicate m0 ch) o true nn) :=
                      ⟨f1.close hr hst2 hdle.1 hm21, Nat.le_trans (closeStep_len hin) f2, closeStep_last _⟩
                    have hfin2 : emStep S (.em (List.replicate m0 ch) o true nn) = finC ch o nn f (m + 1 - d) (closeStep ch d pos (List.replicate m2 ch) true sc sn S1) := by
                      rw [hfin]
                      unfold finC
                      rw [hq]
                      simp only [Bool.false_eq_true, if_false]
                      have : closeF ch o true nn (f + 1) (m + 1) S1 = closeF ch o true nn f (m + 1 - d) (closeStep ch d pos (List.replicate m2 ch) true sc sn S1) := by
                        conv => lhs; unfold closeF
                        rw [if_neg (by omega)]
                        dsimp only
                        rw [hpse, hft]
                        dsimp only
                        rw [hposD, hst2]
                        dsimp only
                        rw [hlr2, ← hd]
                      rw [this]
                    refine (?_ : Eng.Fin (.exit 3) L' H' _).out
                    (repeat' (first | refine zy ?_ | refine zaw ?_ | refine zd3 ?_ | refine zz ?_ | refine z1 ?_))
                    exact ⟨(⟨m + 1 - d, _, dv', dvals', W', K', sv', SB'⟩, f), hK.spec, hH, ⟨⟨hrw', hgood2, hds, hsk⟩, hfin2, (fun h => (by cases h)), by dsimp only; omega, by dsimp only; omega⟩, by dsimp only; omega⟩
        · rintro ⟨m, S1, dv1, dvals1, W1, K1, sv1, SB1⟩ ⟨⟨e1, e2, e3, e4⟩, hfin, hqm, hmm⟩
          dsimp only at e1 e2 e3 e4 hfin hqm hmm ⊢
          obtain ⟨g1, g2, g3⟩ := e2
          unfold finS at hfin
          cases m with
          | zero =>
            rw [if_pos rfl] at hfin
            have hz : List.replicate 0 ch = [] := rfl
            (repeat' (first | refine z7 ?_ | refine z6 ?_ | refine z2 ?_ | refine z1 ?_ | refine zb ?_ | refine zd ?_ | refine zu ?_ | refine z8 ?_ | refine za ?_ | refine zn ?_ | refine zp ?_ | refine zq ?_ | refine zl ?_ | refine zd2 ?_))
            exact ⟨⟨i + 1, S1, dv1, dvals1, W1, K1, SK', sv1, SB1⟩, kB, sA, EI.push hx i1 hfin hlt e1 e3 hSK e4, by dsimp only; omega⟩
          | succ m =>
            rw [if_neg (by omega)] at hfin
            have hc0 : (List.replicate (m + 1) ch)[0]? = some ch := rfl
            have hnz : ¬ List.replicate (m + 1) ch = [] := by simp
            have hdl1 := e3.length
            (repeat (refine z7 ?_))
            ((repeat (refine z7 ?_)); refine z6 ?_; (repeat' (first | refine z8 ?_ | refine zn ?_ | refine zp ?_ | refine zq ?_ | refine zcd ?_)); refine z2 ?_; refine z1 ?_)
            (repeat (refine z7 ?_))
            refine zc ?_
            ((repeat (refine z7 ?_)); refine z6 ?_; (repeat' (first | refine Ops.pure _ (zc0 ch (i := 0) (by rfl) (by rfl) hc0) (by rfl) ?_ | refine zbl hstk ?_ | refine zca ?_ | refine z8 ?_ | refine za ?_ | refine zn ?_ | refine zp ?_ | refine zq ?_)); refine z2 ?_; refine z1 ?_)
            ((repeat (refine z7 ?_)); refine z6 ?_; (repeat' (first | refine z8 ?_ | refine zn ?_ | refine zp ?_ | refine zq ?_ | refine zdd ?_)); refine z2 ?_; refine z1 ?_)
            (repeat (refine z7 ?_))
            obtain ⟨tt, htt⟩ : ∃ tt, (if isQ ch = true then restQ ch c else List.replicate (m + 1) ch) = tt := ⟨_, rfl⟩
            rw [htt] at hfin
            obtain ⟨t1, ht1⟩ : ∃ t1, (if ch.toNat = 39 then [226, 128, 153] else List.replicate (m + 1) ch) = t1 := ⟨_, rfl⟩
            have hcase : (t1 = tt ∧ t1 ≠ [34] ∧ ch.toNat ≠ 39) ∨ (t1 = tt ∧ t1 ≠ [34] ∧ List.replicate (m + 1) ch = [39]) ∨ (t1 = [34] ∧ ch.toNat ≠ 39 ∧ tt = if c then [226, 128, 157] else [226, 128, 156]) := by
              rcases hcls with hr | ⟨hq, h1, hoc⟩
              · have hn : ch.toNat ≠ 39 := by rcases hr with h | h | h <;> omega
                rw [isQ_run hr] at htt
                rw [if_neg hn] at ht1
                simp only [Bool.false_eq_true, if_false] at htt
                exact .inl ⟨by rw [← ht1, ← htt], by rw [← ht1]; exact rep_ne (by rcases hr with h | h | h <;> rw [h] <;> decide), hn⟩
              · have hm0 : m = 0 := by have := hqm hq; omega
                subst hm0
                rw [hq, if_pos rfl] at htt
                have hch : ch = 34 ∨ ch = 39 := by
                  simp only [isQ, Bool.or_eq_true, beq_iff_eq] at hq
                  rcases hq with h | h
                  · exact .inl (UInt8.toNat_inj.1 h)
                  · exact .inr (UInt8.toNat_inj.1 h)
                rcases hch with rfl | rfl
                · exact .inr (.inr ⟨ht1.symm, by decide, htt.symm⟩)
                · refine .inr (.inl ⟨?_, ?_, rfl⟩)
                  · rw [← ht1, ← htt]; rfl
                  · rw [← ht1]; decide
            refine zac [(0, lp p), (2, .slice (some ⟨g, off, none⟩) n cap), (4, lp r4), (7, lp r7), (8, .func (.func 105) #[] #[]), (9, .func (.func 106) #[] #[lp r7, lp r4]), (10, inat i), (13, lp q), (21, .pointer (some ⟨r7, 0 + emIdx ch * 1, none⟩))] [W1, dstv r4 dv1, arrb r7 sv1, emb q t1 o c i0 nn, SK', K1, SB1] ?_ ?_
            · by_cases h39 : List.replicate (m + 1) ch = [39]
              · rw [decide_eq_true h39]
                have hn : ch.toNat = 39 := by
                  have h2 : (List.replicate (m + 1) ch).headD 0 = ch := replicate_headD (by omega)
                  rw [h39] at h2
                  rw [← h2]; rfl
                rw [if_pos hn] at ht1
                subst ht1
                (repeat' (first | refine z6 ?_ | refine z2 ?_ | refine z1 ?_ | refine zc ?_ | refine z8 ?_ | refine zp ?_ | refine zq ?_ | refine za5 ?_))
                exact ⟨kA, sA⟩
              · rw [decide_eq_false h39]
                have hn : ch.toNat ≠ 39 := by
                  intro h
                  rcases hcase with ⟨_, _, h'⟩ | ⟨_, _, h'⟩ | ⟨_, h', _⟩
                  · exact h' h
                  · exact h39 h'
                  · exact h' h
                rw [if_neg hn] at ht1
                subst ht1
                (repeat' (first | refine z1 ?_ | refine zb ?_ | refine zd ?_))
                exact ⟨kA, sA⟩
            ((repeat (refine z7 ?_)); refine z6 ?_; (repeat' (first | refine z8 ?_ | refine zn ?_ | refine zp ?_ | refine zq ?_ | refine zdd ?_)); refine z2 ?_; refine z1 ?_)
            (repeat (refine z7 ?_))
            refine zac [(0, lp p), (2, .slice (some ⟨g, off, none⟩) n cap), (4, lp r4), (7, lp r7), (8, .func (.func 105) #[] #[]), (9, .func (.func 106) #[] #[lp r7, lp r4]), (10, inat i), (13, lp q), (21, .pointer (some ⟨r7, 0 + emIdx ch * 1, none⟩))] [W1, dstv r4 dv1, arrb r7 sv1, emb q tt o c i0 nn, SK', K1, SB1] ?_ ?_
            · by_cases h34 : t1 = [34]
              · rw [decide_eq_true h34]
                have htq : tt = if c then [226, 128, 157] else [226, 128, 156] := by
                  rcases hcase with ⟨_, h, _⟩ | ⟨_, h, _⟩ | ⟨_, _, h⟩
                  · exact absurd h34 h
                  · exact absurd h34 h
                  · exact h
                cases c with
                | true =>
                  rw [if_pos rfl] at htq
                  subst htq
                  (repeat' (first | refine z7 ?_ | refine z6 ?_ | refine z2 ?_ | refine z1 ?_ | refine zc ?_ | refine z8 ?_ | refine zn ?_ | refine zp ?_ | refine zq ?_ | refine za5 ?_))
                  exact ⟨kA, sA⟩
                | false =>
                  rw [if_neg (by intro h; cases h)] at htq
                  subst htq
                  (repeat' (first | refine z7 ?_ | refine z6 ?_ | refine z2 ?_ | refine z1 ?_ | refine zc ?_ | refine zb ?_ | refine z8 ?_ | refine zn ?_ | refine zp ?_ | refine zq ?_ | refine za5 ?_))
                  exact ⟨kA, sA⟩
              · rw [decide_eq_false h34]
                have htq : t1 = tt := by
                  rcases hcase with ⟨h, _, _⟩ | ⟨h, _, _⟩ | ⟨h, _, _⟩
                  · exact h
                  · exact h
                  · exact absurd h h34
                subst htq
                (repeat' (first | refine z1 ?_ | refine zb ?_ | refine zd ?_))
                exact ⟨kA, sA⟩
            unfold restM at hfin
            obtain ⟨da, dc, rfl⟩ := rwShape e1
            cases o with
            | true =>
              rw [if_pos rfl] at hfin
              have hps := g1.get h5
              obtain ⟨A, R, C, v, qs, hSBe, hv, hk, hset⟩ := (e4.app (l := [vEm q])).at _ hps
              have hsvl := (List.getElem?_eq_some_iff.1 hv).1
              have hv' : sv1[0 + emIdx ch * 1]? = some v := by rw [Nat.zero_add, Nat.mul_one]; exact hv
              have hpsl : (S1.st.getD (emIdx ch) []).length ≤ 1000000000 := by
                have h1 := g1.inc _ _ hps
                have h2 : (S1.st.getD (emIdx ch) []).length ≤ S1.dst.length := (pairwise_le h1 fun p hp => g1.lt hps hp)
                omega
              (repeat' (first | refine z7 ?_ | refine z6 ?_ | refine z2 ?_ | refine z1 ?_ | refine zc ?_ | refine z8 ?_ | refine zn ?_ | refine zp ?_ | refine zq ?_ | refine zah ?_ | refine zan ?_ | refine za5 ?_ | refine zb7 (fun _ => ?_)))
              refine zc6 e1 (by omega) (by omega) (fun v' W' hrw' => ?_)
              have hov : oneCell v' = true := by obtain ⟨_, _, h⟩ := rwShape hrw'; rw [h]; rfl
              subst hSBe
              (repeat' (first | refine zn (hc := hv') ?_ | refine za5 (hv := hov) ?_ | refine z6 ?_ | refine z2 ?_ | refine z1 ?_ | refine z8 ?_ | refine zq ?_))
              refine Ops.weak (H' := [W', dstv r4 v', arrb r7 sv1, emb q tt true c dvals1.length nn, SK', K1, A, R, C]) (SubH.trans (H' := [W', dstv r4 v', arrb r7 sv1, emb q tt true c dvals1.length nn, SK', K1, A ++ (R ++ C)]) sA ⟨[], by simp⟩) ?_
              (repeat' (first | refine zb7 (fun _ => ?_)))
              refine zbz hk.own hpsl (fun v2 R2 hO2 => ?_)
              have hO2' : oneCell v2 = true := by obtain ⟨_, _, rfl⟩ := ownShape hO2; rfl
              (repeat' (first | refine zc5 (hv := hO2') ?_ | refine z6 ?_ | refine z2 ?_ | refine z1 ?_ | refine zu ?_ | refine z8 ?_ | refine za ?_ | refine zq ?_ | refine zl ?_))
              have hd : DsR 0 (S1.dst ++ [.em tt true c nn]) (dvals1 ++ [vEm q]) (K1 ++ emb q tt true c dvals1.length nn) := e3.snoc (by rw [Nat.zero_add, ← hdl1]; exact .opener)
              have hk2 : StksR (dvals1 ++ [vEm q]) (S1.st.set (emIdx ch) (S1.st.getD (emIdx ch) [] ++ [S1.dst.length])) (sv1.set (0 + emIdx ch * 1) v2) (A ++ (R2 ++ C)) := by
                have hp : (dvals1 ++ [vEm q])[S1.dst.length]? = some (vEm q) := by rw [← hdl1, List.getElem?_append_right (Nat.le_refl _), Nat.sub_self]; rfl
                have := hset v2 R2 _ _ (hk.push hO2 hp)
                rw [show 0 + emIdx ch * 1 = emIdx ch by omega]
                exact this
              refine ⟨⟨i + 1, _, v', dvals1 ++ [vEm q], W', _, SK', _, _⟩, kB, SubH.trans (H' := [W', dstv r4 v', arrb r7 (sv1.set (0 + emIdx ch * 1) v2), SK', K1, emb q tt true c dvals1.length nn, A, R2, C]) sA ⟨[], by simp⟩, EI.push hx i1 hfin hlt hrw' hd hSK hk2, by dsimp only; omega⟩
            | false =>
              rw [if_neg (by intro h; cases h)] at hfin
              (repeat' (first | refine z7 ?_ | refine z6 ?_ | refine z2 ?_ | refine z1 ?_ | refine zb ?_ | refine z8 ?_ | refine zn ?_ | refine zp ?_ | refine zq ?_))
              refine Wp.draw_till (id := 61) [dstv r4 (.slice da dvals1.length dc)] 7 8 Mixed.out sA rfl ?_
              refine OpsK.firstL 0 [] _ (by rfl) (by kernel_rfl) (by kernel_rfl) rfl (by kernel_rfl) (by kernel_rfl) rfl (by first | exact zbr rfl | exact zbj rfl | exact zbe rfl rfl | exact zbp rfl | exact zbo rfl | exact zar rfl (by repeat (first | exact HMem.here | apply HMem.skip | apply HMem.there)) rfl | exact zbs rfl (by repeat (first | exact HMem.here | apply HMem.skip | apply HMem.there)) (by repeat constructor) | exact zbk rfl | exact zbm rfl | exact zbi rfl rfl (by omega) | exact zbb rfl rfl rfl (by omega) (by omega) | exact zbu rfl | exact zbv rfl | exact zbn rfl (by repeat' (first | exact BFill.nil | refine' BFill.one (by rfl) (by rfl) (by repeat constructor) ?_ | refine' BFill.agg (by rfl) (by rfl) (by repeat constructor) ?_))) ?_
              refine kF 1 ?_
              refine kF 2 ?_
              refine kF 3 ?_
              refine kF 4 ?_
              refine kO 5 ?_
              (repeat' (first | refine z2 ?_ | refine z1 ?_ | refine zb7 (fun _ => ?_)))
              refine ⟨fun _ => sA, ?_⟩
              refine kO 6 ?_
              refine zc6 e1 (by omega) (by omega) (fun v' W' hrw' => ?_)
              have hov : oneCell v' = true := by obtain ⟨_, _, h⟩ := rwShape hrw'; rw [h]; rfl
              (repeat' (first | refine z2 ?_ | refine z1 ?_))
              refine ⟨fun _ => sA, ?_⟩
              refine kO 7 ?_
              (repeat' (first | refine za5 (hv := hov) ?_ | refine z2 ?_ | refine z1 ?_))
              refine ⟨(fun h0 => Bool.noConfusion (show true = false from h0)), ?_⟩
              refine OpsK.nil (by kernel_rfl) ?_
              (repeat' (first | refine z6 ?_ | refine z2 ?_ | refine z1 ?_ | refine z8 ?_ | refine za ?_ | refine zl ?_))
              have hd : DsR 0 (S1.dst ++ [.plain tt]) (dvals1 ++ [_]) (K1 ++ emb q tt false c i0 nn) := e3.snoc (.other (by intros; intro e; cases e) (.plain (q := q) (T := 204) (r := [.bool false, .bool c, inat i0, inat nn])))
              exact ⟨⟨i + 1, _, v', _, W', _, SK', sv1, SB1⟩, kB, SubH.trans (H' := [W', dstv r4 v', arrb r7 sv1, SK', K1, emb q tt false c i0 nn, SB1]) sA SubH.five, EI.push hx i1 hfin hlt hrw' hd hSK e4.app, by dsimp only; omega⟩
      · have ho1 : ∀ t k, x ≠ .op t k := fun t k e => hop ⟨t, k, e⟩
        have ho2 : ∀ t o c nn, x ≠ .em t o c nn := fun t o c nn e => hem ⟨t, o, c, nn, e⟩
        obtain ⟨ty, q, rfl, ht1, ht2⟩ := hG.other ho1 ho2
        (repeat' (first | refine zn (hm := hcm _) (hc := hcv) ?_ | refine zby (hne := ht1) ?_ | refine zby (hne := ht2) ?_ | refine z7 ?_ | refine z6 ?_ | refine z2 ?_ | refine z1 ?_ | refine zc ?_ | refine zb ?_ | refine zf ?_ | refine zd ?_ | refine z8 ?_ | refine za ?_ | refine zm ?_ | refine zah ?_ | refine za0 ?_ | refine zal ?_ | refine zam ?_))
        refine Wp.draw_till (id := 12) [W, dstv r4 dv] 6 8 Mixed.out sA rfl ?_
        refine OpsK.firstL 0 [] _ (by rfl) (by kernel_rfl) (by kernel_rfl) rfl (by kernel_rfl) (by kernel_rfl) rfl (by first | exact zbr rfl | exact zbj rfl | exact zbe rfl rfl | exact zbp rfl | exact zbo rfl | exact zar rfl (by repeat (first | exact HMem.here | apply HMem.skip | apply HMem.there)) rfl | exact zbs rfl (by repeat (first | exact HMem.here | apply HMem.skip | apply HMem.there)) (by repeat constructor) | exact zbk rfl | exact zbm rfl | exact zbi rfl rfl (by omega) | exact zbb rfl rfl rfl (by omega) (by omega) | exact zbu rfl | exact zbv rfl | exact zbn rfl (by repeat' (first | exact BFill.nil | refine' BFill.one (by rfl) (by rfl) (by repeat constructor) ?_ | refine' BFill.agg (by rfl) (by rfl) (by repeat constructor) ?_))) ?_
        refine kF 1 ?_
        refine kF 2 ?_
        refine kF 3 ?_
        refine OpsK.firstL 4 [5] _ (by rfl) (by kernel_rfl) (by kernel_rfl) rfl (by kernel_rfl) (by kernel_rfl) rfl (zar rfl (hcm _) hcv) ?_
        refine kO 5 ?_
        (repeat' (first | refine z2 ?_ | refine z1 ?_ | refine zb7 (fun _ => ?_)))
        refine ⟨fun _ => sA, ?_⟩
        refine kO 6 ?_
        refine zc6 hrw (by omega) (by omega) (fun v' W' hrw' => ?_)
        have hov : oneCell v' = true := by obtain ⟨_, _, h⟩ := rwShape hrw'; rw [h]; rfl
        (repeat' (first | refine z2 ?_ | refine z1 ?_))
        refine ⟨(fun h0 => Bool.noConfusion (show true = false from h0)), ?_⟩
        refine kO 7 ?_
        (repeat' (first | refine za5 (hv := hov) ?_ | refine z2 ?_ | refine z1 ?_))
        refine ⟨(fun h0 => Bool.noConfusion (show true = false from h0)), ?_⟩
        refine OpsK.nil (by kernel_rfl) ?_
        (repeat' (first | refine z6 ?_ | refine z2 ?_ | refine z1 ?_ | refine zw ?_ | refine zy ?_ | refine zz ?_ | refine z8 ?_ | refine za ?_ | refine zl ?_))
        have hd : DsR 0 (S.dst ++ [x]) (dvals ++ [_]) (K ++ G) := i4.snoc (.other (fun t c n => ho2 t true c n) hG)
        refine ⟨_, kB, SubH.trans (H' := [W', dstv r4 v', arrb r7 sv, SK', K, G, SB]) sA SubH.five, EI.push hx i1 (emStep_other ho1 ho2) hlt hrw' hd hSK i6.app, by dsimp only; omega⟩
    · have : i = n := by omega
      subst this
      (repeat' (first | refine z7 ?_ | refine z6 ?_ | refine z2 ?_ | refine z1 ?_ | refine zb ?_ | refine zw ?_ | refine zy ?_ | refine zz ?_ | refine z8 ?_ | refine za4 ?_ | refine zah ?_))
      exact ⟨⟨i, S, dv, dvals, W, K, SK, sv, SB⟩, kA, sA, rfl, i1, i2, i3, i4, i5, i6⟩
  · rintro ⟨i, S, dv, dvals, W, K, SK, sv, SB⟩ ⟨hin, i1, i2, i3, i4, i5, i6⟩
    dsimp only at hin i1 i2 i3 i4 i5 i6 ⊢
    subst hin
    rw [List.take_of_length_le (by omega)] at i1
    subst i1
    (repeat' (first | refine z7 ?_ | refine z6 ?_ | refine z2 ?_ | refine z1 ?_ | refine ze ?_ | refine zbq ?_ | refine za ?_ | refine zn ?_))
    exact e_ret (vs := [dv]) _ ⟨dvals, W, K, i3, i4, rfl⟩ sA
end Go.Proofs

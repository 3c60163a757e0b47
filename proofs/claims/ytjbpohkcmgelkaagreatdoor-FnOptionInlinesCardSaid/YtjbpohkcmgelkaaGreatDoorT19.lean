/- Steps of the walk of the program and plain facts on what it computes. Conditions: as each theorem states them. -/
import Derived.Test.YtjbpohkcmgelkaaGreatDoorT18
namespace Go.Proofs
open Go Go.Eng
set_option maxRecDepth 20000
set_option maxHeartbeats 4000000

theorem candQ (B : Base) (Q : Eng.Post) [NoPan Q] (b : Bool) (p r4 r7 g off n cap i q i0 nn m j pos qs1 sn g5 vc : Nat) (ch : UInt8) (o sc : Bool) (ts : List UInt8) (svals cur0 : List Value) (S1 : EmS) (dv1 : Value) (dvals1 sv1 : List Value) (W1 SK' K1a K1c A C : Blk) (cur5 : List Value) (ps qs : List Nat)
    (hn2 : n ≤ 1000000) (hnn : nn ≤ 1000000) (hsn : sn ≤ 1000000) (hm2 : m + 1 ≤ 1000000) (hlt : i < n) (h5 : emIdx ch < 5) (e1 : Rw InlT g off cap n svals cur0 (i + 1) b dv1 dvals1 W1) (hdl1 : dvals1.length = S1.dst.length) (f1 : EInv S1) (f2 : S1.dst.length ≤ i)
    (e4 : StksR dvals1 S1.st sv1 (A ++ ([(g5, cellsOf cur5 202)] ++ C)))
    (hps : S1.st[emIdx ch]? = some ps) (hpse : S1.st.getD (emIdx ch) [] = ps) (hk : StkR dvals1 (.slice (some ⟨g5, 0, none⟩) ps.length vc) [(g5, cellsOf cur5 202)] ps qs)
    (hset : ∀ (v' : Value) (R' : Blk) (ps' qs' : List Nat), StkR dvals1 v' R' ps' qs' → StksR dvals1 (S1.st.set (emIdx ch) ps') (sv1.set (emIdx ch) v') (A ++ (R' ++ C)))
    (hsvl : emIdx ch < sv1.length) (hv' : sv1[0 + emIdx ch * 1]? = some (.slice (some ⟨g5, 0, none⟩) ps.length vc)) (hjl : j < ps.length) (hposD : ps.getD j 0 = pos) (hce : cur5[0 + j * 1]? = some (lp qs1)) (hpsl : ps.length ≤ 1000000)
    (hvals : dvals1[pos]? = some (vEm qs1)) (hst : S1.dst[pos]? = some (.em ts true sc sn)) (htl : ts.length ≤ 1000000)
    (hKa : DsR 0 (S1.dst.take pos) (dvals1.take pos) K1a) (hKc : InsR (S1.dst.drop (pos + 1)) (dvals1.drop (pos + 1)) K1c) (hKset : ∀ x' G', InD pos x' (vEm qs1) G' → DsR 0 (S1.dst.set pos x') dvals1 (K1a ++ (G' ++ K1c)))
    (hq : isQ ch = true) (hm0 : m = 0) (ho : o = false) (hkl : j + 1 = ps.length) (hQ1 : ∀ (v' : Value) (W' K' : Blk) (sv' : List Value) (SB' : Blk), Rw InlT g off cap n svals cur0 (i + 1) b v' (dvals1 ++ [vEm q]) W' → DsR 0 (S1.dst.set pos (.em (openQ ch) true sc sn) ++ [.em (closeQ ch) false true nn]) (dvals1 ++ [vEm q]) K' → StksR (dvals1 ++ [vEm q]) (S1.st.set (emIdx ch) (ps.take j)) sv' SB' →
      ∀ L' H', Knows L' [(0, lp p), (2, .slice (some ⟨g, off, none⟩) n cap), (4, lp r4), (7, lp r7), (8, .func (.func 105) #[] #[]), (9, .func (.func 106) #[] #[lp r7, lp r4]), (10, inat i), (13, lp q)] → SubH H' [W', dstv r4 v', arrb r7 sv', SK', K', SB'] → Q (.exit 1) L' H')
    :
    ∀ c, nav [1, 0, 1, 1, 1, 1, 0, 1, 0, 0, 1, 0, 0, 1, 1, 1, 0, 1, 0, 0, 1, 1, 0, 0, 1, 0, 0, 1, 0, 0, 1, 0, 0] (((Tryz.prog.funcs[77]?).bind Func.body).getD .skip) = some c → Wp Tryz.prog B 436 c [(0, lp p), (2, .slice (some ⟨g, off, none⟩) n cap), (4, lp r4), (7, lp r7), (8, .func (.func 105) #[] #[]), (9, .func (.func 106) #[] #[lp r7, lp r4]), (10, inat i), (13, lp q), (15, .pointer (some ⟨r7, 0 + emIdx ch * 1, none⟩)), (16, inat j)] [W1, dstv r4 dv1, arrb r7 sv1, emb q (List.replicate (m + 1) ch) o true i0 nn, SK', K1a ++ (emb qs1 ts true sc pos sn ++ K1c), A ++ ([(g5, cellsOf cur5 202)] ++ C)] Q := by
  have hcurm : ∀ a b c d e f, HMem [a, b, c, d, e, f, A ++ ([(g5, cellsOf cur5 202)] ++ C)] g5 (cellsOf cur5 202) := fun a b c d e f => .there (.there (.there (.there (.there (.there (HMem.of_chunk (by simp)))))))
  have hKm : ∀ a b c d e f, HMem [a, b, c, d, e, K1a ++ (emb qs1 ts true sc pos sn ++ K1c), f] qs1 (cellsOf (emC ts true sc pos sn) 204) := fun a b c d e f => .there (.there (.there (.there (.there (HMem.of_chunk (by simp))))))
  have hc1 : (List.replicate (m + 1) ch)[0]? = some ch := rfl
  have hlenp := (List.getElem?_eq_some_iff.1 hst).1
  have hlr : (List.replicate (m + 1) ch).length = m + 1 := List.length_replicate
  refine use_nav (by rfl) ?_
  (repeat (refine z7 ?_))
  ((repeat (refine z7 ?_)); refine z6 ?_; (repeat' (first | refine zn (hc := hv') ?_ | refine zn (hm := hcurm _ _ _ _ _ _) (hc := hce) ?_ | refine z8 ?_ | refine za ?_ | refine zq ?_ | refine zal ?_)); refine z2 ?_; refine z1 ?_)
  (repeat (refine z7 ?_))
  refine zac [(0, lp p), (2, .slice (some ⟨g, off, none⟩) n cap), (4, lp r4), (7, lp r7), (8, .func (.func 105) #[] #[]), (9, .func (.func 106) #[] #[lp r7, lp r4]), (10, inat i), (13, lp q), (15, .pointer (some ⟨r7, 0 + emIdx ch * 1, none⟩)), (16, inat j), (17, lp qs1), (164, .bool (ruleM ch o true nn true sc sn))] [W1, dstv r4 dv1, arrb r7 sv1, emb q (List.replicate (m + 1) ch) o true i0 nn, SK', K1a ++ (emb qs1 ts true sc pos sn ++ K1c), A ++ ([(g5, cellsOf cur5 202)] ++ C)] ?_ ?_
  · exact Wp.weak [(0, lp p), (2, .slice (some ⟨g, off, none⟩) n cap), (4, lp r4), (7, lp r7), (8, .func (.func 105) #[] #[]), (9, .func (.func 106) #[] #[lp r7, lp r4]), (10, inat i), (13, lp q), (15, .pointer (some ⟨r7, 0 + emIdx ch * 1, none⟩)), (16, inat j), (17, lp qs1)] [W1, dstv r4 dv1, arrb r7 sv1, emb q (List.replicate (m + 1) ch) o true i0 nn, SK', K1a ++ (emb qs1 ts true sc pos sn ++ K1c), A ++ ([(g5, cellsOf cur5 202)] ++ C)] kB (SubH.refl _) (rule_w B _ _ p r4 r7 g off n cap i j q qs1 nn sn i0 pos m ch ts o sc hnn hsn (hKm _ _ _ _ _ _) (by repeat (first | exact HMem.here | apply HMem.there)) (fun L' h => ⟨h, SubH.refl _⟩) _ (by rfl))
  have hrule : ruleM ch o true nn true sc sn = false := by
    simp only [isQ, Bool.or_eq_true, beq_iff_eq] at hq
    simp [ruleM]
    intro h
    omega
  rw [hrule]
  have hn126 : ch.toNat ≠ 126 := by
    simp only [isQ, Bool.or_eq_true, beq_iff_eq] at hq
    omega
  refine zb ?_
  refine zd ?_
  refine z1 ?_
  (repeat (refine z7 ?_))
  refine zac [(0, lp p), (2, .slice (some ⟨g, off, none⟩) n cap), (4, lp r4), (7, lp r7), (8, .func (.func 105) #[] #[]), (9, .func (.func 106) #[] #[lp r7, lp r4]), (10, inat i), (13, lp q), (15, .pointer (some ⟨r7, 0 + emIdx ch * 1, none⟩)), (16, inat j), (17, lp qs1), (186, .bool false)] [W1, dstv r4 dv1, arrb r7 sv1, emb q (List.replicate (m + 1) ch) o true i0 nn, SK', K1a, emb qs1 ts true sc pos sn, K1c, A ++ ([(g5, cellsOf cur5 202)] ++ C)] ?_ ?_
  · (repeat' (first | refine Wp.draw_all (id := 21) Mixed.out (by kernel_rfl) ?_ | refine z2 ?_ | refine z1 ?_ | refine za8 ?_ | refine zbx ?_ | refine za7 ?_ | refine za3 ?_ | refine zae ?_ | refine zad ?_ | refine zc1 ?_ | refine zbc ?_ | refine zbh ?_))
    exact ⟨kA, SubH.trans (H' := [W1, dstv r4 dv1, arrb r7 sv1, emb q (List.replicate (m + 1) ch) o true i0 nn, SK', K1a ++ (emb qs1 ts true sc pos sn ++ K1c), A ++ ([(g5, cellsOf cur5 202)] ++ C)]) sA ⟨[], by simp⟩⟩
  subst hm0
  subst ho
  obtain ⟨g', cap', cur', rfl, hmW, hck⟩ := e1.get hvals
  have hWm : ∀ H, HMem (W1 :: H) g' (cellsOf cur' 89) := fun H => HMem.of_chunk hmW
  have hch : ch = 34 ∨ ch = 39 := by
    simp only [isQ, Bool.or_eq_true, beq_iff_eq] at hq
    rcases hq with h | h
    · exact .inl (UInt8.toNat_inj.1 h)
    · exact .inr (UInt8.toNat_inj.1 h)
  have hpc : pos < dvals1.length := (List.getElem?_eq_some_iff.1 hvals).1
  have hd2 : DsR 0 (S1.dst.set pos (.em (openQ ch) true sc sn) ++ [.em (closeQ ch) false true nn]) (dvals1 ++ [vEm q]) ((K1a ++ (emb qs1 (openQ ch) true sc pos sn ++ K1c)) ++ emb q (closeQ ch) false true i0 nn) :=
    (hKset (.em (openQ ch) true sc sn) (emb qs1 (openQ ch) true sc pos sn) .opener).snoc (.other (by intros; intro e; cases e) .em)
  have hk2 : StksR (dvals1 ++ [vEm q]) (S1.st.set (emIdx ch) (ps.take j)) (sv1.set (0 + emIdx ch * 1) (.slice (some ⟨g5, 0, none⟩) j vc)) (A ++ ([(g5, cellsOf cur5 202)] ++ C)) := by
    have := (hset _ _ _ _ (hk.take (k := j) rfl (by omega))).app (l := [vEm q])
    rw [show 0 + emIdx ch * 1 = emIdx ch by omega]
    exact this
  have hpsne : ps ≠ [] := by intro h; rw [h] at hjl; simp at hjl
  have hjc : j ≤ vc := by
    obtain ⟨_, _, _, hve, _, _, _, hle9, _⟩ := hk.pos hpsne
    injection hve with _ _ h9
    omega
  have z34 : (34 : UInt8).toNat = 34 := rfl
  have z39 : (39 : UInt8).toNat = 39 := rfl
  rcases hch with rfl | rfl
  · (repeat' (first | refine Wp.draw_tail (id := 23) 5 Mixed.out (by kernel_rfl) ?_ | refine zn (hm := hWm _) (hc := hck) ?_ | refine z7 ?_ | refine z6 ?_ | refine z2 ?_ | refine z1 ?_ | refine zc ?_ | refine zb ?_ | refine zd ?_ | refine z8 ?_ | refine zn ?_ | refine zp ?_ | refine zq ?_ | refine zt ?_ | refine zi ?_ | refine zal ?_ | refine zan ?_ | refine zcm ?_ | refine za5 ?_ | refine zb7 (fun _ => ?_) | refine za8 ?_ | refine za7 ?_ | refine za3 ?_ | refine zae ?_ | refine zad ?_))
    refine zc6 e1 (by omega) (by omega) (fun v' W' hrw' => ?_)
    have hov : oneCell v' = true := by obtain ⟨_, _, h⟩ := rwShape hrw'; rw [h]; rfl
    (repeat' (first | refine zn (hc := hv') ?_ | refine za5 (hv := hov) ?_ | refine zc5 ?_ | refine z7 ?_ | refine z6 ?_ | refine z2 ?_ | refine z1 ?_ | refine zw ?_ | refine zy ?_ | refine z8 ?_ | refine zq ?_ | refine zch ?_))
    exact ⟨hQ1 v' W' _ _ _ hrw' hd2 hk2 _ _ kA (SubH.trans (H' := [W', dstv r4 v', arrb r7 (sv1.set (0 + emIdx 34 * 1) (.slice (some ⟨g5, 0, none⟩) j vc)), SK', K1a, emb qs1 (openQ 34) true sc pos sn, K1c, emb q (closeQ 34) false true i0 nn, A ++ ([(g5, cellsOf cur5 202)] ++ C)]) sA ⟨[], by simp⟩)⟩
  · (repeat' (first | refine Wp.draw_tail (id := 28) 5 Mixed.out (by kernel_rfl) ?_ | refine zn (hm := hWm _) (hc := hck) ?_ | refine z7 ?_ | refine z6 ?_ | refine z2 ?_ | refine z1 ?_ | refine zc ?_ | refine zb ?_ | refine zd ?_ | refine z8 ?_ | refine zn ?_ | refine zp ?_ | refine zq ?_ | refine zt ?_ | refine zr ?_ | refine zi ?_ | refine zal ?_ | refine zan ?_ | refine zcm ?_ | refine za5 ?_ | refine zb7 (fun _ => ?_) | refine za8 ?_ | refine za7 ?_ | refine za3 ?_ | refine zae ?_ | refine zad ?_))
    refine zc6 e1 (by omega) (by omega) (fun v' W' hrw' => ?_)
    have hov : oneCell v' = true := by obtain ⟨_, _, h⟩ := rwShape hrw'; rw [h]; rfl
    (repeat' (first | refine zn (hc := hv') ?_ | refine za5 (hv := hov) ?_ | refine zc5 ?_ | refine z7 ?_ | refine z6 ?_ | refine z2 ?_ | refine z1 ?_ | refine zw ?_ | refine zy ?_ | refine z8 ?_ | refine zq ?_ | refine zch ?_))
    exact ⟨hQ1 v' W' _ _ _ hrw' hd2 hk2 _ _ kA (SubH.trans (H' := [W', dstv r4 v', arrb r7 (sv1.set (0 + emIdx 39 * 1) (.slice (some ⟨g5, 0, none⟩) j vc)), SK', K1a, emb qs1 (openQ 39) true sc pos sn, K1c, emb q (closeQ 39) false true i0 nn, A ++ ([(g5, cellsOf cur5 202)] ++ C)]) sA ⟨[], by simp⟩)⟩

end Go.Proofs

namespace Go.Proofs
open Go Go.Eng
set_option maxRecDepth 20000
set_option maxHeartbeats 4000000

theorem candR (B : Base) (Q : Eng.Post) [NoPan Q] (b : Bool) (p r4 r7 g off n cap i q i0 nn m j pos qs1 sn g5 vc : Nat) (ch : UInt8) (o sc : Bool) (ts : List UInt8) (svals cur0 : List Value) (S1 : EmS) (dv1 : Value) (dvals1 sv1 : List Value) (W1 SK' K1a K1c A C : Blk) (cur5 : List Value) (ps qs : List Nat)
    (hn2 : n ≤ 1000000) (hnn : nn ≤ 1000000) (hsn : sn ≤ 1000000) (hm2 : m + 1 ≤ 1000000) (hlt : i < n) (h5 : emIdx ch < 5) (e1 : Rw InlT g off cap n svals cur0 (i + 1) b dv1 dvals1 W1) (hdl1 : dvals1.length = S1.dst.length) (f1 : EInv S1) (f2 : S1.dst.length ≤ i)
    (e4 : StksR dvals1 S1.st sv1 (A ++ ([(g5, cellsOf cur5 202)] ++ C)))
    (hps : S1.st[emIdx ch]? = some ps) (hpse : S1.st.getD (emIdx ch) [] = ps) (hk : StkR dvals1 (.slice (some ⟨g5, 0, none⟩) ps.length vc) [(g5, cellsOf cur5 202)] ps qs)
    (hset : ∀ (v' : Value) (R' : Blk) (ps' qs' : List Nat), StkR dvals1 v' R' ps' qs' → StksR dvals1 (S1.st.set (emIdx ch) ps') (sv1.set (emIdx ch) v') (A ++ (R' ++ C)))
    (hsvl : emIdx ch < sv1.length) (hv' : sv1[0 + emIdx ch * 1]? = some (.slice (some ⟨g5, 0, none⟩) ps.length vc)) (hjl : j < ps.length) (hposD : ps.getD j 0 = pos) (hce : cur5[0 + j * 1]? = some (lp qs1)) (hpsl : ps.length ≤ 1000000)
    (hvals : dvals1[pos]? = some (vEm qs1)) (hst : S1.dst[pos]? = some (.em ts true sc sn)) (htl : ts.length ≤ 1000000)
    (hKa : DsR 0 (S1.dst.take pos) (dvals1.take pos) K1a) (hKc : InsR (S1.dst.drop (pos + 1)) (dvals1.drop (pos + 1)) K1c) (hKset : ∀ x' G', InD pos x' (vEm qs1) G' → DsR 0 (S1.dst.set pos x') dvals1 (K1a ++ (G' ++ K1c)))
    (hr : isRunC ch) (hin : pos + 1 < S1.dst.length) (m2 : Nat) (hts : ts = List.replicate m2 ch) (hm21 : 1 ≤ m2)
    (hQ5 : okM S1.dst ch (m + 1) o true nn pos = false → ∀ L' H', Knows L' [(0, lp p), (2, .slice (some ⟨g, off, none⟩) n cap), (4, lp r4), (7, lp r7), (8, .func (.func 105) #[] #[]), (9, .func (.func 106) #[] #[lp r7, lp r4]), (10, inat i), (13, lp q), (15, .pointer (some ⟨r7, 0 + emIdx ch * 1, none⟩)), (16, inat j)] → SubH H' [W1, dstv r4 dv1, arrb r7 sv1, emb q (List.replicate (m + 1) ch) o true i0 nn, SK', K1a ++ (emb qs1 ts true sc pos sn ++ K1c), A ++ ([(g5, cellsOf cur5 202)] ++ C)] → Q (.exit 5) L' H')
    (hQ3 : okM S1.dst ch (m + 1) o true nn pos = true → ∀ (d : Nat) (dv' : Value) (dvals' : List Value) (W' K' : Blk) (sv' : List Value) (SB' : Blk), d = dOf (m + 1) m2 → Rw InlT g off cap n svals cur0 (i + 1) b dv' dvals' W' → DsR 0 (closeStep ch d pos (List.replicate m2 ch) true sc sn S1).dst dvals' K' → StksR dvals' (closeStep ch d pos (List.replicate m2 ch) true sc sn S1).st sv' SB' →
      ∀ L' H', Knows L' [(0, lp p), (2, .slice (some ⟨g, off, none⟩) n cap), (4, lp r4), (7, lp r7), (8, .func (.func 105) #[] #[]), (9, .func (.func 106) #[] #[lp r7, lp r4]), (10, inat i), (13, lp q), (15, .pointer (some ⟨r7, 0 + emIdx ch * 1, none⟩))] → SubH H' [W', dstv r4 dv', arrb r7 sv', emb q (List.replicate (m + 1 - d) ch) o true i0 nn, SK', K', SB'] → Q (.exit 3) L' H')
    :
    ∀ c, nav [1, 0, 1, 1, 1, 1, 0, 1, 0, 0, 1, 0, 0, 1, 1, 1, 0, 1, 0, 0, 1, 1, 0, 0, 1, 0, 0, 1, 0, 0, 1, 0, 0] (((Tryz.prog.funcs[77]?).bind Func.body).getD .skip) = some c → Wp Tryz.prog B 436 c [(0, lp p), (2, .slice (some ⟨g, off, none⟩) n cap), (4, lp r4), (7, lp r7), (8, .func (.func 105) #[] #[]), (9, .func (.func 106) #[] #[lp r7, lp r4]), (10, inat i), (13, lp q), (15, .pointer (some ⟨r7, 0 + emIdx ch * 1, none⟩)), (16, inat j)] [W1, dstv r4 dv1, arrb r7 sv1, emb q (List.replicate (m + 1) ch) o true i0 nn, SK', K1a ++ (emb qs1 ts true sc pos sn ++ K1c), A ++ ([(g5, cellsOf cur5 202)] ++ C)] Q := by
  have hcurm : ∀ a b c d e f, HMem [a, b, c, d, e, f, A ++ ([(g5, cellsOf cur5 202)] ++ C)] g5 (cellsOf cur5 202) := fun a b c d e f => .there (.there (.there (.there (.there (.there (HMem.of_chunk (by simp)))))))
  have hKm : ∀ a b c d e f, HMem [a, b, c, d, e, K1a ++ (emb qs1 ts true sc pos sn ++ K1c), f] qs1 (cellsOf (emC ts true sc pos sn) 204) := fun a b c d e f => .there (.there (.there (.there (.there (HMem.of_chunk (by simp))))))
  have hc1 : (List.replicate (m + 1) ch)[0]? = some ch := rfl
  have hlenp := (List.getElem?_eq_some_iff.1 hst).1
  have hlr : (List.replicate (m + 1) ch).length = m + 1 := List.length_replicate
  refine use_nav (by rfl) ?_
  (repeat (refine z7 ?_))
  ((repeat (refine z7 ?_)); refine z6 ?_; (repeat' (first | refine zn (hc := hv') ?_ | refine zn (hm := hcurm _ _ _ _ _ _) (hc := hce) ?_ | refine z8 ?_ | refine za ?_ | refine zq ?_ | refine zal ?_)); refine z2 ?_; refine z1 ?_)
  (repeat (refine z7 ?_))
  refine zac [(0, lp p), (2, .slice (some ⟨g, off, none⟩) n cap), (4, lp r4), (7, lp r7), (8, .func (.func 105) #[] #[]), (9, .func (.func 106) #[] #[lp r7, lp r4]), (10, inat i), (13, lp q), (15, .pointer (some ⟨r7, 0 + emIdx ch * 1, none⟩)), (16, inat j), (17, lp qs1), (164, .bool (ruleM ch o true nn true sc sn))] [W1, dstv r4 dv1, arrb r7 sv1, emb q (List.replicate (m + 1) ch) o true i0 nn, SK', K1a ++ (emb qs1 ts true sc pos sn ++ K1c), A ++ ([(g5, cellsOf cur5 202)] ++ C)] ?_ ?_
  · exact Wp.weak [(0, lp p), (2, .slice (some ⟨g, off, none⟩) n cap), (4, lp r4), (7, lp r7), (8, .func (.func 105) #[] #[]), (9, .func (.func 106) #[] #[lp r7, lp r4]), (10, inat i), (13, lp q), (15, .pointer (some ⟨r7, 0 + emIdx ch * 1, none⟩)), (16, inat j), (17, lp qs1)] [W1, dstv r4 dv1, arrb r7 sv1, emb q (List.replicate (m + 1) ch) o true i0 nn, SK', K1a ++ (emb qs1 ts true sc pos sn ++ K1c), A ++ ([(g5, cellsOf cur5 202)] ++ C)] kB (SubH.refl _) (rule_w B _ _ p r4 r7 g off n cap i j q qs1 nn sn i0 pos m ch ts o sc hnn hsn (hKm _ _ _ _ _ _) (by repeat (first | exact HMem.here | apply HMem.there)) (fun L' h => ⟨h, SubH.refl _⟩) _ (by rfl))
  cases hrule : ruleM ch o true nn true sc sn with
  | true =>
    have hnok : okM S1.dst ch (m + 1) o true nn pos = false := by unfold okM; rw [hst]; simp [hrule]
    (repeat' (first | refine zc ?_ | refine zw ?_ | refine zy ?_))
    exact ⟨hQ5 hnok _ _ kA sA⟩
  | false =>
    by_cases htil : ch.toNat = 126 ∧ ¬ m + 1 = ts.length
    · obtain ⟨h126, hlen⟩ := htil
      have hnok : okM S1.dst ch (m + 1) o true nn pos = false := by unfold okM; rw [hst]; simp [hrule, h126]; intro h; exact absurd h hlen
      (repeat' (first | refine Wp.draw_all (id := 21) Mixed.out (by kernel_rfl) ?_ | refine za3 (hm := hKm _ _ _ _ _ _) (hc := rfl) ?_ | refine z7 ?_ | refine z2 ?_ | refine z1 ?_ | refine zc ?_ | refine zb ?_ | refine zd ?_ | refine zw ?_ | refine zy ?_ | refine za8 ?_ | refine zb4 ?_ | refine za7 ?_ | refine za3 ?_ | refine zae ?_ | refine zad ?_ | refine zbd ?_ | refine zci ?_ | refine zb6 ?_ | refine zcj ?_ | refine zbh ?_))
      exact ⟨hQ5 hnok _ _ kA sA⟩
    · refine zb ?_
      refine zd ?_
      refine z1 ?_
      (repeat (refine z7 ?_))
      refine zac [(0, lp p), (2, .slice (some ⟨g, off, none⟩) n cap), (4, lp r4), (7, lp r7), (8, .func (.func 105) #[] #[]), (9, .func (.func 106) #[] #[lp r7, lp r4]), (10, inat i), (13, lp q), (15, .pointer (some ⟨r7, 0 + emIdx ch * 1, none⟩)), (16, inat j), (17, lp qs1), (186, .bool false)] [W1, dstv r4 dv1, arrb r7 sv1, emb q (List.replicate (m + 1) ch) o true i0 nn, SK', K1a, emb qs1 ts true sc pos sn, K1c, A ++ ([(g5, cellsOf cur5 202)] ++ C)] ?_ ?_
      · by_cases h126 : ch.toNat = 126
        · have hlen : m + 1 = ts.length := by
            by_cases h : m + 1 = ts.length
            · exact h
            · exact absurd ⟨h126, h⟩ htil
          (repeat' (first | refine Wp.draw_all (id := 21) Mixed.out (by kernel_rfl) ?_ | refine za3 (hm := hKm _ _ _ _ _ _) (hc := rfl) ?_ | refine z2 ?_ | refine z1 ?_ | refine za8 ?_ | refine zb4 ?_ | refine za7 ?_ | refine za3 ?_ | refine zae ?_ | refine zad ?_ | refine zbd ?_ | refine zcx ?_ | refine zb6 ?_ | refine zcj ?_ | refine zbh ?_))
          exact ⟨kA, SubH.trans (H' := [W1, dstv r4 dv1, arrb r7 sv1, emb q (List.replicate (m + 1) ch) o true i0 nn, SK', K1a ++ (emb qs1 ts true sc pos sn ++ K1c), A ++ ([(g5, cellsOf cur5 202)] ++ C)]) sA ⟨[], by simp⟩⟩
        · (repeat' (first | refine Wp.draw_all (id := 21) Mixed.out (by kernel_rfl) ?_ | refine z2 ?_ | refine z1 ?_ | refine za8 ?_ | refine zbx ?_ | refine za7 ?_ | refine za3 ?_ | refine zae ?_ | refine zad ?_ | refine zc1 ?_ | refine zbc ?_ | refine zbh ?_))
          exact ⟨kA, SubH.trans (H' := [W1, dstv r4 dv1, arrb r7 sv1, emb q (List.replicate (m + 1) ch) o true i0 nn, SK', K1a ++ (emb qs1 ts true sc pos sn ++ K1c), A ++ ([(g5, cellsOf cur5 202)] ++ C)]) sA ⟨[], by simp⟩⟩
      have hok : okM S1.dst ch (m + 1) o true nn pos = true := by
        unfold okM
        rw [hst]
        simp only [hrule, Bool.not_false, Bool.true_and, Bool.not_eq_true', Bool.and_eq_false_iff, beq_eq_false_iff_ne, bne_eq_false_iff_eq]
        by_cases h126 : ch.toNat = 126
        · right
          by_cases h : m + 1 = ts.length
          · exact h
          · exact absurd ⟨h126, h⟩ htil
        · exact .inl h126
      subst hts
      have hlr2 : (List.replicate m2 ch).length = m2 := List.length_replicate
      have hpc : pos < dvals1.length := (List.getElem?_eq_some_iff.1 hvals).1
      have hne0 : dvals1 ≠ [] := by intro h; rw [h] at hpc; simp at hpc
      obtain ⟨g', cap', cur', rfl, hmW, hck, hcap, hcl', hcm', hRcut⟩ := e1.cut hne0
      have hn34 : ch.toNat ≠ 34 := by rcases hr with h | h | h <;> omega
      have hn39 : ch.toNat ≠ 39 := by rcases hr with h | h | h <;> omega
      obtain ⟨d, hd⟩ : ∃ d, dOf (m + 1) (List.replicate m2 ch).length = d := ⟨_, rfl⟩
      have hdle : 1 ≤ d ∧ d ≤ m + 1 ∧ d ≤ m2 ∧ d ≤ 2 := by rw [← hd]; unfold dOf; split <;> omega
      obtain ⟨hd1, hd2, hd3, hd4⟩ := hdle
      have hle' := e1.le
      refine zb ?_
      refine zd ?_
      refine z1 ?_
      (repeat (refine z7 ?_))
      ((repeat (refine z7 ?_)); refine z6 ?_; (repeat' (first | refine z8 ?_ | refine zn ?_ | refine zp ?_ | refine zq ?_ | refine zr ?_ | refine zi ?_)); refine z2 ?_; refine z1 ?_)
      (repeat (refine z7 ?_))
      refine zb ?_
      refine zd ?_
      refine z1 ?_
      ((repeat (refine z7 ?_)); refine z6 ?_; (repeat' (first | refine z8 ?_ | refine zn ?_ | refine zp ?_ | refine zq ?_ | refine zr ?_ | refine zi ?_)); refine z2 ?_; refine z1 ?_)
      (repeat (refine z7 ?_))
      refine zb ?_
      refine zd ?_
      refine z1 ?_
      ((repeat (refine z7 ?_)); refine z6 ?_; (repeat' (first | refine za ?_)); refine z2 ?_; refine z1 ?_)
      (repeat (refine z7 ?_))
      refine zac [(0, lp p), (2, .slice (some ⟨g, off, none⟩) n cap), (4, lp r4), (7, lp r7), (8, .func (.func 105) #[] #[]), (9, .func (.func 106) #[] #[lp r7, lp r4]), (10, inat i), (13, lp q), (15, .pointer (some ⟨r7, 0 + emIdx ch * 1, none⟩)), (17, lp qs1), (18, inat 0), (270, .bool (decide (2 ≤ m + 1 ∧ 2 ≤ m2)))] [W1, dstv r4 (.slice (some ⟨g', 0, none⟩) dvals1.length cap'), arrb r7 sv1, emb q (List.replicate (m + 1) ch) o true i0 nn, SK', K1a, emb qs1 (List.replicate m2 ch) true sc pos sn, K1c, A ++ ([(g5, cellsOf cur5 202)] ++ C)] ?_ ?_
      · by_cases ha : 2 ≤ m + 1
        · by_cases hb : 2 ≤ m2
          · rw [decide_eq_true ⟨ha, hb⟩]
            (repeat' (first | refine z6 ?_ | refine z2 ?_ | refine z1 ?_ | refine zh ?_ | refine z8 ?_ | refine zn ?_ | refine zp ?_ | refine zq ?_ | refine zas ?_ | refine zj ?_ | refine zg ?_))
            exact ⟨kA, sA⟩
          · rw [decide_eq_false (by rintro ⟨_, h⟩; exact hb h)]
            (repeat' (first | refine z6 ?_ | refine z2 ?_ | refine z1 ?_ | refine zh ?_ | refine z8 ?_ | refine zn ?_ | refine zp ?_ | refine zq ?_ | refine zas ?_ | refine zab ?_ | refine zj ?_ | refine zg ?_))
            exact ⟨kA, sA⟩
        · rw [decide_eq_false (by rintro ⟨h, _⟩; exact ha h)]
          (repeat' (first | refine z6 ?_ | refine z2 ?_ | refine z1 ?_ | refine za2 ?_ | refine z8 ?_ | refine zn ?_ | refine zp ?_ | refine zq ?_ | refine zab ?_ | refine zk ?_ | refine zg ?_))
          exact ⟨kA, sA⟩
      refine zac [(0, lp p), (2, .slice (some ⟨g, off, none⟩) n cap), (4, lp r4), (7, lp r7), (8, .func (.func 105) #[] #[]), (9, .func (.func 106) #[] #[lp r7, lp r4]), (10, inat i), (13, lp q), (15, .pointer (some ⟨r7, 0 + emIdx ch * 1, none⟩)), (17, lp qs1), (18, inat d)] [W1, dstv r4 (.slice (some ⟨g', 0, none⟩) dvals1.length cap'), arrb r7 sv1, emb q (List.replicate (m + 1) ch) o true i0 nn, SK', K1a, emb qs1 (List.replicate m2 ch) true sc pos sn, K1c, A ++ ([(g5, cellsOf cur5 202)] ++ C)] ?_ ?_
      · rw [hlr2] at hd
        unfold dOf at hd
        by_cases hab : 2 ≤ m + 1 ∧ 2 ≤ m2
        · rw [if_pos hab] at hd
          rw [decide_eq_true hab, ← hd]
          (repeat' (first | refine z6 ?_ | refine z2 ?_ | refine z1 ?_ | refine zc ?_ | refine za ?_))
          exact ⟨kA, sA⟩
        · rw [if_neg hab] at hd
          rw [decide_eq_false hab, ← hd]
          (repeat' (first | refine z6 ?_ | refine z2 ?_ | refine z1 ?_ | refine zb ?_ | refine za ?_))
          exact ⟨kA, sA⟩
      (repeat (refine z7 ?_))
      refine zac [(0, lp p), (2, .slice (some ⟨g, off, none⟩) n cap), (4, lp r4), (7, lp r7), (8, .func (.func 105) #[] #[]), (9, .func (.func 106) #[] #[lp r7, lp r4]), (10, inat i), (13, lp q), (15, .pointer (some ⟨r7, 0 + emIdx ch * 1, none⟩)), (17, lp qs1), (18, inat d), (19, .bool (decide (ch.toNat = 126)))] [W1, dstv r4 (.slice (some ⟨g', 0, none⟩) dvals1.length cap'), arrb r7 sv1, emb q (List.replicate (m + 1) ch) o true i0 nn, SK', K1a, emb qs1 (List.replicate m2 ch) true sc pos sn, K1c, A ++ ([(g5, cellsOf cur5 202)] ++ C)] ?_ ?_
      · by_cases h126 : ch.toNat = 126
        · rw [decide_eq_true h126]
          (repeat' (first | refine z6 ?_ | refine z2 ?_ | refine z1 ?_ | refine z8 ?_ | refine za ?_ | refine zn ?_ | refine zp ?_ | refine zq ?_ | refine zt ?_ | refine zi ?_))
          exact ⟨kA, sA⟩
        · rw [decide_eq_false h126]
          (repeat' (first | refine z6 ?_ | refine z2 ?_ | refine z1 ?_ | refine z8 ?_ | refine za ?_ | refine zn ?_ | refine zp ?_ | refine zq ?_ | refine zr ?_ | refine zi ?_))
          exact ⟨kA, sA⟩
      (repeat (refine z7 ?_))
      refine zau (fun x : Nat × Value × Blk => [(0, lp p), (2, .slice (some ⟨g, off, none⟩) n cap), (4, lp r4), (7, lp r7), (8, .func (.func 105) #[] #[]), (9, .func (.func 106) #[] #[lp r7, lp r4]), (10, inat i), (13, lp q), (15, .pointer (some ⟨r7, 0 + emIdx ch * 1, none⟩)), (17, lp qs1), (18, inat d), (19, .bool (decide (ch.toNat = 126))), (20, lp x.1)]) (fun x => [W1, dstv r4 (.slice (some ⟨g', 0, none⟩) dvals1.length cap'), arrb r7 sv1, emb q (List.replicate (m + 1) ch) o true i0 nn, SK', K1a, emb qs1 (List.replicate m2 ch) true sc pos sn, K1c, A ++ ([(g5, cellsOf cur5 202)] ++ C), [(x.1, cellsOf [str (List.replicate d ch), x.2.1] 139)], x.2.2]) (fun x => Own 89 1 x.2.1 (dvals1.length - (pos + 1)) (dvals1.drop (pos + 1)) x.2.2) ?_ ?_
      · refine Wp.draw_held (id := 37) [dstv r4 (.slice (some ⟨g', 0, none⟩) dvals1.length cap'), emb q (List.replicate (m + 1) ch) o true i0 nn, emb qs1 (List.replicate m2 ch) true sc pos sn] 18 Mixed.out sA rfl ?_
        refine hF 0 ?_
        refine hF 1 ?_
        refine hF 2 ?_
        refine hF 3 ?_
        refine hF 4 ?_
        refine hF 5 ?_
        refine hF 7 ?_
        refine hF 8 ?_
        refine hF 9 ?_
        refine hF 10 ?_
        refine hF 11 ?_
        refine hG 6 _ rfl (zdb (b := d) rfl rfl (by rw [hlr]; exact hd2)) ?_
        refine hO 12 ?_
        (repeat' (first | refine z2 ?_ | refine z1 ?_ | refine zl ?_))
        refine ⟨sA, ?_⟩
        refine hO 13 ?_
        (repeat' (first | refine z2 ?_ | refine z1 ?_ | refine zcq ?_))
        refine ⟨sA, ?_⟩
        refine hO 14 ?_
        refine zdz (cur := cur') (t := 62) (e := 89) (hr := by repeat (first | exact HMem.of_chunk hmW | apply HMem.there)) (fun vx Rx hX => ?_)
        obtain ⟨vxa, vxc, hvx⟩ := ownShape hX
        subst hvx
        (repeat' (first | refine z2 ?_ | refine z1 ?_))
        refine ⟨sA, ?_⟩
        refine hF 15 ?_
        refine hO 16 ?_
        (repeat' (first | refine z2 ?_ | refine z1 ?_ | refine zaf (fun _ => ?_)))
        rename_i qx
        refine ⟨sA, ?_⟩
        refine hF 17 ?_
        refine OpsH.nil (by kernel_rfl) ?_
        have htake : (List.replicate (m + 1) ch).take d = List.replicate d ch := by rw [List.take_replicate, Nat.min_eq_left hd2]
        rw [htake]
        have hX2 : (cur'.drop (0 + (pos + 1) * 1)).take (dvals1.length - (pos + 1)) = dvals1.drop (pos + 1) := by
          rw [← hck, List.drop_take, hck]
          congr 2
          omega
        rw [hX2] at hX
        refine ⟨(qx, .slice vxa (dvals1.length - (pos + 1)) vxc, Rx), ?_, ?_, hX⟩
        · dsimp only; exact kA
        · dsimp only; exact sA
      rintro ⟨qx, vx, Rx⟩ hX
      dsimp only at hX ⊢
      have htk2 : (List.replicate m2 ch).take ((List.replicate m2 ch).length - d) = List.replicate (m2 - d) ch := by rw [hlr2, List.take_replicate, Nat.min_eq_left (by omega)]
      have hdr : (List.replicate (m + 1) ch).drop d = List.replicate (m + 1 - d) ch := by rw [List.drop_replicate]
      obtain ⟨dl, hdl⟩ : ∃ dl, (if m2 ≤ d then pos else pos + 1) = dl := ⟨_, rfl⟩
      (repeat (refine z7 ?_))
      refine zac [(0, lp p), (2, .slice (some ⟨g, off, none⟩) n cap), (4, lp r4), (7, lp r7), (8, .func (.func 105) #[] #[]), (9, .func (.func 106) #[] #[lp r7, lp r4]), (10, inat i), (13, lp q), (15, .pointer (some ⟨r7, 0 + emIdx ch * 1, none⟩)), (17, lp qs1), (18, inat d), (19, .bool (decide (ch.toNat = 126))), (20, lp qx)] [W1, dstv r4 (.slice (some ⟨g', 0, none⟩) dvals1.length cap'), arrb r7 sv1, emb q (List.replicate (m + 1) ch) o true i0 nn, SK', K1a, emb qs1 (List.replicate (m2 - d) ch) true sc pos sn, K1c, A ++ ([(g5, cellsOf cur5 202)] ++ C), [(qx, cellsOf [str (List.replicate d ch), vx] 139)], Rx] ?_ ?_
      · (repeat' (first | refine Wp.draw_tail (id := 38) 15 Mixed.out (by kernel_rfl) ?_ | refine OpsS.pure _ (zap (a := (List.replicate m2 ch).length) (b := d) (c := (List.replicate m2 ch).length - d) (by rfl) (by rfl) (by omega) (by omega)) (by rfl) ?_ | refine OpsS.pure _ (zdb (b := (List.replicate m2 ch).length - d) rfl rfl (by omega)) (by rfl) ?_ | refine z2 ?_ | refine z1 ?_ | refine zp ?_ | refine zq ?_ | refine za5 ?_ | refine za8 ?_ | refine za7 ?_ | refine za3 ?_ | refine zae ?_ | refine zad ?_ | refine zcj ?_))
        rw [htk2]
        exact ⟨kA, sA⟩
      (repeat (refine z7 ?_))
      refine zac [(0, lp p), (2, .slice (some ⟨g, off, none⟩) n cap), (4, lp r4), (7, lp r7), (8, .func (.func 105) #[] #[]), (9, .func (.func 106) #[] #[lp r7, lp r4]), (10, inat i), (13, lp q), (15, .pointer (some ⟨r7, 0 + emIdx ch * 1, none⟩)), (17, lp qs1), (18, inat d), (19, .bool (decide (ch.toNat = 126))), (20, lp qx)] [W1, dstv r4 (.slice (some ⟨g', 0, none⟩) dvals1.length cap'), arrb r7 sv1, emb q (List.replicate (m + 1 - d) ch) o true i0 nn, SK', K1a, emb qs1 (List.replicate (m2 - d) ch) true sc pos sn, K1c, A ++ ([(g5, cellsOf cur5 202)] ++ C), [(qx, cellsOf [str (List.replicate d ch), vx] 139)], Rx] ?_ ?_
      · (repeat' (first | refine zba (a := d) ?_ | refine z6 ?_ | refine z2 ?_ | refine z1 ?_ | refine z8 ?_ | refine zn ?_ | refine zp ?_ | refine zq ?_ | refine za5 ?_))
        rw [hdr]
        exact ⟨kA, sA⟩
      (repeat (refine z7 ?_))
      ((repeat (refine z7 ?_)); refine z6 ?_; (repeat' (first | refine z8 ?_ | refine zn ?_ | refine zp ?_ | refine zq ?_ | refine zdd ?_)); refine z2 ?_; refine z1 ?_)
      (repeat (refine z7 ?_))
      refine zac [(0, lp p), (2, .slice (some ⟨g, off, none⟩) n cap), (4, lp r4), (7, lp r7), (8, .func (.func 105) #[] #[]), (9, .func (.func 106) #[] #[lp r7, lp r4]), (10, inat i), (13, lp q), (15, .pointer (some ⟨r7, 0 + emIdx ch * 1, none⟩)), (17, lp qs1), (18, inat d), (19, .bool (decide (ch.toNat = 126))), (20, lp qx)] [W1, dstv r4 (.slice (some ⟨g', 0, none⟩) dl cap'), arrb r7 sv1, emb q (List.replicate (m + 1 - d) ch) o true i0 nn, SK', K1a, emb qs1 (List.replicate (m2 - d) ch) true sc pos sn, K1c, A ++ ([(g5, cellsOf cur5 202)] ++ C), [(qx, cellsOf [str (List.replicate d ch), vx] 139)], Rx] ?_ ?_
      · by_cases hbe : m2 ≤ d
        · rw [if_pos hbe] at hdl
          subst hdl
          have hz : List.replicate (m2 - d) ch = [] := by rw [Nat.sub_eq_zero_of_le hbe]; rfl
          rw [decide_eq_true hz]
          (repeat' (first | refine Wp.draw_tail (id := 41) 5 Mixed.out (by kernel_rfl) ?_ | refine z2 ?_ | refine z1 ?_ | refine zc ?_ | refine zch ?_ | refine za5 ?_ | refine za8 ?_ | refine za7 ?_ | refine za3 ?_ | refine zae ?_ | refine zad ?_))
          exact ⟨kA, sA⟩
        · rw [if_neg hbe] at hdl
          subst hdl
          have hz : ¬ List.replicate (m2 - d) ch = [] := by
            intro h
            have := congrArg List.length h
            simp only [List.length_replicate, List.length_nil] at this
            omega
          rw [decide_eq_false hz]
          (repeat' (first | refine Wp.draw_tail (id := 42) 6 Mixed.out (by kernel_rfl) ?_ | refine z2 ?_ | refine z1 ?_ | refine zb ?_ | refine zch ?_ | refine za5 ?_ | refine za8 ?_ | refine za7 ?_ | refine za3 ?_ | refine zae ?_ | refine zad ?_ | refine zcg ?_))
          exact ⟨kA, sA⟩
      have hdlp : dl ≤ dvals1.length := by rw [← hdl]; split <;> omega
      have hdlpos : pos ≤ dl := by rw [← hdl]; split <;> omega
      have hKall : DsR 0 (S1.dst.set pos (.em (List.replicate (m2 - d) ch) true sc sn)) dvals1 (K1a ++ (emb qs1 (List.replicate (m2 - d) ch) true sc pos sn ++ K1c)) :=
        hKset _ _ .opener
      have hplaces : Places5 S1.st dvals1 (K1a ++ (emb qs1 (List.replicate (m2 - d) ch) true sc pos sn ++ K1c)) := by
        refine places_of hKall (fun ps' hps' p' hp' => ?_) (by rw [List.length_set]; omega)
        obtain ⟨k', hk'⟩ := List.mem_iff_getElem?.1 hps'
        obtain ⟨t', c', n', h1, _⟩ := f1.open_ k' ps' hk' p' hp'
        by_cases hpp : pos = p'
        · subst hpp
          exact ⟨_, sc, sn, List.getElem?_set_self hlenp⟩
        · exact ⟨t', c', n', by rw [List.getElem?_set_ne hpp]; exact h1⟩
      have hbig : ∀ ps' ∈ S1.st, ps'.length ≤ 1000000000 := by
        intro ps' hps'
        obtain ⟨k', hk'⟩ := List.mem_iff_getElem?.1 hps'
        have h1 := pairwise_le (f1.inc k' ps' hk') fun p' hp' => f1.lt hk' hp'
        omega
      have hT := trimG_tr r7 r4 dl S1.st sv1 dvals1 (A ++ ([(g5, cellsOf cur5 202)] ++ C)) (K1a ++ (emb qs1 (List.replicate (m2 - d) ch) true sc pos sn ++ K1c)) (some ⟨g', 0, none⟩) cap' f1.five e4 hplaces (by omega) hbig
      refine w_sub (H' := [arrb r7 sv1, dstv r4 (.slice (some ⟨g', 0, none⟩) dl cap'), A ++ ([(g5, cellsOf cur5 202)] ++ C), K1a ++ (emb qs1 (List.replicate (m2 - d) ch) true sc pos sn ++ K1c), W1, emb q (List.replicate (m + 1 - d) ch) o true i0 nn, SK', [(qx, cellsOf [str (List.replicate d ch), vx] 139)], Rx]) (SubH.trans (H' := [arrb r7 sv1, dstv r4 (.slice (some ⟨g', 0, none⟩) dl cap'), A ++ ([(g5, cellsOf cur5 202)] ++ C), K1a, emb qs1 (List.replicate (m2 - d) ch) true sc pos sn, K1c, W1, emb q (List.replicate (m + 1 - d) ch) o true i0 nn, SK', [(qx, cellsOf [str (List.replicate d ch), vx] 139)], Rx]) sA ⟨[], by simp⟩) ?_
      (repeat (refine z7 ?_))
      refine z6 ?_
      refine z8 ?_
      refine ze8 (fst := []) (caps := [lp r7, lp r4]) (args := []) hT (fun u H hR => ?_)
      obtain ⟨rfl, sv2, SB2, hS2, rfl⟩ := hR
      refine z2 ?_
      refine z1 ?_
      ((repeat (refine z7 ?_)); refine z6 ?_; (repeat' (first | refine z8 ?_)); refine z2 ?_; refine z1 ?_)
      (repeat (refine z7 ?_))
      have hrw2 := hRcut dl hdlp
      have hltk : (dvals1.take dl).length = dl := by rw [List.length_take]; omega
      have hInl : InsR (S1.dst.drop (pos + 1)) (dvals1.drop (pos + 1)) K1c := hKc
      have hXl : (dvals1.drop (pos + 1)).length = dvals1.length - (pos + 1) := List.length_drop
      rw [← hXl] at hX
      obtain ⟨Kb, hKb, hKbs⟩ : ∃ Kb, DsR 0 (baseOf S1.dst pos d (List.replicate m2 ch) true sc sn) (dvals1.take dl) Kb ∧ SubH [K1a, emb qs1 (List.replicate (m2 - d) ch) true sc pos sn] [Kb] := by
        unfold baseOf
        rw [hlr2]
        by_cases hbe : m2 ≤ d
        · rw [if_pos hbe] at hdl ⊢
          subst hdl
          exact ⟨K1a, hKa, ⟨emb qs1 (List.replicate (m2 - d) ch) true sc pos sn :: [], by simp⟩⟩
        · rw [if_neg hbe] at hdl ⊢
          subst hdl
          refine ⟨K1a ++ emb qs1 (List.replicate (m2 - d) ch) true sc pos sn, ?_, ⟨[], by simp⟩⟩
          rw [hlr2] at htk2
          rw [htk2, List.take_add_one, hvals]
          exact hKa.snoc (by rw [List.length_take, Nat.min_eq_left (by omega), Nat.zero_add]; exact .opener)
      have hbl := baseOf_len (d := d) (t := List.replicate m2 ch) (so := true) (sc := sc) (sn := sn) hlenp
      rw [hlr2, hdl] at hbl
      have hstep : closeStep ch d pos (List.replicate m2 ch) true sc sn S1 = ⟨baseOf S1.dst pos d (List.replicate m2 ch) true sc sn ++ [mkNode ch d (S1.dst.drop (pos + 1))], S1.st.map (trimTop dl)⟩ := by
        unfold closeStep
        dsimp only
        rw [hbl]
      have hS3 : ∀ l : List Value, StksR (dvals1.take dl ++ l) (S1.st.map (trimTop dl)) sv2 SB2 := fun l => hS2.mono fun ps' hps' p' hp' u hu => by
        obtain ⟨ps0, hps0, rfl⟩ := List.mem_map.1 hps'
        obtain ⟨k', hk'⟩ := List.mem_iff_getElem?.1 hps0
        have hlt' : p' < dl := tlen_lt (f1.inc k' ps0 hk') ps0.length (Nat.le_refl _) p' hp'
        rw [List.getElem?_append_left (by omega), List.getElem?_take, if_pos hlt']
        exact hu
      have hdsf : ∀ (ty : Nat), ty = (if ch.toNat = 126 then 142 else if d = 2 then 140 else 137) → DsR 0 (closeStep ch d pos (List.replicate m2 ch) true sc sn S1).dst (dvals1.take dl ++ [.iface ty (lp qx)]) (Kb ++ ((qx, cellsOf [str (List.replicate d ch), vx] 139) :: (Rx ++ K1c))) := by
        intro ty hty
        rw [hstep]
        exact hKb.snoc (.other (mkNode_noem _ _ _) (.node hX hInl ty hty))
      have hcut : ∀ (ty : Nat) (v' : Value) (W' : Blk), SubH [W', dstv r4 v', arrb r7 sv2, emb q (List.replicate (m + 1 - d) ch) o true i0 nn, SK', K1a ++ (emb qs1 (List.replicate (m2 - d) ch) true sc pos sn ++ K1c), [(qx, cellsOf [str (List.replicate d ch), vx] 139)], Rx, SB2] [W', dstv r4 v', arrb r7 sv2, emb q (List.replicate (m + 1 - d) ch) o true i0 nn, SK', Kb ++ ((qx, cellsOf [str (List.replicate d ch), vx] 139) :: (Rx ++ K1c)), SB2] := by
        intro ty v' W'
        refine SubH.trans (H' := [K1a ++ (emb qs1 (List.replicate (m2 - d) ch) true sc pos sn ++ K1c), W', dstv r4 v', arrb r7 sv2, emb q (List.replicate (m + 1 - d) ch) o true i0 nn, SK', [(qx, cellsOf [str (List.replicate d ch), vx] 139)], Rx, SB2]) sA ?_
        refine SubH.trans (H' := [K1a, emb qs1 (List.replicate (m2 - d) ch) true sc pos sn] ++ [K1c, W', dstv r4 v', arrb r7 sv2, emb q (List.replicate (m + 1 - d) ch) o true i0 nn, SK', [(qx, cellsOf [str (List.replicate d ch), vx] 139)], Rx, SB2]) ⟨[], by simp⟩ ?_
        refine SubH.trans (SubH.frame hKbs) ?_
        refine SubH.trans (H' := [W', dstv r4 v', arrb r7 sv2, emb q (List.replicate (m + 1 - d) ch) o true i0 nn, SK', Kb, [(qx, cellsOf [str (List.replicate d ch), vx] 139)], Rx, K1c, SB2]) sA ?_
        exact ⟨[], by simp⟩
      have hd' : d = dOf (m + 1) m2 := by rw [← hd, hlr2]
      have hstk5 : (closeStep ch d pos (List.replicate m2 ch) true sc sn S1).st = S1.st.map (trimTop dl) := by rw [hstep]
      by_cases h126 : ch.toNat = 126
      · rw [decide_eq_true h126]
        have hty := hdsf 142 (by rw [if_pos h126])
        (repeat' (first | refine z6 ?_ | refine zc ?_ | refine z8 ?_ | refine zn ?_ | refine zan ?_ | refine zb7 (fun _ => ?_)))
        refine zc6 hrw2 (by omega) (by omega) (fun v' W' hrw' => ?_)
        have hov : oneCell v' = true := by obtain ⟨_, _, h⟩ := rwShape hrw'; rw [h]; rfl
        (repeat' (first | refine za5 (hv := hov) ?_ | refine z2 ?_ | refine z1 ?_ | refine zw ?_))
        exact ⟨hQ3 hok d v' _ W' _ sv2 SB2 hd' hrw' hty (by rw [hstk5]; exact hS3 _) _ _ kA (SubH.trans (H' := [W', dstv r4 v', arrb r7 sv2, emb q (List.replicate (m + 1 - d) ch) o true i0 nn, SK', K1a ++ (emb qs1 (List.replicate (m2 - d) ch) true sc pos sn ++ K1c), [(qx, cellsOf [str (List.replicate d ch), vx] 139)], Rx, SB2]) sA (hcut 0 v' W'))⟩
      · rw [decide_eq_false h126]
        by_cases hd2' : d = 2
        · have hty := hdsf 140 (by rw [if_neg h126, if_pos hd2'])
          (repeat' (first | refine z7 ?_ | refine z6 ?_ | refine z2 ?_ | refine z1 ?_ | refine zc ?_ | refine zb ?_ | refine z8 ?_ | refine zn ?_ | refine zt ?_ | refine zan ?_ | refine zb7 (fun _ => ?_)))
          refine zc6 hrw2 (by omega) (by omega) (fun v' W' hrw' => ?_)
          have hov : oneCell v' = true := by obtain ⟨_, _, h⟩ := rwShape hrw'; rw [h]; rfl
          (repeat' (first | refine za5 (hv := hov) ?_ | refine z2 ?_ | refine z1 ?_ | refine zw ?_))
          exact ⟨hQ3 hok d v' _ W' _ sv2 SB2 hd' hrw' hty (by rw [hstk5]; exact hS3 _) _ _ kA (SubH.trans (H' := [W', dstv r4 v', arrb r7 sv2, emb q (List.replicate (m + 1 - d) ch) o true i0 nn, SK', K1a ++ (emb qs1 (List.replicate (m2 - d) ch) true sc pos sn ++ K1c), [(qx, cellsOf [str (List.replicate d ch), vx] 139)], Rx, SB2]) sA (hcut 0 v' W'))⟩
        · have hty := hdsf 137 (by rw [if_neg h126, if_neg hd2'])
          (repeat' (first | refine z7 ?_ | refine z6 ?_ | refine z2 ?_ | refine z1 ?_ | refine zb ?_ | refine z8 ?_ | refine zn ?_ | refine zr ?_ | refine zan ?_ | refine zb7 (fun _ => ?_)))
          refine zc6 hrw2 (by omega) (by omega) (fun v' W' hrw' => ?_)
          have hov : oneCell v' = true := by obtain ⟨_, _, h⟩ := rwShape hrw'; rw [h]; rfl
          (repeat' (first | refine za5 (hv := hov) ?_ | refine z2 ?_ | refine z1 ?_ | refine zw ?_))
          exact ⟨hQ3 hok d v' _ W' _ sv2 SB2 hd' hrw' hty (by rw [hstk5]; exact hS3 _) _ _ kA (SubH.trans (H' := [W', dstv r4 v', arrb r7 sv2, emb q (List.replicate (m + 1 - d) ch) o true i0 nn, SK', K1a ++ (emb qs1 (List.replicate (m2 - d) ch) true sc pos sn ++ K1c), [(qx, cellsOf [str (List.replicate d ch), vx] 139)], Rx, SB2]) sA (hcut 0 v' W'))⟩

end Go.Proofs

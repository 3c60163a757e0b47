/- The tokens of two words with a struck word between them, and of a text taken as it is: plain facts on lists. Conditions: Word. -/
import Derived.Test.YtfnflaloojpckaaGreatDoorT21
import Derived.Test.YtfnflaloojpckaaGreatDoorT05
import Derived.Test.YtfnflaloojpckaaGreatDoorT16
import Derived.Test.YtfnflaloojpckaaGreatDoorT15
import Derived.Test.YtfnflaloojpckaaGreatDoorT13
namespace Go.Proofs
open Go Go.Eng
set_option maxRecDepth 20000
set_option maxHeartbeats 4000000

/-- W16's contract with one more chunk, that inline may use. -/
theorem parseE_tr (pr : Nat) (EB : Blk) (o : PO) (ls : List (List UInt8)) (tx : List UInt8) (htx : jn ls = tx) (hls : ls ≠ []) (hll : ls.length ≤ 1000) (htl : tx.length ≤ 1000000) (hL : ∀ l ∈ ls, PL l) (IL : Option Addr → Nat → Nat → Blk → Prop) (htab : o.table = false) (htask : o.tasks = false) (h1 : at0 tx 0 ≠ 32) (h2 : at0 tx 0 ≠ 9) (h3 : at0 tx 0 ≠ 10) (h4 : at0 tx 0 ≠ 91)
    (hI : ∀ (p : Nat) (s : PS), s.par = lp pr → s.corner = .bool false → s.links = .map none → s.bt.length = 81 → Tr Tryz.prog 40 [lp p, str tx] [s.blk p, o.blk pr, EB] fun u K => ∃ s' : PS, ∃ ia im ic G, u = .slice ia im ic ∧ IL ia im ic G ∧ s'.par = s.par ∧ s'.root = s.root ∧ K = [s'.blk p, o.blk pr, EB, G]) :
    Tr Tryz.prog 32 [lp pr, str tx] [o.blk pr, EB] fun u K => ∃ d q t cv e ia im ic IB ja jm jc G, u = .tuple #[lp d, cv] ∧ Blks (.slice ia im ic) [.iface 188 (lp q)] IB ∧ IL ja jm jc G ∧
      K = [o.blk pr, EB, docb d 0 e (.slice ia im ic) (.map none), pgb q 1 (1 + ls.length - 1) t, txb t 1 (1 + ls.length - 1) (.slice ja jm jc) tx, IB, G] := by
  obtain ⟨l0, r0, rfl⟩ : ∃ l0 r0, ls = l0 :: r0 := by cases ls with | nil => exact absurd rfl hls | cons a b => exact ⟨a, b, rfl⟩
  have hl0 := hL l0 (by simp)
  have hno : ∀ c : UInt8, c = 0 ∨ c = 13 → ∀ d ∈ tx, d ≠ c := by
    intro c hc d hd e
    subst e
    rw [← htx] at hd
    rcases jn_mem _ _ hd with h | ⟨l, hl, h⟩
    · rcases hc with hc | hc <;> (rw [hc] at h; exact absurd h (by decide))
    · have := (hL l hl).c d h
      rcases hc with hc | hc
      · exact this.2.2 hc
      · exact this.2.1 hc
  have n0 := fst1_no (hno 0 (.inl rfl))
  have htl' : tx.length ≤ 140737488355328 := by omega
  have hne : ¬ tx = [] := by
    intro h; rw [h] at htx
    cases r0 with
    | nil => rw [jn_one] at htx; exact hl0.ne htx
    | cons b r => rw [jn_cons] at htx; simp at htx
  have hpos : 0 < tx.length := by cases tx with | nil => exact absurd rfl hne | cons _ _ => simp
  obtain ⟨o1, o2, o3, o4, o5, o6, o7, o8, o9, o10⟩ := o
  subst htab; subst htask
  refine Tr.start (n := 114) (rs := [.tmp 4, .tmp 5]) rfl rfl rfl rfl fun B => ?_
  (repeat' (first | refine zt (zzContains_tr tx 0 htl' n0) ?_ | refine za ?_ | refine z8 ?_ | refine z6 ?_ | refine z7 ?_ | refine zd ?_ | refine zf ?_ | refine zb ?_ | refine zc ?_ | refine zp ?_ | refine zau ?_ | refine za8 ?_ | refine zaw ?_ | refine zal (fun _ => ?_) | refine zam (fun _ => ?_)))
  rename_i p rb
  refine za1 (addBlock_root p (⟨lp pr, .pointer none, .map none, inat 0, .slice none 0 0, .int .i64 (-1), .bool false, str [], .int .i64 0, .slice none 0 0, .slice none 0 0, .slice none 0 0, bt0⟩ : PS) _ (lp rb) 0 rfl rfl rfl) (fun u K hR => ?_)
  obtain ⟨rfl, g, cap, cur, hO, rfl⟩ := hR
  (repeat' (first | refine za ?_ | refine z6 ?_ | refine z7 ?_))
  refine zat (fun x : PLoop => [(0, lp pr), (6, lp p)])
    (fun x => match x with
      | .a => []
      | .b k t e g' cap' cur' pb tv Bt => [(⟨lp pr, .pointer none, .map none, inat k, stk g' 2 cap', inat 0, .bool false, str [], .int .i64 0, .slice none 0 0, .slice none 0 0, .slice none 0 0, bt0⟩ : PS).blk p, stb g' cur', (⟨o1, o2, false, o4, o5, false, o7, o8, o9, o10⟩ : PO).blk pr, EB, pbb pb tv, Bt])
    (fun x => match x with
      | .a => False
      | .b k t e g' cap' cur' pb tv Bt => k = (l0 :: r0).length ∧ Stk (stk g' 2 cap') 2 ([.iface 109 (lp rb), .slice none 0 0, inat 0, inat e] ++ [.iface 221 (lp pb), .slice none 0 0, inat 1, inat k]) (stb g' cur') ∧ Strs tv (l0 :: r0) Bt) ?_ ?_
  · (repeat' (first | refine zg ?_))
    refine za7 (fun x : PLoop => match x with
      | .a => [(0, lp pr), (1, str tx), (6, lp p)]
      | .b k t .. => [(0, lp pr), (1, str t), (6, lp p)])
      (fun x => match x with
      | .a => [(⟨lp pr, .pointer none, .map none, inat 0, stk g 1 cap, .int .i64 (-1), .bool false, str [], .int .i64 0, .slice none 0 0, .slice none 0 0, .slice none 0 0, bt0⟩ : PS).blk p, stb g cur, (⟨o1, o2, false, o4, o5, false, o7, o8, o9, o10⟩ : PO).blk pr, EB]
      | .b k t e g' cap' cur' pb tv Bt => [(⟨lp pr, .pointer none, .map none, inat k, stk g' 2 cap', inat 0, .bool false, str [], .int .i64 0, .slice none 0 0, .slice none 0 0, .slice none 0 0, bt0⟩ : PS).blk p, stb g' cur', (⟨o1, o2, false, o4, o5, false, o7, o8, o9, o10⟩ : PO).blk pr, EB, pbb pb tv, Bt])
      (fun x => match x with
      | .a => True
      | .b k t e g' cap' cur' pb tv Bt => (1 ≤ k ∧ k ≤ (l0 :: r0).length ∧ t = jn ((l0 :: r0).drop k)) ∧ Stk (stk g' 2 cap') 2 ([.iface 109 (lp rb), .slice none 0 0, inat 0, inat e] ++ [.iface 221 (lp pb), .slice none 0 0, inat 1, inat k]) (stb g' cur') ∧ Strs tv ((l0 :: r0).take k) Bt)
      (fun x => match x with
      | .a => (l0 :: r0).length + 1
      | .b k .. => (l0 :: r0).length - k) .a trivial kB sA fun x hx => ?_
    cases x with
    | a =>
      have n13 := fst1_no (hno 13 (.inr rfl))
      cases r0 with
      | nil =>
        have e1 : l0 = tx := by rw [← htx, jn_one]
        subst e1
        have n10 := fst1_no (c := 10) (l := l0) (fun d hd => (hl0.c d hd).1)
        (repeat' (first | refine zt (zzIndex_tr l0 10 htl' (-1) (by rw [if_neg n10])) ?_ | refine zt (zzIndex_tr l0 13 htl' (-1) (by rw [if_neg n13])) ?_ | refine za ?_ | refine z8 ?_ | refine z6 ?_ | refine z7 ?_ | refine ze ?_ | refine zd ?_ | refine zg ?_ | refine zf ?_ | refine zu ?_ | refine za6 ?_ | refine zb2 ?_ | refine zb ?_ | refine zc ?_ | refine zr ?_ | refine zp ?_ | refine zm ?_ | refine zaf ?_ | refine zn ?_ | refine zc3 ?_ | refine za8 ?_ | refine zaw ?_))
        refine za1 (addLine_first p g cap pr (⟨o1, o2, false, o4, o5, false, o7, o8, o9, o10⟩ : PO) (⟨lp pr, .pointer none, .map none, inat 1, stk g 1 cap, .int .i64 (-1), .bool false, str [], .int .i64 0, .slice none 0 0, .slice none 0 0, .slice none 0 0, bt0⟩ : PS) cur _ (lp rb) _ _ _ 1 l0 0 hl0.p hO rfl rfl rfl rfl rfl rfl) (fun u K hR => ?_)
        obtain ⟨rfl, g', cap', cur', pb, tv, Bt, k1, k2, rfl⟩ := hR
        rw [hl0.t] at k2
        (repeat' (first | refine z6 ?_ | refine z7 ?_ | refine zu ?_))
        exact ⟨.b 1 [] 0 g' cap' cur' pb tv Bt, kB, sA, ⟨⟨by omega, by simp, rfl⟩, k1, k2⟩, (by show _ < _; simp)⟩
      | cons b r =>
        have e1 : tx = l0 ++ 10 :: jn (b :: r) := by rw [← htx, jn_cons]
        have f10 := fst1_mid l0 (jn (b :: r)) (fun d hd => (hl0.c d hd).1)
        have hlen : tx.length = l0.length + (jn (b :: r)).length + 1 := by rw [e1]; simp; omega
        have e2 : tx.take l0.length = l0 := by rw [e1]; simp
        have e3 : tx.drop (l0.length + 1) = jn (b :: r) := by rw [e1]; simp
        (repeat' (first | refine Wp.draw_all (id := 22) Mixed.out (by kernel_rfl) ?_ | refine zt (zzIndex_tr tx 10 htl' l0.length (by rw [e1, f10, if_pos (by simp)])) ?_ | refine zt (zzIndex_tr tx 13 htl' (-1) (by rw [if_neg n13])) ?_ | refine za ?_ | refine z8 ?_ | refine z6 ?_ | refine z7 ?_ | refine ze ?_ | refine zd ?_ | refine zg ?_ | refine zf ?_ | refine zu ?_ | refine za6 ?_ | refine zb2 ?_ | refine zb ?_ | refine zc ?_ | refine zr ?_ | refine zp ?_ | refine zm ?_ | refine zav ?_ | refine zaf ?_ | refine zn ?_ | refine zc3 ?_ | refine za8 ?_ | refine zaw ?_ | refine zab ?_ | refine za9 ?_ | refine zbf ?_ | refine zcj ?_ | refine zdg ?_ | refine zem ?_))
        have hpa : PLine 0 (tx.take l0.length) := e2.symm ▸ hl0.p
        refine za1 (addLine_first p g cap pr (⟨o1, o2, false, o4, o5, false, o7, o8, o9, o10⟩ : PO) (⟨lp pr, .pointer none, .map none, inat 1, stk g 1 cap, .int .i64 (-1), .bool false, str [], .int .i64 0, .slice none 0 0, .slice none 0 0, .slice none 0 0, bt0⟩ : PS) cur _ (lp rb) _ _ _ 1 (tx.take l0.length) 10 hpa hO rfl rfl rfl rfl rfl rfl) (fun u K hR => ?_)
        obtain ⟨rfl, g', cap', cur', pb, tv, Bt, k1, k2, rfl⟩ := hR
        rw [e2, hl0.t] at k2
        (repeat' (first | refine z6 ?_ | refine z7 ?_ | refine zu ?_))
        exact ⟨.b 1 (tx.drop (l0.length + 1)) 0 g' cap' cur' pb tv Bt, kB, sA, ⟨⟨by omega, by simp, e3⟩, k1, k2⟩, (by show _ < _; simp)⟩
    | b k t e g' cap' cur' pb tv Bt =>
      obtain ⟨⟨hk1, hk2, ht⟩, k1, k2⟩ := hx
      cases hr : (l0 :: r0).drop k with
      | nil =>
        have hk : k = (l0 :: r0).length := by
          have := congrArg List.length hr
          rw [List.length_drop] at this
          simp only [List.length_nil] at this
          omega
        rw [List.take_of_length_le (by omega)] at k2
        have e0 : t = [] := by rw [ht, hr]; rfl
        (repeat' (first | refine za ?_ | refine z8 ?_ | refine z6 ?_ | refine z7 ?_ | refine zd ?_ | refine zy ?_ | refine zz ?_ | refine za0 ?_ | refine zb ?_ | refine zck ?_))
        exact ⟨.b k t e g' cap' cur' pb tv Bt, kA, sA, hk, k1, k2⟩
      | cons a r =>
        have hka : (l0 :: r0)[k]? = some a := by
          have h : ((l0 :: r0).drop k)[0]? = some a := by rw [hr]; rfl
          rw [List.getElem?_drop] at h
          simpa using h
        have hkl : k < (l0 :: r0).length := (List.getElem?_eq_some_iff.1 hka).1
        have ha := hL a (List.mem_of_getElem? hka)
        have hdr : (l0 :: r0).drop (k + 1) = r := by rw [← List.tail_drop, hr]; rfl
        have htk : (l0 :: r0).take (k + 1) = (l0 :: r0).take k ++ [a] := by rw [List.take_add_one, hka]; rfl
        rw [hr] at ht
        have hsub : ∀ d ∈ t, d ≠ 13 := by
          intro d hd
          rw [ht] at hd
          rcases jn_mem _ _ hd with h | ⟨l, hl, h⟩
          · rw [h]; decide
          · have hm : l ∈ (l0 :: r0) := List.mem_of_mem_drop (by rw [hr]; exact hl)
            exact ((hL l hm).c d h).2.1
        have n13 := fst1_no hsub
        have hjl : t.length ≤ 140737488355328 := by
          have h := jn_drop (l0 :: r0) k
          rw [hr, htx, ← ht] at h
          omega
        cases r with
        | nil =>
          rw [jn_one] at ht
          subst ht
          have n10 := fst1_no (c := 10) (l := t) (fun d hd => (ha.c d hd).1)
          have hn0 : ¬ t = [] := ha.ne
          (repeat' (first | refine zt (zzIndex_tr t 10 hjl (-1) (by rw [if_neg n10])) ?_ | refine zt (zzIndex_tr t 13 hjl (-1) (by rw [if_neg n13])) ?_ | refine za ?_ | refine z8 ?_ | refine z6 ?_ | refine z7 ?_ | refine ze ?_ | refine zd ?_ | refine zg ?_ | refine zf ?_ | refine zu ?_ | refine za6 ?_ | refine zb2 ?_ | refine zb ?_ | refine zc ?_ | refine zr ?_ | refine zp ?_ | refine zm ?_ | refine zaf ?_ | refine zn ?_ | refine zc3 ?_ | refine za8 ?_ | refine zaw ?_))
          refine za1 (addLine_more p g' cap' pr pb (⟨o1, o2, false, o4, o5, false, o7, o8, o9, o10⟩ : PO) (⟨lp pr, .pointer none, .map none, inat (k + 1), stk g' 2 cap', inat 0, .bool false, str [], .int .i64 0, .slice none 0 0, .slice none 0 0, .slice none 0 0, bt0⟩ : PS) cur' _ (lp rb) _ _ _ _ _ _ tv ((l0 :: r0).take k) Bt (k + 1) t 0 ha.p (by rw [List.length_take]; omega) k1 k2 rfl rfl rfl rfl rfl) (fun u K hR => ?_)
          obtain ⟨rfl, cur2, tv2, Bt2, k1', k2', rfl⟩ := hR
          rw [ha.t, ← htk] at k2'
          (repeat' (first | refine z6 ?_ | refine z7 ?_ | refine zu ?_))
          exact ⟨.b (k + 1) [] (k + 1) g' cap' cur2 pb tv2 Bt2, kB, sA, ⟨⟨by omega, by omega, by rw [hdr]; rfl⟩, k1', k2'⟩, (by show (l0 :: r0).length - (k + 1) < (l0 :: r0).length - k; omega)⟩
        | cons b r =>
          rw [jn_cons] at ht
          have f10 := fst1_mid a (jn (b :: r)) (fun d hd => (ha.c d hd).1)
          rw [← ht] at f10
          have e2 : t.take a.length = a := by rw [ht]; simp
          have e3 : t.drop (a.length + 1) = jn (b :: r) := by rw [ht]; simp
          have hlen : t.length = a.length + (jn (b :: r)).length + 1 := by rw [ht]; simp; omega
          have hn0 : ¬ t = [] := by intro h; rw [h] at hlen; simp at hlen
          have hpa : PLine 0 (t.take a.length) := e2.symm ▸ ha.p
          (repeat' (first | refine Wp.draw_all (id := 22) Mixed.out (by kernel_rfl) ?_ | refine zt (zzIndex_tr t 10 hjl a.length (by rw [f10, if_pos (by omega)])) ?_ | refine zt (zzIndex_tr t 13 hjl (-1) (by rw [if_neg n13])) ?_ | refine za ?_ | refine z8 ?_ | refine z6 ?_ | refine z7 ?_ | refine ze ?_ | refine zd ?_ | refine zg ?_ | refine zf ?_ | refine zu ?_ | refine za6 ?_ | refine zb2 ?_ | refine zb ?_ | refine zc ?_ | refine zr ?_ | refine zp ?_ | refine zm ?_ | refine zav ?_ | refine zaf ?_ | refine zn ?_ | refine zc3 ?_ | refine za8 ?_ | refine zaw ?_ | refine zab ?_ | refine za9 ?_ | refine zbf ?_ | refine zcj ?_ | refine zdg ?_ | refine zem ?_))
          refine za1 (addLine_more p g' cap' pr pb (⟨o1, o2, false, o4, o5, false, o7, o8, o9, o10⟩ : PO) (⟨lp pr, .pointer none, .map none, inat (k + 1), stk g' 2 cap', inat 0, .bool false, str [], .int .i64 0, .slice none 0 0, .slice none 0 0, .slice none 0 0, bt0⟩ : PS) cur' _ (lp rb) _ _ _ _ _ _ tv ((l0 :: r0).take k) Bt (k + 1) (t.take a.length) 10 hpa (by rw [List.length_take]; omega) k1 k2 rfl rfl rfl rfl rfl) (fun u K hR => ?_)
          obtain ⟨rfl, cur2, tv2, Bt2, k1', k2', rfl⟩ := hR
          rw [e2, ha.t, ← htk] at k2'
          (repeat' (first | refine z6 ?_ | refine z7 ?_ | refine zu ?_))
          exact ⟨.b (k + 1) (t.drop (a.length + 1)) (k + 1) g' cap' cur2 pb tv2 Bt2, kB, sA, ⟨⟨by omega, by omega, by rw [hdr]; exact e3⟩, k1', k2'⟩, (by show (l0 :: r0).length - (k + 1) < (l0 :: r0).length - k; omega)⟩
  · intro x hx
    cases x with
    | a => exact hx.elim
    | b k t e g' cap' cur' pb tv Bt =>
      obtain ⟨rfl, k1, k2⟩ := hx
      (repeat' (first | refine za ?_ | refine z8 ?_))
      refine zcu ?_
      refine za1 (trimAll p g' cap' pb rb (⟨lp pr, .pointer none, .map none, inat (l0 :: r0).length, stk g' 2 cap', inat 0, .bool false, str [], .int .i64 0, .slice none 0 0, .slice none 0 0, .slice none 0 0, bt0⟩ : PS) cur' tv Bt tx [] [] _ 1 (l0 :: r0).length 0 e htl' hpos h1 h2 h3 h4 (by omega) k1 rfl none rfl (Own.nil _ _) (by simp) (l0 :: r0) k2 htx (by simp) (by omega) (by omega)) (fun u K hR => ?_)
      obtain ⟨q, t, v', TB', cur2, ia, im, ic, IB, d, rfl, j1, j2, rfl⟩ := hR
      have j1' : Own 116 1 v' (0 + 1) [lp t] TB' := j1
      obtain ⟨g3, cap3, cur3, rfl, rfl, i1, i2, i3, i4⟩ := j1'.pos
      have c0 : cur3[0 + 0 * 1]? = some (lp t) := j1'.get rfl
      (repeat' (first | refine za ?_ | refine z8 ?_ | refine z6 ?_ | refine z7 ?_ | refine zb ?_ | refine zr ?_ | refine zp ?_ | refine zac ?_))
      refine zat (fun x : ILoop => [(0, lp pr), (6, lp p)])
        (fun x => match x with
          | .a => []
          | .b s' ja jm jc G => [s'.blk p, (⟨o1, o2, false, o4, o5, false, o7, o8, o9, o10⟩ : PO).blk pr, EB, txb t 1 (1 + (l0 :: r0).length - 1) (.slice ja jm jc) tx, G, [(g3, cellsOf cur3 116)], pgb q 1 (1 + (l0 :: r0).length - 1) t, IB, docb d 0 e (.slice ia im ic) (.map none)])
        (fun x => match x with
          | .a => False
          | .b s' ja jm jc G => IL ja jm jc G ∧ s'.par = lp pr ∧ s'.root = lp d) ?_ ?_
      · (repeat' (first | refine zg ?_))
        refine za7 (fun x : ILoop => match x with
          | .a => [(0, lp pr), (6, lp p), (81, .slice (some ⟨g3, 0, none⟩) (0 + 1) cap3), (82, inat (0 + 1)), (83, inat 0)]
          | .b .. => [(0, lp pr), (6, lp p), (81, .slice (some ⟨g3, 0, none⟩) (0 + 1) cap3), (82, inat (0 + 1)), (83, inat 1)])
          (fun x => match x with
          | .a => [(⟨lp pr, lp d, .map none, inat (l0 :: r0).length, stk g' 0 cap', inat 0, .bool false, str [], .int .i64 0, .slice none 0 0, .slice none 0 0, .slice (some ⟨g3, 0, none⟩) (0 + 1) cap3, bt0⟩ : PS).blk p, (⟨o1, o2, false, o4, o5, false, o7, o8, o9, o10⟩ : PO).blk pr, EB, txb t 1 (1 + (l0 :: r0).length - 1) (.slice none 0 0) tx, [(g3, cellsOf cur3 116)], pgb q 1 (1 + (l0 :: r0).length - 1) t, IB, docb d 0 e (.slice ia im ic) (.map none)]
          | .b s' ja jm jc G => [s'.blk p, (⟨o1, o2, false, o4, o5, false, o7, o8, o9, o10⟩ : PO).blk pr, EB, txb t 1 (1 + (l0 :: r0).length - 1) (.slice ja jm jc) tx, G, [(g3, cellsOf cur3 116)], pgb q 1 (1 + (l0 :: r0).length - 1) t, IB, docb d 0 e (.slice ia im ic) (.map none)])
          (fun x => match x with
          | .a => True
          | .b s' ja jm jc G => IL ja jm jc G ∧ s'.par = lp pr ∧ s'.root = lp d)
          (fun x => match x with
          | .a => 1
          | .b .. => 0) .a trivial kB sA fun x hx => ?_
        cases x with
        | a =>
          (repeat' (first | refine zr (hc := c0) ?_ | refine za ?_ | refine z8 ?_ | refine z6 ?_ | refine z7 ?_ | refine ze ?_ | refine zg ?_ | refine zf ?_ | refine zb ?_ | refine zc ?_ | refine zr ?_ | refine zp ?_ | refine zq ?_ | refine zo ?_ | refine zaj ?_))
          refine za1 (hI p (⟨lp pr, lp d, .map none, inat (l0 :: r0).length, stk g' 0 cap', inat 0, .bool false, str [], .int .i64 0, .slice none 0 0, .slice none 0 0, .slice (some ⟨g3, 0, none⟩) (0 + 1) cap3, bt0⟩ : PS) rfl rfl rfl rfl) (fun u K hR => ?_)
          obtain ⟨s', ja, jm, jc, G, rfl, m1, m2, m3, rfl⟩ := hR
          (repeat' (first | refine z8 ?_ | refine z6 ?_ | refine z7 ?_ | refine zu ?_ | refine zb ?_ | refine zp ?_ | refine zq ?_ | refine zm ?_ | refine za8 ?_))
          exact ⟨.b s' ja jm jc G, kB, sA, ⟨m1, m2, m3⟩, (by show 0 < 1; omega)⟩
        | b s' ja jm jc G =>
          (repeat' (first | refine za ?_ | refine z8 ?_ | refine z6 ?_ | refine z7 ?_ | refine zd ?_ | refine zy ?_ | refine zz ?_ | refine za0 ?_ | refine za4 ?_))
          exact ⟨.b s' ja jm jc G, kA, sA, hx⟩
      · intro x hx
        cases x with
        | a => exact hx.elim
        | b s' ja jm jc G =>
          obtain ⟨m1, m2, m3⟩ := hx
          obtain ⟨par, root, links, lineno, stack, depth, corner, sv, em, list, lists, texts, bt⟩ := s'
          subst m2 m3
          (repeat' (first | refine Wp.draw_all (id := 38) Mixed.out (by kernel_rfl) ?_ | refine za ?_ | refine z8 ?_ | refine z6 ?_ | refine z7 ?_ | refine zd ?_ | refine zf ?_ | refine zh ?_ | refine zb ?_ | refine zr ?_ | refine zp ?_ | refine zq ?_ | refine zab ?_ | refine zbf ?_ | refine za5 ?_ | refine zai ?_))
          exact e_ret _ ⟨d, q, t, _, e, ia, im, ic, IB, ja, jm, jc, G, rfl, j2, m1, rfl⟩ sA
end Go.Proofs

namespace Go.Proofs
open Go Go.Eng
set_option maxRecDepth 20000
set_option maxHeartbeats 1000000

mutual
/-- The HTML of an inline. -/
def htmlI : In → List UInt8
  | .plain t => escH t
  | .esc t => escH t
  | .soft => [10]
  | .hard => [60, 98, 114, 32, 47, 62, 10]
  | .code t => [60, 99, 111, 100, 101, 62] ++ escH t ++ [60, 47, 99, 111, 100, 101, 62]
  | .auto t u => [60, 97, 32, 104, 114, 101, 102, 61, 34] ++ pairH linkPairs u ++ [34, 62] ++ escH t ++ [60, 47, 97, 62]
  | .tag t => t
  | .op t _ => escH t
  | .em t _ _ _ => escH t
  | .emph _ l => [60, 101, 109, 62] ++ (htmlIs l).flatten ++ [60, 47, 101, 109, 62]
  | .strong _ l => [60, 115, 116, 114, 111, 110, 103, 62] ++ (htmlIs l).flatten ++ [60, 47, 115, 116, 114, 111, 110, 103, 62]
  | .del _ l => [60, 100, 101, 108, 62] ++ (htmlIs l).flatten ++ [60, 47, 100, 101, 108, 62]
  | .link d l => linkH d.url d.title (htmlIs l).flatten
  | .image d l => imageH d.url d.title (textIs l).flatten
def htmlIs : List In → List (List UInt8)
  | [] => []
  | x :: l => htmlI x :: htmlIs l
/-- The text of an inline, as an image's alternative text has it. -/
def textI : In → List UInt8
  | .plain t => escH t
  | .esc t => escH t
  | .soft => [10]
  | .hard => [10]
  | .code t => escH t
  | .auto t _ => escH t
  | .tag _ => []
  | .op t _ => escH t
  | .em t _ _ _ => escH t
  | .emph _ l => (textIs l).flatten
  | .strong _ l => (textIs l).flatten
  | .del _ l => (textIs l).flatten
  | .link _ l => (textIs l).flatten
  | .image _ l => (textIs l).flatten
def textIs : List In → List (List UInt8)
  | [] => []
  | x :: l => textI x :: textIs l
/-- No text is too long. -/
def SzI : In → Prop
  | .plain t => t.length ≤ 10000
  | .esc t => t.length ≤ 10000
  | .soft => True
  | .hard => True
  | .code t => t.length ≤ 10000
  | .auto t u => t = u ∧ t.length ≤ 1000
  | .tag t => t.length ≤ 10000
  | .op t _ => t.length ≤ 10000
  | .em t _ _ _ => t.length ≤ 10000
  | .emph _ l => SzIs l
  | .strong _ l => SzIs l
  | .del _ l => SzIs l
  | .link d l => d.url.length ≤ 10000 ∧ d.title.length ≤ 10000 ∧ SzIs l
  | .image d l => d.url.length ≤ 10000 ∧ d.title.length ≤ 10000 ∧ SzIs l
def SzIs : List In → Prop
  | [] => True
  | x :: l => SzI x ∧ SzIs l
end
theorem htmlIs_len : ∀ l : List In, (htmlIs l).length = l.length
  | [] => rfl
  | x :: l => by simp [htmlIs, htmlIs_len l]
theorem textIs_len : ∀ l : List In, (textIs l).length = l.length
  | [] => rfl
  | x :: l => by simp [textIs, textIs_len l]

end Go.Proofs

namespace Go.Proofs
open Go Go.Eng
set_option maxRecDepth 40000
set_option maxHeartbeats 1000000

theorem tagHG_tr (q b : Nat) (t : List UInt8) (v : Value) (l : List UInt8) (R G : Blk) (lr : Int) (hx : (q, cellsOf [str t] 146) ∈ G) (hR : BRow v l R) (hne : l ≠ []) (hlim : l.length + t.length ≤ 900000) :
    Tr Tryz.prog 288 [lp q, lp b] [G, bufb b v lr, R] fun u K => u = unit ∧ ∃ v' R' lr', BRow v' (l ++ t) R' ∧ K = [G, bufb b v' lr', R'] := by
  have hm : ∀ H, HMem (G :: H) q (cellsOf [str t] 146) := fun H => HMem.of_chunk hx
  refine Tr.start (n := 10) (rs := []) rfl rfl rfl rfl fun B => ?_
  (repeat' (first | refine zr (hm := hm _) ?_ | refine z8 ?_ | refine zb ?_ | refine zp ?_ | refine zq ?_))
  refine za1 (writeAny_tr b v l R lr t hR hne (by omega)) (fun u K hR => ?_)
  obtain ⟨rfl, v', R', h9, rfl⟩ := hR
  (repeat' (first | refine z6 ?_))
  exact e_norm [G, bufb b v' 0, R'] ⟨rfl, v', R', 0, h9, rfl⟩ sA

/-- The inlines of a slice put their texts into the buffer, one behind the other. -/
theorem shown_of {nm : String} {sv : Value} {vals : List Value} {LB G : Blk} {outs : List (List UInt8)} (hO : Own 85 1 sv vals.length vals LB) (hG : ∀ y ∈ LB, y ∈ G) (hl : outs.length = vals.length) (h : ∀ (j : Nat) (v : Value), vals[j]? = some v → ∃ out, outs[j]? = some out ∧ PrnG nm v G out) : ShownG nm sv G outs :=
  ⟨vals, ⟨LB, hO, hG⟩, hl, h⟩
theorem of_one {a : Nat × Obj} {G : Blk} (h : ∀ y ∈ [a], y ∈ G) : a ∈ G := h _ (by simp)
mutual
theorem prnI : ∀ (x : In) {v : Value} {K G : Blk}, InR x v K → (∀ y ∈ K, y ∈ G) → SzI x → PrnG "PrintHTML" v G (htmlI x) ∧ PrnG "PrintText" v G (textI x)
  | .plain t, _, _, G, h, hG, hs => by
    cases h
    rename_i q T r
    exact ⟨⟨_, _, rfl, 300, inferInstance, fun w => by kernel_rfl, fun b v l R lr hR hn hl => plainH_tr q b t (r) (T) v l R G lr (of_one hG) hs hR (by omega)⟩,
      ⟨_, _, rfl, 301, inferInstance, fun w => by kernel_rfl, fun b v l R lr hR hn hl => plainT_tr q b t (r) (T) v l R G lr (of_one hG) hs hR (by omega)⟩⟩
  | .esc t, _, _, G, h, hG, hs => by
    cases h
    rename_i q
    exact ⟨⟨_, _, rfl, 300, inferInstance, fun w => by kernel_rfl, fun b v l R lr hR hn hl => plainH_tr q b t ([]) (156) v l R G lr (of_one hG) hs hR (by omega)⟩,
      ⟨_, _, rfl, 301, inferInstance, fun w => by kernel_rfl, fun b v l R lr hR hn hl => plainT_tr q b t ([]) (156) v l R G lr (of_one hG) hs hR (by omega)⟩⟩
  | .op t i, _, _, G, h, hG, hs => by
    cases h
    rename_i q
    exact ⟨⟨_, _, rfl, 300, inferInstance, fun w => by kernel_rfl, fun b v l R lr hR hn hl => plainH_tr q b t ([inat i]) (166) v l R G lr (of_one hG) hs hR (by omega)⟩,
      ⟨_, _, rfl, 301, inferInstance, fun w => by kernel_rfl, fun b v l R lr hR hn hl => plainT_tr q b t ([inat i]) (166) v l R G lr (of_one hG) hs hR (by omega)⟩⟩
  | .em t o c n, _, _, G, h, hG, hs => by
    cases h
    rename_i i q
    exact ⟨⟨_, _, rfl, 300, inferInstance, fun w => by kernel_rfl, fun b v l R lr hR hn hl => plainH_tr q b t ([.bool o, .bool c, inat i, inat n]) (202) v l R G lr (of_one hG) hs hR (by omega)⟩,
      ⟨_, _, rfl, 301, inferInstance, fun w => by kernel_rfl, fun b v l R lr hR hn hl => plainT_tr q b t ([.bool o, .bool c, inat i, inat n]) (202) v l R G lr (of_one hG) hs hR (by omega)⟩⟩
  | .soft, _, _, G, h, hG, hs => by
    cases h
    exact ⟨⟨_, _, rfl, 254, inferInstance, fun w => by kernel_rfl, fun b v l R lr hR hn hl => softH_tr _ b v l R G lr hR hn (by omega)⟩,
      ⟨_, _, rfl, 255, inferInstance, fun w => by kernel_rfl, fun b v l R lr hR hn hl => softT_tr _ b v l R G lr hR hn (by omega)⟩⟩
  | .hard, _, _, G, h, hG, hs => by
    cases h
    exact ⟨⟨_, _, rfl, 258, inferInstance, fun w => by kernel_rfl, fun b v l R lr hR hn hl => hardH_tr _ b v l R G lr hR hn (by omega)⟩,
      ⟨_, _, rfl, 259, inferInstance, fun w => by kernel_rfl, fun b v l R lr hR hn hl => hardT_tr _ b v l R G lr hR hn (by omega)⟩⟩
  | .code t, _, _, G, h, hG, hs => by
    cases h
    rename_i q
    exact ⟨⟨_, _, rfl, 262, inferInstance, fun w => by kernel_rfl, fun b v l R lr hR hn hl => codeH_tr q b t v l R G lr (of_one hG) hs hR hn (by omega)⟩,
      ⟨_, _, rfl, 263, inferInstance, fun w => by kernel_rfl, fun b v l R lr hR hn hl => codeT_tr q b t [] (132) v l R G lr (of_one hG) hs hR (by omega)⟩⟩
  | .auto t u, _, _, G, h, hG, hs => by
    obtain ⟨rfl, hs⟩ := hs
    cases h
    exact ⟨⟨_, _, rfl, 279, inferInstance, fun w => by kernel_rfl, fun b v l R lr hR hn hl => autoP_tr _ b t v l R G lr (of_one hG) hs hR hn (by omega)⟩,
      ⟨_, _, rfl, 280, inferInstance, fun w => by kernel_rfl, fun b v l R lr hR hn hl => autoT_tr _ b t t v l R G lr (of_one hG) (by omega) hR hn (by omega)⟩⟩
  | .tag t, _, _, G, h, hG, hs => by
    cases h
    exact ⟨⟨_, _, rfl, 288, inferInstance, fun w => by kernel_rfl, fun b v l R lr hR hn hl => tagHG_tr _ b t v l R G lr (of_one hG) hR hn hl⟩,
      ⟨_, _, rfl, 289, inferInstance, fun w => by kernel_rfl, fun b v l R lr hR hn hl => tagT_tr _ b v l R G lr hR⟩⟩
  | .emph m l, _, _, G, .emph (q := q) (LB := LB) (IB := IB) hL hI, hG, hs => by
    have h := prnIs l hI (fun y hy => hG y (by simp [hy])) hs
    have hS1 := shown_of (G := G) (outs := htmlIs l) hL (fun y hy => hG y (by simp [hy])) (by rw [htmlIs_len, hI.length]) h.1
    have hS2 := shown_of (G := G) (outs := textIs l) hL (fun y hy => hG y (by simp [hy])) (by rw [textIs_len, hI.length]) h.2
    exact ⟨⟨_, _, rfl, 267, inferInstance, fun w => by kernel_rfl, fun b v l2 R lr hR hn hl => emphHG_tr _ b m _ _ v l2 R G lr (hG _ (List.mem_cons_self ..)) hS1 hR (by simp only [htmlI, List.length_append, List.length_cons, List.length_nil] at hl; omega)⟩,
      ⟨_, _, rfl, 268, inferInstance, fun w => by kernel_rfl, fun b v l2 R lr hR hn hl => emphTG_tr _ b m _ _ v l2 R G lr (hG _ (List.mem_cons_self ..)) hS2 hR hn hl⟩⟩
  | .strong m l, _, _, G, .strong (q := q) (LB := LB) (IB := IB) hL hI, hG, hs => by
    have h := prnIs l hI (fun y hy => hG y (by simp [hy])) hs
    have hS1 := shown_of (G := G) (outs := htmlIs l) hL (fun y hy => hG y (by simp [hy])) (by rw [htmlIs_len, hI.length]) h.1
    have hS2 := shown_of (G := G) (outs := textIs l) hL (fun y hy => hG y (by simp [hy])) (by rw [textIs_len, hI.length]) h.2
    exact ⟨⟨_, _, rfl, 271, inferInstance, fun w => by kernel_rfl, fun b v l2 R lr hR hn hl => strongHG_tr _ b m _ _ v l2 R G lr (hG _ (List.mem_cons_self ..)) hS1 hR (by simp only [htmlI, List.length_append, List.length_cons, List.length_nil] at hl; omega)⟩,
      ⟨_, _, rfl, 272, inferInstance, fun w => by kernel_rfl, fun b v l2 R lr hR hn hl => strongTG_tr _ b m _ _ v l2 R G lr (hG _ (List.mem_cons_self ..)) hS2 hR hn hl⟩⟩
  | .del m l, _, _, G, .del (q := q) (LB := LB) (IB := IB) hL hI, hG, hs => by
    have h := prnIs l hI (fun y hy => hG y (by simp [hy])) hs
    have hS1 := shown_of (G := G) (outs := htmlIs l) hL (fun y hy => hG y (by simp [hy])) (by rw [htmlIs_len, hI.length]) h.1
    have hS2 := shown_of (G := G) (outs := textIs l) hL (fun y hy => hG y (by simp [hy])) (by rw [textIs_len, hI.length]) h.2
    exact ⟨⟨_, _, rfl, 275, inferInstance, fun w => by kernel_rfl, fun b v l2 R lr hR hn hl => delHG_tr _ b m _ _ v l2 R G lr (hG _ (List.mem_cons_self ..)) hS1 hR (by simp only [htmlI, List.length_append, List.length_cons, List.length_nil] at hl; omega)⟩,
      ⟨_, _, rfl, 276, inferInstance, fun w => by kernel_rfl, fun b v l2 R lr hR hn hl => delTG_tr _ b m _ _ v l2 R G lr (hG _ (List.mem_cons_self ..)) hS2 hR hn hl⟩⟩
  | .link d l, _, _, G, .link (q := q) (LB := LB) (IB := IB) hL hI, hG, hs => by
    obtain ⟨hu, ht, hs⟩ := hs
    have h := prnIs l hI (fun y hy => hG y (by simp [hy])) hs
    have hS1 := shown_of (G := G) (outs := htmlIs l) hL (fun y hy => hG y (by simp [hy])) (by rw [htmlIs_len, hI.length]) h.1
    have hS2 := shown_of (G := G) (outs := textIs l) hL (fun y hy => hG y (by simp [hy])) (by rw [textIs_len, hI.length]) h.2
    exact ⟨⟨_, _, rfl, 233, inferInstance, fun w => by kernel_rfl, fun b v l2 R lr hR hn hl => linkHG_tr _ b _ _ _ _ _ v l2 R G lr (hG _ (List.mem_cons_self ..)) hS1 hR hn hu ht hl⟩,
      ⟨_, _, rfl, 234, inferInstance, fun w => by kernel_rfl, fun b v l2 R lr hR hn hl => linkTG_tr _ b _ _ _ v l2 R G lr (hG _ (List.mem_cons_self ..)) hS2 hR hn hl⟩⟩
  | .image d l, _, _, G, .image (q := q) (LB := LB) (IB := IB) hL hI, hG, hs => by
    obtain ⟨hu, ht, hs⟩ := hs
    have h := prnIs l hI (fun y hy => hG y (by simp [hy])) hs
    have hS2 := shown_of (G := G) (outs := textIs l) hL (fun y hy => hG y (by simp [hy])) (by rw [textIs_len, hI.length]) h.2
    exact ⟨⟨_, _, rfl, 283, inferInstance, fun w => by kernel_rfl, fun b v l2 R lr hR hn hl => imageHG_tr _ b _ _ _ _ _ v l2 R G lr (hG _ (List.mem_cons_self ..)) hS2 hR hn hu ht hl⟩,
      ⟨_, _, rfl, 284, inferInstance, fun w => by kernel_rfl, fun b v l2 R lr hR hn hl => imageTG_tr _ b _ _ _ v l2 R G lr (hG _ (List.mem_cons_self ..)) hS2 hR hn hl⟩⟩
theorem prnIs : ∀ (l : List In) {vs : List Value} {K G : Blk}, InsR l vs K → (∀ y ∈ K, y ∈ G) → SzIs l →
    (∀ (j : Nat) (v : Value), vs[j]? = some v → ∃ out, (htmlIs l)[j]? = some out ∧ PrnG "PrintHTML" v G out) ∧ (∀ (j : Nat) (v : Value), vs[j]? = some v → ∃ out, (textIs l)[j]? = some out ∧ PrnG "PrintText" v G out)
  | [], _, _, _, .nil, _, _ => ⟨fun j v h => by simp at h, fun j v h => by simp at h⟩
  | x :: l, _, _, G, .cons (v := v0) h hs, hG, hz => by
    obtain ⟨h1, h2⟩ := prnI x h (fun y hy => hG y (by simp [hy])) hz.1
    obtain ⟨i1, i2⟩ := prnIs l hs (fun y hy => hG y (by simp [hy])) hz.2
    refine ⟨fun j v hv => ?_, fun j v hv => ?_⟩
    · cases j with
      | zero => simp at hv; subst hv; exact ⟨_, rfl, h1⟩
      | succ j => exact i1 j v (by simpa using hv)
    · cases j with
      | zero => simp at hv; subst hv; exact ⟨_, rfl, h2⟩
      | succ j => exact i2 j v (by simpa using hv)
end
end Go.Proofs

namespace Go.Proofs
open Go Go.Eng
set_option maxRecDepth 20000
set_option maxHeartbeats 4000000

theorem paraG_tr (q t a b' b : Nat) (sv : Value) (raw : List UInt8) (outs : List (List UInt8)) (G : Blk) (hS : ShownG "PrintHTML" sv G outs) (hm1 : outs.flatten.length ≤ 800000) :
    Tr Tryz.prog 306 [lp q, lp b] [pgb q a b' t, txb t a b' sv raw, G, bufb b (.slice none 0 0) 0, []] fun u K => u = unit ∧ ∃ v' R' lr', BRow v' (paraO outs.flatten) R' ∧ K = [bufb b v' lr', R'] := by
  refine Tr.start (n := 14) (rs := []) rfl rfl rfl rfl fun B => ?_
  (repeat' (first | refine za ?_ | refine z8 ?_ | refine zb ?_))
  refine za1 (writeString_tr b (.slice none 0 0) [] [] 0 [60, 112, 62] BRow.nil (by simp) (by simp) (by simp)) (fun u K hR => ?_)
  obtain ⟨rfl, v1, R1, h1, rfl⟩ := hR
  (repeat' (first | refine za ?_ | refine z8 ?_ | refine z6 ?_ | refine z7 ?_ | refine zb ?_ | refine zr ?_ | refine zp ?_ | refine zq ?_))
  refine za1 (textG_tr t a b' b sv raw outs v1 [60, 112, 62] R1 G 0 hS h1 (by simp) (by simp only [List.length_cons, List.length_nil]; omega)) (fun u K hR => ?_)
  obtain ⟨rfl, v2, R2, lr2, h2, rfl⟩ := hR
  (repeat' (first | refine z8 ?_ | refine z6 ?_ | refine z7 ?_ | refine zb ?_))
  refine za1 (writeString_tr b v2 ([60, 112, 62] ++ outs.flatten) R2 lr2 [60, 47, 112, 62, 10] h2 (by simp) (by simp) (by simp only [List.length_append, List.length_cons, List.length_nil]; omega)) (fun u K hR => ?_)
  obtain ⟨rfl, v3, R3, h3, rfl⟩ := hR
  (repeat' (first | refine z6 ?_))
  exact e_norm _ ⟨rfl, v3, R3, 0, h3, rfl⟩ sA

theorem docG_tr (d a b' q t a2 b2 b : Nat) (lk : Value) (ia : Option Addr) (im ic : Nat) (KB : Blk) (sv : Value) (raw : List UInt8) (outs : List (List UInt8)) (G : Blk)
    (hB : Blks (.slice ia im ic) [.iface 188 (lp q)] KB) (hS : ShownG "PrintHTML" sv G outs) (hm1 : outs.flatten.length ≤ 800000) :
    Tr Tryz.prog 229 [lp d, lp b] [docb d a b' (.slice ia im ic) lk, pgb q a2 b2 t, txb t a2 b2 sv raw, KB, G, bufb b (.slice none 0 0) 0, []] fun u K => u = unit ∧ ∃ v' R' lr', BRow v' (paraO outs.flatten) R' ∧ K = [bufb b v' lr', R'] := by
  obtain ⟨g2, cap, cur, e1, rfl, k1, k2, k3, k4⟩ := (show Own 66 1 (.slice ia im ic) (0 + 1) _ KB from hB).pos
  injection e1 with e1 e2 e3
  subst e1 e2 e3
  have hc : cur[0]? = some (.iface 188 (lp q)) := by
    have h : (cur.take ((0 + 1) * 1))[0]? = cur[0]? := by rw [List.getElem?_take, if_pos (by omega)]
    rw [← h, k4]; rfl
  refine Tr.start (n := 19) (rs := []) rfl rfl rfl rfl fun B => ?_
  (repeat' (first | refine za ?_ | refine z8 ?_ | refine z6 ?_ | refine z7 ?_ | refine zg ?_ | refine zb ?_ | refine zr ?_ | refine zp ?_ | refine zq ?_ | refine zac ?_))
  refine za7 (fun x : PW => [(1, lp b), (9, .slice (some ⟨g2, 0, none⟩) 1 ic), (10, inat 1), (11, inat x.j)]) (fun x => if x.j = 0 then [pgb q a2 b2 t, txb t a2 b2 sv raw, [(g2, cellsOf cur 66)], G, bufb b (.slice none 0 0) 0, []] else [bufb b x.v x.lr, x.R])
    (fun x => x.j = 0 ∨ (x.j = 1 ∧ BRow x.v (paraO outs.flatten) x.R)) (fun x => 1 - x.j) ⟨0, .slice none 0 0, [], 0⟩ (.inl rfl) kB sA fun x hx => ?_
  obtain ⟨j, v, R, lr⟩ := x
  simp only at hx ⊢
  rcases hx with rfl | ⟨rfl, hx⟩
  · have hc' : cur[0 + 0 * 1]? = some (.iface 188 (lp q)) := hc
    simp only [if_pos]
    (repeat' (first | refine zr (hc := hc') ?_ | refine za ?_ | refine z8 ?_ | refine z6 ?_ | refine z7 ?_ | refine ze ?_ | refine zg ?_ | refine zf ?_ | refine zb ?_ | refine zc ?_ | refine zo ?_ | refine zaj ?_))
    refine zd7 (paraG_tr q t a2 b2 b sv raw outs G hS hm1) (fun u K hR => ?_)
    obtain ⟨rfl, v3, R3, lr3, h3, rfl⟩ := hR
    (repeat' (first | refine z8 ?_ | refine z6 ?_ | refine z7 ?_ | refine zu ?_ | refine zb ?_ | refine zm ?_))
    exact ⟨⟨1, v3, R3, lr3⟩, kB, sA, .inr ⟨rfl, h3⟩, by simp only; omega⟩
  · rw [if_neg (by omega)]
    (repeat' (first | refine za ?_ | refine z8 ?_ | refine z6 ?_ | refine z7 ?_ | refine zd ?_ | refine zy ?_ | refine zz ?_ | refine za0 ?_ | refine za4 ?_))
    exact e_norm _ ⟨rfl, v, R, lr, hx, rfl⟩ sA

theorem toG_tr (d a b' q t a2 b2 : Nat) (lk : Value) (ia : Option Addr) (im ic : Nat) (KB : Blk) (sv : Value) (raw : List UInt8) (outs : List (List UInt8)) (G : Blk)
    (hB : Blks (.slice ia im ic) [.iface 188 (lp q)] KB) (hS : ShownG "PrintHTML" sv G outs) (hm1 : outs.flatten.length ≤ 800000) :
    Tr Tryz.prog 16 [.iface 39 (lp d)] [docb d a b' (.slice ia im ic) lk, pgb q a2 b2 t, txb t a2 b2 sv raw, KB, G] fun u K => u = str (paraO outs.flatten) ∧ K = [] := by
  refine Tr.start (n := 7) (rs := [.tmp 2]) rfl rfl rfl rfl fun B => ?_
  (repeat' (first | refine za ?_ | refine z8 ?_ | refine z6 ?_ | refine z7 ?_ | refine zb ?_ | refine zc ?_ | refine zal (fun _ => ?_)))
  rename_i b
  refine zcu ?_
  refine zd7 (docG_tr d a b' q t a2 b2 b lk ia im ic KB sv raw outs G hB hS hm1) (fun u K hR => ?_)
  obtain ⟨rfl, v3, R3, lr3, h3, rfl⟩ := hR
  (repeat' (first | refine zad (bufString_tr b v3 (paraO outs.flatten) R3 lr3 h3 (by simp)) ?_ | refine za ?_ | refine z8 ?_ | refine z6 ?_ | refine z7 ?_ | refine zh ?_ | refine zc ?_))
  exact e_ret [] ⟨rfl, rfl⟩ sA

theorem Tr.weakI {f : FuncId} {args : List Value} {H0 H : Heap} {R : Value → Heap → Prop} (h : Tr Tryz.prog f args H R) (hs : SubH H0 H) : Tr Tryz.prog f args H0 R :=
  ⟨fun B w hw => h.run B w (hw.sub hs)⟩
theorem SubH.nilE {a b c : Blk} : SubH [a, b, c] [a, b, c, []] := ⟨[], by simp⟩
theorem SubH.dropE {a b c e f : Blk} : SubH [a, b, c, [], e, f] [a, b, c, e, f] := ⟨[], by simp⟩
theorem SubH.joinE {a b c e f : Blk} : SubH [a, b, c, e, f] [a, b, c, e ++ f] := ⟨[], by simp⟩
theorem Own.isSliceI {E sz : Nat} {v : Value} {m : Nat} {xs : List Value} {Bk : Blk} (h : Own E sz v m xs Bk) : ∃ a c, v = .slice a m c := by
  rcases h.2 with ⟨rfl, rfl, rfl⟩ | ⟨g, cap, cur, rfl, _⟩
  · exact ⟨_, _, rfl⟩
  · exact ⟨_, _, rfl⟩
/-- What the general inline asks of a line without an ampersand. -/
structure LineOK (io : IO) (es : List Value) (s : List UInt8) : Prop where
  len : s.length ≤ 10000
  pl : PL s
  bt : btrim s = s
  asc : Asc s
  amp : ∀ c ∈ s, c.toNat ≠ 38
  tab : io.tab = tabOf es
  tb : io.tb = []
  ent : io.ent = fun _ => none
  url : ∀ i k d j, linkCloseM (tabOf es) [] s i k = some (d, j) → d.url.length ≤ 1000000
  tx : txtLen (emphM (scanM io s)) ≤ 1000000000
  m32 : at0 s 0 ≠ 32
  m9 : at0 s 0 ≠ 9
  m10 : at0 s 0 ≠ 10
  m91 : at0 s 0 ≠ 91

theorem inlineI_tr (p pr T : Nat) (es : List Value) (hE : EntOK es) (d q : Bool) (st : PS) (s : List UInt8) (io : IO) (h1 : io.quotes = q) (h2 : io.del = d) (h : LineOK io es s) (hpar : st.par = lp pr) (hlk : st.links = .map none) (cn : Bool) (hcn : st.corner = .bool cn) (hbt : st.bt.length = 81) :
    Tr Tryz.prog 40 [lp p, str s] [st.blk p, (poO d q).blk pr, ent T es] fun u K => ∃ cn' e' lv' bt' vals LR IB, bt'.length = 81 ∧ Inls u vals LR ∧ InsR (inlineM io s) vals IB ∧ K = [({ st with corner := .bool cn', str := str s, em := inat e', list := lv', bt := bt' } : PS).blk p, (poO d q).blk pr, ent T es, LR, IB] := by
  have hn : ∀ i : Nat, s[i]? ≠ some (38 : UInt8) := fun i hi => h.amp 38 (List.mem_of_getElem? hi) rfl
  have hlen := h.len
  refine Tr.ps (Tr.weakI (inlineG_tr p pr T (poO d q) st es hE s s h.bt [] [] io h1 h2 h.tab h.tb (by omega) (by omega) h.asc (fun i hi => absurd hi (hn i)) (fun i t b _ hi => absurd hi (hn i)) h.url h.tx (fun h => (by cases h)) (fun h => (by cases h)) (fun h => (by cases h)) rfl hpar (by rw [hlk]; exact ⟨fun _ => .nil, fun x hx => by cases hx⟩) cn hcn hbt) (SubH.nilE)) (fun v H' hR => ?_)
  obtain ⟨cn', e', lv', bt', vals, LR, IB, k1, k2, k3, rfl⟩ := hR
  exact ⟨_, ⟨cn', e', lv', bt', vals, LR, IB, k1, k2, k3, rfl⟩, SubH.dropE⟩

theorem docI_tr (pr T : Nat) (es : List Value) (hE : EntOK es) (d q : Bool) (s : List UInt8) (io : IO) (h1 : io.quotes = q) (h2 : io.del = d) (h : LineOK io es s) :
    Tr Tryz.prog 18 [lp pr, str s] [(poO d q).blk pr, ent T es] fun u K => ∃ dd e qq t ia im ic KB sv vals LR IB, u = lp dd ∧ Blks (.slice ia im ic) [.iface 188 (lp qq)] KB ∧ Inls sv vals LR ∧ InsR (inlineM io s) vals IB ∧
      K = [ent T es, docb dd 0 e (.slice ia im ic) (.map none), pgb qq 1 (1 + 1 - 1) t, txb t 1 (1 + 1 - 1) sv s, KB, LR ++ IB] := by
  have hlen := h.len
  have hpt := parseE_tr pr (ent T es) (poO d q) [s] s (jn_one _) (by simp) (by simp) (by omega) (fun l hl => by simp at hl; subst hl; exact h.pl) (fun ia im ic G => ∃ vals LR IB, Inls (.slice ia im ic) vals LR ∧ InsR (inlineM io s) vals IB ∧ G = LR ++ IB) rfl rfl h.m32 h.m9 h.m10 h.m91
    (fun p st hs hcn hlk hbt => Tr.ps (inlineI_tr p pr T es hE d q st s io h1 h2 h hs hlk false hcn hbt) (fun v H' hR => by
      obtain ⟨cn', e', lv', bt', vals, LR, IB, k1, k2, k3, rfl⟩ := hR
      obtain ⟨ia, ic, rfl⟩ := Own.isSliceI k2
      exact ⟨_, ⟨({ st with corner := .bool cn', str := str s, em := inat e', list := lv', bt := bt' } : PS), ia, vals.length, ic, LR ++ IB, rfl, ⟨vals, LR, IB, k2, k3, rfl⟩, rfl, rfl, rfl⟩, SubH.joinE⟩))
  refine Tr.start (n := 14) (rs := [.tmp 4]) rfl rfl rfl rfl fun B => ?_
  (repeat' (first | refine za ?_ | refine z8 ?_ | refine z6 ?_ | refine z7 ?_ | refine zb ?_ | refine zc ?_))
  refine za1 hpt (fun u K hR => ?_)
  obtain ⟨dd, qq, t, cv, e, ia, im, ic, KB, ja, jm, jc, G, rfl, hB, ⟨vals, LR, IB, k2, k3, rfl⟩, rfl⟩ := hR
  (repeat' (first | refine za ?_ | refine z8 ?_ | refine z6 ?_ | refine z7 ?_ | refine zh ?_ | refine zb ?_ | refine zc ?_ | refine za3 ?_))
  exact e_ret [ent T es, docb dd 0 e (.slice ia im ic) (.map none), pgb qq 1 (1 + 1 - 1) t, txb t 1 (1 + 1 - 1) (.slice ja jm jc) s, KB, LR ++ IB] ⟨dd, e, qq, t, ia, im, ic, KB, _, vals, LR, IB, rfl, hB, k2, k3, rfl⟩ sA

theorem htmlI_tr (T : Nat) (es : List Value) (hE : EntOK es) (d q : Bool) (s : List UInt8) (io : IO) (h1 : io.quotes = q) (h2 : io.del = d) (h : LineOK io es s) (hz : SzIs (inlineM io s)) (hlim : (htmlIs (inlineM io s)).flatten.length ≤ 800000) :
    TrD Tryz.prog 8 [optO d q, str s] [ent T es] (str (paraO (htmlIs (inlineM io s)).flatten)) [ent T es] := by
  refine Tr.start (n := 11) (rs := [.tmp 4]) rfl rfl rfl rfl fun B => ?_
  (repeat' (first | refine za ?_ | refine z8 ?_ | refine z6 ?_ | refine z7 ?_ | refine zc ?_ | refine zao ?_ | refine zam (fun _ => ?_)))
  rename_i r
  refine za1 (parserO_tr d q) (fun u K hR => ?_)
  obtain ⟨pr, rfl, rfl⟩ := hR
  (repeat' (first | refine zb ?_))
  refine za1 (docI_tr pr T es hE d q s io h1 h2 h) (fun u K hR => ?_)
  obtain ⟨dd, e, qq, t, ia, im, ic, KB, sv, vals, LR, IB, rfl, hB, k2, k3, rfl⟩ := hR
  (repeat' (first | refine zau ?_))
  refine za1 (toG_tr dd 0 e qq t 1 (1 + 1 - 1) (.map none) ia im ic KB sv s _ (LR ++ IB) hB (shown_of (outs := htmlIs (inlineM io s)) k2 (fun y hy => by simp [hy]) (by rw [htmlIs_len, k3.length]) (prnIs _ k3 (fun y hy => by simp [hy]) hz).1) hlim) (fun u K hR => ?_)
  obtain ⟨rfl, rfl⟩ := hR
  (repeat' (first | refine z6 ?_ | refine z7 ?_ | refine zh ?_ | refine zc ?_))
  exact e_ret [ent T es] ⟨rfl, rfl⟩ sA
end Go.Proofs

namespace Go.Proofs
open Go Go.Eng
set_option maxRecDepth 20000
set_option maxHeartbeats 4000000

/-- A word. -/
structure Word (l : List UInt8) : Prop where
  ne : l ≠ []
  len : l.length ≤ 20
  c : ∀ d ∈ l, wch d.toNat
theorem Word.snoc {l : List UInt8} (h : Word l) : ∃ p z, l = p ++ [z] ∧ wch z.toNat := by
  refine ⟨l.dropLast, l.getLast h.ne, (List.dropLast_concat_getLast h.ne).symm, h.c _ (List.getLast_mem h.ne)⟩
theorem Word.cons {l : List UInt8} (h : Word l) : ∃ z s, l = z :: s ∧ wch z.toNat := by
  cases hl : l with
  | nil => exact absurd hl h.ne
  | cons z s => exact ⟨z, s, rfl, h.c z (by rw [hl]; simp)⟩
theorem escH_id : ∀ (l : List UInt8), (∀ d ∈ l, wch d.toNat ∨ d.toNat = 32 ∨ d.toNat = 126) → escH l = l
  | [], _ => rfl
  | c :: l, h => by
    have hc := h c (by simp)
    have ih := escH_id l (fun d hd => h d (List.mem_cons_of_mem _ hd))
    have e1 : escB c = [c] := by
      unfold escB
      rw [if_neg (by omega), if_neg (by omega), if_neg (by omega), if_neg (by omega)]
    simp only [escH, List.flatMap_cons] at ih ⊢
    rw [e1, ih]; rfl

end Go.Proofs

/- ZZInlineHTML and ZZInlines on such inlines and lines. Conditions: the first inline is a plain text that begins with the letter x. FnOptionInlines returns true for every input. Conditions: the table of entities lies in memory. -/
import Derived.Test.YtjbpohkcmgelkaaGreatDoorT21
import Derived.Test.YtjbpohkcmgelkaaGreatDoorT05
import Derived.Test.YtjbpohkcmgelkaaGreatDoorT14
import Derived.Test.YtjbpohkcmgelkaaGreatDoorT13
import Derived.Test.YtjbpohkcmgelkaaGreatDoorT17
import Derived.Test.YtjbpohkcmgelkaaGreatDoorEngB
import Derived.Test.YtjbpohkcmgelkaaGreatDoorT04
import Derived.Test.YtjbpohkcmgelkaaGreatDoorRows
import Derived.Lib.LaidU8
import Derived.MakeChecks
import Derived.ChangeReads
namespace Go.Proofs
open Go Go.Eng
set_option maxRecDepth 20000
set_option maxHeartbeats 4000000

/-- W16's contract with one more chunk, that inline may use. -/
theorem parseE_tr (pr : Nat) (EB : Blk) (o : PO) (ls : List (List UInt8)) (tx : List UInt8) (htx : jn ls = tx) (hls : ls ≠ []) (hll : ls.length ≤ 1000) (htl : tx.length ≤ 1000000) (hL : ∀ l ∈ ls, PL l) (IL : Option Addr → Nat → Nat → Blk → Prop) (htab : o.table = false) (htask : o.tasks = false) (h1 : at0 tx 0 ≠ 32) (h2 : at0 tx 0 ≠ 9) (h3 : at0 tx 0 ≠ 10) (h4 : at0 tx 0 ≠ 91)
    (hI : ∀ (p : Nat) (s : PS), s.par = lp pr → s.corner = .bool false → s.links = .map none → s.bt.length = 81 → Tr Tryz.prog 46 [lp p, str tx] [s.blk p, o.blk pr, EB] fun u K => ∃ s' : PS, ∃ ia im ic G, u = .slice ia im ic ∧ IL ia im ic G ∧ s'.par = s.par ∧ s'.root = s.root ∧ K = [s'.blk p, o.blk pr, EB, G]) :
    Tr Tryz.prog 43 [lp pr, str tx] [o.blk pr, EB] fun u K => ∃ d q t cv e ia im ic IB ja jm jc G, u = .tuple #[lp d, cv] ∧ Blks (.slice ia im ic) [.iface 190 (lp q)] IB ∧ IL ja jm jc G ∧
      K = [o.blk pr, EB, docb d 0 e (.slice ia im ic) (.map none), pgb q 1 (1 + ls.length - 1) t, txb t 1 (1 + ls.length - 1) (.slice ja jm jc) tx, IB, G] := by
  obtain ⟨l0, r0, rfl⟩ : ∃ l0 r0, ls = l0 :: r0 := by cases ls with | nil => exact absurd rfl hls | cons a b => exact ⟨a, b, rfl⟩
  have hl0 := hL l0 (by simp)
  have hno : ∀ c : UInt8, c = 0 ∨ c = 13 → ∀ d ∈ tx, d ≠ c := by
    intro c hc d hd e
    subst e
    rw [← htx] at hd
    rcases jn_mem _ _ hd with h | ⟨l, hl, h⟩
    · rcases hc with hc | hc <;> (rw [hc] at h; exact absurd h (by decide))
    · have := (hL l hl).c d h
      rcases hc with hc | hc
      · exact this.2.2 hc
      · exact this.2.1 hc
  have n0 := fst1_no (hno 0 (.inl rfl))
  have htl' : tx.length ≤ 140737488355328 := by omega
  have hne : ¬ tx = [] := by
    intro h; rw [h] at htx
    cases r0 with
    | nil => rw [jn_one] at htx; exact hl0.ne htx
    | cons b r => rw [jn_cons] at htx; simp at htx
  have hpos : 0 < tx.length := by cases tx with | nil => exact absurd rfl hne | cons _ _ => simp
  obtain ⟨o1, o2, o3, o4, o5, o6, o7, o8, o9, o10⟩ := o
  subst htab; subst htask
  refine Tr.start (n := 114) (rs := [.tmp 4, .tmp 5]) rfl rfl rfl rfl fun B => ?_
  (repeat' (first | refine zo (zzContains_tr tx 0 htl' n0) ?_ | refine z7 ?_ | refine z6 ?_ | refine z2 ?_ | refine z1 ?_ | refine zb ?_ | refine zd ?_ | refine z8 ?_ | refine za ?_ | refine zp ?_ | refine zan ?_ | refine za5 ?_ | refine zao ?_ | refine zai (fun _ => ?_) | refine zaf (fun _ => ?_)))
  rename_i p rb
  refine za1 (addBlock_root p (⟨lp pr, .pointer none, .map none, inat 0, .slice none 0 0, .int .i64 (-1), .bool false, str [], .int .i64 0, .slice none 0 0, .slice none 0 0, .slice none 0 0, bt0⟩ : PS) _ (lp rb) 0 rfl rfl rfl) (fun u K hR => ?_)
  obtain ⟨rfl, g, cap, cur, hO, rfl⟩ := hR
  (repeat' (first | refine z7 ?_ | refine z2 ?_ | refine z1 ?_))
  refine zau (fun x : PLoop => [(0, lp pr), (6, lp p)])
    (fun x => match x with
      | .a => []
      | .b k t e g' cap' cur' pb tv Bt => [(⟨lp pr, .pointer none, .map none, inat k, stk g' 2 cap', inat 0, .bool false, str [], .int .i64 0, .slice none 0 0, .slice none 0 0, .slice none 0 0, bt0⟩ : PS).blk p, stb g' cur', (⟨o1, o2, false, o4, o5, false, o7, o8, o9, o10⟩ : PO).blk pr, EB, pbb pb tv, Bt])
    (fun x => match x with
      | .a => False
      | .b k t e g' cap' cur' pb tv Bt => k = (l0 :: r0).length ∧ Stk (stk g' 2 cap') 2 ([.iface 116 (lp rb), .slice none 0 0, inat 0, inat e] ++ [.iface 223 (lp pb), .slice none 0 0, inat 1, inat k]) (stb g' cur') ∧ Strs tv (l0 :: r0) Bt) ?_ ?_
  · (repeat' (first | refine zf ?_))
    refine za6 (fun x : PLoop => match x with
      | .a => [(0, lp pr), (1, str tx), (6, lp p)]
      | .b k t .. => [(0, lp pr), (1, str t), (6, lp p)])
      (fun x => match x with
      | .a => [(⟨lp pr, .pointer none, .map none, inat 0, stk g 1 cap, .int .i64 (-1), .bool false, str [], .int .i64 0, .slice none 0 0, .slice none 0 0, .slice none 0 0, bt0⟩ : PS).blk p, stb g cur, (⟨o1, o2, false, o4, o5, false, o7, o8, o9, o10⟩ : PO).blk pr, EB]
      | .b k t e g' cap' cur' pb tv Bt => [(⟨lp pr, .pointer none, .map none, inat k, stk g' 2 cap', inat 0, .bool false, str [], .int .i64 0, .slice none 0 0, .slice none 0 0, .slice none 0 0, bt0⟩ : PS).blk p, stb g' cur', (⟨o1, o2, false, o4, o5, false, o7, o8, o9, o10⟩ : PO).blk pr, EB, pbb pb tv, Bt])
      (fun x => match x with
      | .a => True
      | .b k t e g' cap' cur' pb tv Bt => (1 ≤ k ∧ k ≤ (l0 :: r0).length ∧ t = jn ((l0 :: r0).drop k)) ∧ Stk (stk g' 2 cap') 2 ([.iface 116 (lp rb), .slice none 0 0, inat 0, inat e] ++ [.iface 223 (lp pb), .slice none 0 0, inat 1, inat k]) (stb g' cur') ∧ Strs tv ((l0 :: r0).take k) Bt)
      (fun x => match x with
      | .a => (l0 :: r0).length + 1
      | .b k .. => (l0 :: r0).length - k) .a trivial kB sA fun x hx => ?_
    cases x with
    | a =>
      have n13 := fst1_no (hno 13 (.inr rfl))
      cases r0 with
      | nil =>
        have e1 : l0 = tx := by rw [← htx, jn_one]
        subst e1
        have n10 := fst1_no (c := 10) (l := l0) (fun d hd => (hl0.c d hd).1)
        (repeat' (first | refine zo (zzIndex_tr l0 10 htl' (-1) (by rw [if_neg n10])) ?_ | refine zo (zzIndex_tr l0 13 htl' (-1) (by rw [if_neg n13])) ?_ | refine z7 ?_ | refine z6 ?_ | refine z2 ?_ | refine z1 ?_ | refine zc ?_ | refine zb ?_ | refine zf ?_ | refine zd ?_ | refine zu ?_ | refine za2 ?_ | refine zay ?_ | refine z8 ?_ | refine za ?_ | refine zn ?_ | refine zp ?_ | refine zl ?_ | refine zab ?_ | refine zk ?_ | refine zcd ?_ | refine za5 ?_ | refine zao ?_))
        refine za1 (addLine_first p g cap pr (⟨o1, o2, false, o4, o5, false, o7, o8, o9, o10⟩ : PO) (⟨lp pr, .pointer none, .map none, inat 1, stk g 1 cap, .int .i64 (-1), .bool false, str [], .int .i64 0, .slice none 0 0, .slice none 0 0, .slice none 0 0, bt0⟩ : PS) cur _ (lp rb) _ _ _ 1 l0 0 hl0.p hO rfl rfl rfl rfl rfl rfl) (fun u K hR => ?_)
        obtain ⟨rfl, g', cap', cur', pb, tv, Bt, k1, k2, rfl⟩ := hR
        rw [hl0.t] at k2
        (repeat' (first | refine z2 ?_ | refine z1 ?_ | refine zu ?_))
        exact ⟨.b 1 [] 0 g' cap' cur' pb tv Bt, kB, sA, ⟨⟨by omega, by simp, rfl⟩, k1, k2⟩, (by show _ < _; simp)⟩
      | cons b r =>
        have e1 : tx = l0 ++ 10 :: jn (b :: r) := by rw [← htx, jn_cons]
        have f10 := fst1_mid l0 (jn (b :: r)) (fun d hd => (hl0.c d hd).1)
        have hlen : tx.length = l0.length + (jn (b :: r)).length + 1 := by rw [e1]; simp; omega
        have e2 : tx.take l0.length = l0 := by rw [e1]; simp
        have e3 : tx.drop (l0.length + 1) = jn (b :: r) := by rw [e1]; simp
        (repeat' (first | refine Wp.draw_all (id := 22) Mixed.out (by kernel_rfl) ?_ | refine zo (zzIndex_tr tx 10 htl' l0.length (by rw [e1, f10, if_pos (by simp)])) ?_ | refine zo (zzIndex_tr tx 13 htl' (-1) (by rw [if_neg n13])) ?_ | refine z7 ?_ | refine z6 ?_ | refine z2 ?_ | refine z1 ?_ | refine zc ?_ | refine zb ?_ | refine zf ?_ | refine zd ?_ | refine zu ?_ | refine za2 ?_ | refine zay ?_ | refine z8 ?_ | refine za ?_ | refine zn ?_ | refine zp ?_ | refine zl ?_ | refine zas ?_ | refine zab ?_ | refine zk ?_ | refine zcd ?_ | refine za5 ?_ | refine zao ?_ | refine za8 ?_ | refine za7 ?_ | refine zbg ?_ | refine zcg ?_ | refine zd8 ?_ | refine zed ?_))
        have hpa : PLine 0 (tx.take l0.length) := e2.symm ▸ hl0.p
        refine za1 (addLine_first p g cap pr (⟨o1, o2, false, o4, o5, false, o7, o8, o9, o10⟩ : PO) (⟨lp pr, .pointer none, .map none, inat 1, stk g 1 cap, .int .i64 (-1), .bool false, str [], .int .i64 0, .slice none 0 0, .slice none 0 0, .slice none 0 0, bt0⟩ : PS) cur _ (lp rb) _ _ _ 1 (tx.take l0.length) 10 hpa hO rfl rfl rfl rfl rfl rfl) (fun u K hR => ?_)
        obtain ⟨rfl, g', cap', cur', pb, tv, Bt, k1, k2, rfl⟩ := hR
        rw [e2, hl0.t] at k2
        (repeat' (first | refine z2 ?_ | refine z1 ?_ | refine zu ?_))
        exact ⟨.b 1 (tx.drop (l0.length + 1)) 0 g' cap' cur' pb tv Bt, kB, sA, ⟨⟨by omega, by simp, e3⟩, k1, k2⟩, (by show _ < _; simp)⟩
    | b k t e g' cap' cur' pb tv Bt =>
      obtain ⟨⟨hk1, hk2, ht⟩, k1, k2⟩ := hx
      cases hr : (l0 :: r0).drop k with
      | nil =>
        have hk : k = (l0 :: r0).length := by
          have := congrArg List.length hr
          rw [List.length_drop] at this
          simp only [List.length_nil] at this
          omega
        rw [List.take_of_length_le (by omega)] at k2
        have e0 : t = [] := by rw [ht, hr]; rfl
        (repeat' (first | refine z7 ?_ | refine z6 ?_ | refine z2 ?_ | refine z1 ?_ | refine zb ?_ | refine zw ?_ | refine zy ?_ | refine zz ?_ | refine z8 ?_ | refine zd2 ?_))
        exact ⟨.b k t e g' cap' cur' pb tv Bt, kA, sA, hk, k1, k2⟩
      | cons a r =>
        have hka : (l0 :: r0)[k]? = some a := by
          have h : ((l0 :: r0).drop k)[0]? = some a := by rw [hr]; rfl
          rw [List.getElem?_drop] at h
          simpa using h
        have hkl : k < (l0 :: r0).length := (List.getElem?_eq_some_iff.1 hka).1
        have ha := hL a (List.mem_of_getElem? hka)
        have hdr : (l0 :: r0).drop (k + 1) = r := by rw [← List.tail_drop, hr]; rfl
        have htk : (l0 :: r0).take (k + 1) = (l0 :: r0).take k ++ [a] := by rw [List.take_add_one, hka]; rfl
        rw [hr] at ht
        have hsub : ∀ d ∈ t, d ≠ 13 := by
          intro d hd
          rw [ht] at hd
          rcases jn_mem _ _ hd with h | ⟨l, hl, h⟩
          · rw [h]; decide
          · have hm : l ∈ (l0 :: r0) := List.mem_of_mem_drop (by rw [hr]; exact hl)
            exact ((hL l hm).c d h).2.1
        have n13 := fst1_no hsub
        have hjl : t.length ≤ 140737488355328 := by
          have h := jn_drop (l0 :: r0) k
          rw [hr, htx, ← ht] at h
          omega
        cases r with
        | nil =>
          rw [jn_one] at ht
          subst ht
          have n10 := fst1_no (c := 10) (l := t) (fun d hd => (ha.c d hd).1)
          have hn0 : ¬ t = [] := ha.ne
          (repeat' (first | refine zo (zzIndex_tr t 10 hjl (-1) (by rw [if_neg n10])) ?_ | refine zo (zzIndex_tr t 13 hjl (-1) (by rw [if_neg n13])) ?_ | refine z7 ?_ | refine z6 ?_ | refine z2 ?_ | refine z1 ?_ | refine zc ?_ | refine zb ?_ | refine zf ?_ | refine zd ?_ | refine zu ?_ | refine za2 ?_ | refine zay ?_ | refine z8 ?_ | refine za ?_ | refine zn ?_ | refine zp ?_ | refine zl ?_ | refine zab ?_ | refine zk ?_ | refine zcd ?_ | refine za5 ?_ | refine zao ?_))
          refine za1 (addLine_more p g' cap' pr pb (⟨o1, o2, false, o4, o5, false, o7, o8, o9, o10⟩ : PO) (⟨lp pr, .pointer none, .map none, inat (k + 1), stk g' 2 cap', inat 0, .bool false, str [], .int .i64 0, .slice none 0 0, .slice none 0 0, .slice none 0 0, bt0⟩ : PS) cur' _ (lp rb) _ _ _ _ _ _ tv ((l0 :: r0).take k) Bt (k + 1) t 0 ha.p (by rw [List.length_take]; omega) k1 k2 rfl rfl rfl rfl rfl) (fun u K hR => ?_)
          obtain ⟨rfl, cur2, tv2, Bt2, k1', k2', rfl⟩ := hR
          rw [ha.t, ← htk] at k2'
          (repeat' (first | refine z2 ?_ | refine z1 ?_ | refine zu ?_))
          exact ⟨.b (k + 1) [] (k + 1) g' cap' cur2 pb tv2 Bt2, kB, sA, ⟨⟨by omega, by omega, by rw [hdr]; rfl⟩, k1', k2'⟩, (by show (l0 :: r0).length - (k + 1) < (l0 :: r0).length - k; omega)⟩
        | cons b r =>
          rw [jn_cons] at ht
          have f10 := fst1_mid a (jn (b :: r)) (fun d hd => (ha.c d hd).1)
          rw [← ht] at f10
          have e2 : t.take a.length = a := by rw [ht]; simp
          have e3 : t.drop (a.length + 1) = jn (b :: r) := by rw [ht]; simp
          have hlen : t.length = a.length + (jn (b :: r)).length + 1 := by rw [ht]; simp; omega
          have hn0 : ¬ t = [] := by intro h; rw [h] at hlen; simp at hlen
          have hpa : PLine 0 (t.take a.length) := e2.symm ▸ ha.p
          (repeat' (first | refine Wp.draw_all (id := 22) Mixed.out (by kernel_rfl) ?_ | refine zo (zzIndex_tr t 10 hjl a.length (by rw [f10, if_pos (by omega)])) ?_ | refine zo (zzIndex_tr t 13 hjl (-1) (by rw [if_neg n13])) ?_ | refine z7 ?_ | refine z6 ?_ | refine z2 ?_ | refine z1 ?_ | refine zc ?_ | refine zb ?_ | refine zf ?_ | refine zd ?_ | refine zu ?_ | refine za2 ?_ | refine zay ?_ | refine z8 ?_ | refine za ?_ | refine zn ?_ | refine zp ?_ | refine zl ?_ | refine zas ?_ | refine zab ?_ | refine zk ?_ | refine zcd ?_ | refine za5 ?_ | refine zao ?_ | refine za8 ?_ | refine za7 ?_ | refine zbg ?_ | refine zcg ?_ | refine zd8 ?_ | refine zed ?_))
          refine za1 (addLine_more p g' cap' pr pb (⟨o1, o2, false, o4, o5, false, o7, o8, o9, o10⟩ : PO) (⟨lp pr, .pointer none, .map none, inat (k + 1), stk g' 2 cap', inat 0, .bool false, str [], .int .i64 0, .slice none 0 0, .slice none 0 0, .slice none 0 0, bt0⟩ : PS) cur' _ (lp rb) _ _ _ _ _ _ tv ((l0 :: r0).take k) Bt (k + 1) (t.take a.length) 10 hpa (by rw [List.length_take]; omega) k1 k2 rfl rfl rfl rfl rfl) (fun u K hR => ?_)
          obtain ⟨rfl, cur2, tv2, Bt2, k1', k2', rfl⟩ := hR
          rw [e2, ha.t, ← htk] at k2'
          (repeat' (first | refine z2 ?_ | refine z1 ?_ | refine zu ?_))
          exact ⟨.b (k + 1) (t.drop (a.length + 1)) (k + 1) g' cap' cur2 pb tv2 Bt2, kB, sA, ⟨⟨by omega, by omega, by rw [hdr]; exact e3⟩, k1', k2'⟩, (by show (l0 :: r0).length - (k + 1) < (l0 :: r0).length - k; omega)⟩
  · intro x hx
    cases x with
    | a => exact hx.elim
    | b k t e g' cap' cur' pb tv Bt =>
      obtain ⟨rfl, k1, k2⟩ := hx
      (repeat' (first | refine z7 ?_ | refine z6 ?_))
      refine zct ?_
      refine za1 (trimAll p g' cap' pb rb (⟨lp pr, .pointer none, .map none, inat (l0 :: r0).length, stk g' 2 cap', inat 0, .bool false, str [], .int .i64 0, .slice none 0 0, .slice none 0 0, .slice none 0 0, bt0⟩ : PS) cur' tv Bt tx [] [] _ 1 (l0 :: r0).length 0 e htl' hpos h1 h2 h3 h4 (by omega) k1 rfl none rfl (Own.nil _ _) (by simp) (l0 :: r0) k2 htx (by simp) (by omega) (by omega)) (fun u K hR => ?_)
      obtain ⟨q, t, v', TB', cur2, ia, im, ic, IB, d, rfl, j1, j2, rfl⟩ := hR
      have j1' : Own 123 1 v' (0 + 1) [lp t] TB' := j1
      obtain ⟨g3, cap3, cur3, rfl, rfl, i1, i2, i3, i4⟩ := j1'.pos
      have c0 : cur3[0 + 0 * 1]? = some (lp t) := j1'.get rfl
      (repeat' (first | refine z7 ?_ | refine z6 ?_ | refine z2 ?_ | refine z1 ?_ | refine z8 ?_ | refine zn ?_ | refine zp ?_ | refine zah ?_))
      refine zau (fun x : ILoop => [(0, lp pr), (6, lp p)])
        (fun x => match x with
          | .a => []
          | .b s' ja jm jc G => [s'.blk p, (⟨o1, o2, false, o4, o5, false, o7, o8, o9, o10⟩ : PO).blk pr, EB, txb t 1 (1 + (l0 :: r0).length - 1) (.slice ja jm jc) tx, G, [(g3, cellsOf cur3 123)], pgb q 1 (1 + (l0 :: r0).length - 1) t, IB, docb d 0 e (.slice ia im ic) (.map none)])
        (fun x => match x with
          | .a => False
          | .b s' ja jm jc G => IL ja jm jc G ∧ s'.par = lp pr ∧ s'.root = lp d) ?_ ?_
      · (repeat' (first | refine zf ?_))
        refine za6 (fun x : ILoop => match x with
          | .a => [(0, lp pr), (6, lp p), (81, .slice (some ⟨g3, 0, none⟩) (0 + 1) cap3), (82, inat (0 + 1)), (83, inat 0)]
          | .b .. => [(0, lp pr), (6, lp p), (81, .slice (some ⟨g3, 0, none⟩) (0 + 1) cap3), (82, inat (0 + 1)), (83, inat 1)])
          (fun x => match x with
          | .a => [(⟨lp pr, lp d, .map none, inat (l0 :: r0).length, stk g' 0 cap', inat 0, .bool false, str [], .int .i64 0, .slice none 0 0, .slice none 0 0, .slice (some ⟨g3, 0, none⟩) (0 + 1) cap3, bt0⟩ : PS).blk p, (⟨o1, o2, false, o4, o5, false, o7, o8, o9, o10⟩ : PO).blk pr, EB, txb t 1 (1 + (l0 :: r0).length - 1) (.slice none 0 0) tx, [(g3, cellsOf cur3 123)], pgb q 1 (1 + (l0 :: r0).length - 1) t, IB, docb d 0 e (.slice ia im ic) (.map none)]
          | .b s' ja jm jc G => [s'.blk p, (⟨o1, o2, false, o4, o5, false, o7, o8, o9, o10⟩ : PO).blk pr, EB, txb t 1 (1 + (l0 :: r0).length - 1) (.slice ja jm jc) tx, G, [(g3, cellsOf cur3 123)], pgb q 1 (1 + (l0 :: r0).length - 1) t, IB, docb d 0 e (.slice ia im ic) (.map none)])
          (fun x => match x with
          | .a => True
          | .b s' ja jm jc G => IL ja jm jc G ∧ s'.par = lp pr ∧ s'.root = lp d)
          (fun x => match x with
          | .a => 1
          | .b .. => 0) .a trivial kB sA fun x hx => ?_
        cases x with
        | a =>
          (repeat' (first | refine zn (hc := c0) ?_ | refine z7 ?_ | refine z6 ?_ | refine z2 ?_ | refine z1 ?_ | refine zc ?_ | refine zf ?_ | refine zd ?_ | refine z8 ?_ | refine za ?_ | refine zn ?_ | refine zp ?_ | refine zq ?_ | refine zm ?_ | refine zal ?_))
          refine za1 (hI p (⟨lp pr, lp d, .map none, inat (l0 :: r0).length, stk g' 0 cap', inat 0, .bool false, str [], .int .i64 0, .slice none 0 0, .slice none 0 0, .slice (some ⟨g3, 0, none⟩) (0 + 1) cap3, bt0⟩ : PS) rfl rfl rfl rfl) (fun u K hR => ?_)
          obtain ⟨s', ja, jm, jc, G, rfl, m1, m2, m3, rfl⟩ := hR
          (repeat' (first | refine z6 ?_ | refine z2 ?_ | refine z1 ?_ | refine zu ?_ | refine z8 ?_ | refine zp ?_ | refine zq ?_ | refine zl ?_ | refine za5 ?_))
          exact ⟨.b s' ja jm jc G, kB, sA, ⟨m1, m2, m3⟩, (by show 0 < 1; omega)⟩
        | b s' ja jm jc G =>
          (repeat' (first | refine z7 ?_ | refine z6 ?_ | refine z2 ?_ | refine z1 ?_ | refine zb ?_ | refine zw ?_ | refine zy ?_ | refine zz ?_ | refine za4 ?_))
          exact ⟨.b s' ja jm jc G, kA, sA, hx⟩
      · intro x hx
        cases x with
        | a => exact hx.elim
        | b s' ja jm jc G =>
          obtain ⟨m1, m2, m3⟩ := hx
          obtain ⟨par, root, links, lineno, stack, depth, corner, sv, em, list, lists, texts, bt⟩ := s'
          subst m2 m3
          (repeat' (first | refine Wp.draw_all (id := 38) Mixed.out (by kernel_rfl) ?_ | refine z7 ?_ | refine z6 ?_ | refine z2 ?_ | refine z1 ?_ | refine zb ?_ | refine zd ?_ | refine ze ?_ | refine z8 ?_ | refine zn ?_ | refine zp ?_ | refine zq ?_ | refine za8 ?_ | refine zbg ?_ | refine za3 ?_ | refine zae ?_))
          exact e_ret _ ⟨d, q, t, _, e, ia, im, ic, IB, ja, jm, jc, G, rfl, j2, m1, rfl⟩ sA
end Go.Proofs

namespace Go.Proofs
open Go Go.Eng
set_option maxRecDepth 40000
set_option maxHeartbeats 1000000

/-- The inlines of a slice put their texts into the buffer, one behind the other. -/
theorem shown_of {nm : String} {sv : Value} {vals : List Value} {LB G : Blk} {outs : List (List UInt8)} (hO : Own 89 1 sv vals.length vals LB) (hG : ∀ y ∈ LB, y ∈ G) (hl : outs.length = vals.length) (h : ∀ (j : Nat) (v : Value), vals[j]? = some v → ∃ out, outs[j]? = some out ∧ PrnG nm v G out) : ShownG nm sv G outs :=
  ⟨vals, ⟨LB, hO, hG⟩, hl, h⟩
end Go.Proofs

namespace Go.Proofs
open Go Go.Eng
set_option maxRecDepth 20000
set_option maxHeartbeats 4000000

theorem paraG_tr (q t a b' b : Nat) (sv : Value) (raw : List UInt8) (outs : List (List UInt8)) (G : Blk) (hS : ShownG "PrintHTML" sv G outs) (hm1 : outs.flatten.length ≤ 800000) :
    Tr Tryz.prog 312 [lp q, lp b] [pgb q a b' t, txb t a b' sv raw, G, bufb b (.slice none 0 0) 0, []] fun u K => u = unit ∧ ∃ v' R' lr', BRow v' (paraO outs.flatten) R' ∧ K = [bufb b v' lr', R'] := by
  refine Tr.start (n := 14) (rs := []) rfl rfl rfl rfl fun B => ?_
  (repeat' (first | refine z7 ?_ | refine z6 ?_ | refine z8 ?_))
  refine za1 (writeString_tr b (.slice none 0 0) [] [] 0 [60, 112, 62] BRow.nil (by simp) (by simp) (by simp)) (fun u K hR => ?_)
  obtain ⟨rfl, v1, R1, h1, rfl⟩ := hR
  (repeat' (first | refine z7 ?_ | refine z6 ?_ | refine z2 ?_ | refine z1 ?_ | refine z8 ?_ | refine zn ?_ | refine zp ?_ | refine zq ?_))
  refine za1 (textG_tr t a b' b sv raw outs v1 [60, 112, 62] R1 G 0 hS h1 (by simp) (by simp only [List.length_cons, List.length_nil]; omega)) (fun u K hR => ?_)
  obtain ⟨rfl, v2, R2, lr2, h2, rfl⟩ := hR
  (repeat' (first | refine z6 ?_ | refine z2 ?_ | refine z1 ?_ | refine z8 ?_))
  refine za1 (writeString_tr b v2 ([60, 112, 62] ++ outs.flatten) R2 lr2 [60, 47, 112, 62, 10] h2 (by simp) (by simp) (by simp only [List.length_append, List.length_cons, List.length_nil]; omega)) (fun u K hR => ?_)
  obtain ⟨rfl, v3, R3, h3, rfl⟩ := hR
  (repeat' (first | refine z2 ?_))
  exact e_norm _ ⟨rfl, v3, R3, 0, h3, rfl⟩ sA

theorem docG_tr (d a b' q t a2 b2 b : Nat) (lk : Value) (ia : Option Addr) (im ic : Nat) (KB : Blk) (sv : Value) (raw : List UInt8) (outs : List (List UInt8)) (G : Blk)
    (hB : Blks (.slice ia im ic) [.iface 190 (lp q)] KB) (hS : ShownG "PrintHTML" sv G outs) (hm1 : outs.flatten.length ≤ 800000) :
    Tr Tryz.prog 236 [lp d, lp b] [docb d a b' (.slice ia im ic) lk, pgb q a2 b2 t, txb t a2 b2 sv raw, KB, G, bufb b (.slice none 0 0) 0, []] fun u K => u = unit ∧ ∃ v' R' lr', BRow v' (paraO outs.flatten) R' ∧ K = [bufb b v' lr', R'] := by
  obtain ⟨g2, cap, cur, e1, rfl, k1, k2, k3, k4⟩ := (show Own 77 1 (.slice ia im ic) (0 + 1) _ KB from hB).pos
  injection e1 with e1 e2 e3
  subst e1 e2 e3
  have hc : cur[0]? = some (.iface 190 (lp q)) := by
    have h : (cur.take ((0 + 1) * 1))[0]? = cur[0]? := by rw [List.getElem?_take, if_pos (by omega)]
    rw [← h, k4]; rfl
  refine Tr.start (n := 19) (rs := []) rfl rfl rfl rfl fun B => ?_
  (repeat' (first | refine z7 ?_ | refine z6 ?_ | refine z2 ?_ | refine z1 ?_ | refine zf ?_ | refine z8 ?_ | refine zn ?_ | refine zp ?_ | refine zq ?_ | refine zah ?_))
  refine za6 (fun x : PW => [(1, lp b), (9, .slice (some ⟨g2, 0, none⟩) 1 ic), (10, inat 1), (11, inat x.j)]) (fun x => if x.j = 0 then [pgb q a2 b2 t, txb t a2 b2 sv raw, [(g2, cellsOf cur 77)], G, bufb b (.slice none 0 0) 0, []] else [bufb b x.v x.lr, x.R])
    (fun x => x.j = 0 ∨ (x.j = 1 ∧ BRow x.v (paraO outs.flatten) x.R)) (fun x => 1 - x.j) ⟨0, .slice none 0 0, [], 0⟩ (.inl rfl) kB sA fun x hx => ?_
  obtain ⟨j, v, R, lr⟩ := x
  simp only at hx ⊢
  rcases hx with rfl | ⟨rfl, hx⟩
  · have hc' : cur[0 + 0 * 1]? = some (.iface 190 (lp q)) := hc
    simp only [if_pos]
    (repeat' (first | refine zn (hc := hc') ?_ | refine z7 ?_ | refine z6 ?_ | refine z2 ?_ | refine z1 ?_ | refine zc ?_ | refine zf ?_ | refine zd ?_ | refine z8 ?_ | refine za ?_ | refine zm ?_ | refine zal ?_))
    refine zcw (paraG_tr q t a2 b2 b sv raw outs G hS hm1) (fun u K hR => ?_)
    obtain ⟨rfl, v3, R3, lr3, h3, rfl⟩ := hR
    (repeat' (first | refine z6 ?_ | refine z2 ?_ | refine z1 ?_ | refine zu ?_ | refine z8 ?_ | refine zl ?_))
    exact ⟨⟨1, v3, R3, lr3⟩, kB, sA, .inr ⟨rfl, h3⟩, by simp only; omega⟩
  · rw [if_neg (by omega)]
    (repeat' (first | refine z7 ?_ | refine z6 ?_ | refine z2 ?_ | refine z1 ?_ | refine zb ?_ | refine zw ?_ | refine zy ?_ | refine zz ?_ | refine za4 ?_))
    exact e_norm _ ⟨rfl, v, R, lr, hx, rfl⟩ sA

theorem toG_tr (d a b' q t a2 b2 : Nat) (lk : Value) (ia : Option Addr) (im ic : Nat) (KB : Blk) (sv : Value) (raw : List UInt8) (outs : List (List UInt8)) (G : Blk)
    (hB : Blks (.slice ia im ic) [.iface 190 (lp q)] KB) (hS : ShownG "PrintHTML" sv G outs) (hm1 : outs.flatten.length ≤ 800000) :
    Tr Tryz.prog 28 [.iface 57 (lp d)] [docb d a b' (.slice ia im ic) lk, pgb q a2 b2 t, txb t a2 b2 sv raw, KB, G] fun u K => u = str (paraO outs.flatten) ∧ K = [] := by
  refine Tr.start (n := 7) (rs := [.tmp 2]) rfl rfl rfl rfl fun B => ?_
  (repeat' (first | refine z7 ?_ | refine z6 ?_ | refine z2 ?_ | refine z1 ?_ | refine z8 ?_ | refine za ?_ | refine zai (fun _ => ?_)))
  rename_i b
  refine zct ?_
  refine zcw (docG_tr d a b' q t a2 b2 b lk ia im ic KB sv raw outs G hB hS hm1) (fun u K hR => ?_)
  obtain ⟨rfl, v3, R3, lr3, h3, rfl⟩ := hR
  (repeat' (first | refine za9 (bufString_tr b v3 (paraO outs.flatten) R3 lr3 h3 (by simp)) ?_ | refine z7 ?_ | refine z6 ?_ | refine z2 ?_ | refine z1 ?_ | refine ze ?_ | refine za ?_))
  exact e_ret [] ⟨rfl, rfl⟩ sA

theorem Tr.weakI {f : FuncId} {args : List Value} {H0 H : Heap} {R : Value → Heap → Prop} (h : Tr Tryz.prog f args H R) (hs : SubH H0 H) : Tr Tryz.prog f args H0 R :=
  ⟨fun B w hw => h.run B w (hw.sub hs)⟩
theorem SubH.nilE {a b c : Blk} : SubH [a, b, c] [a, b, c, []] := ⟨[], by simp⟩
theorem SubH.dropE {a b c e f : Blk} : SubH [a, b, c, [], e, f] [a, b, c, e, f] := ⟨[], by simp⟩
theorem SubH.joinE {a b c e f : Blk} : SubH [a, b, c, e, f] [a, b, c, e ++ f] := ⟨[], by simp⟩
theorem Own.isSliceI {E sz : Nat} {v : Value} {m : Nat} {xs : List Value} {Bk : Blk} (h : Own E sz v m xs Bk) : ∃ a c, v = .slice a m c := by
  rcases h.2 with ⟨rfl, rfl, rfl⟩ | ⟨g, cap, cur, rfl, _⟩
  · exact ⟨_, _, rfl⟩
  · exact ⟨_, _, rfl⟩
/-- What the general inline asks of a line without an ampersand. -/
structure LineOK (io : IO) (es : List Value) (s : List UInt8) : Prop where
  len : s.length ≤ 10000
  pl : PL s
  bt : btrim s = s
  asc : Asc s
  amp : ∀ c ∈ s, c.toNat ≠ 38
  tab : io.tab = tabOf es
  tb : io.tb = []
  ent : io.ent = fun _ => none
  url : ∀ i k d j, linkCloseM (tabOf es) [] s i k = some (d, j) → d.url.length ≤ 1000000
  tx : txtLen (emphM (scanM io s)) ≤ 1000000000
  m32 : at0 s 0 ≠ 32
  m9 : at0 s 0 ≠ 9
  m10 : at0 s 0 ≠ 10
  m91 : at0 s 0 ≠ 91

theorem inlineI_tr (p pr T : Nat) (es : List Value) (hE : EntOK es) (d q : Bool) (st : PS) (s : List UInt8) (io : IO) (h1 : io.quotes = q) (h2 : io.del = d) (h : LineOK io es s) (hpar : st.par = lp pr) (hlk : st.links = .map none) (cn : Bool) (hcn : st.corner = .bool cn) (hbt : st.bt.length = 81) :
    Tr Tryz.prog 46 [lp p, str s] [st.blk p, (poO d q).blk pr, ent T es] fun u K => ∃ cn' e' lv' bt' vals LR IB, bt'.length = 81 ∧ Inls u vals LR ∧ InsR (inlineM io s) vals IB ∧ K = [({ st with corner := .bool cn', str := str s, em := inat e', list := lv', bt := bt' } : PS).blk p, (poO d q).blk pr, ent T es, LR, IB] := by
  have hn : ∀ i : Nat, s[i]? ≠ some (38 : UInt8) := fun i hi => h.amp 38 (List.mem_of_getElem? hi) rfl
  have hlen := h.len
  refine Tr.ps (Tr.weakI (inlineG_tr p pr T (poO d q) st es hE s s h.bt [] [] io h1 h2 h.tab h.tb (by omega) (by omega) h.asc (fun i hi => absurd hi (hn i)) (fun i t b _ hi => absurd hi (hn i)) h.url h.tx (fun h => (by cases h)) (fun h => (by cases h)) (fun h => (by cases h)) rfl hpar (by rw [hlk]; exact ⟨fun _ => .nil, fun x hx => by cases hx⟩) cn hcn hbt) (SubH.nilE)) (fun v H' hR => ?_)
  obtain ⟨cn', e', lv', bt', vals, LR, IB, k1, k2, k3, rfl⟩ := hR
  exact ⟨_, ⟨cn', e', lv', bt', vals, LR, IB, k1, k2, k3, rfl⟩, SubH.dropE⟩

theorem docI_tr (pr T : Nat) (es : List Value) (hE : EntOK es) (d q : Bool) (s : List UInt8) (io : IO) (h1 : io.quotes = q) (h2 : io.del = d) (h : LineOK io es s) :
    Tr Tryz.prog 30 [lp pr, str s] [(poO d q).blk pr, ent T es] fun u K => ∃ dd e qq t ia im ic KB sv vals LR IB, u = lp dd ∧ Blks (.slice ia im ic) [.iface 190 (lp qq)] KB ∧ Inls sv vals LR ∧ InsR (inlineM io s) vals IB ∧
      K = [ent T es, docb dd 0 e (.slice ia im ic) (.map none), pgb qq 1 (1 + 1 - 1) t, txb t 1 (1 + 1 - 1) sv s, KB, LR ++ IB] := by
  have hlen := h.len
  have hpt := parseE_tr pr (ent T es) (poO d q) [s] s (jn_one _) (by simp) (by simp) (by omega) (fun l hl => by simp at hl; subst hl; exact h.pl) (fun ia im ic G => ∃ vals LR IB, Inls (.slice ia im ic) vals LR ∧ InsR (inlineM io s) vals IB ∧ G = LR ++ IB) rfl rfl h.m32 h.m9 h.m10 h.m91
    (fun p st hs hcn hlk hbt => Tr.ps (inlineI_tr p pr T es hE d q st s io h1 h2 h hs hlk false hcn hbt) (fun v H' hR => by
      obtain ⟨cn', e', lv', bt', vals, LR, IB, k1, k2, k3, rfl⟩ := hR
      obtain ⟨ia, ic, rfl⟩ := Own.isSliceI k2
      exact ⟨_, ⟨({ st with corner := .bool cn', str := str s, em := inat e', list := lv', bt := bt' } : PS), ia, vals.length, ic, LR ++ IB, rfl, ⟨vals, LR, IB, k2, k3, rfl⟩, rfl, rfl, rfl⟩, SubH.joinE⟩))
  refine Tr.start (n := 14) (rs := [.tmp 4]) rfl rfl rfl rfl fun B => ?_
  (repeat' (first | refine z7 ?_ | refine z6 ?_ | refine z2 ?_ | refine z1 ?_ | refine z8 ?_ | refine za ?_))
  refine za1 hpt (fun u K hR => ?_)
  obtain ⟨dd, qq, t, cv, e, ia, im, ic, KB, ja, jm, jc, G, rfl, hB, ⟨vals, LR, IB, k2, k3, rfl⟩, rfl⟩ := hR
  (repeat' (first | refine z7 ?_ | refine z6 ?_ | refine z2 ?_ | refine z1 ?_ | refine ze ?_ | refine z8 ?_ | refine za ?_ | refine za0 ?_))
  exact e_ret [ent T es, docb dd 0 e (.slice ia im ic) (.map none), pgb qq 1 (1 + 1 - 1) t, txb t 1 (1 + 1 - 1) (.slice ja jm jc) s, KB, LR ++ IB] ⟨dd, e, qq, t, ia, im, ic, KB, _, vals, LR, IB, rfl, hB, k2, k3, rfl⟩ sA

end Go.Proofs

namespace Go.Proofs
open Go Go.Eng
set_option maxRecDepth 40000
set_option maxHeartbeats 200000

/-! The doors: ZZInlineHTML, ZZInlines. -/
theorem rowD {l r : List In} {t : List UInt8} {vals : List Value} {IB G : Blk} (hI : InsP l vals IB) (hG : ∀ y ∈ IB, y ∈ G) (hz : SzIs l) (hl : l = .plain (120 :: t) :: r) (j : Nat) (v : Value) (hv : vals[j]? = some v) :
    ∃ out, (htmlIs l)[j]? = some out ∧ ∃ ty u, v = .iface ty u ∧ ∃ f, Cal Tryz.prog f ∧ MethodIs Tryz.prog ty u "PrintHTML" f u ∧ ∀ (b : Nat) (w : Value) (l2 : List UInt8) (R : Blk) (lr : Int), BRow w l2 R → (j ≠ 0 → l2 ≠ []) → l2.length + out.length ≤ 900000 →
      Tr Tryz.prog f [u, lp b] [G, bufb b w lr, R] fun w' K => w' = unit ∧ ∃ v' R' lr', BRow v' (l2 ++ out) R' ∧ K = [G, bufb b v' lr', R'] := by
  subst hl
  cases j with
  | zero =>
    cases hI with
    | cons h hs =>
      cases h with
      | @plain _ q T rr =>
      simp at hv
      subst hv
      exact ⟨escH (120 :: t), rfl, _, _, rfl, 306, inferInstance, fun w => by kernel_rfl, fun b w l2 R lr hR _ hl => plainH_tr q b (120 :: t) rr T w l2 R G lr (hG _ (by simp)) hz.1 hR (by omega)⟩
  | succ j =>
    obtain ⟨out, h1, ty, u, h2, f, h3, h4, h5⟩ := prnDs _ hI hG hz (j + 1) v hv
    exact ⟨out, h1, ty, u, h2, f, h3, h4, fun b w l2 R lr hR hn hl => h5 b w l2 R lr hR (hn (by omega)) hl⟩
theorem escH_120 (t : List UInt8) : escH (120 :: t) ≠ [] := by
  intro e
  have := congrArg List.length e
  simp [escH, escB] at this
theorem zzHTML_tr {l r : List In} {t : List UInt8} {sv : Value} {vals : List Value} {LB IB : Blk} (hL : Inls sv vals LB) (hI : InsP l vals IB) (hz : SzIs l) (hl : l = .plain (120 :: t) :: r) (hlim : (htmlIs l).flatten.length ≤ 800000) :
    Tr Tryz.prog 31 [sv] [LB, IB] fun u K => u = str (htmlIs l).flatten ∧ K = [] := by
  have hrow := rowD (G := LB ++ IB) hI (fun y hy => by simp [hy]) hz hl
  have hvl : vals.length = (htmlIs l).length := by rw [htmlIs_len, hI.length]
  have hout0 : (htmlIs l)[0]? = some (escH (120 :: t)) := by rw [hl]; rfl
  have hpos : 0 < (htmlIs l).length := (List.getElem?_eq_some_iff.1 hout0).1
  generalize htmlIs l = outs at hrow hvl hout0 hpos hlim ⊢
  rcases hL.2 with ⟨_, e2, _⟩ | ⟨gx, cap, curx, rfl, rfl, k1, k2, k3, k4⟩
  · omega
  have hmg : ∀ H, HMem (([(gx, cellsOf curx 89)] ++ IB) :: H) gx (cellsOf curx 89) := fun H => HMem.of_chunk (by simp)
  refine ⟨fun B w hw => (?_ : Tr Tryz.prog 31 [.slice (some ⟨gx, 0, none⟩) vals.length cap] [[(gx, cellsOf curx 89)] ++ IB] _).run B w (hw.sub (subE (by simp)))⟩
  generalize [(gx, cellsOf curx 89)] ++ IB = G at hrow hmg ⊢
  refine Tr.start (n := 16) (rs := [.tmp 2]) rfl rfl rfl rfl fun B => ?_
  (repeat' (first | refine z7 ?_ | refine z6 ?_ | refine z2 ?_ | refine z1 ?_ | refine zf ?_ | refine z8 ?_ | refine za ?_ | refine zah ?_ | refine zai (fun _ => ?_)))
  rename_i b
  refine Wp.weak _ [bufb b (.slice none 0 0) 0, [], G] (fun _ _ h => h) (subE (by simp)) ?_
  refine za6 (fun y : PW => [(3, lp b), (6, .slice (some ⟨gx, 0, none⟩) vals.length cap), (7, inat vals.length), (8, inat y.j)]) (fun y => [G, bufb b y.v y.lr, y.R])
    (fun y => y.j ≤ outs.length ∧ BRow y.v (outs.take y.j).flatten y.R) (fun y => outs.length - y.j) ⟨0, .slice none 0 0, [], 0⟩ ⟨Nat.zero_le _, BRow.nil⟩ kB sA fun y hy => ?_
  obtain ⟨j, v, R, lr⟩ := y
  obtain ⟨y1, y2⟩ := hy
  simp only at y1 y2 ⊢
  by_cases hj : j < outs.length
  · have hvj : vals[j]? = some (vals[j]'(by omega)) := List.getElem?_eq_getElem _
    obtain ⟨out, ho, ty, u, hx, f, hf, hme, htr⟩ := hrow j _ hvj
    have hc' : curx[0 + j * 1]? = some (.iface ty u) := by
      rw [hx, ← k4, List.getElem?_take] at hvj
      split at hvj
      · rw [show 0 + j * 1 = j by omega]; exact hvj
      · cases hvj
    have hfl := out_le ho
    have hne : j ≠ 0 → (outs.take j).flatten ≠ [] := by
      intro hj0 e
      have h0 : outs.take j = escH (120 :: t) :: (outs.take j).tail := by
        cases hout : outs with
        | nil => rw [hout] at hout0; simp at hout0
        | cons a r =>
          rw [hout] at hout0
          simp at hout0
          subst hout0
          obtain ⟨k, rfl⟩ : ∃ k, j = k + 1 := ⟨j - 1, by omega⟩
          rfl
      rw [h0, List.flatten_cons] at e
      exact escH_120 t (List.append_eq_nil_iff.1 e).1
    (repeat' (first | refine Ops.pure _ (zar (by rfl) (by repeat (first | exact hmg _ | apply HMem.there)) hc') (by rfl) ?_ | refine z7 ?_ | refine z6 ?_ | refine z2 ?_ | refine z1 ?_ | refine zc ?_ | refine zf ?_ | refine zd ?_ | refine z8 ?_ | refine za ?_ | refine zm ?_ | refine zal ?_))
    refine Ops.invoke (f := f) (args := [lp b]) hf.out rfl hme rfl (htr b v _ R lr y2 hne (by omega)) (by repeat' (first | exact HTakes.nil | exact HTake.here | apply HTakes.cons | apply HTake.there)) rfl (fun u K hR => ?_)
    obtain ⟨rfl, v', R', lr', h9, rfl⟩ := hR
    (repeat' (first | refine z6 ?_ | refine z2 ?_ | refine z1 ?_ | refine zu ?_ | refine z8 ?_ | refine zl ?_))
    exact ⟨⟨j + 1, v', R', lr'⟩, kB, sA, ⟨by simp only; omega, by simp only; rw [flat_snoc ho]; exact h9⟩, by simp only; omega⟩
  · have : j = outs.length := by omega
    subst this
    rw [List.take_of_length_le (by omega)] at y2
    have hfne : outs.flatten ≠ [] := by
      intro e
      cases hout : outs with
      | nil => rw [hout] at hpos; simp at hpos
      | cons a r =>
        rw [hout] at hout0 e
        simp at hout0
        subst hout0
        rw [List.flatten_cons] at e
        exact escH_120 t (List.append_eq_nil_iff.1 e).1
    (repeat' (first | refine za9 (bufString_tr b v outs.flatten R lr y2 hfne) ?_ | refine z7 ?_ | refine z6 ?_ | refine z2 ?_ | refine z1 ?_ | refine zb ?_ | refine zw ?_ | refine zy ?_ | refine zz ?_ | refine ze ?_ | refine za ?_ | refine za4 ?_))
    exact e_ret [] ⟨rfl, rfl⟩ sA
theorem links_tr : Tr Tryz.prog 35 [.slice none 0 0] [] fun u K => ∃ r, u = .map (some r) ∧ K = [[(r, .map #[] 0)]] := by
  refine Tr.start (n := 27) (rs := [.tmp 2]) rfl rfl rfl rfl fun B => ?_
  (repeat' (first | refine z7 ?_ | refine z6 ?_ | refine z2 ?_ | refine z1 ?_ | refine za ?_))
  refine Ops.makeMap rfl (fun r => ?_)
  (repeat' (first | refine z7 ?_ | refine z6 ?_ | refine z2 ?_ | refine z1 ?_ | refine zf ?_ | refine z8 ?_ | refine za ?_ | refine zah ?_))
  refine za6 (fun _ : Unit => [(3, .map (some r)), (7, .slice none 0 0), (8, inat 0), (9, inat 0)]) (fun _ => [[(r, .map #[] 0)]]) (fun _ => True) (fun _ => 0) () trivial kB sA fun y hy => ?_
  (repeat' (first | refine z7 ?_ | refine z6 ?_ | refine z2 ?_ | refine z1 ?_ | refine zb ?_ | refine zw ?_ | refine zy ?_ | refine zz ?_ | refine ze ?_ | refine z8 ?_ | refine za ?_ | refine za4 ?_))
  exact e_ret [[(r, .map #[] 0)]] ⟨r, rfl, rfl⟩ sA
/-- What such a line is asked. -/
structure DLn (s : List UInt8) : Prop where
  len : s.length ≤ 100
  all : ∀ c ∈ s, och c
  hd : s[0]? = some 120
  bt : btrim s = s
abbrev ioD (d : Bool) (es : List Value) : IO := ⟨false, d, fun _ => none, tabOf es, []⟩
theorem DLn.amp {s : List UInt8} (h : DLn s) : ∀ c ∈ s, c.toNat ≠ 38 := fun c hc => by have := h.all c hc; unfold och at this; omega
theorem DLn.asc {s : List UInt8} (h : DLn s) : Asc s := fun c hc => by have := h.all c hc; unfold och at this; omega
theorem zzInlines_tr (pr r T : Nat) (es : List Value) (hE : EntOK es) (d : Bool) (s : List UInt8) (h : DLn s) :
    Tr Tryz.prog 34 [lp pr, str s, .map (some r)] [(poO d false).blk pr, [(r, .map #[] 0)], ent T es] fun u K => ∃ vals LR IB, Inls u vals LR ∧ InsR (inlineM (ioD d es) s) vals IB ∧ K = [ent T es, LR, IB] := by
  have hlen := h.len
  have hn : ∀ i : Nat, s[i]? ≠ some (38 : UInt8) := fun i hi => h.amp 38 (List.mem_of_getElem? hi) rfl
  have hEW : EntWF (ioD d es) s := fun i t b e => by cases e
  obtain ⟨q1, q2, q3, t, l', q4⟩ := inlineD (o := ioD d es) (s := s) (by omega) hEW h.all h.hd
  have hI := fun (p : Nat) => inlineG_tr p pr T (poO d false) (⟨lp pr, .pointer none, .map (some r), .int .i64 0, .slice none 0 0, .int .i64 0, .bool false, str [], .int .i64 0, .slice none 0 0, .slice none 0 0, .slice none 0 0, bt0⟩ : PS) es hE s s h.bt [] [(r, .map #[] 0)] (ioD d es) rfl rfl rfl rfl (by omega) (by omega) h.asc (fun i hi => absurd hi (hn i)) hEW
    (fun i k e j hk => by have := link_url_le (fun c hc => ⟨by have := h.all c hc; unfold och at this; omega, h.amp c hc⟩) hk; omega) (by omega) (fun h => (by cases h)) (fun h => (by cases h)) (fun h => (by cases h)) rfl rfl ⟨fun H => .at HMem.here rfl, fun x hx => by cases hx⟩ false rfl rfl
  refine Tr.start (n := 25) (rs := [.tmp 6]) rfl rfl rfl rfl fun B => ?_
  (repeat' (first | refine zex ?_ | refine z7 ?_ | refine z6 ?_ | refine z2 ?_ | refine z1 ?_ | refine z8 ?_ | refine za ?_ | refine zn ?_ | refine zp ?_ | refine zq ?_ | refine zao ?_ | refine zaf (fun _ => ?_)))
  rename_i p
  rw [show (some r).isNone = false from rfl]
  (repeat' (first | refine z7 ?_ | refine z6 ?_ | refine z1 ?_ | refine zb ?_ | refine zd ?_ | refine z8 ?_))
  refine za1 (hI p) (fun u K hR => ?_)
  obtain ⟨cn', e', lv', bt', vals, LR, IB, j1, j2, j3, rfl⟩ := hR
  have hvl : 1 ≤ vals.length := by rw [j3.length, q4]; simp
  have hvl2 : vals.length ≤ 100 := by rw [j3.length]; have := len_wt _ q1; omega
  rcases j2.2 with ⟨_, e2, _⟩ | ⟨gx, cap, curx, rfl, rfl, k1, k2, k3, k4⟩
  · omega
  skip
  refine zdz (fun v' Bk' hO => ?_)
  have hO' : Inls v' vals Bk' := by
    unfold Inls
    rw [List.drop_zero, ← Nat.mul_one vals.length, k4, Nat.mul_one] at hO
    exact hO
  (repeat' (first | refine z2 ?_ | refine z1 ?_ | refine ze ?_ | refine za ?_))
  exact e_ret (vs := [v']) [ent T es, Bk', IB] ⟨vals, Bk', IB, hO', j3, rfl⟩ sA
end Go.Proofs

namespace Go.Proofs
open Go Go.Eng
set_option maxRecDepth 20000
set_option maxHeartbeats 200000

theorem plD {tx : List UInt8} (h : DLn tx) : PL tx := by
  have hlen := h.len
  have hall := h.all
  obtain ⟨r, e⟩ : ∃ r, tx = 120 :: r := by
    have h0 := h.hd
    cases tx with
    | nil => simp at h0
    | cons a r => simp at h0; exact ⟨r, by rw [h0]⟩
  have h0 : at0 tx 0 = 120 := by rw [e]; rfl
  have hns : nsp tx = 0 := by rw [e]; rfl
  have hsp : sp3 0 tx = 0 := by unfold sp3; rw [List.drop_zero, hns, Nat.zero_min]
  have hlt : ltrim tx = tx := by
    rw [e]; unfold ltrim
    rw [List.dropWhile_cons_of_neg]
    simp [isBl]
  have hat : ∀ j, at0 tx j = 0 ∨ at0 tx j = 120 ∨ at0 tx j = 97 ∨ at0 tx j = 98 ∨ at0 tx j = 32 ∨ at0 tx j = 126 ∨ at0 tx j = 42 ∨ at0 tx j = 96 := fun j => by
    unfold at0
    split
    · rename_i d hd; exact .inr (hall d (List.mem_of_getElem? hd))
    · exact .inl rfl
  have hnt : NoTab tx := fun d hd => by have := hall d hd; unfold och at this; omega
  have hq : ∀ k, k ≠ 120 → at0 tx (sp3 0 tx) ≠ k := fun k hk => by rw [hsp, h0]; exact fun h => hk h.symm
  refine ⟨⟨hnt, by omega, Nat.zero_le _, by rw [List.drop_zero, hlt, e]; simp, by rw [List.drop_zero, hns]; omega, hq _ (by omega), fun nl q nq nv => trimHeading_no q nq 0 nv tx nl hnt (by omega) (Nat.zero_le _) (hq 35 (by omega)), hq _ (by omega), hq _ (by omega), hq _ (by omega), hq _ (by omega), hq _ (by omega), hq _ (by omega), hq _ (by omega), ?_⟩, hlt, fun d hd => ?_⟩
  · rw [hsp, List.drop_zero]
    refine ⟨by omega, by omega, by omega, fun j hj hj0 => ?_⟩
    have := hat j
    omega
  · have := hall d hd
    unfold och at this
    refine ⟨fun h => ?_, fun h => ?_, fun h => ?_⟩ <;> (subst h; exact absurd this (by decide))
theorem lineD {s : List UInt8} (h : DLn s) (d : Bool) (es : List Value) : LineOK (ioD d es) es s := by
  have hlen := h.len
  have hEW : EntWF (ioD d es) s := fun i t b e => by cases e
  obtain ⟨q1, q2, q3, t, l', q4⟩ := inlineD (o := ioD d es) (s := s) (by omega) hEW h.all h.hd
  have h0 : at0 s 0 = 120 := by rw [at0_some h.hd]; rfl
  exact ⟨by omega, plD h, h.bt, h.asc, h.amp, rfl, rfl, rfl, fun i k e j hk => by have := link_url_le (fun c hc => ⟨by have := h.all c hc; unfold och at this; omega, h.amp c hc⟩) hk; omega, by omega, by omega, by omega, by omega, by omega⟩
theorem htmlD_tr (T : Nat) (es : List Value) (hE : EntOK es) (d : Bool) (s : List UInt8) (h : DLn s) :
    TrD Tryz.prog 12 [optO d false, str s] [ent T es] (str (paraO (htmlIs (inlineM (ioD d es) s)).flatten)) [ent T es] := by
  have hlen := h.len
  have hEW : EntWF (ioD d es) s := fun i t b e => by cases e
  obtain ⟨q1, q2, q3, t, l', q4⟩ := inlineD (o := ioD d es) (s := s) (by omega) hEW h.all h.hd
  have hlim := html_wts _ q1
  have hz := sz_wts _ q1 (by omega)
  refine Tr.start (n := 11) (rs := [.tmp 4]) rfl rfl rfl rfl fun B => ?_
  (repeat' (first | refine z7 ?_ | refine z6 ?_ | refine z2 ?_ | refine z1 ?_ | refine za ?_ | refine zak ?_ | refine zaf (fun _ => ?_)))
  rename_i r
  refine za1 (parserO_tr d false) (fun u K hR => ?_)
  obtain ⟨pr, rfl, rfl⟩ := hR
  (repeat' (first | refine z8 ?_))
  refine za1 (docI_tr pr T es hE d false s (ioD d es) rfl rfl (lineD h d es)) (fun u K hR => ?_)
  obtain ⟨dd, e, qq, t, ia, im, ic, KB, sv, vals, LR, IB, rfl, hB, k2, k3, rfl⟩ := hR
  (repeat' (first | refine zan ?_))
  refine za1 (toG_tr dd 0 e qq t 1 (1 + 1 - 1) (.map none) ia im ic KB sv s _ (LR ++ IB) hB (shown_of (outs := htmlIs (inlineM (ioD d es) s)) k2 (fun y hy => by simp [hy]) (by rw [htmlIs_len, k3.length]) (prnDs _ (toPs _ q1 k3) (fun y hy => by simp [hy]) hz)) (by omega)) (fun u K hR => ?_)
  obtain ⟨rfl, rfl⟩ := hR
  (repeat' (first | refine z2 ?_ | refine z1 ?_ | refine ze ?_ | refine za ?_))
  exact e_ret [ent T es] ⟨rfl, rfl⟩ sA
theorem inlinesD_tr (T : Nat) (es : List Value) (hE : EntOK es) (d : Bool) (s : List UInt8) (h : DLn s) :
    Tr Tryz.prog 20 [optO d false, str s, .slice none 0 0] [ent T es] fun u K => ∃ ns LB NB, Nods u ns LB ∧ NodesR (nrms (inlineM (ioD d es) s)) ns NB ∧ K = [ent T es, LB, NB] := by
  have hlen := h.len
  have hEW : EntWF (ioD d es) s := fun i t b e => by cases e
  obtain ⟨q1, q2, q3, t, l', q4⟩ := inlineD (o := ioD d es) (s := s) (by omega) hEW h.all h.hd
  refine Tr.start (n := 14) (rs := [.tmp 6]) rfl rfl rfl rfl fun B => ?_
  (repeat' (first | refine z7 ?_ | refine z6 ?_ | refine z2 ?_ | refine z1 ?_ | refine za ?_ | refine zak ?_ | refine zaf (fun _ => ?_)))
  refine za1 (parserO_tr d false) (fun u K hR => ?_)
  obtain ⟨pr, rfl, rfl⟩ := hR
  (repeat' (first | refine z8 ?_))
  refine za1 links_tr (fun u K hR => ?_)
  obtain ⟨r, rfl, rfl⟩ := hR
  refine za1 (zzInlines_tr pr r T es hE d s h) (fun u K hR => ?_)
  obtain ⟨vals, LR, IB, j1, j2, rfl⟩ := hR
  refine za1 (inlines_tr q1 (by omega) u vals LR IB j1 j2) (fun u K hR => ?_)
  obtain ⟨ns, LB, NB, k1, k2, rfl⟩ := hR
  obtain ⟨ia, ic, rfl⟩ := Own.isSliceD k1
  (repeat' (first | refine z2 ?_ | refine z1 ?_ | refine ze ?_ | refine za ?_))
  exact e_ret (vs := [.slice ia ns.length ic]) [ent T es, LB, NB] ⟨ns, LB, NB, k1, k2, rfl⟩ sA
theorem inlinesHTML_tr {l r : List In} {t : List UInt8} {sv : Value} {ns : List ND} {LB NB : Blk} (hL : Nods sv ns LB) (hN : NodesR (nrms l) ns NB) (hs : Smps l) (hw : wtIs l ≤ 100) (hl : l = .plain (120 :: t) :: r) :
    Tr Tryz.prog 19 [sv] [LB, NB] fun u K => u = str (htmlIs l).flatten ∧ K = [] := by
  obtain ⟨n1, n2⟩ := nrms_smp l hs
  have hlim := html_wts _ hs
  have hz := sz_wts _ n1 (by omega)
  obtain ⟨ia, ic, rfl⟩ := Own.isSliceD hL
  refine Tr.start (n := 6) (rs := [.tmp 2]) rfl rfl rfl rfl fun B => ?_
  (repeat' (first | refine z7 ?_ | refine z6 ?_ | refine z2 ?_ | refine z1 ?_ | refine z8 ?_ | refine za ?_))
  refine za1 (written_tr hs (by omega) _ ns LB NB hL hN) (fun u K hR => ?_)
  obtain ⟨vals, IL, IB, h1, h2, rfl⟩ := hR
  refine za1 (zzHTML_tr (t := t) (r := nrms r) h1 h2 hz (by rw [hl]; rfl) (by rw [nrms_html]; omega)) (fun u K hR => ?_)
  obtain ⟨rfl, rfl⟩ := hR
  rw [nrms_html]
  (repeat' (first | refine z2 ?_ | refine z1 ?_ | refine ze ?_ | refine za ?_))
  exact e_ret [] ⟨rfl, rfl⟩ sA
theorem dln {s : List UInt8} (hl : s.length ≤ 40) (hall : ∀ c ∈ s, c ∈ ([97, 98, 32, 126, 42, 96] : List UInt8)) : DLn (120 :: (s ++ [120])) := by
  have hc : ∀ c ∈ (120 :: (s ++ [120]) : List UInt8), och c := by
    intro c hc
    simp only [List.mem_cons, List.mem_append, List.not_mem_nil, or_false] at hc
    unfold och
    rcases hc with rfl | hc | rfl
    · decide
    · have := hall c hc
      simp only [List.mem_cons, List.not_mem_nil, or_false] at this
      rcases this with rfl | rfl | rfl | rfl | rfl | rfl <;> decide
    · decide
  refine ⟨by simp; omega, hc, rfl, ?_⟩
  have e1 : ltrim (120 :: (s ++ [120])) = 120 :: (s ++ [120]) := by
    unfold ltrim
    rw [List.dropWhile_cons_of_neg]
    simp [isBl]
  unfold btrim
  rw [e1]
  unfold rtrim
  rw [show (120 :: (s ++ [120]) : List UInt8) = (120 :: s) ++ [120] by simp, List.reverse_append, List.reverse_singleton, List.singleton_append, List.dropWhile_cons_of_neg (by simp [isBl]), List.reverse_cons, List.reverse_reverse]
theorem fnOptionInlines_tr (T : Nat) (es : List Value) (hE : EntOK es) (s : List UInt8) (d : Bool) (hls : s.length ≤ 9223372036854775807) :
    TrD Tryz.prog 6 [str s, .bool d] [ent T es] (.bool true) [ent T es] := by
  refine Tr.start (n := 28) (rs := [.tmp 4]) rfl rfl rfl rfl fun B => ?_
  by_cases h0 : 2147483647 < s.length
  · (repeat' (first | refine z7 ?_ | refine z6 ?_ | refine z2 ?_ | refine z1 ?_ | refine zc ?_ | refine ze ?_ | refine zx ?_ | refine z8 ?_ | refine za ?_ | refine zaz ?_ | refine zg ?_))
    exact e_ret _ ⟨rfl, rfl⟩ sA
  (repeat' (first | refine z7 ?_ | refine z6 ?_ | refine z2 ?_ | refine z1 ?_ | refine zb ?_ | refine zd ?_ | refine z8 ?_ | refine za ?_ | refine zat ?_ | refine zg ?_))
  refine za1 (only_tr s [97, 98, 32, 126, 42, 96] 40 (by omega)) (fun u K hR => ?_)
  obtain ⟨rfl, r, rfl, hA⟩ := hR
  cases r with
  | false =>
    (repeat' (first | refine z7 ?_ | refine z6 ?_ | refine z2 ?_ | refine z1 ?_ | refine zc ?_ | refine ze ?_ | refine zx ?_ | refine za ?_ | refine zam ?_))
    exact e_ret _ ⟨rfl, rfl⟩ sA
  | true =>
  obtain ⟨hl, hall⟩ := hA rfl
  have hD := dln hl hall
  have e0 : ([120] ++ s ++ [120] : List UInt8) = 120 :: (s ++ [120]) := by simp
  have hlen := hD.len
  have hEW : EntWF (ioD d es) (120 :: (s ++ [120])) := fun i t b e => by cases e
  obtain ⟨q1, q2, q3, t, l', q4⟩ := inlineD (o := ioD d es) (s := 120 :: (s ++ [120])) (by omega) hEW hD.all hD.hd
  (repeat' (first | refine zde ?_ | refine z7 ?_ | refine z6 ?_ | refine z2 ?_ | refine z1 ?_ | refine zb ?_ | refine zd ?_ | refine z8 ?_ | refine za ?_ | refine zaq ?_ | refine zaj ?_ | refine zao ?_ | refine zai (fun _ => ?_)))
  rename_i r5
  rw [e0]
  refine Wp.draw_held (id := 7) [[(r5, cellsOf [.bool d, .bool false, .bool false, .bool false, .bool false, .bool false, .bool false, .bool false, .bool false, .bool false] 31)]] 11 Mixed.out sA rfl ?_
  refine hF 0 ?_
  refine hF 1 ?_
  refine hF 3 ?_
  refine hF 4 ?_
  refine hO 2 ?_
  (repeat' (first | refine za9 (htmlD_tr T es hE d _ hD) ?_ | refine z2 ?_ | refine z1 ?_))
  refine ⟨sA, ?_⟩
  refine hO 5 ?_
  refine za1 (inlinesD_tr T es hE d _ hD) (fun u K hR => ?_)
  obtain ⟨ns, LB, NB, k1, k2, rfl⟩ := hR
  (repeat' (first | refine z2 ?_ | refine z1 ?_))
  refine ⟨sA, ?_⟩
  refine hO 6 ?_
  refine za1 (inlinesHTML_tr k1 k2 q1 (by omega) q4) (fun u K hR => ?_)
  obtain ⟨rfl, rfl⟩ := hR
  have hlim := html_wts _ q1
  have heq : paraO (htmlIs (inlineM (ioD d es) (120 :: (s ++ [120])))).flatten = [60, 112, 62] ++ (htmlIs (inlineM (ioD d es) (120 :: (s ++ [120])))).flatten ++ [60, 47, 112, 62, 10] := by simp [paraO]
  (repeat' (first | refine z2 ?_ | refine z1 ?_))
  refine ⟨sA, ?_⟩
  refine hO 7 ?_
  (repeat' (first | refine zde ?_ | refine z2 ?_ | refine z1 ?_))
  refine ⟨sA, ?_⟩
  refine hO 8 ?_
  (repeat' (first | refine zde ?_ | refine z2 ?_ | refine z1 ?_))
  refine ⟨sA, ?_⟩
  refine hO 9 ?_
  (repeat' (first | refine zc8 (hr := heq) ?_ | refine z2 ?_ | refine z1 ?_))
  refine ⟨sA, ?_⟩
  refine hO 10 ?_
  (repeat' (first | refine z2 ?_ | refine z1 ?_ | refine za ?_))
  refine ⟨sA, ?_⟩
  refine OpsH.nil (by kernel_rfl) ?_
  (repeat' (first | refine ze ?_))
  exact e_ret _ ⟨rfl, rfl⟩ sA
end Go.Proofs

namespace Go.Proofs.YtjbpohkcmgelkaaGreatDoor
open Go
set_option maxRecDepth 20000
set_option maxHeartbeats 4000000

/-- A listed variable's reading, and that its cells are among the places that the condition speaks of. -/
theorem laidVars_row {P : Program} {w : World} : ∀ {l : List (String × DataW Unit)} {ps : List MemPlace}, DataW.LaidVars P w l ps → ∀ n d, (n, d) ∈ l →
    ∃ g t cs fuel p, P.globalNamed n = some g ∧ (P.globals[g]?).map (·.type) = some t ∧ w.var? P n = some cs ∧ DataW.trod (fun _ => ()) P w 0 (fun _ => true) false fuel t cs.toList = some (d, p) ∧ ∀ x ∈ MemPlace.row ⟨g, 0, none⟩ cs.size, x ∈ ps
  | [], _, _, _, _, hm => by cases hm
  | (n', d') :: r, ps, h, n, d, hm => by
    obtain ⟨g, t, cs, fuel, p, q, h1, h2, h3, h4, h5, h6⟩ := h
    rcases List.mem_cons.1 hm with e | e
    · cases e
      exact ⟨g, t, cs, fuel, p, h1, h2, h3, h4, fun x hx => by rw [h6]; simp [hx]⟩
    · obtain ⟨g', t', cs', fuel', p', k1, k2, k3, k4, k5⟩ := laidVars_row h5 n d e
      exact ⟨g', t', cs', fuel', p', k1, k2, k3, k4, fun x hx => by rw [h6]; have := k5 x hx; simp [this]⟩

theorem array_size {H : Type} {enc : TypeId × Value → H} {P : Program} {w : World} {base : Nat} {sp : Nat → Bool} {held : Bool} {fuel : Nat} {t e : TypeId} {n : Nat} {cs : List Value} {ds : List (DataW H)} {p : List MemPlace} (ht : P.underlying t = some (.array n e))
    (h : DataW.trod enc P w base sp held fuel t cs = some (.agg ds, p)) : cs.length = P.cellsOf t := by
  cases fuel with
  | zero => simp [DataW.trod] at h
  | succ fuel =>
    simp only [DataW.trod, ht] at h
    split at h
    · rename_i hc; exact hc
    · cases h

def entDs : List (DataW Unit) := match (Rows.laid_pub_paratext_pub_rscmarkdown_htmlEntities : DataW Unit) with | .agg l => l | _ => []
theorem entDs_eq : (Rows.laid_pub_paratext_pub_rscmarkdown_htmlEntities : DataW Unit) = .agg entDs := rfl
theorem entDs_get (i : Nat) (hi : i < 12) (d : DataW Unit) (h : entDs[i]? = some d) : ∃ a b : List UInt8, d = .agg [.lit (.string a), .lit (.string b)] ∧ (a ≠ [] ∧ a.length ≤ 8) ∧ (b ≠ [] ∧ b.length ≤ 8) := by
  rcases (by omega : i = 0 ∨ i = 1 ∨ i = 2 ∨ i = 3 ∨ i = 4 ∨ i = 5 ∨ i = 6 ∨ i = 7 ∨ i = 8 ∨ i = 9 ∨ i = 10 ∨ i = 11) with rfl | rfl | rfl | rfl | rfl | rfl | rfl | rfl | rfl | rfl | rfl | rfl
  all_goals (injection h with h; subst h; exact ⟨_, _, rfl, ⟨by simp, by simp⟩, ⟨by simp, by simp⟩⟩)

/-- The table of entities lies in memory when the call begins. -/
theorem ent_of_laid {W : World} {laid : List (String × DataW Unit)} (hp : (laid.all fun x => x.2.handleName?.isNone) = true)
    (hm : ("pub-paratext/pub/rscmarkdown.htmlEntities", (Rows.laid_pub_paratext_pub_rscmarkdown_htmlEntities : DataW Unit)) ∈ laid) (h : laidMetH Tryz.prog laid W) :
    ∃ T es, EntOK es ∧ W.heap[1]? = some (Eng.cellsOf es T) := by
  rw [MakeChecks.laidMetH_plain _ _ _ hp] at h
  obtain ⟨ps, hv, _, hcell⟩ := h
  obtain ⟨g, t, cs, fuel, p, hg, hty, hvar, hd, hrow⟩ := laidVars_row hv _ _ hm
  obtain rfl : 1 = g := Option.some.inj ((show Tryz.prog.globalNamed "pub-paratext/pub/rscmarkdown.htmlEntities" = some 1 by kernel_rfl).symm.trans hg)
  obtain rfl : 241 = t := Option.some.inj ((show (Tryz.prog.globals[1]?).map (·.type) = some 241 by kernel_rfl).symm.trans hty)
  rw [entDs_eq] at hd
  have hlen : cs.size = 24 := by
    have h1 := array_size Tryz.underlying241 hd
    have e : Tryz.prog.cellsOf 241 = 24 := by kernel_rfl
    rw [e] at h1; simpa using h1
  obtain ⟨⟨c, T, hh⟩, _⟩ := hcell 1 0 (hrow _ (MemPlace.mem_row.2 ⟨0, by omega, by simp⟩))
  have hcs : cs = c := by
    have hv2 := hvar
    unfold World.var? at hv2
    rw [hg] at hv2
    simp [hh] at hv2
    exact hv2.symm
  subst hcs
  refine ⟨T, cs.toList, fun k hk => ?_, by rw [hh]⟩
  have e2 : Tryz.prog.cellsOf 240 = 2 := by kernel_rfl
  have e1 : Tryz.prog.cellsOf 9 = 1 := by kernel_rfl
  obtain ⟨fuel1, d1, q1, hd1, ht1⟩ := Lib.array_elem Tryz.underlying241 hd (k / 2) (by omega)
  obtain ⟨a, b, rfl, ha, hb⟩ := entDs_get (k / 2) (by omega) d1 hd1
  rw [e2] at ht1
  obtain ⟨fuel2, d2, q2, hd2, ht2⟩ := Lib.array_elem Tryz.underlying240 ht1 (k % 2) (by omega)
  rw [e1] at ht2
  obtain ⟨s, hs1, hs2, _⟩ := DataW.trod_string Tryz.underlying9 ht2
  have hk : cs.toList[k]? = some (.string s) := by
    have h1 := congrArg (·[0]?) hs1
    have h2 : k / 2 * 2 + k % 2 = k := by omega
    have h3 : k % 2 < 2 := by omega
    simpa [List.getElem?_take, List.getElem?_drop, h2, h3] using h1
  refine ⟨s.data.toList, by rw [hk], ?_⟩
  injection hs2 with hs2 _
  rcases (by omega : k % 2 = 0 ∨ k % 2 = 1) with h0 | h0
  · rw [h0] at hd2
    injection hd2 with hd2
    rw [hs2] at hd2
    injection hd2 with hd2
    injection hd2 with hd2
    rw [← hd2]; exact ha
  · rw [h0] at hd2
    injection hd2 with hd2
    rw [hs2] at hd2
    injection hd2 with hd2
    injection hd2 with hd2
    rw [← hd2]; exact hb
#print axioms ent_of_laid
end Go.Proofs.YtjbpohkcmgelkaaGreatDoor

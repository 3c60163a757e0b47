/- Steps of the walk of the program and plain facts on what it computes. Conditions: as each theorem states them. -/
import Derived.Test.YtjbpohkcmgelkaaGreatDoorT18
import Derived.Test.YtjbpohkcmgelkaaGreatDoorT20
namespace Go.Proofs
open Go Go.Eng
set_option maxRecDepth 20000
set_option maxHeartbeats 4000000

theorem p_slice_loE {P : Program} {L : Eng.Loc} {H : Heap} {x : Operand} {t ty e : TypeId} {r off m c sz a : Nat} {lo : Operand} (ht : P.underlying t = some (.slice e)) (hs : ∀ w, (sizeOf e).run P w = .ok sz w)
    (hx : ev L x = some (.slice (some ⟨r, off, none⟩) m c)) (hlo : ev L lo = some (.int .i64 a)) (ha : a ≤ m) (hac : c = a) :
    Pure1 P L H (.slice t x (some lo) none none) ty (.slice (some ⟨r, off, none⟩) (m - a) (c - a)) := by
  intro ρ w o hρ _ ho _
  simp [execOp, ho, hρ _ _ hx, hρ _ _ hlo, Instr.sliceAt, Instr.slice, underlying, ht, Instr.sliceBounds, Instr.sliceBound, asIntOf, hs, ha, hac]
theorem s_slicelX {B : Base} {n : Nat} {L : Eng.Loc} {H : Heap} {Q : Eng.Post} {all : Array Oper} {rest : List Oper} {d : Nat} {ty : TypeId} {pos : String} {after : Array Edge} {x lo : Operand} {t e : TypeId} {r off m c sz a : Nat} [ht : USlice Tryz.prog t e] [hs : Siz Tryz.prog e sz] (hx : ev L x = some (.slice (some ⟨r, off, none⟩) m c)) (hlo : ev L lo = some (.int .i64 a)) (ha : a ≤ m) (hmc : m ≤ c) (hd : Nat.blt d n = true)
    (h : ∀ off', (a < c → off' = off + a * sz) → Ops Tryz.prog B n all rest ((d, .slice (some ⟨r, off', none⟩) (m - a) (c - a)) :: L) H Q) : Ops Tryz.prog B n all (⟨some d, .slice t x (some lo) none none, ty, pos, after, none⟩ :: rest) L H Q := by
  by_cases hac : a < c
  · exact Ops.pure _ (zdw ht.out hs.out hx hlo ha hac) hd (h _ fun _ => rfl)
  · exact Ops.pure _ (p_slice_loE ht.out hs.out hx hlo ha (by omega)) hd (h _ fun h' => absurd h' hac)
theorem link_w (B : Base) (Q : Eng.Post) [NoPan Q] (p pr T i llo e oi kk : Nat) (o : PO) (st : PS) (es : List Value) (hE : EntOK es) (s t : List UInt8) (tb : LTab) (bs cn : Bool) (ov : Value) (out : List In) (ops : List Nat) (vals : List Value) (LB LR IB OB : Blk)
    (hl : s.length ≤ 100000) (hA : Asc s) (hi : i < s.length) (hlk : LinksR st.links tb LB) (hcn : st.corner = .bool cn) (hem : st.em = inat e) (hstr : st.str = str s)
    (hei : e ≤ i) (hol : out.length ≤ e) (hlist : Inls st.list vals LR) (hins : InsR out vals IB) (hops : Own 3 1 ov ops.length (ops.map inat) OB) (hopl : ops.length ≤ 1000000)
    (hne : ops ≠ []) (hoi : ops.getD (ops.length - 1) 0 = oi) (hat : out[oi]? = some (.op t kk)) (hkk : kk ≤ i) (hwf : ∀ y ∈ out, EmWF y) (hap : Apart out) (hop : OpWF (.op t kk)) (htne : t ≠ [])
    (hU : ∀ i k d j, linkCloseM (tabOf es) tb s i k = some (d, j) → d.url.length ≤ 1000000)
    (hQn : ∀ (cn' : Bool) (ov' : Value) (OB' : Blk), (¬ (isImg t = true ∨ llo ≤ kk) ∨ linkCloseM (tabOf es) tb s i kk = none) → Own 3 1 ov' (ops.length - 1) ((ops.take (ops.length - 1)).map inat) OB' →
      ∀ L' H', Knows L' [(0, lp p), (1, str s), (5, ov'), (6, inat llo), (7, .bool bs), (8, inat i)] → SubH H' [({ st with corner := .bool cn' } : PS).blk p, o.blk pr, ent T es, LB, LR, IB, OB'] → Q .normal L' H')
    (hQs : ∀ (cn' : Bool) (d : LDat) (j : Nat) (ov' lv' : Value) (vals' : List Value) (LR' IB' OB' : Blk), (isImg t = true ∨ llo ≤ kk) → linkCloseM (tabOf es) tb s i kk = some (d, j) → Own 3 1 ov' (ops.length - 1) ((ops.take (ops.length - 1)).map inat) OB' → Inls lv' vals' LR' →
      InsR ((emitI s e i out).take oi ++ [nodeI t d (emphM ((emitI s e i out).drop (oi + 1)))]) vals' IB' →
      ∀ L' H', Knows L' [(0, lp p), (1, str s), (5, ov'), (6, inat (if isImg t then llo else kk)), (7, .bool bs), (8, inat j)] → SubH H' [({ st with corner := .bool cn', list := lv', em := inat j } : PS).blk p, o.blk pr, ent T es, LB, LR', IB', OB'] → Q (.exit 1) L' H') :
    ∀ x, nav ([1, 1, 1, 1, 1, 1, 1, 1, 1, 0, 0, 0, 1, 0, 1, 1, 1, 0, 1] ++ [0]) (((Tryz.prog.funcs[46]?).bind Func.body).getD .skip) = some x → Wp Tryz.prog B 335 x [(0, lp p), (1, str s), (5, ov), (6, inat llo), (7, .bool bs), (8, inat i)] [st.blk p, o.blk pr, ent T es, LB, LR, IB, OB] Q := by
  obtain ⟨par, root, links, lineno, stack, depth, corner, sv, em, list, lists, texts, bt⟩ := st
  dsimp only at hlk hcn hem hstr hlist hQn hQs
  subst hcn; subst hem; subst hstr
  have hoil := (List.getElem?_eq_some_iff.1 hat).1
  have hvl : vals.length = out.length := hins.length
  have hopos : 0 < ops.length := List.length_pos_iff.2 hne
  obtain ⟨c0, tl, rfl⟩ : ∃ c0 tl, t = c0 :: tl := by
    cases t with
    | nil => exact absurd rfl htne
    | cons a b => exact ⟨a, b, rfl⟩
  have hc0 : (c0 :: tl)[0]? = some c0 := rfl
  have hc0v : c0.toNat = 33 ∨ c0.toNat = 91 := hop
  have himg : isImg (c0 :: tl) = decide (c0.toNat = 33) := by
    unfold isImg
    rw [show (c0 :: tl).headD 0 = c0 from rfl]
    by_cases h : c0.toNat = 33
    · rw [decide_eq_true h, show c0 = 33 from UInt8.toNat_inj.1 h]; rfl
    · rw [decide_eq_false h]
      rw [beq_eq_false_iff_ne]
      intro e
      subst e
      exact h rfl
  -- the stack of openers
  obtain ⟨n1, hn1⟩ : ∃ n1, ops.length = n1 + 1 := ⟨ops.length - 1, by omega⟩
  rw [hn1] at hops
  obtain ⟨go, capo, curo, rfl, rfl, o1, o2, o3, o4⟩ := hops.pos
  rw [Nat.mul_one] at o3 o4
  have hco : curo[0 + (n1 + 1 - 1) * 1]? = some (inat oi) := by
    have h1 : (ops.map inat)[n1]? = some (inat oi) := by
      rw [List.getElem?_map, List.getElem?_eq_getElem (by omega)]
      have h2 : ops.getD (ops.length - 1) 0 = ops[n1]'(by omega) := by rw [List.getD, List.getElem?_eq_getElem (by omega)]; simp [hn1]
      rw [hoi] at h2
      rw [← h2]; rfl
    rw [← o4, List.getElem?_take] at h1
    split at h1
    · rw [show 0 + (n1 + 1 - 1) * 1 = n1 by omega]; exact h1
    · cases h1
  have hopt : Own 3 1 (.slice (some ⟨go, 0, none⟩) (n1 + 1 - 1) capo) (ops.length - 1) ((ops.take (ops.length - 1)).map inat) [(go, cellsOf curo 3)] := by
    rw [hn1]
    refine ⟨by rw [List.length_map, List.length_take]; omega, .inr ⟨go, capo, curo, rfl, rfl, by omega, o2, by omega, ?_⟩⟩
    rw [show (n1 + 1 - 1) * 1 = n1 by omega, show n1 + 1 - 1 = n1 by omega, List.map_take, ← o4, List.take_take, Nat.min_eq_left (by omega)]
  -- the list
  obtain ⟨nl, hnl⟩ : ∃ nl, vals.length = nl + 1 := ⟨vals.length - 1, by omega⟩
  have hlist' : Own 89 1 list (nl + 1) vals LR := by rw [← hnl]; exact hlist
  obtain ⟨gl, capl, curl, rfl, rfl, l1, l2, l3, l4⟩ := hlist'.pos
  rw [Nat.mul_one] at l3 l4
  obtain ⟨K1, G, K2, v, rfl, hv, hG, hK1, hK2⟩ := hins.at oi hat
  cases hG with
  | @op _ _ q =>
  have hcl : curl[0 + oi * 1]? = some (.iface 166 (lp q)) := by
    have h1 := hv
    rw [← l4, List.getElem?_take] at h1
    split at h1
    · rw [show 0 + oi * 1 = oi by omega]; exact h1
    · cases h1
  have hqm : (q, cellsOf [str (c0 :: tl), inat kk] 169) ∈ K1 ++ ([(q, cellsOf [str (c0 :: tl), inat kk] 169)] ++ K2) := by simp
  have hqM : ∀ a b c d e f H, HMem (a :: b :: c :: d :: e :: (K1 ++ ([(q, cellsOf [str (c0 :: tl), inat kk] 169)] ++ K2)) :: f :: H) q (cellsOf [str (c0 :: tl), inat kk] 169) := fun a b c d e f H => .there (.there (.there (.there (.there (HMem.of_chunk hqm)))))
  have hLC := linkCloseG_tr p T es hE (⟨par, root, links, lineno, stack, depth, .bool cn, str s, inat e, .slice (some ⟨gl, 0, none⟩) (nl + 1) capl, lists, texts, bt⟩ : PS) s i q kk (c0 :: tl) tb LB (K1 ++ ([(q, cellsOf [str (c0 :: tl), inat kk] 169)] ++ K2)) hl hi hkk hA hlk hqm cn rfl
  refine use_nav (by rfl) ?_
  (repeat (refine z7 ?_))
  ((repeat (refine z7 ?_)); refine z6 ?_; (repeat' (first | refine Ops.pure _ (zap (a := n1 + 1) (b := 1) (c := n1 + 1 - 1) (by rfl) (by rfl) (by omega) (by omega)) (by rfl) ?_ | refine zn (hc := hco) ?_ | refine z8 ?_ | refine za ?_ | refine zah ?_ | refine zal ?_)); refine z2 ?_; refine z1 ?_)
  ((repeat (refine z7 ?_)); refine z6 ?_; (repeat' (first | refine zn (hc := hcl) ?_ | refine z8 ?_ | refine za ?_ | refine zn ?_ | refine zp ?_ | refine zq ?_ | refine zal ?_ | refine zcm ?_)); refine z2 ?_; refine z1 ?_)
  ((repeat (refine z7 ?_)); refine z6 ?_; (repeat' (first | refine Ops.pure _ (zap (a := n1 + 1) (b := 1) (c := n1 + 1 - 1) (by rfl) (by rfl) (by omega) (by omega)) (by rfl) ?_ | refine z8 ?_ | refine za ?_ | refine zah ?_ | refine zch ?_)); refine z2 ?_; refine z1 ?_)
  (repeat (refine z7 ?_))
  refine zac [(0, lp p), (1, str s), (5, .slice (some ⟨go, 0, none⟩) (n1 + 1 - 1) capo), (6, inat llo), (7, .bool bs), (8, inat i), (16, inat oi), (17, lp q), (199, .bool (decide (isImg (c0 :: tl) = true ∨ llo ≤ kk)))] [(⟨par, root, links, lineno, stack, depth, .bool cn, str s, inat e, .slice (some ⟨gl, 0, none⟩) (nl + 1) capl, lists, texts, bt⟩ : PS).blk p, o.blk pr, ent T es, LB, [(gl, cellsOf curl 89)], K1 ++ ([(q, cellsOf [str (c0 :: tl), inat kk] 169)] ++ K2), [(go, cellsOf curo 3)]] ?_ ?_
  · by_cases h33 : c0.toNat = 33
    · rw [decide_eq_true (show isImg (c0 :: tl) = true ∨ llo ≤ kk from .inl (by rw [himg]; exact decide_eq_true h33))]
      (repeat' (first | refine zn (hm := hqM _ _ _ _ _ _ _) (hc := rfl) ?_ | refine Ops.pure _ (zc0 c0 (i := 0) (by rfl) (by rfl) hc0) (by rfl) ?_ | refine z6 ?_ | refine z2 ?_ | refine z1 ?_ | refine zaa ?_ | refine z8 ?_ | refine zp ?_ | refine zq ?_ | refine zt ?_ | refine zj ?_))
      exact ⟨kA, sA⟩
    · have hni : ¬ isImg (c0 :: tl) = true := by rw [himg, decide_eq_false h33]; intro h; cases h
      by_cases hlo : llo ≤ kk
      · rw [decide_eq_true (show isImg (c0 :: tl) = true ∨ llo ≤ kk from .inr hlo)]
        (repeat' (first | refine zn (hm := hqM _ _ _ _ _ _ _) (hc := rfl) ?_ | refine Ops.pure _ (zc0 c0 (i := 0) (by rfl) (by rfl) hc0) (by rfl) ?_ | refine z6 ?_ | refine z2 ?_ | refine z1 ?_ | refine zh ?_ | refine z8 ?_ | refine zp ?_ | refine zq ?_ | refine zb8 ?_ | refine zr ?_ | refine zk ?_))
        exact ⟨kA, sA⟩
      · rw [decide_eq_false (show ¬ (isImg (c0 :: tl) = true ∨ llo ≤ kk) from by rintro (h | h); exact hni h; exact hlo h)]
        (repeat' (first | refine zn (hm := hqM _ _ _ _ _ _ _) (hc := rfl) ?_ | refine Ops.pure _ (zc0 c0 (i := 0) (by rfl) (by rfl) hc0) (by rfl) ?_ | refine z6 ?_ | refine z2 ?_ | refine z1 ?_ | refine zh ?_ | refine z8 ?_ | refine zp ?_ | refine zq ?_ | refine zbt ?_ | refine zr ?_ | refine zk ?_))
        exact ⟨kA, sA⟩
  by_cases hcond : isImg (c0 :: tl) = true ∨ llo ≤ kk
  · rw [decide_eq_true hcond]
    refine zc ?_
    (repeat (refine z7 ?_))
    refine z6 ?_
    refine z8 ?_
    refine z8 ?_
    refine z8 ?_
    refine z8 ?_
    refine za1 hLC (fun u K hR => ?_)
    obtain ⟨ql, cn', rfl, rfl⟩ := hR
    cases hW : linkCloseM (tabOf es) tb s i kk with
    | none =>
      dsimp only [linkV, linkK]
      (repeat' (first | refine z7 ?_ | refine z6 ?_ | refine z2 ?_ | refine z1 ?_ | refine zb ?_ | refine zd ?_ | refine z8 ?_ | refine za ?_ | refine za0 ?_))
      exact ⟨hQn cn' _ _ (.inr hW) hopt _ _ kA sA⟩
    | some r =>
      obtain ⟨d, j⟩ := r
      dsimp only [linkV, linkK]
      (repeat' (first | refine z8 ?_ | refine za ?_ | refine za0 ?_))
      refine z2 ?_
      refine z1 ?_
      ((repeat (refine z7 ?_)); refine z6 ?_; (repeat' (first | refine z8 ?_)); refine z2 ?_; refine z1 ?_)
      (repeat (refine z7 ?_))
      refine zc ?_
      (repeat (refine z7 ?_))
      refine zau (fun b : Bool => [(0, lp p), (1, str s), (5, .slice (some ⟨go, 0, none⟩) (n1 + 1 - 1) capo), (6, inat llo), (7, .bool bs), (8, inat i), (16, inat oi), (17, lp q), (18, lp ql), (19, inat j)]) (fun b => [(⟨par, root, links, lineno, stack, depth, .bool b, str s, inat e, .slice (some ⟨gl, 0, none⟩) (nl + 1) capl, lists, texts, bt⟩ : PS).blk p, o.blk pr, ent T es, LB, [(gl, cellsOf curl 89)], K1 ++ ([(q, cellsOf [str (c0 :: tl), inat kk] 169)] ++ K2), [(go, cellsOf curo 3)], [(ql, cellsOf [.slice none 0 0, str d.url, str d.title, .int .u8 (d.tc : Nat), .bool d.cn] 110)]]) (fun _ => True) ?_ ?_
      · cases cn' with
        | true =>
          (repeat' (first | refine z6 ?_ | refine z2 ?_ | refine z1 ?_ | refine zaa ?_ | refine z8 ?_ | refine zn ?_ | refine zp ?_ | refine zq ?_ | refine zj ?_ | refine za5 ?_))
          exact ⟨true, kA, sA, trivial⟩
        | false =>
          cases hdc : d.cn with
          | true =>
            (repeat' (first | refine z6 ?_ | refine z2 ?_ | refine z1 ?_ | refine zh ?_ | refine zaa ?_ | refine z8 ?_ | refine zn ?_ | refine zp ?_ | refine zq ?_ | refine zj ?_ | refine zk ?_ | refine za5 ?_))
            exact ⟨true, kA, sA, trivial⟩
          | false =>
            (repeat' (first | refine z6 ?_ | refine zh ?_ | refine z8 ?_ | refine zn ?_ | refine zp ?_ | refine zq ?_ | refine zk ?_))
            refine za1 (linkCorner_tr d.url (hU i kk d j hW)) (fun u K hR => ?_)
            obtain ⟨b, rfl, rfl⟩ := hR
            (repeat' (first | refine z2 ?_ | refine z1 ?_ | refine zp ?_ | refine zq ?_ | refine zk ?_ | refine za5 ?_))
            exact ⟨b, kA, sA, trivial⟩
      rintro b -
      have hEm := emitX_tr p i e (⟨par, root, links, lineno, stack, depth, .bool b, str s, inat e, .slice (some ⟨gl, 0, none⟩) (nl + 1) capl, lists, texts, bt⟩ : PS) s vals [(gl, cellsOf curl 89)] rfl rfl (by omega) (by omega) hlist (by omega)
      (repeat (refine z7 ?_))
      refine z6 ?_
      (repeat' (first | refine z8 ?_))
      refine za1 hEm (fun u K hR => ?_)
      obtain ⟨rfl, vx, lv', LR', IX, e', hL', hX, rfl⟩ := hR
      refine z2 ?_
      refine z1 ?_
      obtain ⟨ml, hml⟩ : ∃ ml, (vals ++ vx).length = ml + 1 := ⟨(vals ++ vx).length - 1, by simp; omega⟩
      have hL'' : Own 89 1 lv' (ml + 1) (vals ++ vx) LR' := by rw [← hml]; exact hL'
      obtain ⟨g2, cap2, cur2, rfl, rfl, m1, m2, m3, m4⟩ := hL''.pos
      rw [Nat.mul_one] at m3 m4
      have hmlo : oi + 1 ≤ ml + 1 := by rw [← hml, List.length_append]; omega
      have hxl : vx.length = (extI s e i).length := hX.length
      have hext : emitI s e i out = out ++ extI s e i := emitI_ext s e i out
      have helen := emitI_len (s := s) (i := i) hol
      have hal : (vals ++ vx).length = (emitI s e i out).length := by rw [hext, List.length_append, List.length_append, hvl, hxl]
      have hsrc : InsR ((emitI s e i out).drop (oi + 1)) ((vals ++ vx).drop (oi + 1)) (K2 ++ IX) := by
        rw [hext, List.drop_append_of_le_length (by omega), List.drop_append_of_le_length (by omega)]
        exact hK2.append hX
      have hrw : ∀ off', (oi + 1 < cap2 → off' = 0 + (oi + 1) * 1) → Rw InlT g2 off' (cap2 - (oi + 1)) (ml + 1 - (oi + 1)) ((vals ++ vx).drop (oi + 1)) cur2 0 false (.slice none 0 0) [] [(g2, cellsOf cur2 89)] := fun off' hoff =>
        Rw.apart (DB := []) (Own.nil _ _) (Nat.zero_le _) fun x hx => by
          rw [hoff (by omega), List.getElem?_drop, ← m4, List.getElem?_take, if_pos (by omega)]
          congr 1
          omega
      have hemph := fun (off' : Nat) (hoff : oi + 1 < cap2 → off' = 0 + (oi + 1) * 1) => emphG_tr false p g2 off' (cap2 - (oi + 1)) (ml + 1 - (oi + 1)) ((emitI s e i out).drop (oi + 1)) ((vals ++ vx).drop (oi + 1)) cur2 (.slice none 0 0) [(g2, cellsOf cur2 89)] (K2 ++ IX) (fun y hy => emitI_wf hwf y (List.mem_of_mem_drop hy)) ((emitI_ap hap).drop _) (by rw [List.length_drop]; omega) (by omega) (hrw off' hoff) hsrc
      refine w_sub (H' := [(⟨par, root, links, lineno, stack, depth, .bool b, str s, inat e', .slice (some ⟨g2, 0, none⟩) (ml + 1) cap2, lists, texts, bt⟩ : PS).blk p, o.blk pr, ent T es, LB, [(g2, cellsOf cur2 89)], K2 ++ IX, K1, [(q, cellsOf [str (c0 :: tl), inat kk] 169)], [(go, cellsOf curo 3)], [(ql, cellsOf [.slice none 0 0, str d.url, str d.title, .int .u8 (d.tc : Nat), .bool d.cn] 110)]]) (SubH.trans (H' := [K1 ++ ([(q, cellsOf [str (c0 :: tl), inat kk] 169)] ++ K2), (⟨par, root, links, lineno, stack, depth, .bool b, str s, inat e', .slice (some ⟨g2, 0, none⟩) (ml + 1) cap2, lists, texts, bt⟩ : PS).blk p, o.blk pr, ent T es, LB, [(g2, cellsOf cur2 89)], IX, [(go, cellsOf curo 3)], [(ql, cellsOf [.slice none 0 0, str d.url, str d.title, .int .u8 (d.tc : Nat), .bool d.cn] 110)]]) sA (SubH.trans (H' := [K1, [(q, cellsOf [str (c0 :: tl), inat kk] 169)], K2, (⟨par, root, links, lineno, stack, depth, .bool b, str s, inat e', .slice (some ⟨g2, 0, none⟩) (ml + 1) cap2, lists, texts, bt⟩ : PS).blk p, o.blk pr, ent T es, LB, [(g2, cellsOf cur2 89)], IX, [(go, cellsOf curo 3)], [(ql, cellsOf [.slice none 0 0, str d.url, str d.title, .int .u8 (d.tc : Nat), .bool d.cn] 110)]]) ⟨[], by simp⟩ (SubH.trans (H' := [(⟨par, root, links, lineno, stack, depth, .bool b, str s, inat e', .slice (some ⟨g2, 0, none⟩) (ml + 1) cap2, lists, texts, bt⟩ : PS).blk p, o.blk pr, ent T es, LB, [(g2, cellsOf cur2 89)], K2, IX, K1, [(q, cellsOf [str (c0 :: tl), inat kk] 169)], [(go, cellsOf curo 3)], [(ql, cellsOf [.slice none 0 0, str d.url, str d.title, .int .u8 (d.tc : Nat), .bool d.cn] 110)]]) sA ⟨[], by simp⟩))) ?_
      (repeat (refine z7 ?_))
      refine z6 ?_
      (repeat' (first | refine z8 ?_ | refine zn ?_ | refine zp ?_ | refine zq ?_ | refine zl ?_))
      refine s_slicelX (r := g2) (off := 0) (m := ml + 1) (c := cap2) (sz := 1) (a := oi + 1) rfl rfl hmlo (by omega) rfl (fun off' hoff => ?_)
      refine za1 (hemph off' hoff) (fun u K hR => ?_)
      obtain ⟨dvals, W', K', hrw2, hds, rfl⟩ := hR
      cases hrw2 with
      | @apart _ _ DB hO hle7 hcells =>
      obtain ⟨ua, uc, hush⟩ := ownShape hO
      subst hush
      refine Ops.weak (H' := [(⟨par, root, links, lineno, stack, depth, .bool b, str s, inat e', .slice (some ⟨g2, 0, none⟩) (ml + 1) cap2, lists, texts, bt⟩ : PS).blk p, o.blk pr, ent T es, LB, [(g2, cellsOf cur2 89)], DB, K', K1, [(q, cellsOf [str (c0 :: tl), inat kk] 169)], [(go, cellsOf curo 3)], [(ql, cellsOf [.slice none 0 0, str d.url, str d.title, .int .u8 (d.tc : Nat), .bool d.cn] 110)]]) (SubH.trans (H' := [DB ++ [(g2, cellsOf cur2 89)], (⟨par, root, links, lineno, stack, depth, .bool b, str s, inat e', .slice (some ⟨g2, 0, none⟩) (ml + 1) cap2, lists, texts, bt⟩ : PS).blk p, o.blk pr, ent T es, LB, K', K1, [(q, cellsOf [str (c0 :: tl), inat kk] 169)], [(go, cellsOf curo 3)], [(ql, cellsOf [.slice none 0 0, str d.url, str d.title, .int .u8 (d.tc : Nat), .bool d.cn] 110)]]) sA (SubH.trans SubH.cut2 sA)) ?_
      have htake : (emitI s e i out).take oi = out.take oi := by rw [hext, List.take_append_of_le_length (by omega)]
      have hvtk : (vals ++ vx).take oi = vals.take oi := List.take_append_of_le_length (by omega)
      have hcell1 : ∀ (w : Value), (cur2.set (0 + oi * 1) w).take (oi + 1) = vals.take oi ++ [w] := by
        intro w
        have hl2 : oi < cur2.length := by omega
        rw [show 0 + oi * 1 = oi by omega, List.take_add_one, List.getElem?_set_self hl2, List.take_set_of_le (Nat.le_refl _)]
        have h1 : cur2.take oi = (vals ++ vx).take oi := by rw [← m4, List.take_take, Nat.min_eq_left (by omega)]
        rw [h1, hvtk]; rfl
      have hnew : ∀ (w : Value), Inls (.slice (some ⟨g2, 0, none⟩) (oi + 1) cap2) (vals.take oi ++ [w]) [(g2, cellsOf (cur2.set (0 + oi * 1) w) 89)] := by
        intro w
        have hl3 : (vals.take oi ++ [w]).length = oi + 1 := by rw [List.length_append, List.length_take]; simp; omega
        show Own _ _ _ (vals.take oi ++ [w]).length _ _
        rw [hl3]
        exact ⟨by rw [hl3]; omega, .inr ⟨g2, cap2, _, rfl, rfl, by omega, m2, by rw [List.length_set]; omega, by rw [Nat.mul_one]; exact hcell1 w⟩⟩
      have hK'R : InsR (emphM ((emitI s e i out).drop (oi + 1))) dvals K' := hds.toR
      by_cases h33 : c0.toNat = 33
      · have hi1 : isImg (c0 :: tl) = true := by rw [himg]; exact decide_eq_true h33
        (repeat' (first | refine Ops.pure _ (zc0 c0 (i := 0) (by rfl) (by rfl) hc0) (by rfl) ?_ | refine zc5 ?_ | refine za9 (skip_tr p j (⟨par, root, links, lineno, stack, depth, .bool b, str s, inat e', .slice (some ⟨g2, 0, none⟩) (oi + 1) cap2, lists, texts, bt⟩ : PS)) ?_ | refine z7 ?_ | refine z6 ?_ | refine z2 ?_ | refine z1 ?_ | refine zc ?_ | refine zb ?_ | refine zd ?_ | refine zw ?_ | refine z8 ?_ | refine za ?_ | refine zn ?_ | refine zp ?_ | refine zq ?_ | refine zl ?_ | refine zt ?_ | refine zr ?_ | refine zch ?_ | refine zal ?_ | refine zan ?_ | refine za5 ?_))
        refine ⟨hQs b d j _ _ (vals.take oi ++ [.iface 147 (lp ql)]) _ (K1 ++ ((ql, cellsOf [.slice ua dvals.length uc, str d.url, str d.title, .int .u8 (d.tc : Nat), .bool d.cn] 110) :: (DB ++ K'))) _ hcond hW hopt (hnew _) ?_ _ _ ?_ ?_⟩
        · rw [htake]
          refine hK1.snoc ?_
          unfold nodeI
          rw [if_pos hi1]
          exact .image hO hK'R
        · rw [if_pos hi1]; exact kA
        · exact SubH.trans (H' := [(⟨par, root, links, lineno, stack, depth, .bool b, str s, inat j, .slice (some ⟨g2, 0, none⟩) (oi + 1) cap2, lists, texts, bt⟩ : PS).blk p, o.blk pr, ent T es, LB, [(g2, cellsOf (cur2.set (0 + oi * 1) (.iface 147 (lp ql))) 89)], K1, [(ql, cellsOf [.slice ua dvals.length uc, str d.url, str d.title, .int .u8 (d.tc : Nat), .bool d.cn] 110)], DB, K', [(go, cellsOf curo 3)]]) sA ⟨[], by simp⟩
      · have h91 : c0.toNat = 91 := by omega
        have hi1 : isImg (c0 :: tl) = false := by rw [himg]; exact decide_eq_false h33
        have hi2 : ¬ isImg (c0 :: tl) = true := by rw [hi1]; intro h; cases h
        (repeat' (first | refine Ops.pure _ (zc0 c0 (i := 0) (by rfl) (by rfl) hc0) (by rfl) ?_ | refine zc5 ?_ | refine za9 (skip_tr p j (⟨par, root, links, lineno, stack, depth, .bool b, str s, inat e', .slice (some ⟨g2, 0, none⟩) (oi + 1) cap2, lists, texts, bt⟩ : PS)) ?_ | refine z7 ?_ | refine z6 ?_ | refine z2 ?_ | refine z1 ?_ | refine zc ?_ | refine zb ?_ | refine zw ?_ | refine z8 ?_ | refine za ?_ | refine zn ?_ | refine zp ?_ | refine zq ?_ | refine zl ?_ | refine zt ?_ | refine zr ?_ | refine zch ?_ | refine zal ?_ | refine zan ?_ | refine za5 ?_))
        refine ⟨hQs b d j _ _ (vals.take oi ++ [.iface 107 (lp ql)]) _ (K1 ++ ((ql, cellsOf [.slice ua dvals.length uc, str d.url, str d.title, .int .u8 (d.tc : Nat), .bool d.cn] 110) :: (DB ++ K'))) _ hcond hW hopt (hnew _) ?_ _ _ ?_ ?_⟩
        · rw [htake]
          refine hK1.snoc ?_
          unfold nodeI
          rw [if_neg hi2]
          exact .link hO hK'R
        · rw [if_neg hi2]; exact kA
        · exact SubH.trans (H' := [(⟨par, root, links, lineno, stack, depth, .bool b, str s, inat j, .slice (some ⟨g2, 0, none⟩) (oi + 1) cap2, lists, texts, bt⟩ : PS).blk p, o.blk pr, ent T es, LB, [(g2, cellsOf (cur2.set (0 + oi * 1) (.iface 107 (lp ql))) 89)], K1, [(ql, cellsOf [.slice ua dvals.length uc, str d.url, str d.title, .int .u8 (d.tc : Nat), .bool d.cn] 110)], DB, K', [(go, cellsOf curo 3)]]) sA ⟨[], by simp⟩
  · rw [decide_eq_false hcond]
    (repeat' (first | refine zb ?_ | refine zd ?_))
    exact ⟨hQn cn _ _ (.inl hcond) hopt _ _ kA sA⟩
end Go.Proofs

namespace Go.Proofs
open Go Go.Eng
set_option maxRecDepth 20000
set_option maxHeartbeats 1000000

theorem emph_nil (p : Nat) : TrD Tryz.prog 77 [lp p, .slice none 0 0, .slice none 0 0] [] (.slice none 0 0) [] := by
  refine Tr.start (n := 436) (rs := [.tmp 6]) rfl rfl rfl rfl fun B => ?_
  (repeat' (first | refine z7 ?_ | refine z6 ?_ | refine z2 ?_ | refine z1 ?_ | refine zc9 ?_ | refine zcb ?_ | refine za ?_ | refine zeb ?_ | refine zai (fun _ => ?_) | refine zdk (fun _ => ?_)))
  rename_i r4 r7
  refine zac [(0, lp p), (4, lp r4)] [dstv r4 (.slice none 0 0)] ?_ ?_
  · refine zf ?_
    refine za6 (fun _ : Unit => [(0, lp p), (2, .slice none 0 0), (4, lp r4), (10, inat 0)]) (fun _ => [dstv r4 (.slice none 0 0)]) (fun _ => True) (fun _ => 0) () trivial kB sA fun _ _ => ?_
    (repeat' (first | refine z7 ?_ | refine z6 ?_ | refine z2 ?_ | refine z1 ?_ | refine zb ?_ | refine zw ?_ | refine zy ?_ | refine zz ?_ | refine z8 ?_ | refine za4 ?_ | refine zah ?_))
    exact ⟨kA, sA⟩
  · (repeat' (first | refine z7 ?_ | refine z6 ?_ | refine z2 ?_ | refine z1 ?_ | refine ze ?_ | refine zbq ?_ | refine za ?_ | refine zn ?_))
    exact e_ret _ ⟨rfl, rfl⟩ sA
theorem merge_nil (p : Nat) : TrD Tryz.prog 78 [lp p, .slice none 0 0] [] (.slice none 0 0) [] := by
  refine Tr.start (n := 50) (rs := [.tmp 4]) rfl rfl rfl rfl fun B => ?_
  ((repeat (refine z7 ?_)); refine z6 ?_; (repeat' (first | refine za ?_)); refine z2 ?_; refine z1 ?_)
  ((repeat (refine z7 ?_)); refine z6 ?_; (repeat' (first | refine Ops.pure _ (zd4 (b := 0) USlice.out Siz.out rfl rfl (Nat.zero_le _)) (by rfl) ?_ | refine z8 ?_ | refine za ?_)); refine z2 ?_; refine z1 ?_)
  (repeat' (first | refine z7 ?_ | refine z6 ?_ | refine z2 ?_ | refine z1 ?_ | refine za ?_))
  refine zac [(0, lp p), (5, .slice none 0 0)] [] ?_ ?_
  · refine zf ?_
    refine za6 (fun _ : Unit => [(0, lp p), (1, .slice none 0 0), (5, .slice none 0 0), (6, inat 0), (7, inat 0)]) (fun _ => []) (fun _ => True) (fun _ => 0) () trivial kB sA fun _ _ => ?_
    (repeat' (first | refine z7 ?_ | refine z6 ?_ | refine z2 ?_ | refine z1 ?_ | refine zc ?_ | refine zb ?_ | refine zf ?_ | refine zd ?_ | refine zw ?_ | refine zy ?_ | refine zz ?_ | refine zaw ?_ | refine za2 ?_ | refine z8 ?_ | refine za4 ?_ | refine zas ?_ | refine zk ?_ | refine zah ?_))
    exact ⟨kA, sA⟩
  · (repeat' (first | refine z7 ?_ | refine z6 ?_ | refine z2 ?_ | refine z1 ?_ | refine ze ?_ | refine z8 ?_ | refine za ?_))
    exact e_ret _ ⟨rfl, rfl⟩ sA
theorem rwDone {E g cap n : Nat} {svals cur0 dvals : List Value} {u : Value} {W : Blk} (h : Rw E g 0 cap n svals cur0 n true u dvals W) : u = .slice (some ⟨g, 0, none⟩) dvals.length cap ∧ Rw E g 0 cap dvals.length dvals [] dvals.length true u dvals W := by
  cases h with
  | @same cur _ h0 h1 h2 h3 h4 h5 h6 h7 => exact ⟨rfl, .same h0 h1 (by omega) h3 h4 (Nat.le_refl _) (Nat.le_refl _) fun j a b => by omega⟩

theorem SubH.nil7 {a b c d : Blk} : SubH [a, b, c, d] [a, b, c, d, [], [], []] := ⟨[], by simp⟩
structure IW where
  x : IS
  cn : Bool
  vals : List Value
  lv : Value
  LR : Blk
  IB : Blk
  ov : Value
  OB : Blk
  btv : List Value
  f : Nat
structure IWI (io : IO) (s : List UInt8) (w : IW) : Prop where
  inv : IInv s w.x
  op : ∀ y ∈ w.x.out, OpWF y
  run : runI io s w.f w.x = runI io s (s.length + 1) is0
  fuel : s.length < w.x.i + w.f
  list : Inls w.lv w.vals w.LR
  ins : InsR w.x.out w.vals w.IB
  ops : Own 3 1 w.ov w.x.ops.length (w.x.ops.map inat) w.OB
  bl : w.btv.length = 81
  bt : w.x.bs = true → w.btv = w.x.bt.vals
structure SWS where
  k : PKd
  bs1 : Bool
  btv1 : List Value
structure CWS where
  bt : BT
  cn : Bool
  btv : List Value
theorem IWI.next {io : IO} {s : List UInt8} {w : IW} (h : IWI io s w) (hl : s.length ≤ 1000000) (hE : EntWF io s) (hlt : w.x.i < s.length) {x' : IS} (hx : stepI io s w.x = x') : IInv s x' ∧ (∀ y ∈ x'.out, OpWF y) ∧ runI io s (w.f - 1) x' = runI io s (s.length + 1) is0 ∧ s.length < x'.i + (w.f - 1) ∧ w.x.i < x'.i := by
  obtain ⟨h1, h2⟩ := stepI_ok hl hE h.inv hlt
  rw [hx] at h1 h2
  have hf := h.fuel
  obtain ⟨f, hf'⟩ : ∃ f, w.f = f + 1 := ⟨w.f - 1, by omega⟩
  refine ⟨h1, by rw [← hx]; exact stepI_op h.op, ?_, by omega, h2⟩
  have hr := h.run
  rw [hf'] at hr ⊢
  rw [Nat.add_sub_cancel]
  rw [← hr]
  conv => rhs; unfold runI
  rw [if_pos hlt, hx]
theorem inlineG_tr (p pr T : Nat) (o : PO) (st : PS) (es : List Value) (hE : EntOK es) (s0 s : List UInt8) (hs : btrim s0 = s) (tb : LTab) (LB : Blk) (io : IO) (hio1 : io.quotes = o.quotes) (hio2 : io.del = o.del) (hio3 : io.tab = tabOf es) (hio4 : io.tb = tb) (hl0 : s0.length ≤ 100000) (hl : s.length ≤ 100000) (hA : Asc s) (hEnt : EntC p T es io s) (hEW : EntWF io s)
    (hU : ∀ i k d j, linkCloseM (tabOf es) tb s i k = some (d, j) → d.url.length ≤ 1000000) (htx : txtLen (emphM (scanM io s)) ≤ 1000000000) (hdot : o.dots = true → ∀ c ∈ s, c.toNat ≠ 46) (hdash : o.dashes = true → ∀ c ∈ s, c.toNat ≠ 45) (hemo : o.emoji = true → ∀ c ∈ s, c.toNat ≠ 58) (hauto : o.auto = false)
    (hpar : st.par = lp pr) (hlk : LinksR st.links tb LB) (cn : Bool) (hcn : st.corner = .bool cn) (hbt : st.bt.length = 81) :
    Tr Tryz.prog 46 [lp p, str s0] [st.blk p, o.blk pr, ent T es, LB] fun u K => ∃ cn' e' lv' bt' vals LR IB, bt'.length = 81 ∧ Inls u vals LR ∧ InsR (inlineM io s) vals IB ∧ K = [({ st with corner := .bool cn', str := str s, em := inat e', list := lv', bt := bt' } : PS).blk p, o.blk pr, ent T es, LB, LR, IB] := by
  obtain ⟨par, root, links, lineno, stack, depth, corner, sv, em, list, lists, texts, bt⟩ := st
  dsimp only at hpar hlk hcn hbt
  subst hpar; subst hcn
  have hbtr := btrim_tr s0 (by omega)
  rw [hs] at hbtr
  have hl1 : s.length ≤ 1000000 := by omega
  refine Tr.start (n := 335) (rs := [.tmp 4]) rfl rfl rfl rfl fun B => ?_
  (repeat' (first | refine zo (hbtr) ?_ | refine z7 ?_ | refine z6 ?_ | refine z2 ?_ | refine z1 ?_ | refine z8 ?_ | refine za ?_ | refine zp ?_ | refine zq ?_ | refine za5 ?_))
  refine zau (fun w : IW => [(0, lp p), (1, str s)]) (fun w => [(⟨lp pr, root, links, lineno, stack, depth, .bool w.cn, str s, inat w.x.e, w.lv, lists, texts, w.btv⟩ : PS).blk p, o.blk pr, ent T es, LB, w.LR, w.IB]) (fun w => IWI io s w ∧ ¬ w.x.i < s.length) ?_ ?_
  · refine zf ?_
    refine za6 (fun w : IW => [(0, lp p), (1, str s), (5, w.ov), (6, inat w.x.llo), (7, .bool w.x.bs), (8, inat w.x.i)]) (fun w => [(⟨lp pr, root, links, lineno, stack, depth, .bool w.cn, str s, inat w.x.e, w.lv, lists, texts, w.btv⟩ : PS).blk p, o.blk pr, ent T es, LB, w.LR, w.IB, w.OB]) (fun w => IWI io s w) (fun w => s.length - w.x.i) ⟨is0, cn, [], .slice none 0 0, [], [], .slice none 0 0, [], bt, s.length + 1⟩
      ⟨is0_ok s, fun y hy => (by cases hy), rfl, (by show s.length < 0 + (s.length + 1); omega), Own.nil _ _, .nil, Own.nil _ _, hbt, fun h => (by cases h)⟩ kB (SubH.trans (H' := [(⟨lp pr, root, links, lineno, stack, depth, .bool cn, str s, inat 0, (.slice none 0 0), lists, texts, bt⟩ : PS).blk p, o.blk pr, ent T es, LB]) sA SubH.nil7) fun w hw => ?_
    obtain ⟨x, cn, vals, lv, LR, IB, ov, OB, btv, f⟩ := w
    have hnext := hw.next hl1 hEW
    obtain ⟨h1, h2, h3, h4, h5, h6, h7, h8, h9⟩ := hw
    dsimp only at h1 h2 h3 h4 h5 h6 h7 h8 h9 hnext ⊢
    by_cases hlt : x.i < s.length
    · obtain ⟨c, hc⟩ := get_some hlt
      have hnx : ∀ x', stepI io s x = x' → _ := fun x' => hnext hlt
      have hcm : c ∈ s := List.mem_of_getElem? hc
      have hie := h1.ie
      have hol := h1.len
      have hvl : vals.length = x.out.length := h6.length
      have hopl : x.ops.length ≤ 1000000 := by
        have := pairwise_le h1.inc (N := x.out.length) fun oi hoi => by
          obtain ⟨t, k, e1, _⟩ := h1.ops oi hoi
          exact (List.getElem?_eq_some_iff.1 e1).1
        omega
      have hstep : stepI io s x = stepI io s x := rfl
      conv at hstep => rhs; unfold stepI
      rw [hc] at hstep
      dsimp only at hstep
      (repeat' (first | refine z7 ?_ | refine z6 ?_ | refine z2 ?_ | refine z1 ?_ | refine zc ?_ | refine zd ?_ | refine z8 ?_ | refine zm ?_ | refine zg ?_))
      refine zf ?_
      (repeat' (first | refine z7 ?_ | refine z6 ?_ | refine z2 ?_ | refine z1 ?_ | refine z8 ?_ | refine za ?_ | refine zi ?_))
      refine zau (fun y : SWS => [(0, lp p), (1, str s), (5, ov), (6, inat x.llo), (7, .bool y.bs1), (8, inat x.i), (9, y.k.val p)]) (fun y => [(⟨lp pr, root, links, lineno, stack, depth, .bool cn, str s, inat x.e, lv, lists, texts, y.btv1⟩ : PS).blk p, o.blk pr, ent T es, LB, LR, IB, OB]) (fun y => KOK o.quotes o.del c.toNat x.bs btv y.bs1 y.btv1 y.k) ?_ ?_
      · refine zf ?_
        refine Wp.weak [(0, lp p), (1, str s), (5, ov), (6, inat x.llo), (7, .bool x.bs), (8, inat x.i), (9, .nilFunc), (39, .int .u8 c.toNat)] _ kB (SubH.refl _) (switch_w B _ [ent T es, LB, LR, IB, OB] p pr x.i x.llo o (⟨lp pr, root, links, lineno, stack, depth, .bool cn, str s, inat x.e, lv, lists, texts, btv⟩ : PS) s c x.bs ov rfl h8 (fun h => hdot h c hcm) (fun h => hdash h c hcm) (fun h => hemo h c hcm) ?_ _ (by rfl))
        intro k bs1 btv1 hk L' hK
        exact ⟨⟨k, bs1, btv1⟩, hK, SubH.refl _, hk⟩
      rintro ⟨k, bs1, btv1⟩ hk
      dsimp only at hk ⊢
      (repeat (refine z7 ?_))
      refine zac [(0, lp p), (1, str s), (5, ov), (6, inat x.llo), (7, .bool bs1), (8, inat x.i), (9, k.val p), (114, .bool k.ok)] [(⟨lp pr, root, links, lineno, stack, depth, .bool cn, str s, inat x.e, lv, lists, texts, btv1⟩ : PS).blk p, o.blk pr, ent T es, LB, LR, IB, OB] ?_ ?_
      · cases k <;> ((repeat' (first | refine z6 ?_ | refine z2 ?_ | refine z1 ?_ | refine z8 ?_ | refine zfg ?_ | refine zg8 ?_)); exact ⟨kA, sA⟩)
      refine zau (fun y : CWS => [(0, lp p), (1, str s), (5, ov), (6, inat x.llo), (7, .bool bs1), (8, inat x.i)]) (fun y => [(⟨lp pr, root, links, lineno, stack, depth, .bool y.cn, str s, inat x.e, lv, lists, texts, y.btv⟩ : PS).blk p, o.blk pr, ent T es, LB, LR, IB, OB]) (fun y => parI io s x.i c x.bs x.bt = (none, bs1, y.bt) ∧ (bs1 = true → y.btv = y.bt.vals) ∧ y.btv.length = 81) ?_ ?_
      · refine Wp.weak [(0, lp p), (1, str s), (5, ov), (6, inat x.llo), (7, .bool bs1), (8, inat x.i), (9, k.val p), (114, .bool k.ok)] _ kB (SubH.refl _) (call_w B _ p pr T x.i x.llo x.e o (⟨lp pr, root, links, lineno, stack, depth, .bool cn, str s, inat x.e, lv, lists, texts, btv1⟩ : PS) es s c io x.bs bs1 cn x.bt btv ov x.out x.ops vals LB LR IB OB k hl hA hEnt hEW hc (by rw [hio1, hio2]; exact hk) h9 h1.bt h8 rfl rfl rfl hie hol h5 h6 h7 hopl ?_ ?_ _ (by rfl))
        · intro bt' cn' btv' hp hb hbl L' H' hK hH
          exact ⟨⟨bt', cn', btv'⟩, hK, hH, hp, hb, hbl⟩
        · intro y a b bt' cn' btv' ov' lv' vals' LR' IB' OB' hp hb hbl hL hI hO L' H' hK hH
          rw [hp] at hstep
          dsimp only at hstep
          obtain ⟨n1, n2, n3, n4, n5⟩ := hnx _ hstep
          refine (?_ : Eng.Fin (.exit 1) L' H' _).out
          (repeat' (first | refine zy ?_ | refine zaw ?_ | refine zd3 ?_ | refine zz ?_ | refine z1 ?_))
          exact ⟨⟨_, cn', vals', lv', LR', IB', ov', OB', btv', f - 1⟩, hK.spec, hH, ⟨n1, n2, n3, n4, hL, hI, hO, hbl, hb⟩, by dsimp only at n5 ⊢; omega⟩
      rintro ⟨bt', cn', btv'⟩ ⟨hp, hb, hbl⟩
      dsimp only at hp hb hbl ⊢
      rw [hp] at hstep
      dsimp only at hstep
      obtain ⟨oa, oc, hov⟩ := ownShape h7
      subst hov
      (repeat (refine z7 ?_))
      refine zac [(0, lp p), (1, str s), (5, .slice oa x.ops.length oc), (6, inat x.llo), (7, .bool bs1), (8, inat x.i), (165, .bool (decide (c.toNat = 93 ∧ x.ops ≠ [])))] [(⟨lp pr, root, links, lineno, stack, depth, .bool cn', str s, inat x.e, lv, lists, texts, btv'⟩ : PS).blk p, o.blk pr, ent T es, LB, LR, IB, OB] ?_ ?_
      · by_cases h93 : c.toNat = 93
        · by_cases hne : x.ops = []
          · have hl0' : x.ops.length = 0 := by rw [hne]; rfl
            rw [decide_eq_false (by rintro ⟨_, h⟩; exact h hne)]
            (repeat' (first | refine z6 ?_ | refine z2 ?_ | refine z1 ?_ | refine zh ?_ | refine z8 ?_ | refine zat ?_ | refine zt ?_ | refine zj ?_ | refine zah ?_ | refine zi ?_))
            exact ⟨kA, sA⟩
          · have hl0' : 0 < x.ops.length := List.length_pos_iff.2 hne
            rw [decide_eq_true ⟨h93, hne⟩]
            (repeat' (first | refine z6 ?_ | refine z2 ?_ | refine z1 ?_ | refine zh ?_ | refine z8 ?_ | refine zaz ?_ | refine zt ?_ | refine zj ?_ | refine zah ?_ | refine zi ?_))
            exact ⟨kA, sA⟩
        · rw [decide_eq_false (by rintro ⟨h, _⟩; exact h93 h)]
          (repeat' (first | refine z6 ?_ | refine z2 ?_ | refine z1 ?_ | refine za2 ?_ | refine z8 ?_ | refine zr ?_ | refine zk ?_ | refine zi ?_))
          exact ⟨kA, sA⟩
      refine zau (fun w : IW => [(0, lp p), (1, str s), (5, w.ov), (6, inat w.x.llo), (7, .bool w.x.bs), (8, inat x.i)]) (fun w => [(⟨lp pr, root, links, lineno, stack, depth, .bool w.cn, str s, inat w.x.e, w.lv, lists, texts, w.btv⟩ : PS).blk p, o.blk pr, ent T es, LB, w.LR, w.IB, w.OB]) (fun w => IWI io s w ∧ w.x.i = x.i + 1) ?_ ?_
      · by_cases hcc : c.toNat = 93 ∧ x.ops ≠ []
        · rw [decide_eq_true hcc]
          rw [if_pos hcc] at hstep
          refine zc ?_
          obtain ⟨t, kk, e1, e2, e3⟩ := h1.ops _ (mem_top hcc.2)
          obtain ⟨oi, hoi⟩ : ∃ oi, x.ops.getD (x.ops.length - 1) 0 = oi := ⟨_, rfl⟩
          rw [hoi] at hstep e1
          rw [e1] at hstep
          dsimp only at hstep
          have htl : (x.ops.take (x.ops.length - 1)).length = x.ops.length - 1 := by rw [List.length_take]; omega
          refine Wp.weak [(0, lp p), (1, str s), (5, .slice oa x.ops.length oc), (6, inat x.llo), (7, .bool bs1), (8, inat x.i)] _ kB (SubH.refl _) (link_w B _ p pr T x.i x.llo x.e oi kk o (⟨lp pr, root, links, lineno, stack, depth, .bool cn', str s, inat x.e, lv, lists, texts, btv'⟩ : PS) es hE s t tb bs1 cn' (.slice oa x.ops.length oc) x.out x.ops vals LB LR IB OB hl hA hlt hlk rfl rfl rfl hie hol h5 h6 h7 hopl hcc.2 hoi e1 e2 h1.wf h1.ap (h2 _ (List.mem_of_getElem? e1)) e3 hU ?_ ?_ _ (by rfl))
          · intro cn2 ov' OB' hor hO L' H' hK hH
            have hst2 : stepI io s x = { x with i := x.i + 1, ops := x.ops.take (x.ops.length - 1), bs := bs1, bt := bt' } := by
              rw [hstep]
              by_cases hg : isImg t = true ∨ x.llo ≤ kk
              · rw [if_pos hg]
                rcases hor with h | h
                · exact absurd hg h
                · rw [hio3, hio4, h]
              · rw [if_neg hg]
            obtain ⟨n1, n2, n3, n4, n5⟩ := hnx _ hst2
            exact ⟨⟨{ x with i := x.i + 1, ops := x.ops.take (x.ops.length - 1), bs := bs1, bt := bt' }, cn2, vals, lv, LR, IB, ov', OB', btv', f - 1⟩, hK, hH, ⟨n1, n2, n3, n4, h5, h6, by dsimp only; rw [htl]; exact hO, hbl, hb⟩, rfl⟩
          · intro cn2 d j ov' lv' vals' LR' IB' OB' hg hW hO hL hI L' H' hK hH
            rw [if_pos hg, hio3, hio4, hW] at hstep
            dsimp only at hstep
            obtain ⟨n1, n2, n3, n4, n5⟩ := hnx _ hstep
            refine (?_ : Eng.Fin (.exit 1) L' H' _).out
            (repeat' (first | refine zy ?_ | refine zaw ?_ | refine zd3 ?_ | refine zz ?_ | refine z1 ?_))
            exact ⟨⟨_, cn2, vals', lv', LR', IB', ov', OB', btv', f - 1⟩, hK.spec, hH, ⟨n1, n2, n3, n4, hL, hI, by dsimp only; rw [htl]; exact hO, hbl, hb⟩, by dsimp only at n5 ⊢; omega⟩
        · rw [decide_eq_false hcc]
          rw [if_neg hcc] at hstep
          obtain ⟨n1, n2, n3, n4, n5⟩ := hnx _ hstep
          (repeat' (first | refine z1 ?_ | refine zb ?_ | refine zd ?_))
          exact ⟨⟨_, cn', vals, lv, LR, IB, .slice oa x.ops.length oc, OB, btv', f - 1⟩, kA, sA, ⟨n1, n2, n3, n4, h5, h6, h7, hbl, hb⟩, rfl⟩
      · rintro ⟨x', cn2, vals2, lv2, LR2, IB2, ov2, OB2, btv2, f2⟩ ⟨hw2, hxi⟩
        dsimp only at hxi ⊢
        (repeat' (first | refine z6 ?_ | refine z2 ?_ | refine z1 ?_ | refine zu ?_ | refine z8 ?_ | refine za ?_ | refine zl ?_))
        exact ⟨⟨x', cn2, vals2, lv2, LR2, IB2, ov2, OB2, btv2, f2⟩, (by dsimp only; rw [hxi]; exact kB), sA, hw2, by dsimp only; omega⟩
    · (repeat' (first | refine z7 ?_ | refine z6 ?_ | refine z2 ?_ | refine z1 ?_ | refine zb ?_ | refine zw ?_ | refine zy ?_ | refine zz ?_ | refine z8 ?_ | refine za4 ?_ | refine zg ?_))
      exact ⟨⟨x, cn, vals, lv, LR, IB, ov, OB, btv, f⟩, kA, sA, ⟨h1, h2, h3, h4, h5, h6, h7, h8, h9⟩, hlt⟩
  · rintro ⟨x, cn, vals, lv, LR, IB, ov, OB, btv, f⟩ ⟨⟨h1, h2, h3, h4, h5, h6, h7, h8, h9⟩, hge⟩
    dsimp only at h1 h2 h3 h4 h5 h6 h7 h8 h9 hge ⊢
    have hrun : runI io s (s.length + 1) is0 = x := by
      rw [← h3]
      cases f with
      | zero => rfl
      | succ f => unfold runI; rw [if_neg hge]
    have hscan : scanM io s = emitI s x.e s.length x.out := by unfold scanM; rw [hrun]
    have hle := h1.len
    have hie := h1.ie
    have hil := h1.il
    have hvl : vals.length = x.out.length := h6.length
    obtain ⟨q1, q2, q3⟩ := scanM_ok hl1 hEW
    have hEm := emitI_tr p s.length x.e (⟨lp pr, root, links, lineno, stack, depth, .bool cn, str s, inat x.e, lv, lists, texts, btv⟩ : PS) s x.out vals LR IB rfl rfl (Nat.le_refl _) (by omega) h5 (by omega) h6
    rw [← hscan] at hEm
    (repeat (refine z7 ?_))
    refine z6 ?_
    (repeat' (first | refine z8 ?_ | refine zg ?_))
    refine za1 hEm (fun u K hR => ?_)
    obtain ⟨rfl, vals', lv', LR', IB', e', hL', hI', rfl⟩ := hR
    refine z2 ?_
    refine z1 ?_
    have hvl' : vals'.length = (scanM io s).length := hI'.length
    (repeat (refine z7 ?_))
    rcases hL'.2 with ⟨rfl, hz, rfl⟩ | ⟨g, cap, cur, rfl, rfl, g1, g2, g3, g4⟩
    · have hs0 : scanM io s = [] := List.eq_nil_of_length_eq_zero (by omega)
      have hinl : inlineM io s = [] := by unfold inlineM; rw [hs0]; rfl
      refine Wp.draw_till (id := 78) [(⟨lp pr, root, links, lineno, stack, depth, .bool cn, str s, inat e', .slice none 0 0, lists, texts, btv⟩ : PS).blk p] 14 15 Mixed.out sA rfl ?_
      refine kF 0 ?_
      refine kF 1 ?_
      refine kF 2 ?_
      refine kF 3 ?_
      refine kF 4 ?_
      refine OpsK.firstL 5 [] _ (by rfl) (by kernel_rfl) (by kernel_rfl) rfl (by kernel_rfl) (by kernel_rfl) rfl (by first | exact zbr rfl | exact zbj rfl | exact zbe rfl rfl | exact zbp rfl | exact zbo rfl | exact zar rfl (by repeat (first | exact HMem.here | apply HMem.skip | apply HMem.there)) rfl | exact zbs rfl (by repeat (first | exact HMem.here | apply HMem.skip | apply HMem.there)) (by repeat constructor) | exact zbk rfl | exact zbm rfl | exact zbi rfl rfl (by omega) | exact zbb rfl rfl rfl (by omega) (by omega) | exact zbu rfl | exact zbv rfl | exact zbn rfl (by repeat' (first | exact BFill.nil | refine' BFill.one (by rfl) (by rfl) (by repeat constructor) ?_ | refine' BFill.agg (by rfl) (by rfl) (by repeat constructor) ?_))) ?_
      refine OpsK.first 6 _ (by rfl) (by kernel_rfl) rfl (by kernel_rfl) (by kernel_rfl) rfl (zd4 (b := 0) USlice.out Siz.out rfl rfl (Nat.zero_le _)) ?_
      refine kF 7 ?_
      refine kF 8 ?_
      refine kF 9 ?_
      refine OpsK.firstL 10 [] _ (by rfl) (by kernel_rfl) (by kernel_rfl) rfl (by kernel_rfl) (by kernel_rfl) rfl (by first | exact zbr rfl | exact zbj rfl | exact zbe rfl rfl | exact zbp rfl | exact zbo rfl | exact zar rfl (by repeat (first | exact HMem.here | apply HMem.skip | apply HMem.there)) rfl | exact zbs rfl (by repeat (first | exact HMem.here | apply HMem.skip | apply HMem.there)) (by repeat constructor) | exact zbk rfl | exact zbm rfl | exact zbi rfl rfl (by omega) | exact zbb rfl rfl rfl (by omega) (by omega) | exact zbu rfl | exact zbv rfl | exact zbn rfl (by repeat' (first | exact BFill.nil | refine' BFill.one (by rfl) (by rfl) (by repeat constructor) ?_ | refine' BFill.agg (by rfl) (by rfl) (by repeat constructor) ?_))) ?_
      refine kO 11 ?_
      (repeat' (first | refine za9 (emph_nil p) ?_ | refine z2 ?_ | refine z1 ?_))
      refine ⟨fun _ => sA, ?_⟩
      refine kF 12 ?_
      refine kF 13 ?_
      refine kO 14 ?_
      (repeat' (first | refine z2 ?_ | refine z1 ?_ | refine za5 ?_))
      refine ⟨(fun h0 => Bool.noConfusion (show true = false from h0)), ?_⟩
      refine OpsK.nil (by kernel_rfl) ?_
      (repeat' (first | refine za9 (merge_nil p) ?_ | refine za9 (autoLinkText_no p pr o (⟨lp pr, root, links, lineno, stack, depth, .bool cn, str s, inat e', .slice none 0 0, lists, texts, btv⟩ : PS) (.slice none 0 0) hauto rfl) ?_ | refine z7 ?_ | refine z6 ?_ | refine z2 ?_ | refine z1 ?_ | refine ze ?_ | refine z8 ?_ | refine za ?_ | refine zn ?_ | refine zp ?_ | refine zq ?_ | refine za5 ?_))
      exact e_ret _ ⟨cn, e', .slice none 0 0, btv, [], [], [], h8, Own.nil _ _, by rw [hinl]; exact .nil, rfl⟩ (SubH.trans (H' := [(⟨lp pr, root, links, lineno, stack, depth, .bool cn, str s, inat e', .slice none 0 0, lists, texts, btv⟩ : PS).blk p, o.blk pr, ent T es, LB]) sA ⟨[], by simp⟩)
    · rw [Nat.mul_one] at g3 g4
      have hrw : Rw InlT g 0 cap vals'.length vals' [] 0 true (.slice (some ⟨g, 0, none⟩) 0 cap) [] [(g, cellsOf cur 89)] := by
        refine .same (dvals := []) rfl g3 g1 g2 rfl (Nat.zero_le _) (Nat.zero_le _) fun j _ hj => ?_
        have h10 : (cur.take vals'.length)[j]? = vals'[j]? := by rw [g4]
        rw [List.getElem?_take, if_pos hj] at h10
        exact h10
      have hemph := emphG_tr true p g 0 cap vals'.length (scanM io s) vals' [] (.slice (some ⟨g, 0, none⟩) 0 cap) [(g, cellsOf cur 89)] IB' q1 q2 hvl'.symm (by omega) hrw hI'
      refine Wp.draw_till (id := 78) [(⟨lp pr, root, links, lineno, stack, depth, .bool cn, str s, inat e', (.slice (some ⟨g, 0, none⟩) vals'.length cap), lists, texts, btv⟩ : PS).blk p] 14 15 Mixed.out sA rfl ?_
      refine kF 0 ?_
      refine kF 1 ?_
      refine kF 2 ?_
      refine kF 3 ?_
      refine kF 4 ?_
      refine OpsK.firstL 5 [] _ (by rfl) (by kernel_rfl) (by kernel_rfl) rfl (by kernel_rfl) (by kernel_rfl) rfl (by first | exact zbr rfl | exact zbj rfl | exact zbe rfl rfl | exact zbp rfl | exact zbo rfl | exact zar rfl (by repeat (first | exact HMem.here | apply HMem.skip | apply HMem.there)) rfl | exact zbs rfl (by repeat (first | exact HMem.here | apply HMem.skip | apply HMem.there)) (by repeat constructor) | exact zbk rfl | exact zbm rfl | exact zbi rfl rfl (by omega) | exact zbb rfl rfl rfl (by omega) (by omega) | exact zbu rfl | exact zbv rfl | exact zbn rfl (by repeat' (first | exact BFill.nil | refine' BFill.one (by rfl) (by rfl) (by repeat constructor) ?_ | refine' BFill.agg (by rfl) (by rfl) (by repeat constructor) ?_))) ?_
      refine OpsK.first 6 _ (by rfl) (by kernel_rfl) rfl (by kernel_rfl) (by kernel_rfl) rfl (zd4 (b := 0) USlice.out Siz.out rfl rfl (Nat.zero_le _)) ?_
      refine kF 7 ?_
      refine kF 8 ?_
      refine kF 9 ?_
      refine OpsK.firstL 10 [] _ (by rfl) (by kernel_rfl) (by kernel_rfl) rfl (by kernel_rfl) (by kernel_rfl) rfl (by first | exact zbr rfl | exact zbj rfl | exact zbe rfl rfl | exact zbp rfl | exact zbo rfl | exact zar rfl (by repeat (first | exact HMem.here | apply HMem.skip | apply HMem.there)) rfl | exact zbs rfl (by repeat (first | exact HMem.here | apply HMem.skip | apply HMem.there)) (by repeat constructor) | exact zbk rfl | exact zbm rfl | exact zbi rfl rfl (by omega) | exact zbb rfl rfl rfl (by omega) (by omega) | exact zbu rfl | exact zbv rfl | exact zbn rfl (by repeat' (first | exact BFill.nil | refine' BFill.one (by rfl) (by rfl) (by repeat constructor) ?_ | refine' BFill.agg (by rfl) (by rfl) (by repeat constructor) ?_))) ?_
      refine kO 11 ?_
      skip
      refine za1 hemph (fun u K hR => ?_)
      obtain ⟨dvals, W', K', hrw2, hds, rfl⟩ := hR
      obtain ⟨rfl, hrw3⟩ := rwDone hrw2
      refine z2 ?_
      refine z1 ?_
      refine ⟨fun _ => sA, ?_⟩
      refine kF 12 ?_
      refine kF 13 ?_
      refine kO 14 ?_
      (repeat' (first | refine z2 ?_ | refine z1 ?_ | refine za5 ?_))
      refine ⟨(fun h0 => Bool.noConfusion (show true = false from h0)), ?_⟩
      refine OpsK.nil (by kernel_rfl) ?_
      have hdl := hds.toR.length
      have hml : (emphM (scanM io s)).length ≤ 1000000 := by have := hrw3.le; have := hrw2.le; omega
      have hM := mergeG_tr p g cap dvals.length (emphM (scanM io s)) dvals (.slice none 0 0) W' K' hdl.symm (by omega) htx hrw3 rfl hds.toR
      (repeat' (first | refine z7 ?_ | refine z6 ?_ | refine z8 ?_ | refine zn ?_ | refine zp ?_ | refine zq ?_))
      refine za1 hM (fun u K hR => ?_)
      obtain ⟨m, vals2, W2, K2, rfl, hO2, hI2, rfl⟩ := hR
      have hm2 : vals2.length = m := by have := hO2.1; omega
      (repeat' (first | refine za9 (autoLinkText_no p pr o (⟨lp pr, root, links, lineno, stack, depth, .bool cn, str s, inat e', (.slice (some ⟨g, 0, none⟩) m cap), lists, texts, btv⟩ : PS) (.slice (some ⟨g, 0, none⟩) m cap) hauto rfl) ?_ | refine z7 ?_ | refine z6 ?_ | refine z2 ?_ | refine z1 ?_ | refine ze ?_ | refine z8 ?_ | refine za ?_ | refine zn ?_ | refine zp ?_ | refine zq ?_ | refine za5 ?_))
      exact e_ret (vs := [.slice (some ⟨g, 0, none⟩) m cap]) _ ⟨cn, e', .slice (some ⟨g, 0, none⟩) m cap, btv, vals2, W2, K2, h8, by show Own _ _ _ vals2.length _ _; rw [hm2]; exact hO2, hI2, rfl⟩ sA
end Go.Proofs

/- Steps of the walk of the program and plain facts on what it computes. Conditions: as each theorem states them. -/
import Derived.Test.YtjbpohkcmgelkaaGreatDoorT17
import Derived.Test.YtjbpohkcmgelkaaGreatDoorT16
namespace Go.Proofs
open Go Go.Eng
set_option maxRecDepth 20000
set_option maxHeartbeats 1000000

/-- Which parser is taken. -/
inductive PKd where
  | no | esc | code | ang | lnk | img | em | brk | ent
def PKd.val (p : Nat) : PKd → Value
  | .no => .nilFunc
  | .esc => .func (.func 61) #[] #[]
  | .code => .func (.func 63) #[.pointer (some ⟨p, 12, Option.none⟩)] #[]
  | .ang => .func (.func 64) #[] #[]
  | .lnk => .func (.func 65) #[] #[]
  | .img => .func (.func 66) #[] #[]
  | .em => .func (.func 67) #[] #[]
  | .brk => .func (.func 70) #[] #[]
  | .ent => .func (.func 71) #[] #[]
def KOK (qu de : Bool) (c : Nat) (bs : Bool) (btv : List Value) (bs' : Bool) (btv' : List Value) : PKd → Prop
  | .no => (c ≠ 92 ∧ c ≠ 96 ∧ c ≠ 60 ∧ c ≠ 91 ∧ c ≠ 33 ∧ c ≠ 95 ∧ c ≠ 42 ∧ c ≠ 10 ∧ c ≠ 38 ∧ (c = 34 ∨ c = 39 → qu = false) ∧ (c = 126 → de = false)) ∧ bs' = bs ∧ btv' = btv
  | .esc => c = 92 ∧ bs' = bs ∧ btv' = btv
  | .code => c = 96 ∧ bs' = true ∧ btv' = if bs then btv else bt00.vals
  | .ang => c = 60 ∧ bs' = bs ∧ btv' = btv
  | .lnk => c = 91 ∧ bs' = bs ∧ btv' = btv
  | .img => c = 33 ∧ bs' = bs ∧ btv' = btv
  | .em => (c = 95 ∨ c = 42 ∨ ((c = 34 ∨ c = 39) ∧ qu = true) ∨ (c = 126 ∧ de = true)) ∧ bs' = bs ∧ btv' = btv
  | .brk => c = 10 ∧ bs' = bs ∧ btv' = btv
  | .ent => c = 38 ∧ bs' = bs ∧ btv' = btv

theorem switch_w (B : Base) (Q : Eng.Post) [NoPan Q] (F : Heap) (p pr i llo : Nat) (o : PO) (st : PS) (s : List UInt8) (c : UInt8) (bs : Bool) (ov : Value) (hpar : st.par = lp pr) (hbt : st.bt.length = 81)
    (hdot : o.dots = true → c.toNat ≠ 46) (hdash : o.dashes = true → c.toNat ≠ 45) (hemo : o.emoji = true → c.toNat ≠ 58)
    (hQ : ∀ (k : PKd) (bs' : Bool) (btv' : List Value), KOK o.quotes o.del c.toNat bs st.bt bs' btv' k → ∀ L', Knows L' [(0, lp p), (1, str s), (5, ov), (6, inat llo), (7, .bool bs'), (8, inat i), (9, k.val p)] → Q .normal L' (({ st with bt := btv' } : PS).blk p :: o.blk pr :: F)) :
    ∀ x, nav [1, 1, 1, 1, 1, 1, 1, 1, 1, 0, 0, 0, 1, 0, 1, 0, 1, 0] (((Tryz.prog.funcs[46]?).bind Func.body).getD .skip) = some x → Wp Tryz.prog B 335 x [(0, lp p), (1, str s), (5, ov), (6, inat llo), (7, .bool bs), (8, inat i), (9, .nilFunc), (39, .int .u8 c.toNat)] (st.blk p :: o.blk pr :: F) Q := by
  obtain ⟨par, root, links, lineno, stack, depth, corner, sv, em, list, lists, texts, bt⟩ := st
  obtain ⟨o1, o2, o3, o4, o5, o6, o7, o8, o9, o10⟩ := o
  dsimp only at hpar hbt hdot hdash hemo hQ
  subst hpar
  have hcl := c.toNat_lt
  refine use_nav (by rfl) ?_
  by_cases h92 : c.toNat = 92
  · (repeat' (first | refine z7 ?_ | refine z6 ?_ | refine z2 ?_ | refine z1 ?_ | refine zc ?_ | refine za ?_ | refine zt ?_))
    exact ⟨hQ .esc bs bt ⟨h92, rfl, rfl⟩ _ kA⟩
  by_cases h96 : c.toNat = 96
  · cases bs with
    | true =>
      (repeat' (first | refine z7 ?_ | refine z6 ?_ | refine z2 ?_ | refine z1 ?_ | refine zc ?_ | refine zb ?_ | refine zd ?_ | refine z8 ?_ | refine za ?_ | refine zp ?_ | refine zq ?_ | refine zt ?_ | refine zr ?_ | refine zaq ?_ | refine ze4 ?_))
      exact ⟨hQ .code true bt ⟨h96, rfl, rfl⟩ _ kA⟩
    | false =>
      (repeat' (first | refine za9 (reset_tr p (⟨lp pr, root, links, lineno, stack, depth, corner, sv, em, list, lists, texts, bt⟩ : PS) hbt) ?_ | refine z7 ?_ | refine z6 ?_ | refine z2 ?_ | refine z1 ?_ | refine zc ?_ | refine zb ?_ | refine z8 ?_ | refine za ?_ | refine zp ?_ | refine zq ?_ | refine zt ?_ | refine zr ?_ | refine zam ?_ | refine ze4 ?_))
      exact ⟨hQ .code true bt00.vals ⟨h96, rfl, rfl⟩ _ kA⟩
  by_cases h60 : c.toNat = 60
  · (repeat' (first | refine z7 ?_ | refine z6 ?_ | refine z2 ?_ | refine z1 ?_ | refine zc ?_ | refine zb ?_ | refine za ?_ | refine zt ?_ | refine zr ?_))
    exact ⟨hQ .ang bs bt ⟨h60, rfl, rfl⟩ _ kA⟩
  by_cases h91 : c.toNat = 91
  · (repeat' (first | refine z7 ?_ | refine z6 ?_ | refine z2 ?_ | refine z1 ?_ | refine zc ?_ | refine zb ?_ | refine za ?_ | refine zt ?_ | refine zr ?_))
    exact ⟨hQ .lnk bs bt ⟨h91, rfl, rfl⟩ _ kA⟩
  by_cases h33 : c.toNat = 33
  · (repeat' (first | refine z7 ?_ | refine z6 ?_ | refine z2 ?_ | refine z1 ?_ | refine zc ?_ | refine zb ?_ | refine za ?_ | refine zt ?_ | refine zr ?_))
    exact ⟨hQ .img bs bt ⟨h33, rfl, rfl⟩ _ kA⟩
  by_cases h95 : c.toNat = 95
  · (repeat' (first | refine z7 ?_ | refine z6 ?_ | refine z2 ?_ | refine z1 ?_ | refine zc ?_ | refine zb ?_ | refine zd ?_ | refine za ?_ | refine zt ?_ | refine zr ?_))
    exact ⟨hQ .em bs bt ⟨.inl h95, rfl, rfl⟩ _ kA⟩
  by_cases h42 : c.toNat = 42
  · (repeat' (first | refine z7 ?_ | refine z6 ?_ | refine z2 ?_ | refine z1 ?_ | refine zc ?_ | refine zb ?_ | refine za ?_ | refine zt ?_ | refine zr ?_))
    exact ⟨hQ .em bs bt ⟨.inr (.inl h42), rfl, rfl⟩ _ kA⟩
  by_cases h46 : c.toNat = 46
  · have h8 : o8 = false := by
      cases o8 with
      | false => rfl
      | true => exact absurd h46 (hdot rfl)
    subst h8
    (repeat' (first | refine z7 ?_ | refine z6 ?_ | refine z2 ?_ | refine z1 ?_ | refine zc ?_ | refine zb ?_ | refine zd ?_ | refine z8 ?_ | refine za ?_ | refine zn ?_ | refine zp ?_ | refine zq ?_ | refine zt ?_ | refine zr ?_))
    exact ⟨hQ .no bs bt ⟨by omega, rfl, rfl⟩ _ kA⟩
  by_cases h45 : c.toNat = 45
  · have h9 : o9 = false := by
      cases o9 with
      | false => rfl
      | true => exact absurd h45 (hdash rfl)
    subst h9
    (repeat' (first | refine z7 ?_ | refine z6 ?_ | refine z2 ?_ | refine z1 ?_ | refine zc ?_ | refine zb ?_ | refine zd ?_ | refine z8 ?_ | refine za ?_ | refine zn ?_ | refine zp ?_ | refine zq ?_ | refine zt ?_ | refine zr ?_))
    exact ⟨hQ .no bs bt ⟨by omega, rfl, rfl⟩ _ kA⟩
  by_cases h34 : c.toNat = 34
  · cases o10 with
    | true =>
      (repeat' (first | refine z7 ?_ | refine z6 ?_ | refine z2 ?_ | refine z1 ?_ | refine zc ?_ | refine zb ?_ | refine zd ?_ | refine z8 ?_ | refine za ?_ | refine zn ?_ | refine zp ?_ | refine zq ?_ | refine zt ?_ | refine zr ?_))
      exact ⟨hQ .em bs bt ⟨.inr (.inr (.inl ⟨.inl h34, rfl⟩)), rfl, rfl⟩ _ kA⟩
    | false =>
      (repeat' (first | refine z7 ?_ | refine z6 ?_ | refine z2 ?_ | refine z1 ?_ | refine zc ?_ | refine zb ?_ | refine zd ?_ | refine z8 ?_ | refine za ?_ | refine zn ?_ | refine zp ?_ | refine zq ?_ | refine zt ?_ | refine zr ?_))
      exact ⟨hQ .no bs bt ⟨⟨h92, h96, h60, h91, h33, h95, h42, by omega, by omega, fun _ => rfl, by omega⟩, rfl, rfl⟩ _ kA⟩
  by_cases h39 : c.toNat = 39
  · cases o10 with
    | true =>
      (repeat' (first | refine z7 ?_ | refine z6 ?_ | refine z2 ?_ | refine z1 ?_ | refine zc ?_ | refine zb ?_ | refine z8 ?_ | refine za ?_ | refine zn ?_ | refine zp ?_ | refine zq ?_ | refine zt ?_ | refine zr ?_))
      exact ⟨hQ .em bs bt ⟨.inr (.inr (.inl ⟨.inr h39, rfl⟩)), rfl, rfl⟩ _ kA⟩
    | false =>
      (repeat' (first | refine z7 ?_ | refine z6 ?_ | refine z2 ?_ | refine z1 ?_ | refine zc ?_ | refine zb ?_ | refine zd ?_ | refine z8 ?_ | refine za ?_ | refine zn ?_ | refine zp ?_ | refine zq ?_ | refine zt ?_ | refine zr ?_))
      exact ⟨hQ .no bs bt ⟨⟨h92, h96, h60, h91, h33, h95, h42, by omega, by omega, fun _ => rfl, by omega⟩, rfl, rfl⟩ _ kA⟩
  by_cases h126 : c.toNat = 126
  · cases o2 with
    | true =>
      (repeat' (first | refine z7 ?_ | refine z6 ?_ | refine z2 ?_ | refine z1 ?_ | refine zc ?_ | refine zb ?_ | refine z8 ?_ | refine za ?_ | refine zn ?_ | refine zp ?_ | refine zq ?_ | refine zt ?_ | refine zr ?_))
      exact ⟨hQ .em bs bt ⟨.inr (.inr (.inr ⟨h126, rfl⟩)), rfl, rfl⟩ _ kA⟩
    | false =>
      (repeat' (first | refine z7 ?_ | refine z6 ?_ | refine z2 ?_ | refine z1 ?_ | refine zc ?_ | refine zb ?_ | refine zd ?_ | refine z8 ?_ | refine za ?_ | refine zn ?_ | refine zp ?_ | refine zq ?_ | refine zt ?_ | refine zr ?_))
      exact ⟨hQ .no bs bt ⟨⟨h92, h96, h60, h91, h33, h95, h42, by omega, by omega, by omega, fun _ => rfl⟩, rfl, rfl⟩ _ kA⟩
  by_cases h10 : c.toNat = 10
  · (repeat' (first | refine z7 ?_ | refine z6 ?_ | refine z2 ?_ | refine z1 ?_ | refine zc ?_ | refine zb ?_ | refine za ?_ | refine zt ?_ | refine zr ?_))
    exact ⟨hQ .brk bs bt ⟨h10, rfl, rfl⟩ _ kA⟩
  by_cases h38 : c.toNat = 38
  · (repeat' (first | refine z7 ?_ | refine z6 ?_ | refine z2 ?_ | refine z1 ?_ | refine zc ?_ | refine zb ?_ | refine za ?_ | refine zt ?_ | refine zr ?_))
    exact ⟨hQ .ent bs bt ⟨h38, rfl, rfl⟩ _ kA⟩
  by_cases h58 : c.toNat = 58
  · have h7 : o7 = false := by
      cases o7 with
      | false => rfl
      | true => exact absurd h58 (hemo rfl)
    subst h7
    (repeat' (first | refine z7 ?_ | refine z6 ?_ | refine z2 ?_ | refine z1 ?_ | refine zc ?_ | refine zb ?_ | refine zd ?_ | refine z8 ?_ | refine za ?_ | refine zn ?_ | refine zp ?_ | refine zq ?_ | refine zt ?_ | refine zr ?_))
    exact ⟨hQ .no bs bt ⟨by omega, rfl, rfl⟩ _ kA⟩
  · (repeat' (first | refine z7 ?_ | refine z6 ?_ | refine z2 ?_ | refine z1 ?_ | refine zb ?_ | refine zd ?_ | refine za ?_ | refine zr ?_))
    exact ⟨hQ .no bs bt ⟨by omega, rfl, rfl⟩ _ kA⟩
end Go.Proofs

namespace Go.Proofs
open Go Go.Eng
set_option maxRecDepth 20000
set_option maxHeartbeats 1000000

/-- What a parser of inlines has given. -/
structure ZR where
  r : PrsI
  q : Nat
  cn : Bool
  btv : List Value
def ZR.v10 (z : ZR) : Value := match z.r with
  | some (y, _, _) => .iface (lf y).ty (lp z.q)
  | none => .nilIface
def ZR.a (z : ZR) : Nat := match z.r with
  | some (_, a, _) => a
  | none => 0
def ZR.b (z : ZR) : Nat := match z.r with
  | some (_, _, b) => b
  | none => 0
def ZR.ok (z : ZR) : Bool := match z.r with
  | some _ => true
  | none => false
def ZR.G (z : ZR) : Blk := match z.r with
  | some (y, _, _) => [(lf y).cell z.q]
  | none => []
def PKd.ok : PKd → Bool
  | .no => false
  | _ => true
theorem lf_op {y : In} (h : isLeaf y = true) (h2 : isOp y = false) : Nat.beq (lf y).ty 166 = false := by
  cases y <;> first | rfl | exact Bool.noConfusion h | exact Bool.noConfusion h2
/-- The contract of the parser of entities. -/
def EntC (p T : Nat) (es : List Value) (io : IO) (s : List UInt8) : Prop := ∀ i, s[i]? = some 38 → Tr Tryz.prog 71 [lp p, str s, inat i] [ent T es] fun u K => ∃ q, u = prsV q (lfP ((io.ent i).map fun r => (.plain r.1, i, r.2))) ∧ K = ent T es :: prsK q (lfP ((io.ent i).map fun r => (.plain r.1, i, r.2)))

theorem call_w (B : Base) (Q : Eng.Post) [NoPan Q] (p pr T i llo e : Nat) (o : PO) (st : PS) (es : List Value) (s : List UInt8) (c : UInt8) (io : IO) (bs bs1 cn : Bool) (bt : BT) (btv0 : List Value) (ov : Value) (out : List In) (ops : List Nat) (vals : List Value) (LB LR IB OB : Blk) (k : PKd)
    (hl : s.length ≤ 100000) (hA : Asc s) (hE : EntC p T es io s) (hEW : EntWF io s) (hc : s[i]? = some c) (hk : KOK io.quotes io.del c.toNat bs btv0 bs1 st.bt k) (hb0 : bs = true → btv0 = bt.vals) (hb1 : bt.last.length = 80) (hb2 : btv0.length = 81) (hcn : st.corner = .bool cn) (hem : st.em = inat e) (hstr : st.str = str s)
    (hei : e ≤ i) (hol : out.length ≤ e) (hlist : Inls st.list vals LR) (hins : InsR out vals IB) (hops : Own 3 1 ov ops.length (ops.map inat) OB) (hopl : ops.length ≤ 1000000)
    (hQn : ∀ (bt' : BT) (cn' : Bool) (btv' : List Value), parI io s i c bs bt = (none, bs1, bt') → (bs1 = true → btv' = bt'.vals) → btv'.length = 81 → ∀ L' H', Knows L' [(0, lp p), (1, str s), (5, ov), (6, inat llo), (7, .bool bs1), (8, inat i)] → SubH H' [({ st with corner := .bool cn', bt := btv' } : PS).blk p, o.blk pr, ent T es, LB, LR, IB, OB] → Q .normal L' H')
    (hQs : ∀ (y : In) (a b : Nat) (bt' : BT) (cn' : Bool) (btv' : List Value) (ov' lv' : Value) (vals' : List Value) (LR' IB' OB' : Blk), parI io s i c bs bt = (some (y, a, b), bs1, bt') → (bs1 = true → btv' = bt'.vals) → btv'.length = 81 → Inls lv' vals' LR' → InsR (emitI s e a out ++ [y]) vals' IB' →
      Own 3 1 ov' (if isOp y then ops ++ [(emitI s e a out).length] else ops).length ((if isOp y then ops ++ [(emitI s e a out).length] else ops).map inat) OB' →
      ∀ L' H', Knows L' [(0, lp p), (1, str s), (5, ov'), (6, inat llo), (7, .bool bs1), (8, inat b)] → SubH H' [({ st with corner := .bool cn', bt := btv', list := lv', em := inat b } : PS).blk p, o.blk pr, ent T es, LB, LR', IB', OB'] → Q (.exit 1) L' H') :
    ∀ x, nav [1, 1, 1, 1, 1, 1, 1, 1, 1, 0, 0, 0, 1, 0, 1, 1, 0, 1] (((Tryz.prog.funcs[46]?).bind Func.body).getD .skip) = some x → Wp Tryz.prog B 335 x [(0, lp p), (1, str s), (5, ov), (6, inat llo), (7, .bool bs1), (8, inat i), (9, k.val p), (114, .bool k.ok)] [st.blk p, o.blk pr, ent T es, LB, LR, IB, OB] Q := by
  obtain ⟨par, root, links, lineno, stack, depth, corner, sv, em, list, lists, texts, bt1⟩ := st
  dsimp only at hk hcn hem hstr hlist hQn hQs
  subst hcn; subst hem; subst hstr
  have hi := (List.getElem?_eq_some_iff.1 hc).1
  have hbv : bs = true → bt.vals = btv0 := fun h => (hb0 h).symm
  refine use_nav (by rfl) ?_
  by_cases hkn : k = .no
  · subst hkn
    obtain ⟨⟨n1, n2, n3, n4, n5, n6, n7, n8, n9, n10, n11⟩, rfl, rfl⟩ := hk
    have hp : parI io s i c bs1 bt = (none, bs1, bt) := by
      unfold parI
      rw [if_neg n1, if_neg n2, if_neg n3, if_neg n4, if_neg n5, if_neg (show ¬ (c.toNat = 95 ∨ c.toNat = 42) by omega)]
      by_cases hq : c.toNat = 34 ∨ c.toNat = 39
      · rw [if_pos hq, n10 hq]; rfl
      · rw [if_neg hq]
        by_cases ht : c.toNat = 126
        · rw [if_pos ht, n11 ht]; rfl
        · rw [if_neg ht, if_neg n8, if_neg n9]
    rw [show PKd.no.ok = false from rfl]
    (repeat' (first | refine zb ?_ | refine zd ?_))
    exact ⟨hQn bt cn bt1 hp hb0 hb2 _ _ kA sA⟩
  have hkt : k.ok = true := by cases k <;> first | rfl | exact absurd rfl hkn
  rw [hkt]
  refine zc ?_
  refine z7 ?_
  refine zau (fun z : ZR => [(0, lp p), (1, str s), (5, ov), (6, inat llo), (7, .bool bs1), (8, inat i), (10, z.v10), (11, inat z.a), (12, inat z.b), (13, .bool z.ok)]) (fun z => [(⟨par, root, links, lineno, stack, depth, .bool z.cn, str s, inat e, list, lists, texts, z.btv⟩ : PS).blk p, o.blk pr, ent T es, LB, LR, IB, OB, z.G]) (fun z => ∃ bt', parI io s i c bs bt = (z.r, bs1, bt') ∧ (bs1 = true → z.btv = bt'.vals) ∧ z.btv.length = 81) ?_ ?_
  · cases k with
    | no => exact absurd rfl hkn
    | esc =>
      obtain ⟨h0, rfl, rfl⟩ := hk
      have hp : parI io s i c bs1 bt = (escI s i, bs1, bt) := by unfold parI; rw [if_pos h0]
      have hT := escapeG_tr p (⟨par, root, links, lineno, stack, depth, .bool cn, str s, inat e, list, lists, texts, bt1⟩ : PS) s i (by omega) hi cn rfl
      rw [esc_lf] at hT
      refine z6 ?_
      refine z8 ?_
      refine z8 ?_
      refine z8 ?_
      refine z8 ?_
      refine zcn hT (fun u K hR => ?_)
      obtain ⟨q, cn', rfl, rfl⟩ := hR
      cases hr : escI s i with
      | none =>
        rw [hr] at hp
        dsimp only [lfP, Option.map, prsV, prsK]
        (repeat' (first | refine z2 ?_ | refine z1 ?_ | refine z8 ?_ | refine za ?_ | refine za0 ?_))
        exact ⟨⟨none, 0, cn', bt1⟩, kA, sA, bt, hp, hb0, hb2⟩
      | some r =>
        obtain ⟨y, a, b⟩ := r
        rw [hr] at hp
        dsimp only [lfP, Option.map, prsV, prsK]
        (repeat' (first | refine z2 ?_ | refine z1 ?_ | refine z8 ?_ | refine za ?_ | refine za0 ?_))
        exact ⟨⟨some (y, a, b), q, cn', bt1⟩, kA, sA, bt, hp, hb0, hb2⟩
    | ang =>
      obtain ⟨h0, rfl, rfl⟩ := hk
      have hp : parI io s i c bs1 bt = (angI s i, bs1, bt) := by unfold parI; rw [if_neg (by omega), if_neg (by omega), if_pos h0]
      have hT : Tr Tryz.prog 64 [lp p, str s, inat i] [(⟨par, root, links, lineno, stack, depth, .bool cn, str s, inat e, list, lists, texts, bt1⟩ : PS).blk p] fun u K => ∃ q cn', u = prsV q (lfP (angI s i)) ∧ K = ((⟨par, root, links, lineno, stack, depth, .bool cn', str s, inat e, list, lists, texts, bt1⟩ : PS)).blk p :: prsK q (lfP (angI s i)) := by
        refine (angG_tr p (⟨par, root, links, lineno, stack, depth, .bool cn, str s, inat e, list, lists, texts, bt1⟩ : PS) s i (by omega) (by omega) cn rfl).mono ?_
        rintro u K ⟨q, cn', h1, h2⟩
        rw [(inl_prs q i _).1, ang_lf] at h1
        rw [(inl_prs q i _).2, ang_lf] at h2
        exact ⟨q, cn', h1, h2⟩
      refine z6 ?_
      refine z8 ?_
      refine z8 ?_
      refine z8 ?_
      refine z8 ?_
      refine zcn hT (fun u K hR => ?_)
      obtain ⟨q, cn', rfl, rfl⟩ := hR
      cases hr : angI s i with
      | none =>
        rw [hr] at hp
        dsimp only [lfP, Option.map, prsV, prsK]
        (repeat' (first | refine z2 ?_ | refine z1 ?_ | refine z8 ?_ | refine za ?_ | refine za0 ?_))
        exact ⟨⟨none, 0, cn', bt1⟩, kA, sA, bt, hp, hb0, hb2⟩
      | some r =>
        obtain ⟨y, a, b⟩ := r
        rw [hr] at hp
        dsimp only [lfP, Option.map, prsV, prsK]
        (repeat' (first | refine z2 ?_ | refine z1 ?_ | refine z8 ?_ | refine za ?_ | refine za0 ?_))
        exact ⟨⟨some (y, a, b), q, cn', bt1⟩, kA, sA, bt, hp, hb0, hb2⟩
    | lnk =>
      obtain ⟨h0, rfl, rfl⟩ := hk
      have hp : parI io s i c bs1 bt = (linkOpenI s i, bs1, bt) := by unfold parI; rw [if_neg (by omega), if_neg (by omega), if_neg (by omega), if_pos h0]
      have hT := linkOpenG_tr (lp p) s i (by omega) hi
      rw [linkOpen_lf] at hT
      refine z6 ?_
      refine z8 ?_
      refine z8 ?_
      refine z8 ?_
      refine z8 ?_
      refine zcn hT (fun u K hR => ?_)
      obtain ⟨q, rfl, rfl⟩ := hR
      cases hr : linkOpenI s i with
      | none =>
        rw [hr] at hp
        dsimp only [lfP, Option.map, prsV, prsK]
        (repeat' (first | refine z2 ?_ | refine z1 ?_ | refine z8 ?_ | refine za ?_ | refine za0 ?_))
        exact ⟨⟨none, 0, cn, bt1⟩, kA, sA, bt, hp, hb0, hb2⟩
      | some r =>
        obtain ⟨y, a, b⟩ := r
        rw [hr] at hp
        dsimp only [lfP, Option.map, prsV, prsK]
        (repeat' (first | refine z2 ?_ | refine z1 ?_ | refine z8 ?_ | refine za ?_ | refine za0 ?_))
        exact ⟨⟨some (y, a, b), q, cn, bt1⟩, kA, sA, bt, hp, hb0, hb2⟩
    | img =>
      obtain ⟨h0, rfl, rfl⟩ := hk
      have hp : parI io s i c bs1 bt = (imageOpenI s i, bs1, bt) := by unfold parI; rw [if_neg (by omega), if_neg (by omega), if_neg (by omega), if_neg (by omega), if_pos h0]
      have hT := imageOpenG_tr (lp p) s i (by omega) hi
      rw [imageOpen_lf] at hT
      refine z6 ?_
      refine z8 ?_
      refine z8 ?_
      refine z8 ?_
      refine z8 ?_
      refine zcn hT (fun u K hR => ?_)
      obtain ⟨q, rfl, rfl⟩ := hR
      cases hr : imageOpenI s i with
      | none =>
        rw [hr] at hp
        dsimp only [lfP, Option.map, prsV, prsK]
        (repeat' (first | refine z2 ?_ | refine z1 ?_ | refine z8 ?_ | refine za ?_ | refine za0 ?_))
        exact ⟨⟨none, 0, cn, bt1⟩, kA, sA, bt, hp, hb0, hb2⟩
      | some r =>
        obtain ⟨y, a, b⟩ := r
        rw [hr] at hp
        dsimp only [lfP, Option.map, prsV, prsK]
        (repeat' (first | refine z2 ?_ | refine z1 ?_ | refine z8 ?_ | refine za ?_ | refine za0 ?_))
        exact ⟨⟨some (y, a, b), q, cn, bt1⟩, kA, sA, bt, hp, hb0, hb2⟩
    | brk =>
      obtain ⟨h0, rfl, rfl⟩ := hk
      have hp : parI io s i c bs1 bt = (breakI s i, bs1, bt) := by unfold parI; rw [if_neg (by omega), if_neg (by omega), if_neg (by omega), if_neg (by omega), if_neg (by omega), if_neg (by omega), if_neg (by omega), if_neg (by omega), if_pos h0]
      have hT := breakG_tr (lp p) s i (by omega) hi
      rw [break_lf] at hT
      refine z6 ?_
      refine z8 ?_
      refine z8 ?_
      refine z8 ?_
      refine z8 ?_
      refine zcn hT (fun u K hR => ?_)
      obtain ⟨q, rfl, rfl⟩ := hR
      cases hr : breakI s i with
      | none =>
        rw [hr] at hp
        dsimp only [lfP, Option.map, prsV, prsK]
        (repeat' (first | refine z2 ?_ | refine z1 ?_ | refine z8 ?_ | refine za ?_ | refine za0 ?_))
        exact ⟨⟨none, 0, cn, bt1⟩, kA, sA, bt, hp, hb0, hb2⟩
      | some r =>
        obtain ⟨y, a, b⟩ := r
        rw [hr] at hp
        dsimp only [lfP, Option.map, prsV, prsK]
        (repeat' (first | refine z2 ?_ | refine z1 ?_ | refine z8 ?_ | refine za ?_ | refine za0 ?_))
        exact ⟨⟨some (y, a, b), q, cn, bt1⟩, kA, sA, bt, hp, hb0, hb2⟩
    | ent =>
      obtain ⟨h0, rfl, rfl⟩ := hk
      have hp : parI io s i c bs1 bt = ((io.ent i).map (fun r => (.plain r.1, i, r.2)), bs1, bt) := by unfold parI; rw [if_neg (by omega), if_neg (by omega), if_neg (by omega), if_neg (by omega), if_neg (by omega), if_neg (by omega), if_neg (by omega), if_neg (by omega), if_neg (by omega), if_pos h0]
      have hT := hE i (by rw [hc, show c = 38 from UInt8.toNat_inj.1 h0])
      refine z6 ?_
      refine z8 ?_
      refine z8 ?_
      refine z8 ?_
      refine z8 ?_
      refine zcn hT (fun u K hR => ?_)
      obtain ⟨q, rfl, rfl⟩ := hR
      cases hr : (io.ent i).map (fun r => ((.plain r.1 : In), i, r.2)) with
      | none =>
        rw [hr] at hp
        dsimp only [lfP, Option.map, prsV, prsK]
        (repeat' (first | refine z2 ?_ | refine z1 ?_ | refine z8 ?_ | refine za ?_ | refine za0 ?_))
        exact ⟨⟨none, 0, cn, bt1⟩, kA, sA, bt, hp, hb0, hb2⟩
      | some r =>
        obtain ⟨y, a, b⟩ := r
        rw [hr] at hp
        dsimp only [lfP, Option.map, prsV, prsK]
        (repeat' (first | refine z2 ?_ | refine z1 ?_ | refine z8 ?_ | refine za ?_ | refine za0 ?_))
        exact ⟨⟨some (y, a, b), q, cn, bt1⟩, kA, sA, bt, hp, hb0, hb2⟩
    | em =>
      obtain ⟨h0, rfl, rfl⟩ := hk
      have hp : parI io s i c bs1 bt = (emphI s i c, bs1, bt) := by
        unfold parI
        rw [if_neg (by omega), if_neg (by omega), if_neg (by omega), if_neg (by omega), if_neg (by omega)]
        rcases h0 with h | h | ⟨h, h2⟩ | ⟨h, h2⟩
        · rw [if_pos (.inl h)]
        · rw [if_pos (.inr h)]
        · rw [if_neg (by omega), if_pos h, h2]; rfl
        · rw [if_neg (by omega), if_neg (by omega), if_pos h, h2]; rfl
      have hT := parseEmphG_tr p (⟨par, root, links, lineno, stack, depth, .bool cn, str s, inat e, list, lists, texts, bt1⟩ : PS) s i c (by omega) hA hc (by omega) cn rfl
      rw [emph_lf] at hT
      refine z6 ?_
      refine z8 ?_
      refine z8 ?_
      refine z8 ?_
      refine z8 ?_
      refine zcn hT (fun u K hR => ?_)
      obtain ⟨q, cn', rfl, rfl⟩ := hR
      cases hr : emphI s i c with
      | none =>
        rw [hr] at hp
        dsimp only [lfP, Option.map, prsV, prsK]
        (repeat' (first | refine z2 ?_ | refine z1 ?_ | refine z8 ?_ | refine za ?_ | refine za0 ?_))
        exact ⟨⟨none, 0, cn', bt1⟩, kA, sA, bt, hp, hb0, hb2⟩
      | some r =>
        obtain ⟨y, a, b⟩ := r
        rw [hr] at hp
        dsimp only [lfP, Option.map, prsV, prsK]
        (repeat' (first | refine z2 ?_ | refine z1 ?_ | refine z8 ?_ | refine za ?_ | refine za0 ?_))
        exact ⟨⟨some (y, a, b), q, cn', bt1⟩, kA, sA, bt, hp, hb0, hb2⟩
    | code =>
      obtain ⟨h0, rfl, hb3⟩ := hk
      have hbt1 : bt1 = (if bs then bt else bt00).vals := by rw [hb3]; cases bs with
        | true => exact hb0 rfl
        | false => rfl
      have hbl80 : (if bs then bt else bt00).last.length = 80 := by cases bs with
        | true => exact hb1
        | false => rfl
      have hp : parI io s i c bs bt = (some (codeI s i (if bs then bt else bt00)).1, true, (codeI s i (if bs then bt else bt00)).2) := by unfold parI; rw [if_neg (by omega), if_pos h0]
      have hT := codeSpanG_tr p (⟨par, root, links, lineno, stack, depth, .bool cn, str s, inat e, list, lists, texts, bt1⟩ : PS) s i (if bs then bt else bt00) (by omega) (by rw [hc, show c = 96 from UInt8.toNat_inj.1 h0]) hbt1 hbl80
      have hcl := (codeI_ok (s := s) (c := c) hi hbl80).2
      rw [(code_lf s i _).1, (code_lf s i _).2] at hT
      generalize codeI s i (if bs then bt else bt00) = R at hT hp hcl
      obtain ⟨⟨y, a, b⟩, bt'⟩ := R
      dsimp only at hT hp hcl
      refine z6 ?_
      refine z8 ?_
      refine z8 ?_
      refine z8 ?_
      refine z8 ?_
      refine ze8 (fst := [.pointer (some ⟨p, 12, none⟩)]) (args := [lp p, str s, inat i]) (caps := []) hT (fun u K hR => ?_)
      obtain ⟨q, rfl, rfl⟩ := hR
      dsimp only [lfP, Option.map, prsV, prsK]
      (repeat' (first | refine z2 ?_ | refine z1 ?_ | refine z8 ?_ | refine za ?_ | refine za0 ?_))
      exact ⟨⟨some (y, a, b), q, cn, bt'.vals⟩, kA, sA, bt', hp, fun _ => rfl, by simp [hcl]⟩
  · rintro ⟨r, q, cn', btv'⟩ ⟨bt', hp, hbv', hbl⟩
    dsimp only at hp hbv' hbl ⊢
    cases r with
    | none =>
      dsimp only [ZR.v10, ZR.a, ZR.b, ZR.ok, ZR.G]
      (repeat' (first | refine z7 ?_ | refine z6 ?_ | refine z2 ?_ | refine z1 ?_ | refine zb ?_ | refine zd ?_ | refine z8 ?_))
      exact ⟨hQn bt' cn' btv' hp hbv' hbl _ _ kA sA⟩
    | some r =>
      obtain ⟨y, a, b⟩ := r
      have hpk := (parI_ok (bs := bs) (bt := bt) (o := io) (by omega) hEW hc hb1).1 y a b (by rw [hp])
      have ha := hpk.le
      have hb := hpk.len
      have hvl : vals.length = out.length := hins.length
      have hEm := emitI_tr p a e (⟨par, root, links, lineno, stack, depth, .bool cn', str s, inat e, list, lists, texts, btv'⟩ : PS) s out vals LR IB rfl rfl (by omega) (by omega) hlist (by omega) hins
      have hel := emitI_len (s := s) (i := a) hol
      dsimp only [ZR.v10, ZR.a, ZR.b, ZR.ok, ZR.G]
      (repeat' (first | refine z7 ?_ | refine z6 ?_ | refine z2 ?_ | refine z1 ?_ | refine zc ?_ | refine z8 ?_))
      refine za1 hEm (fun u K hR => ?_)
      obtain ⟨rfl, vals', lv', LR', IB', e', hL', hI', rfl⟩ := hR
      have hvl' : vals'.length = (emitI s e a out).length := hI'.length
      obtain ⟨la, lc, hlv⟩ := ownShape hL'
      subst hlv
      cases hop : isOp y with
      | true =>
        cases y with
        | op t k' =>
          dsimp only [lf]
          (repeat' (first | refine z7 ?_ | refine z6 ?_ | refine z2 ?_ | refine z1 ?_ | refine zc ?_ | refine z8 ?_ | refine za ?_ | refine zn ?_ | refine zp ?_ | refine zq ?_ | refine zah ?_ | refine za0 ?_ | refine zcf ?_ | refine zb7 (fun _ => ?_)))
          refine zbz hops (by omega) (fun ov' OB' hO' => ?_)
          (repeat' (first | refine z7 ?_ | refine z6 ?_ | refine z2 ?_ | refine z1 ?_ | refine z8 ?_ | refine za ?_ | refine zn ?_ | refine zp ?_ | refine zq ?_ | refine zb7 (fun _ => ?_)))
          refine zbz hL' (by omega) (fun lv2 LR2 hL2 => ?_)
          obtain ⟨la2, lc2, hlv2⟩ := ownShape hL2
          subst hlv2
          (repeat' (first | refine za9 (skip_tr p b (⟨par, root, links, lineno, stack, depth, .bool cn', str s, inat e', .slice la2 (vals'.length + 1) lc2, lists, texts, btv'⟩ : PS)) ?_ | refine z7 ?_ | refine z6 ?_ | refine z2 ?_ | refine z1 ?_ | refine zw ?_ | refine z8 ?_ | refine za ?_ | refine zp ?_ | refine zq ?_ | refine za5 ?_))
          refine ⟨hQs _ a b bt' cn' btv' ov' _ (vals' ++ [_]) LR2 (IB' ++ [(lf (.op t k')).cell q]) OB' hp hbv' hbl (by simp only [Inls, List.length_append, List.length_singleton]; exact hL2) (hI'.snoc (lf_R rfl q)) (by rw [hvl'] at hO'; simpa [isOp] using hO') _ _ kA ?_⟩
          exact SubH.trans (H' := [(⟨par, root, links, lineno, stack, depth, .bool cn', str s, inat b, .slice la2 (vals'.length + 1) lc2, lists, texts, btv'⟩ : PS).blk p, o.blk pr, ent T es, LB, LR2, IB', [(lf (.op t k')).cell q], OB']) sA ⟨[], by simp⟩
        | _ => cases hop
      | false =>
        have hno := lf_op hpk.leaf hop
        generalize hly : lf y = ly at hno ⊢
        (repeat' (first | refine zby (hne := hno) ?_ | refine z7 ?_ | refine z6 ?_ | refine z2 ?_ | refine z1 ?_ | refine zb ?_ | refine zd ?_ | refine z8 ?_ | refine za ?_ | refine zn ?_ | refine zp ?_ | refine zq ?_ | refine za0 ?_ | refine zb7 (fun _ => ?_)))
        refine zbz hL' (by omega) (fun lv2 LR2 hL2 => ?_)
        obtain ⟨la2, lc2, hlv2⟩ := ownShape hL2
        subst hlv2
        (repeat' (first | refine za9 (skip_tr p b (⟨par, root, links, lineno, stack, depth, .bool cn', str s, inat e', .slice la2 (vals'.length + 1) lc2, lists, texts, btv'⟩ : PS)) ?_ | refine z7 ?_ | refine z6 ?_ | refine z2 ?_ | refine z1 ?_ | refine zw ?_ | refine z8 ?_ | refine za ?_ | refine zp ?_ | refine zq ?_ | refine za5 ?_))
        subst hly
        refine ⟨hQs _ a b bt' cn' btv' ov _ (vals' ++ [_]) LR2 (IB' ++ [(lf y).cell q]) OB hp hbv' hbl (by simp only [Inls, List.length_append, List.length_singleton]; exact hL2) (hI'.snoc (lf_R hpk.leaf q)) (by rw [hop]; simpa using hops) _ _ kA ?_⟩
        exact SubH.trans (H' := [(⟨par, root, links, lineno, stack, depth, .bool cn', str s, inat b, .slice la2 (vals'.length + 1) lc2, lists, texts, btv'⟩ : PS).blk p, o.blk pr, ent T es, LB, LR2, IB', [(lf y).cell q], OB]) sA ⟨[], by simp⟩
end Go.Proofs

namespace Go.Proofs
open Go Go.Eng
set_option maxRecDepth 20000
set_option maxHeartbeats 1000000

/-- An opener's text begins with '!' or '['. -/
def OpWF : In → Prop
  | .op t _ => (t.headD 0).toNat = 33 ∨ (t.headD 0).toNat = 91
  | _ => True
theorem slice_head {s : List UInt8} {i j : Nat} {c : UInt8} (hc : s[i]? = some c) (hij : i < j) : ((s.take j).drop i).headD 0 = c := by
  have h : ((s.take j).drop i)[0]? = some c := by rw [List.getElem?_drop, List.getElem?_take, if_pos (by omega)]; exact hc
  cases hl : (s.take j).drop i with
  | nil => rw [hl] at h; cases h
  | cons a l => rw [hl] at h; simpa using h
theorem codeI_noop (s : List UInt8) (i : Nat) (b : BT) : isOp (codeI s i b).1.1 = false := by
  unfold codeI
  dsimp only
  split
  · rfl
  · split <;> rfl
theorem parI_op {o : IO} {s : List UInt8} {i : Nat} {c : UInt8} {bs : Bool} {bt : BT} {y : In} {a b : Nat} (hc : s[i]? = some c) (h : (parI o s i c bs bt).1 = some (y, a, b)) : OpWF y := by
  unfold parI at h
  have simple : (∀ t k, y ≠ .op t k) → OpWF y := fun h => by cases y <;> first | trivial | exact absurd rfl (h _ _)
  split at h
  · apply simple
    intro t k e
    subst e
    unfold escI at h
    split at h
    · cases h
    · split at h
      · cases h
      · split at h <;> cases h
  split at h
  · apply simple
    intro t k e
    subst e
    have h' := congrArg Prod.fst (Option.some.inj h)
    have h2 := codeI_noop s i (if bs = true then bt else bt00)
    dsimp only at h'
    rw [h'] at h2
    cases h2
  split at h
  · apply simple
    intro t k e
    subst e
    unfold angI at h
    split at h
    · cases h
    · split at h
      · cases h
      · split at h <;> cases h
  split at h
  · rename_i h91
    unfold linkOpenI at h
    cases h
    have hh := slice_head (j := i + 1) hc (by omega)
    show (((s.take (i + 1)).drop i).headD 0).toNat = 33 ∨ (((s.take (i + 1)).drop i).headD 0).toNat = 91
    rw [hh]
    exact .inr h91
  split at h
  · rename_i h33
    unfold imageOpenI at h
    split at h
    · cases h
      have hh := slice_head (j := i + 2) hc (by omega)
      show (((s.take (i + 2)).drop i).headD 0).toNat = 33 ∨ (((s.take (i + 2)).drop i).headD 0).toNat = 91
      rw [hh]
      exact .inl h33
    · cases h
  have hem : ∀ t k, emphI s i c ≠ some (.op t k, a, b) := by
    intro t k e
    unfold emphI at e
    dsimp only at e
    split at e <;> cases e
  split at h
  · exact simple fun t k e => by subst e; exact hem t k h
  split at h
  · split at h
    · exact simple fun t k e => by subst e; exact hem t k h
    · cases h
  split at h
  · split at h
    · exact simple fun t k e => by subst e; exact hem t k h
    · cases h
  split at h
  · apply simple
    intro t k e
    subst e
    unfold breakI at h
    split at h <;> cases h
  split at h
  · apply simple
    intro t k e
    subst e
    cases he : o.ent i with
    | none => rw [he] at h; cases h
    | some r => rw [he] at h; cases h
  · cases h
theorem emitI_op {s : List UInt8} {e i : Nat} {out : List In} (h : ∀ y ∈ out, OpWF y) : ∀ y ∈ emitI s e i out, OpWF y := by
  unfold emitI
  split
  · intro y hy
    rcases List.mem_append.1 hy with hy | hy
    · exact h y hy
    · simp at hy; subst hy; trivial
  · exact h
theorem stepI_op {o : IO} {s : List UInt8} {x : IS} (h : ∀ y ∈ x.out, OpWF y) : ∀ y ∈ (stepI o s x).out, OpWF y := by
  unfold stepI
  cases hc : s[x.i]? with
  | none => exact h
  | some c =>
    dsimp only
    cases hp : parI o s x.i c x.bs x.bt with
    | mk r rest =>
      obtain ⟨bs, bt⟩ := rest
      cases r with
      | some r =>
        obtain ⟨y, a, b⟩ := r
        dsimp only
        intro z hz
        rcases List.mem_append.1 hz with hz | hz
        · exact emitI_op h z hz
        · simp at hz; subst hz; exact parI_op hc (by rw [hp])
      | none =>
        dsimp only
        split
        · split
          · split
            · split
              · dsimp only
                intro z hz
                rcases List.mem_append.1 hz with hz | hz
                · exact emitI_op h z (List.mem_of_mem_take hz)
                · simp at hz
                  subst hz
                  unfold nodeI
                  split <;> trivial
              · exact h
            · exact h
          · exact h
        · exact h

/-- emit: what is added to the list. -/
def extI (s : List UInt8) (e i : Nat) : List In := if e < i then [.plain ((s.take i).drop e)] else []
theorem emitI_ext (s : List UInt8) (e i : Nat) (out : List In) : emitI s e i out = out ++ extI s e i := by
  unfold emitI extI
  split <;> simp
theorem emitX_tr (p i e : Nat) (s : PS) (tx : List UInt8) (vals : List Value) (LB : Blk) (he : s.em = inat e) (hs : s.str = str tx) (hi : i ≤ tx.length) (hl : tx.length ≤ 140737488355328) (hv : Inls s.list vals LB) (hvl : vals.length ≤ 1000000) :
    Tr Tryz.prog 73 [lp p, inat i] [s.blk p, LB] fun u K => u = unit ∧ ∃ vx v' LB' IX e', Inls v' (vals ++ vx) LB' ∧ InsR (extI tx e i) vx IX ∧ K = [({ s with list := v', em := inat e' } : PS).blk p, LB', IX] := by
  by_cases hei : e < i
  · refine (emitP p i e s tx vals LB he hs hei hi hl hv hvl).mono ?_
    rintro u K ⟨rfl, q, v', LB', h1, rfl⟩
    refine ⟨rfl, [.iface 161 (lp q)], v', LB', _, i, h1, ?_, rfl⟩
    unfold extI
    rw [if_pos hei]
    have := InsR.cons (InR.plain (t := (tx.take i).drop e) (q := q) (T := 158) (r := [])) InsR.nil
    exact this
  · obtain ⟨par, root, links, lineno, stack, depth, corner, sv, em, list, lists, texts, bt⟩ := s
    simp only at he hs hv
    subst he
    refine Tr.ps (Tr.fr (F := [LB]) (emit_no p i e (⟨par, root, links, lineno, stack, depth, corner, sv, inat e, list, lists, texts, bt⟩ : PS) rfl (by omega)) (by repeat' (first | exact HTakes.nil | exact HTake.here | apply HTakes.cons | apply HTake.there))) ?_
    rintro u K ⟨K0, ⟨rfl, rfl⟩, rfl⟩
    exact ⟨[(⟨par, root, links, lineno, stack, depth, corner, sv, inat e, list, lists, texts, bt⟩ : PS).blk p, LB, []], ⟨rfl, [], list, LB, [], e, by simpa using hv, by unfold extI; rw [if_neg hei]; exact .nil, rfl⟩, ⟨[], by simp⟩⟩
theorem InsR.at : ∀ {l : List In} {vs : List Value} {K : Blk} (j : Nat) {x : In}, InsR l vs K → l[j]? = some x →
    ∃ K1 G K2 v, K = K1 ++ (G ++ K2) ∧ vs[j]? = some v ∧ InR x v G ∧ InsR (l.take j) (vs.take j) K1 ∧ InsR (l.drop (j + 1)) (vs.drop (j + 1)) K2
  | [], _, _, j, x, h, hx => by simp at hx
  | y :: l, _, _, 0, x, h, hx => by
    cases h with
    | @cons _ _ v vs G K h hs =>
    simp at hx
    subst hx
    exact ⟨[], G, K, v, rfl, rfl, h, .nil, hs⟩
  | y :: l, _, _, j + 1, x, h, hx => by
    cases h with
    | @cons _ _ v0 vs G0 K0 h hs =>
    obtain ⟨K1, G, K2, v, h1, h2, h3, h4, h5⟩ := hs.at j (by simpa using hx)
    exact ⟨G0 ++ K1, G, K2, v, by rw [h1]; simp, by simpa using h2, h3, .cons h h4, by simpa using h5⟩
theorem InsR.append : ∀ {l1 l2 : List In} {v1 v2 : List Value} {K1 K2 : Blk}, InsR l1 v1 K1 → InsR l2 v2 K2 → InsR (l1 ++ l2) (v1 ++ v2) (K1 ++ K2)
  | [], _, _, _, _, _, h1, h2 => by cases h1; simpa using h2
  | x :: l1, _, _, _, _, _, h1, h2 => by
    cases h1 with
    | cons h hs =>
      have := InsR.cons h (hs.append h2)
      simpa using this
end Go.Proofs

namespace Go.Proofs
open Go Go.Eng
set_option maxRecDepth 20000
set_option maxHeartbeats 4000000

/-- The rule of three, as the code asks it. -/
theorem rule_w (B : Base) (Q : Eng.Post) [NoPan Q] (H : Heap) (p r4 r7 g off n cap i j q qs1 nn sn i0 pos m : Nat) (ch : UInt8) (ts : List UInt8) (o sc : Bool) (hnn : nn ≤ 1000000) (hsn : sn ≤ 1000000)
    (hKm : HMem H qs1 (cellsOf (emC ts true sc pos sn) 204)) (hPm : HMem H q (cellsOf (emC (List.replicate (m + 1) ch) o true i0 nn) 204))
    (hQ : ∀ L', Knows L' [(0, lp p), (2, .slice (some ⟨g, off, none⟩) n cap), (4, lp r4), (7, lp r7), (8, .func (.func 105) #[] #[]), (9, .func (.func 106) #[] #[lp r7, lp r4]), (10, inat i), (13, lp q), (15, .pointer (some ⟨r7, 0 + emIdx ch * 1, none⟩)), (16, inat j), (17, lp qs1), (164, .bool (ruleM ch o true nn true sc sn))] → Q .normal L' H) :
    ∀ c, nav [1, 0, 1, 1, 1, 1, 0, 1, 0, 0, 1, 0, 0, 1, 1, 1, 0, 1, 0, 0, 1, 1, 0, 0, 1, 0, 0, 1, 0, 0, 1, 0, 0, 1, 0, 0] (((Tryz.prog.funcs[77]?).bind Func.body).getD .skip) = some c → Wp Tryz.prog B 436 c [(0, lp p), (2, .slice (some ⟨g, off, none⟩) n cap), (4, lp r4), (7, lp r7), (8, .func (.func 105) #[] #[]), (9, .func (.func 106) #[] #[lp r7, lp r4]), (10, inat i), (13, lp q), (15, .pointer (some ⟨r7, 0 + emIdx ch * 1, none⟩)), (16, inat j), (17, lp qs1)] H Q := by
  have hc1 : (List.replicate (m + 1) ch)[0]? = some ch := rfl
  refine use_nav (by rfl) ?_
  have fin : ∀ v : Bool, ruleM ch o true nn true sc sn = v → ∀ L', Knows L' [(0, lp p), (2, .slice (some ⟨g, off, none⟩) n cap), (4, lp r4), (7, lp r7), (8, .func (.func 105) #[] #[]), (9, .func (.func 106) #[] #[lp r7, lp r4]), (10, inat i), (13, lp q), (15, .pointer (some ⟨r7, 0 + emIdx ch * 1, none⟩)), (16, inat j), (17, lp qs1), (164, .bool v)] → Q .normal L' H := fun v hv L' h => hQ L' (by rw [hv]; exact h)
  refine Wp.draw_all (id := 20) Mixed.out (by kernel_rfl) ?_
  by_cases h42 : ch.toNat = 42
  · (repeat' (first | refine za3 (hm := hPm) (hc := rfl) ?_ | refine zb4 ?_ | refine zc2 ?_ | refine za7 ?_ | refine zae ?_ | refine zad ?_ | refine zbd ?_ | refine zb6 ?_ | refine zbh ?_))
    cases o with
    | false =>
      (repeat' (first | refine za3 (hm := hKm) (hc := rfl) ?_ | refine zb4 ?_ | refine zbx ?_ | refine za7 ?_ | refine zae ?_ | refine zad ?_ | refine zb6 ?_ | refine zbc ?_))
      cases sc with
      | false =>
        (repeat' (first | refine za8 ?_ | refine zbx ?_ | refine zc3 ?_ | refine za7 ?_ | refine zbc ?_))
        (repeat' (first | refine z2 ?_))
        exact ⟨fin false (by simp [ruleM]) _ kA⟩
      | true =>
        by_cases hg : (nn + sn) % 3 = 0
        · by_cases hh : nn % 3 = 0
          · by_cases hi : sn % 3 = 0
            · (repeat' (first | refine za3 (hm := hKm) (hc := rfl) ?_ | refine za3 (hm := hPm) (hc := rfl) ?_ | refine OpsS.pure _ (zax (k := .i64) (a := nn + sn) (b := 3) (by rfl) (by rfl) (by omega)) (by rfl) ?_ | refine OpsS.pure _ (zax (k := .i64) (a := nn) (b := 3) (by rfl) (by rfl) (by omega)) (by rfl) ?_ | refine OpsS.pure _ (zax (k := .i64) (a := sn) (b := 3) (by rfl) (by rfl) (by omega)) (by rfl) ?_ | refine za8 ?_ | refine zb4 ?_ | refine za7 ?_ | refine zae ?_ | refine zad ?_ | refine zbw ?_ | refine zbd ?_ | refine zcx ?_ | refine zb6 ?_ | refine zbc ?_))
              (repeat' (first | refine z2 ?_))
              exact ⟨fin false (by simp [ruleM, h42, hg, hh, hi]) _ kA⟩
            · (repeat' (first | refine za3 (hm := hKm) (hc := rfl) ?_ | refine za3 (hm := hPm) (hc := rfl) ?_ | refine OpsS.pure _ (zax (k := .i64) (a := nn + sn) (b := 3) (by rfl) (by rfl) (by omega)) (by rfl) ?_ | refine OpsS.pure _ (zax (k := .i64) (a := nn) (b := 3) (by rfl) (by rfl) (by omega)) (by rfl) ?_ | refine za8 ?_ | refine zb4 ?_ | refine zc2 ?_ | refine za7 ?_ | refine zae ?_ | refine zad ?_ | refine zbw ?_ | refine zbd ?_ | refine zci ?_ | refine zb6 ?_))
              (repeat' (first | refine z2 ?_))
              exact ⟨fin true (by simp [ruleM, h42, hg, hh, hi]) _ kA⟩
          · (repeat' (first | refine za3 (hm := hKm) (hc := rfl) ?_ | refine za3 (hm := hPm) (hc := rfl) ?_ | refine OpsS.pure _ (zax (k := .i64) (a := nn + sn) (b := 3) (by rfl) (by rfl) (by omega)) (by rfl) ?_ | refine OpsS.pure _ (zax (k := .i64) (a := nn) (b := 3) (by rfl) (by rfl) (by omega)) (by rfl) ?_ | refine za8 ?_ | refine zb4 ?_ | refine zc2 ?_ | refine za7 ?_ | refine zae ?_ | refine zad ?_ | refine zbw ?_ | refine zbd ?_ | refine zci ?_ | refine zb6 ?_))
            (repeat' (first | refine z2 ?_))
            exact ⟨fin true (by simp [ruleM, h42, hg, hh]) _ kA⟩
        · (repeat' (first | refine za3 (hm := hKm) (hc := rfl) ?_ | refine za3 (hm := hPm) (hc := rfl) ?_ | refine OpsS.pure _ (zax (k := .i64) (a := nn + sn) (b := 3) (by rfl) (by rfl) (by omega)) (by rfl) ?_ | refine za8 ?_ | refine zb4 ?_ | refine zbx ?_ | refine zc3 ?_ | refine za7 ?_ | refine zae ?_ | refine zad ?_ | refine zbw ?_ | refine zc1 ?_ | refine zb6 ?_ | refine zbc ?_))
          (repeat' (first | refine z2 ?_))
          exact ⟨fin false (by simp [ruleM, h42, hg]) _ kA⟩
    | true =>
      by_cases hg : (nn + sn) % 3 = 0
      · by_cases hh : nn % 3 = 0
        · by_cases hi : sn % 3 = 0
          · (repeat' (first | refine za3 (hm := hKm) (hc := rfl) ?_ | refine za3 (hm := hPm) (hc := rfl) ?_ | refine OpsS.pure _ (zax (k := .i64) (a := nn + sn) (b := 3) (by rfl) (by rfl) (by omega)) (by rfl) ?_ | refine OpsS.pure _ (zax (k := .i64) (a := nn) (b := 3) (by rfl) (by rfl) (by omega)) (by rfl) ?_ | refine OpsS.pure _ (zax (k := .i64) (a := sn) (b := 3) (by rfl) (by rfl) (by omega)) (by rfl) ?_ | refine za8 ?_ | refine zb4 ?_ | refine zc2 ?_ | refine zc3 ?_ | refine za7 ?_ | refine zae ?_ | refine zad ?_ | refine zbw ?_ | refine zbd ?_ | refine zcx ?_ | refine zb6 ?_ | refine zbc ?_))
            (repeat' (first | refine z2 ?_))
            exact ⟨fin false (by simp [ruleM, h42, hg, hh, hi]) _ kA⟩
          · (repeat' (first | refine za3 (hm := hKm) (hc := rfl) ?_ | refine za3 (hm := hPm) (hc := rfl) ?_ | refine OpsS.pure _ (zax (k := .i64) (a := nn + sn) (b := 3) (by rfl) (by rfl) (by omega)) (by rfl) ?_ | refine OpsS.pure _ (zax (k := .i64) (a := nn) (b := 3) (by rfl) (by rfl) (by omega)) (by rfl) ?_ | refine za8 ?_ | refine zb4 ?_ | refine zc2 ?_ | refine zc3 ?_ | refine za7 ?_ | refine zae ?_ | refine zad ?_ | refine zbw ?_ | refine zbd ?_ | refine zci ?_ | refine zb6 ?_))
            (repeat' (first | refine z2 ?_))
            exact ⟨fin true (by simp [ruleM, h42, hg, hh, hi]) _ kA⟩
        · (repeat' (first | refine za3 (hm := hKm) (hc := rfl) ?_ | refine za3 (hm := hPm) (hc := rfl) ?_ | refine OpsS.pure _ (zax (k := .i64) (a := nn + sn) (b := 3) (by rfl) (by rfl) (by omega)) (by rfl) ?_ | refine OpsS.pure _ (zax (k := .i64) (a := nn) (b := 3) (by rfl) (by rfl) (by omega)) (by rfl) ?_ | refine za8 ?_ | refine zb4 ?_ | refine zc2 ?_ | refine zc3 ?_ | refine za7 ?_ | refine zae ?_ | refine zad ?_ | refine zbw ?_ | refine zbd ?_ | refine zci ?_ | refine zb6 ?_))
          (repeat' (first | refine z2 ?_))
          exact ⟨fin true (by simp [ruleM, h42, hg, hh]) _ kA⟩
      · (repeat' (first | refine za3 (hm := hKm) (hc := rfl) ?_ | refine za3 (hm := hPm) (hc := rfl) ?_ | refine OpsS.pure _ (zax (k := .i64) (a := nn + sn) (b := 3) (by rfl) (by rfl) (by omega)) (by rfl) ?_ | refine za8 ?_ | refine zb4 ?_ | refine zbx ?_ | refine zc2 ?_ | refine zc3 ?_ | refine za7 ?_ | refine zae ?_ | refine zad ?_ | refine zbw ?_ | refine zc1 ?_ | refine zb6 ?_ | refine zbc ?_))
        (repeat' (first | refine z2 ?_))
        exact ⟨fin false (by simp [ruleM, h42, hg]) _ kA⟩
  by_cases h95 : ch.toNat = 95
  · (repeat' (first | refine za3 (hm := hPm) (hc := rfl) ?_ | refine zb4 ?_ | refine za7 ?_ | refine zae ?_ | refine zad ?_ | refine zbd ?_ | refine zc1 ?_ | refine zbc ?_ | refine zbh ?_))
    cases o with
    | false =>
      (repeat' (first | refine za3 (hm := hKm) (hc := rfl) ?_ | refine zb4 ?_ | refine zbx ?_ | refine za7 ?_ | refine zae ?_ | refine zad ?_ | refine zb6 ?_ | refine zbc ?_))
      cases sc with
      | false =>
        (repeat' (first | refine za8 ?_ | refine zbx ?_ | refine zc3 ?_ | refine za7 ?_ | refine zbc ?_))
        (repeat' (first | refine z2 ?_))
        exact ⟨fin false (by simp [ruleM]) _ kA⟩
      | true =>
        by_cases hg : (nn + sn) % 3 = 0
        · by_cases hh : nn % 3 = 0
          · by_cases hi : sn % 3 = 0
            · (repeat' (first | refine za3 (hm := hKm) (hc := rfl) ?_ | refine za3 (hm := hPm) (hc := rfl) ?_ | refine OpsS.pure _ (zax (k := .i64) (a := nn + sn) (b := 3) (by rfl) (by rfl) (by omega)) (by rfl) ?_ | refine OpsS.pure _ (zax (k := .i64) (a := nn) (b := 3) (by rfl) (by rfl) (by omega)) (by rfl) ?_ | refine OpsS.pure _ (zax (k := .i64) (a := sn) (b := 3) (by rfl) (by rfl) (by omega)) (by rfl) ?_ | refine za8 ?_ | refine zb4 ?_ | refine za7 ?_ | refine zae ?_ | refine zad ?_ | refine zbw ?_ | refine zbd ?_ | refine zcx ?_ | refine zb6 ?_ | refine zbc ?_))
              (repeat' (first | refine z2 ?_))
              exact ⟨fin false (by simp [ruleM, h95, hg, hh, hi]) _ kA⟩
            · (repeat' (first | refine za3 (hm := hKm) (hc := rfl) ?_ | refine za3 (hm := hPm) (hc := rfl) ?_ | refine OpsS.pure _ (zax (k := .i64) (a := nn + sn) (b := 3) (by rfl) (by rfl) (by omega)) (by rfl) ?_ | refine OpsS.pure _ (zax (k := .i64) (a := nn) (b := 3) (by rfl) (by rfl) (by omega)) (by rfl) ?_ | refine za8 ?_ | refine zb4 ?_ | refine zc2 ?_ | refine za7 ?_ | refine zae ?_ | refine zad ?_ | refine zbw ?_ | refine zbd ?_ | refine zci ?_ | refine zb6 ?_))
              (repeat' (first | refine z2 ?_))
              exact ⟨fin true (by simp [ruleM, h95, hg, hh, hi]) _ kA⟩
          · (repeat' (first | refine za3 (hm := hKm) (hc := rfl) ?_ | refine za3 (hm := hPm) (hc := rfl) ?_ | refine OpsS.pure _ (zax (k := .i64) (a := nn + sn) (b := 3) (by rfl) (by rfl) (by omega)) (by rfl) ?_ | refine OpsS.pure _ (zax (k := .i64) (a := nn) (b := 3) (by rfl) (by rfl) (by omega)) (by rfl) ?_ | refine za8 ?_ | refine zb4 ?_ | refine zc2 ?_ | refine za7 ?_ | refine zae ?_ | refine zad ?_ | refine zbw ?_ | refine zbd ?_ | refine zci ?_ | refine zb6 ?_))
            (repeat' (first | refine z2 ?_))
            exact ⟨fin true (by simp [ruleM, h95, hg, hh]) _ kA⟩
        · (repeat' (first | refine za3 (hm := hKm) (hc := rfl) ?_ | refine za3 (hm := hPm) (hc := rfl) ?_ | refine OpsS.pure _ (zax (k := .i64) (a := nn + sn) (b := 3) (by rfl) (by rfl) (by omega)) (by rfl) ?_ | refine za8 ?_ | refine zb4 ?_ | refine zbx ?_ | refine zc3 ?_ | refine za7 ?_ | refine zae ?_ | refine zad ?_ | refine zbw ?_ | refine zc1 ?_ | refine zb6 ?_ | refine zbc ?_))
          (repeat' (first | refine z2 ?_))
          exact ⟨fin false (by simp [ruleM, h95, hg]) _ kA⟩
    | true =>
      by_cases hg : (nn + sn) % 3 = 0
      · by_cases hh : nn % 3 = 0
        · by_cases hi : sn % 3 = 0
          · (repeat' (first | refine za3 (hm := hKm) (hc := rfl) ?_ | refine za3 (hm := hPm) (hc := rfl) ?_ | refine OpsS.pure _ (zax (k := .i64) (a := nn + sn) (b := 3) (by rfl) (by rfl) (by omega)) (by rfl) ?_ | refine OpsS.pure _ (zax (k := .i64) (a := nn) (b := 3) (by rfl) (by rfl) (by omega)) (by rfl) ?_ | refine OpsS.pure _ (zax (k := .i64) (a := sn) (b := 3) (by rfl) (by rfl) (by omega)) (by rfl) ?_ | refine za8 ?_ | refine zb4 ?_ | refine zc2 ?_ | refine zc3 ?_ | refine za7 ?_ | refine zae ?_ | refine zad ?_ | refine zbw ?_ | refine zbd ?_ | refine zcx ?_ | refine zb6 ?_ | refine zbc ?_))
            (repeat' (first | refine z2 ?_))
            exact ⟨fin false (by simp [ruleM, h95, hg, hh, hi]) _ kA⟩
          · (repeat' (first | refine za3 (hm := hKm) (hc := rfl) ?_ | refine za3 (hm := hPm) (hc := rfl) ?_ | refine OpsS.pure _ (zax (k := .i64) (a := nn + sn) (b := 3) (by rfl) (by rfl) (by omega)) (by rfl) ?_ | refine OpsS.pure _ (zax (k := .i64) (a := nn) (b := 3) (by rfl) (by rfl) (by omega)) (by rfl) ?_ | refine za8 ?_ | refine zb4 ?_ | refine zc2 ?_ | refine zc3 ?_ | refine za7 ?_ | refine zae ?_ | refine zad ?_ | refine zbw ?_ | refine zbd ?_ | refine zci ?_ | refine zb6 ?_))
            (repeat' (first | refine z2 ?_))
            exact ⟨fin true (by simp [ruleM, h95, hg, hh, hi]) _ kA⟩
        · (repeat' (first | refine za3 (hm := hKm) (hc := rfl) ?_ | refine za3 (hm := hPm) (hc := rfl) ?_ | refine OpsS.pure _ (zax (k := .i64) (a := nn + sn) (b := 3) (by rfl) (by rfl) (by omega)) (by rfl) ?_ | refine OpsS.pure _ (zax (k := .i64) (a := nn) (b := 3) (by rfl) (by rfl) (by omega)) (by rfl) ?_ | refine za8 ?_ | refine zb4 ?_ | refine zc2 ?_ | refine zc3 ?_ | refine za7 ?_ | refine zae ?_ | refine zad ?_ | refine zbw ?_ | refine zbd ?_ | refine zci ?_ | refine zb6 ?_))
          (repeat' (first | refine z2 ?_))
          exact ⟨fin true (by simp [ruleM, h95, hg, hh]) _ kA⟩
      · (repeat' (first | refine za3 (hm := hKm) (hc := rfl) ?_ | refine za3 (hm := hPm) (hc := rfl) ?_ | refine OpsS.pure _ (zax (k := .i64) (a := nn + sn) (b := 3) (by rfl) (by rfl) (by omega)) (by rfl) ?_ | refine za8 ?_ | refine zb4 ?_ | refine zbx ?_ | refine zc2 ?_ | refine zc3 ?_ | refine za7 ?_ | refine zae ?_ | refine zad ?_ | refine zbw ?_ | refine zc1 ?_ | refine zb6 ?_ | refine zbc ?_))
        (repeat' (first | refine z2 ?_))
        exact ⟨fin false (by simp [ruleM, h95, hg]) _ kA⟩
  · (repeat' (first | refine za3 (hm := hPm) (hc := rfl) ?_ | refine za8 ?_ | refine zb4 ?_ | refine zbx ?_ | refine zc3 ?_ | refine za7 ?_ | refine zae ?_ | refine zad ?_ | refine zc1 ?_ | refine zbc ?_ | refine zbh ?_))
    (repeat' (first | refine z2 ?_))
    exact ⟨fin false (by simp [ruleM]; intro h; omega) _ kA⟩

end Go.Proofs

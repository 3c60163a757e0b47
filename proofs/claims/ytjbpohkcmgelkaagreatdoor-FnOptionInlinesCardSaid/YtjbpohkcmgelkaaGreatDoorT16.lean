/- What the scan makes of such a line, and what becomes of inlines that go through plain data. Conditions: the line begins with the letter x. -/
import Derived.Test.YtjbpohkcmgelkaaGreatDoorT15
import Derived.Test.YtjbpohkcmgelkaaGreatDoorT05
import Derived.Test.YtjbpohkcmgelkaaGreatDoorT03
namespace Go.Proofs
open Go Go.Eng
set_option maxRecDepth 20000
set_option maxHeartbeats 4000000

theorem InsR.at_drop {src : List In} {svals : List Value} {SK : Blk} {i : Nat} {x : In} (h : InsR (src.drop i) (svals.drop i) SK) (hx : src[i]? = some x) : ∃ v G SK', svals[i]? = some v ∧ SK = G ++ SK' ∧ InR x v G ∧ InsR (src.drop (i + 1)) (svals.drop (i + 1)) SK' := by
  have hi := (List.getElem?_eq_some_iff.1 hx).1
  have e : src.drop i = x :: src.drop (i + 1) := by
    rw [List.drop_eq_getElem_cons hi]
    have := (List.getElem?_eq_some_iff.1 hx).2
    rw [this]
  rw [e] at h
  generalize hv : svals.drop i = vs at h
  cases h with
  | @cons _ _ v vs G K h1 h2 =>
    have e2 : svals.drop (i + 1) = vs := by rw [← List.drop_drop, hv]; rfl
    have e3 : svals[i]? = some v := by
      have : (svals.drop i)[0]? = some v := by rw [hv]; rfl
      simpa using this
    exact ⟨v, G, K, e3, rfl, h1, by rw [e2]; exact h2⟩
/-- All inlines but openers and runs are of other types. -/
theorem InR.other {x : In} {v : Value} {G : Blk} (h : InR x v G) (h1 : ∀ t k, x ≠ .op t k) (h2 : ∀ t o c n, x ≠ .em t o c n) : ∃ ty q, v = .iface ty (lp q) ∧ Nat.beq ty 166 = false ∧ Nat.beq ty 202 = false := by
  cases h with
  | op => exact absurd rfl (h1 _ _)
  | em => exact absurd rfl (h2 _ _ _ _)
  | _ => exact ⟨_, _, rfl, rfl, rfl⟩
theorem rwShape {E g off cap k i : Nat} {svals cur0 dvals : List Value} {b : Bool} {dv : Value} {W : Blk} (h : Rw E g off cap k svals cur0 i b dv dvals W) : ∃ a c, dv = .slice a dvals.length c := by
  cases h with
  | same h0 h1 h2 h3 h4 h5 h6 h7 => exact ⟨_, _, rfl⟩
  | apart hO h5 h7 => exact ownShape hO
theorem StksR.app {vals l : List Value} {st : List (List Nat)} {vs : List Value} {K : Blk} (h : StksR vals st vs K) : StksR (vals ++ l) st vs K :=
  h.mono fun ps _ p _ u hu => by rw [List.getElem?_append_left (List.getElem?_eq_some_iff.1 hu).1]; exact hu

theorem stks0 (vals : List Value) : StksR vals [[], [], [], [], []] [.slice none 0 0, .slice none 0 0, .slice none 0 0, .slice none 0 0, .slice none 0 0] [] := by
  have h : StkR vals (.slice none 0 0) [] [] [] := ⟨Own.nil _ _, rfl, fun j p q h => (by simp at h)⟩
  show StksR vals _ _ ([] ++ ([] ++ ([] ++ ([] ++ ([] ++ [])))))
  exact .cons h (.cons h (.cons h (.cons h (.cons h .nil))))
structure EL where
  i : Nat
  S : EmS
  dv : Value
  dvals : List Value
  W : Blk
  K : Blk
  SK : Blk
  sv : List Value
  SB : Blk
abbrev InlT : Nat := 89
structure EI (b : Bool) (g off cap n : Nat) (src : List In) (svals cur0 : List Value) (x : EL) : Prop where
  st : x.S = (src.take x.i).foldl emStep emS0
  le : x.i ≤ n
  rw_ : Rw InlT g off cap n svals cur0 x.i b x.dv x.dvals x.W
  ds : DsR 0 x.S.dst x.dvals x.K
  ss : InsR (src.drop x.i) (svals.drop x.i) x.SK
  sk : StksR x.dvals x.S.st x.sv x.SB
/-- Behind the ends of a run: what is left of it, and the list. -/
structure EM where
  m : Nat
  S : EmS
  dv : Value
  dvals : List Value
  W : Blk
  K : Blk
  sv : List Value
  SB : Blk
structure EMI (b : Bool) (g off cap n : Nat) (svals cur0 : List Value) (i : Nat) (x : In) (y : EM) : Prop where
  rw_ : Rw InlT g off cap n svals cur0 (i + 1) b y.dv y.dvals y.W
  good : EGood y.S i x
  ds : DsR 0 y.S.dst y.dvals y.K
  sk : StksR y.dvals y.S.st y.sv y.SB
theorem EI.push {b : Bool} {g off cap n : Nat} {src : List In} {svals cur0 : List Value} {i : Nat} {x : In} (hx : src[i]? = some x) {S S' : EmS} (hS : S = (src.take i).foldl emStep emS0) (hst : emStep S x = S') (hi : i < n)
    {dv : Value} {dvals : List Value} {W K SK sv' : List (Nat × Obj)} {sv : List Value} (h1 : Rw InlT g off cap n svals cur0 (i + 1) b dv dvals W) (h2 : DsR 0 S'.dst dvals K) (h3 : InsR (src.drop (i + 1)) (svals.drop (i + 1)) SK) (h4 : StksR dvals S'.st sv sv') :
    EI b g off cap n src svals cur0 ⟨i + 1, S', dv, dvals, W, K, SK, sv, sv'⟩ := by
  refine ⟨?_, by dsimp only; omega, h1, h2, h3, h4⟩
  dsimp only
  rw [List.take_add_one, hx, List.foldl_append, ← hS, ← hst]; rfl
theorem emStep_other {S : EmS} {x : In} (h1 : ∀ t k, x ≠ .op t k) (h2 : ∀ t o c n, x ≠ .em t o c n) : emStep S x = ⟨S.dst ++ [x], S.st⟩ := by
  cases x with
  | op t k => exact absurd rfl (h1 _ _)
  | em t o c n => exact absurd rfl (h2 _ _ _ _)
  | _ => rfl
theorem SubH.five {a b c d e f h : Blk} : SubH [a, b, c, d, e, f, h] [a, b, c, d, e ++ f, h] := ⟨[], by simp⟩
theorem SubH.nil6 {a b c d : Blk} : SubH [a, b, c, d] [a, b, c, d, [], []] := ⟨[], by simp⟩
theorem SubH.cutS {a b c d e f h : Blk} : SubH [a, b, c, d ++ e, f, h] [a, b, c, d, e, f, h] := ⟨[], by simp⟩

/-! The em case. -/
abbrev emb (q : Nat) (t : List UInt8) (o c : Bool) (i n : Nat) : Blk := [(q, cellsOf (emC t o c i n) 204)]
theorem emWF_cases {t : List UInt8} {o c : Bool} {nn : Nat} (h : EmWF (.em t o c nn)) : ∃ ch m, t = List.replicate m ch ∧ 1 ≤ m ∧ m ≤ 1000000 ∧ nn ≤ 1000000 ∧ (isRunC ch ∨ isQ ch = true ∧ m = 1 ∧ (o && c) = false) := by
  obtain ⟨h1, h2⟩ := h
  rcases h2 with ⟨ch, m, r1, r2, r3, r4⟩ | ⟨⟨ch, r1, r2⟩, r3⟩
  · exact ⟨ch, m, r2, r3, r4, h1, .inl r1⟩
  · exact ⟨ch, 1, r2, Nat.le_refl _, by omega, h1, .inr ⟨r1, rfl, r3⟩⟩
theorem stackOfG (ch : UInt8) (h : isRunC ch ∨ isQ ch = true) : TrP Tryz.prog 105 [.int .u8 ch.toNat] (inat (emIdx ch)) := by
  have h1 : ch = 95 ∨ ch = 42 ∨ ch = 126 ∨ ch = 34 ∨ ch = 39 := by
    simp only [isRunC, isQ, Bool.or_eq_true, beq_iff_eq] at h
    rcases h with (h | h | h) | (h | h)
    · exact .inl (UInt8.toNat_inj.1 h)
    · exact .inr (.inl (UInt8.toNat_inj.1 h))
    · exact .inr (.inr (.inl (UInt8.toNat_inj.1 h)))
    · exact .inr (.inr (.inr (.inl (UInt8.toNat_inj.1 h))))
    · exact .inr (.inr (.inr (.inr (UInt8.toNat_inj.1 h))))
  have h2 : Lib.indexByte [95, 42, 126, 34, 39] ch = emIdx ch := by
    rcases h1 with rfl | rfl | rfl | rfl | rfl <;> rfl
  have h := indexByte_tr [95, 42, 126, 34, 39] ch
  rw [h2] at h
  refine Tr.start (n := 5) (rs := [.tmp 2]) rfl rfl rfl rfl fun B => ?_
  (repeat' (first | refine zo (h) ?_ | refine z7 ?_ | refine z6 ?_ | refine z2 ?_ | refine z1 ?_ | refine ze ?_ | refine z8 ?_ | refine za ?_))
  exact e_pure ⟨rfl, rfl⟩
/-- What a run comes to, when m of its signs are left. -/
def finS (ch : UInt8) (o c : Bool) (nn m : Nat) (S : EmS) : EmS := if m = 0 then S else restM (emIdx ch) (if isQ ch then restQ ch c else List.replicate m ch) o c nn S
theorem emStep_no {S : EmS} {m : Nat} {ch : UInt8} {o : Bool} {nn : Nat} (hm : 1 ≤ m) : emStep S (.em (List.replicate m ch) o false nn) = finS ch o false nn m S := by
  unfold emStep finS
  dsimp only
  rw [replicate_headD hm]
  cases hq : isQ ch with
  | true =>
    simp only [if_true]
    unfold quoteM
    dsimp only
    rw [if_neg (by rintro ⟨h, _⟩; cases h), if_neg (by omega)]
  | false =>
    simp only [Bool.false_eq_true, if_false, List.length_replicate]
/-- What a run that may end comes to. -/
def finC (ch : UInt8) (o : Bool) (nn f m : Nat) (S : EmS) : EmS := if isQ ch then quoteM ch o true nn S else finS ch o true nn (closeF ch o true nn f m S).1 (closeF ch o true nn f m S).2
theorem emStep_yes {S : EmS} {m : Nat} {ch : UInt8} {o : Bool} {nn : Nat} (hm : 1 ≤ m) : emStep S (.em (List.replicate m ch) o true nn) = finC ch o nn m m S := by
  unfold emStep finC
  dsimp only
  rw [replicate_headD hm]
  cases hq : isQ ch with
  | true => simp only [if_true]
  | false =>
    simp only [Bool.false_eq_true, if_false, if_true, List.length_replicate]
    unfold finS
    rw [hq]
    simp only [Bool.false_eq_true, if_false]
/-- The cell of an opener. -/
theorem DsR.opener {k : Nat} {l : List In} {vs : List Value} {K : Blk} (h : DsR k l vs K) {j n : Nat} {t : List UInt8} {c : Bool} (hj : l[j]? = some (.em t true c n)) : ∃ q, vs[j]? = some (vEm q) ∧ (q, cellsOf (emC t true c (k + j) n) 204) ∈ K := by
  obtain ⟨K1, G, K2, v, rfl, h2, h3, _⟩ := h.at j hj
  cases h3 with
  | opener => exact ⟨_, h2, by simp⟩
  | other hx _ => exact absurd rfl (hx _ _ _)
theorem vEm_inj {a b : Nat} (h : vEm a = vEm b) : a = b := by
  injection h with _ h
  injection h with h
  injection h with h
  injection h
theorem places_of {l : List In} {vals : List Value} {K : Blk} {st : List (List Nat)} (hd : DsR 0 l vals K) (h : ∀ ps ∈ st, ∀ p ∈ ps, ∃ t c n, l[p]? = some (.em t true c n)) (hl : l.length ≤ 1000000000) : Places5 st vals K := by
  intro ps hps p hp
  obtain ⟨t, c, n, e⟩ := h ps hps p hp
  have hlt := (List.getElem?_eq_some_iff.1 e).1
  refine ⟨by omega, fun q hq => ?_⟩
  obtain ⟨q', h1, h2⟩ := hd.opener e
  rw [hq] at h1
  have := vEm_inj (Option.some.inj h1)
  subst this
  rw [Nat.zero_add] at h2
  exact ⟨t, true, c, n, h2⟩
theorem pw_len : ∀ (ps : List Nat) (lo N : Nat), ps.Pairwise (· < ·) → (∀ p ∈ ps, lo ≤ p ∧ p < N) → lo ≤ N → ps.length + lo ≤ N
  | [], lo, N, _, _, h => by simpa using h
  | p :: ps, lo, N, h1, h2, _ => by
    obtain ⟨a, b⟩ := List.pairwise_cons.1 h1
    have hp := h2 p (by simp)
    have := pw_len ps (p + 1) N b (fun q hq => ⟨a q hq, (h2 q (by simp [hq])).2⟩) (by omega)
    simp only [List.length_cons]
    omega
theorem pairwise_le {ps : List Nat} {N : Nat} (h1 : ps.Pairwise (· < ·)) (h2 : ∀ p ∈ ps, p < N) : ps.length ≤ N := by
  have := pw_len ps 0 N h1 (fun p hp => ⟨Nat.zero_le _, h2 p hp⟩) (Nat.zero_le _)
  omega
theorem rep_ne {m : Nat} {ch d : UInt8} (h : ch.toNat ≠ d.toNat) : ¬ List.replicate (m + 1) ch = [d] := by
  intro e
  simp only [List.replicate_succ, List.cons.injEq] at e
  exact h (by rw [e.1])
theorem InR.node {ch : UInt8} {d q : Nat} {l : List In} {sv : Value} {vals : List Value} {LB IB : Blk} (hL : Own 89 1 sv vals.length vals LB) (hI : InsR l vals IB) (ty : Nat) (hty : ty = if ch.toNat = 126 then 142 else if d = 2 then 140 else 137) :
    InR (mkNode ch d l) (.iface ty (lp q)) ((q, cellsOf [str (List.replicate d ch), sv] 139) :: (LB ++ IB)) := by
  subst hty
  unfold mkNode
  split
  · exact .del hL hI
  · split
    · exact .strong hL hI
    · exact .emph hL hI
theorem mkNode_noem (c : UInt8) (d : Nat) (l : List In) : ∀ t b n, mkNode c d l ≠ .em t true b n := by
  intro t b n
  unfold mkNode
  split
  · intro h; cases h
  · split <;> (intro h; cases h)
theorem SubH.frame {A C F : Heap} (h : SubH A C) : SubH (A ++ F) (C ++ F) := by
  obtain ⟨D, hD⟩ := h
  refine ⟨D, ?_⟩
  simp only [List.flatten_append]
  exact (hD.append_right _).trans (by simp only [List.append_assoc]; exact List.Perm.append_left _ List.perm_append_comm)
/-- A part of a function's code, by the way to it. -/
def nav : List Nat → Code → Option Code
  | [], c => some c
  | 0 :: ks, .seq a _ => nav ks a
  | 1 :: ks, .seq _ b => nav ks b
  | 0 :: ks, .cond _ a _ => nav ks a
  | 1 :: ks, .cond _ _ b => nav ks b
  | 0 :: ks, .loop a => nav ks a
  | 0 :: ks, .block _ a => nav ks a
  | 0 :: ks, .scope a => nav ks a
  | _, _ => none
theorem use_nav {B : Base} {n : Nat} {L : Eng.Loc} {H : Heap} {Q : Eng.Post} {x : Option Code} {c' : Code} (h : x = some c') (h2 : Wp Tryz.prog B n c' L H Q) : ∀ c, x = some c → Wp Tryz.prog B n c L H Q := fun c hc => by rw [h] at hc; cases hc; exact h2
end Go.Proofs

namespace Go.Proofs
open Go Go.Eng
set_option maxRecDepth 20000
set_option maxHeartbeats 400000

theorem toPlain_em (q : Nat) : TrP Tryz.prog 84 [.iface 202 (lp q)] (lp q) := by
  refine Tr.start (n := 23) (rs := [.tmp 2]) rfl rfl rfl rfl fun B => ?_
  (repeat' (first | refine z7 ?_ | refine z6 ?_ | refine z2 ?_ | refine z1 ?_ | refine zc ?_ | refine zb ?_ | refine zf ?_ | refine ze ?_ | refine zx ?_ | refine zag ?_ | refine z8 ?_ | refine za ?_ | refine zp ?_ | refine zq ?_ | refine za0 ?_ | refine zcf ?_ | refine zby ?_))
  exact e_pure ⟨rfl, rfl⟩
theorem toPlain_op (q : Nat) : TrP Tryz.prog 84 [.iface 166 (lp q)] (lp q) := by
  refine Tr.start (n := 23) (rs := [.tmp 2]) rfl rfl rfl rfl fun B => ?_
  (repeat' (first | refine z7 ?_ | refine z6 ?_ | refine z2 ?_ | refine z1 ?_ | refine zc ?_ | refine zb ?_ | refine zf ?_ | refine ze ?_ | refine zx ?_ | refine zag ?_ | refine z8 ?_ | refine za ?_ | refine zp ?_ | refine zq ?_ | refine za0 ?_ | refine zcf ?_ | refine zby ?_))
  exact e_pure ⟨rfl, rfl⟩
/-- What is text is a pointer to its bytes. -/
theorem InR.text {x : In} {v : Value} {G : Blk} {t : List UInt8} (h : InR x v G) (ht : textOf x = some t) : ∃ ty q r T, v = .iface ty (lp q) ∧ TrP Tryz.prog 84 [.iface ty (lp q)] (lp q) ∧ G = [(q, cellsOf (str t :: r) T)] := by
  cases h with
  | plain => cases ht; exact ⟨_, _, _, _, rfl, toPlain_yes _, rfl⟩
  | op => cases ht; exact ⟨_, _, _, _, rfl, toPlain_op _, rfl⟩
  | em => cases ht; exact ⟨_, _, _, _, rfl, toPlain_em _, rfl⟩
  | _ => cases ht
theorem InR.notext {x : In} {v : Value} {G : Blk} (h : InR x v G) (ht : textOf x = none) : ∃ ty q, v = .iface ty (lp q) ∧ TrP Tryz.prog 84 [.iface ty (lp q)] (.pointer none) := by
  cases h with
  | plain => cases ht
  | op => cases ht
  | em => cases ht
  | _ => exact ⟨_, _, rfl, toPlain_no _ _ rfl rfl rfl⟩
theorem InR.iface {x : In} {v : Value} {G : Blk} (h : InR x v G) : ∃ ty q, v = .iface ty (lp q) := by
  cases h <;> exact ⟨_, _, rfl⟩
structure MS2 where
  j : Nat
  v : Value
  R : Blk
/-- The texts of a part of the list. -/
structure Txts (cur : List Value) (off n : Nat) (xs : List (List UInt8)) (G : Blk) : Prop where
  len : xs.length = n
  at_ : ∀ j, j < n → ∃ ty q x r T, cur[off + j]? = some (.iface ty (lp q)) ∧ xs[j]? = some x ∧ TrP Tryz.prog 84 [.iface ty (lp q)] (lp q) ∧ (q, cellsOf (str x :: r) T) ∈ G

theorem merge1_tr (g off n c : Nat) (cur : List Value) (W G : Blk) (xs : List (List UInt8)) (hn : 2 ≤ n) (hn2 : n ≤ 1000000) (hW : (g, cellsOf cur 89) ∈ W) (hx : Txts cur off n xs G) (hlen : (Lib.join xs []).length ≤ 1000000000) :
    Tr Tryz.prog 107 [.slice (some ⟨g, off, none⟩) n c] [W, G] fun u K => ∃ q, u = lp q ∧ K = [W, G, [(q, cellsOf [str (Lib.join xs [])] 158)]] := by
  have hcm : ∀ H, HMem (W :: H) g (cellsOf cur 89) := fun H => HMem.of_chunk hW
  have hxl := hx.len
  refine Tr.start (n := 32) (rs := [.tmp 2]) rfl rfl rfl rfl fun B => ?_
  (repeat' (first | refine z7 ?_ | refine z6 ?_ | refine z2 ?_ | refine z1 ?_ | refine zb ?_ | refine zf ?_ | refine zd ?_ | refine z8 ?_ | refine za ?_ | refine zr ?_ | refine zah ?_))
  refine w_nilblk ?_
  refine za6 (fun x : MS2 => [(0, .slice (some ⟨g, off, none⟩) n c), (3, x.v), (13, .slice (some ⟨g, off, none⟩) n c), (14, inat n), (15, inat x.j)]) (fun x => [W, G, x.R]) (fun x => x.j ≤ n ∧ Strs x.v (xs.take x.j) x.R) (fun x => n - x.j) ⟨0, .slice none 0 0, []⟩ ⟨Nat.zero_le _, Own.nil _ _⟩ kB sA fun x hxs => ?_
  obtain ⟨j, v, R⟩ := x
  obtain ⟨x1, x2⟩ := hxs
  simp only at x1 x2 ⊢
  by_cases hj : j < n
  · obtain ⟨ty, q, x, r, TT, hc, hxj, hP, hcell⟩ := hx.at_ j hj
    have hm : ∀ X H, HMem (X :: G :: H) q (cellsOf (str x :: r) TT) := fun X H => .there (HMem.of_chunk hcell)
    have hc' : cur[off + j * 1]? = some (.iface ty (lp q)) := by rw [Nat.mul_one]; exact hc
    have htl : (xs.take j).length = j := by rw [List.length_take]; omega
    have htk : xs.take (j + 1) = xs.take j ++ [x] := by rw [List.take_add_one, hxj]; rfl
    (repeat' (first | refine zn (hm := hcm _) (hc := hc') ?_ | refine zo (hP) ?_ | refine zn (hm := hm _ _) (hc := rfl) ?_ | refine z7 ?_ | refine z6 ?_ | refine z2 ?_ | refine z1 ?_ | refine zc ?_ | refine zf ?_ | refine zd ?_ | refine z8 ?_ | refine za ?_ | refine zp ?_ | refine zq ?_ | refine zm ?_ | refine zal ?_ | refine zb7 (fun _ => ?_)))
    refine zbz x2 (by omega) (fun v2 R2 h2 => ?_)
    have h2' : Strs v2 (xs.take (j + 1)) R2 := by rw [htk]; simpa [Strs] using h2
    (repeat' (first | refine z6 ?_ | refine z2 ?_ | refine z1 ?_ | refine zu ?_ | refine z8 ?_ | refine za ?_ | refine zl ?_))
    exact ⟨⟨j + 1, v2, R2⟩, kB, sA, ⟨by simp only; omega, h2'⟩, by simp only; omega⟩
  · have : j = n := by omega
    subst this
    rw [List.take_of_length_le (by omega)] at x2
    have x3 : Own 9 1 v (xs.length - 1 + 1) (xs.map str) R := by rw [show xs.length - 1 + 1 = xs.length by omega]; exact x2
    obtain ⟨g2, cap2, cur2, rfl, rfl, k1, k2, k3, k4⟩ := x3.pos
    rw [show xs.length - 1 + 1 = xs.length by omega] at k1 k4 ⊢
    have hJ := joinRow_tr g2 xs.length cap2 cur2 xs [] rfl k1 (by omega) (by rw [← k4, Nat.mul_one]) (by omega) hlen
    (repeat' (first | refine za9 (hJ) ?_ | refine z7 ?_ | refine z6 ?_ | refine z2 ?_ | refine z1 ?_ | refine zb ?_ | refine zw ?_ | refine zy ?_ | refine zz ?_ | refine ze ?_ | refine z8 ?_ | refine za ?_ | refine za4 ?_ | refine zao ?_ | refine zaf (fun _ => ?_)))
    rename_i q
    exact e_ret _ ⟨q, rfl, rfl⟩ sA
theorem merge1_one (g off c q ty : Nat) (cur : List Value) (W : Blk) (hW : (g, cellsOf cur 89) ∈ W) (hq : cur[off]? = some (.iface ty (lp q))) (hP : TrP Tryz.prog 84 [.iface ty (lp q)] (lp q)) (m : Nat) (hm : m = 1) :
    TrD Tryz.prog 107 [.slice (some ⟨g, off, none⟩) m c] [W] (lp q) [W] := by
  subst hm
  have hcm : ∀ H, HMem (W :: H) g (cellsOf cur 89) := fun H => HMem.of_chunk hW
  have hq' : cur[off + 0 * 1]? = some (.iface ty (lp q)) := by rw [Nat.zero_mul, Nat.add_zero]; exact hq
  refine Tr.start (n := 32) (rs := [.tmp 2]) rfl rfl rfl rfl fun B => ?_
  (repeat' (first | refine zn (hm := hcm _) (hc := hq') ?_ | refine zo (hP) ?_ | refine z7 ?_ | refine z6 ?_ | refine z2 ?_ | refine z1 ?_ | refine zc ?_ | refine ze ?_ | refine zx ?_ | refine z8 ?_ | refine za ?_ | refine zt ?_ | refine zah ?_ | refine zgp ?_))
  exact e_ret _ ⟨rfl, rfl⟩ sA
theorem join_flat : ∀ xs : List (List UInt8), Lib.join xs [] = xs.flatten
  | [] => rfl
  | [x] => by simp [Lib.join]
  | x :: y :: xs => by
    have h := join_flat (y :: xs)
    have e : Lib.join (x :: y :: xs) [] = x ++ ([] ++ Lib.join (y :: xs) []) := rfl
    rw [e, h]
    simp
theorem rwAdv {E g off cap k i : Nat} {svals cur0 dvals : List Value} {b : Bool} {dv : Value} {W : Blk} (h : Rw E g off cap k svals cur0 i b dv dvals W) : ∀ {j : Nat}, i ≤ j → j ≤ k → Rw E g off cap k svals cur0 j b dv dvals W := by
  intro j h1 h2
  cases h with
  | same e0 e1 e2 e3 e4 e5 e6 e7 => exact .same e0 e1 e2 e3 e4 (by omega) h2 fun m hm => e7 m (by omega)
  | apart e1 e2 e3 => exact .apart e1 (by omega) e3

structure ML where
  i : Nat
  s : Nat
  out : List In
  ovals : List Value
  dv : Value
  W : Blk
  KO : Blk
  KP : Blk
  KS : Blk
structure MLI (g cap n : Nat) (l : List In) (vals : List Value) (x : ML) : Prop where
  si : x.s ≤ x.i
  le : x.i ≤ n
  txt : ∀ y ∈ (l.take x.i).drop x.s, (textOf y).isSome = true
  res : x.out ++ mergeF (l.drop x.i) (((l.take x.i).drop x.s).filterMap textOf) = mergeM l
  rw_ : Rw InlT g 0 cap n vals [] x.s true x.dv x.ovals x.W
  ro : InsR x.out x.ovals x.KO
  rp : InsR ((l.take x.i).drop x.s) ((vals.take x.i).drop x.s) x.KP
  rs : InsR (l.drop x.i) (vals.drop x.i) x.KS
theorem take_drop_snoc {α : Type} {l : List α} {i s : Nat} {x : α} (hs : s ≤ i) (hx : l[i]? = some x) : (l.take (i + 1)).drop s = (l.take i).drop s ++ [x] := by
  have hi := (List.getElem?_eq_some_iff.1 hx).1
  rw [List.take_add_one, hx, List.drop_append_of_le_length (by rw [List.length_take]; omega)]; rfl
theorem take_drop_self {α : Type} (l : List α) (i : Nat) : (l.take i).drop i = [] := List.drop_eq_nil_of_le (by rw [List.length_take]; omega)
theorem InsR.texts : ∀ {l : List In} {vs : List Value} {K : Blk}, InsR l vs K → (∀ y ∈ l, (textOf y).isSome = true) → (l.filterMap textOf).length = l.length ∧ ∀ j, j < l.length → ∃ ty q x r T, vs[j]? = some (.iface ty (lp q)) ∧ (l.filterMap textOf)[j]? = some x ∧ TrP Tryz.prog 84 [.iface ty (lp q)] (lp q) ∧ (q, cellsOf (str x :: r) T) ∈ K
  | [], _, _, h, _ => ⟨rfl, fun j hj => by simp at hj⟩
  | x :: l, _, _, h, ht => by
    cases h with
    | cons h hs =>
      obtain ⟨t, ht0⟩ := Option.isSome_iff_exists.1 (ht x (by simp))
      obtain ⟨i1, i2⟩ := InsR.texts hs fun y hy => ht y (by simp [hy])
      obtain ⟨ty, q, r, T, rfl, hP, rfl⟩ := h.text ht0
      have e : (x :: l).filterMap textOf = t :: l.filterMap textOf := by simp [List.filterMap_cons, ht0]
      rw [e]
      refine ⟨by simp [i1], fun j hj => ?_⟩
      cases j with
      | zero => exact ⟨ty, q, t, r, T, rfl, rfl, hP, by simp⟩
      | succ j =>
        obtain ⟨ty', q', x', r', T', k1, k2, k3, k4⟩ := i2 j (by simpa using hj)
        exact ⟨ty', q', x', r', T', by simpa using k1, by simpa using k2, k3, by simp [k4]⟩
/-- How many bytes the texts of a list have. -/
def txtLen (l : List In) : Nat := (l.filterMap textOf).flatten.length
theorem flat_sub {α : Type} {a b : List (List α)} (h : a.Sublist b) : a.flatten.length ≤ b.flatten.length := by
  induction h with
  | slnil => simp
  | cons a _ ih => simp only [List.flatten_cons, List.length_append]; omega
  | cons_cons a _ ih => simp only [List.flatten_cons, List.length_append]; omega

theorem mergeG_tr (p g cap n : Nat) (l : List In) (vals : List Value) (dv0 : Value) (W K : Blk) (hn : l.length = n) (hn2 : n ≤ 1000000) (hlen : txtLen l ≤ 1000000000) (hR : Rw InlT g 0 cap n vals [] n true (.slice (some ⟨g, 0, none⟩) n cap) vals W) (hv : vals.length = n) (hI : InsR l vals K) :
    Tr Tryz.prog 78 [lp p, .slice (some ⟨g, 0, none⟩) n cap] [W, K] fun u H => ∃ m vals' W' K', u = .slice (some ⟨g, 0, none⟩) m cap ∧ Own InlT 1 u m vals' W' ∧ InsR (mergeM l) vals' K' ∧ H = [W', K'] := by
  obtain ⟨hR0, hncap⟩ : Rw InlT g 0 cap n vals [] 0 true (.slice (some ⟨g, 0, none⟩) 0 cap) [] W ∧ n ≤ cap := by
    generalize hdv : (.slice (some ⟨g, 0, none⟩) n cap : Value) = dv at hR
    cases hR with
    | @same cur _ h0 h1 h2 h3 h4 h5 h6 h7 =>
      refine ⟨?_, h2⟩
      refine .same (dvals := []) h0 h1 h2 h3 rfl (Nat.zero_le _) (Nat.zero_le _) fun j _ hj => ?_
      have : (cur.take vals.length)[j]? = vals[j]? := by rw [h4]
      rw [List.getElem?_take, if_pos (by omega)] at this
      exact this
  refine Tr.start (n := 50) (rs := [.tmp 4]) rfl rfl rfl rfl fun B => ?_
  ((repeat (refine z7 ?_)); refine z6 ?_; (repeat' (first | refine za ?_)); refine z2 ?_; refine z1 ?_)
  ((repeat (refine z7 ?_)); refine z6 ?_; (repeat' (first | refine Ops.pure _ (zd4 (b := 0) USlice.out Siz.out rfl rfl (Nat.zero_le _)) (by rfl) ?_ | refine z8 ?_ | refine za ?_)); refine z2 ?_; refine z1 ?_)
  ((repeat (refine z7 ?_)); refine z6 ?_; (repeat' (first | refine za ?_)); refine z2 ?_; refine z1 ?_)
  ((repeat (refine z7 ?_)); refine z6 ?_; (repeat' (first | refine za ?_)); refine z2 ?_; refine z1 ?_)
  (repeat (refine z7 ?_))
  refine zau (fun x : ML => [(0, lp p), (5, x.dv)]) (fun x => [x.W, x.KO]) (fun x => x.out = mergeM l ∧ ∃ i, Rw InlT g 0 cap n vals [] i true x.dv x.ovals x.W ∧ InsR x.out x.ovals x.KO) ?_ ?_
  · refine zf ?_
    refine za6 (fun x : ML => [(0, lp p), (1, .slice (some ⟨g, 0, none⟩) n cap), (5, x.dv), (6, inat x.s), (7, inat x.i)]) (fun x => [x.W, x.KO, x.KP, x.KS]) (fun x => MLI g cap n l vals x) (fun x => n - x.i) ⟨0, 0, [], [], .slice (some ⟨g, 0, none⟩) 0 cap, W, [], [], K⟩
      ⟨Nat.le_refl _, Nat.zero_le _, fun y hy => by simp at hy, rfl, hR0, .nil, by simpa using InsR.nil, by simpa using hI⟩ kB (SubH.trans (H' := [W, K]) sA ⟨[], by simp⟩) fun x hx => ?_
    obtain ⟨i, s, out, ovals, dv, W, KO, KP, KS⟩ := x
    obtain ⟨i1, i2, i3, i4, i5, i6, i7, i8⟩ := hx
    dsimp only at i1 i2 i3 i4 i5 i6 i7 i8 ⊢
    obtain ⟨cur, hcW, hcur⟩ := i5.src
    have hcm : ∀ H, HMem (W :: H) g (cellsOf cur 89) := fun H => HMem.of_chunk hcW
    have hle := i5.le
    -- what the pending texts come to
    have hpl : ((l.take i).drop s).length = i - s := by rw [List.length_drop, List.length_take]; omega
    obtain ⟨t1, t2⟩ := i7.texts i3
    have hpv : ∀ j, j < i - s → ((vals.take i).drop s)[j]? = vals[s + j]? := fun j hj => by rw [List.getElem?_drop, List.getElem?_take, if_pos (by omega)]
    have htx : Txts cur (0 + s * 1) (i - s) (((l.take i).drop s).filterMap textOf) KP := ⟨by rw [t1, hpl], fun j hj => by
      obtain ⟨ty, q, x, r, T, k1, k2, k3, k4⟩ := t2 j (by omega)
      refine ⟨ty, q, x, r, T, ?_, k2, k3, k4⟩
      have := hcur (s + j) (by omega) (by omega)
      rw [hpv j hj] at k1
      rw [k1] at this
      rw [← this]; congr 1; omega⟩
    have hjl : (Lib.join (((l.take i).drop s).filterMap textOf) []).length ≤ 1000000000 := by
      rw [join_flat]
      exact Nat.le_trans (flat_sub (((List.drop_sublist s (l.take i)).trans (List.take_sublist i l)).filterMap textOf)) hlen
    by_cases hT : ∃ x t, l[i]? = some x ∧ textOf x = some t
    · obtain ⟨x, t, hx, ht⟩ := hT
      have hlt : i < n := by have := (List.getElem?_eq_some_iff.1 hx).1; omega
      obtain ⟨v, G, KS', hvi, rfl, hG, hKS⟩ := i8.at_drop hx
      obtain ⟨ty, q, r, T, rfl, hP, hGe⟩ := hG.text ht
      have hcv : cur[0 + i * 1]? = some (.iface ty (lp q)) := by rw [hcur i i1 hlt]; exact hvi
      (repeat' (first | refine zn (hm := hcm _) (hc := hcv) ?_ | refine zo (hP) ?_ | refine z7 ?_ | refine z6 ?_ | refine z2 ?_ | refine z1 ?_ | refine zc ?_ | refine zf ?_ | refine zw ?_ | refine zy ?_ | refine zz ?_ | refine zh ?_ | refine z8 ?_ | refine za ?_ | refine zl ?_ | refine zm ?_ | refine zj ?_ | refine zah ?_ | refine zal ?_ | refine zdl ?_))
      have e1 := take_drop_snoc i1 hx
      have e2 := take_drop_snoc i1 hvi
      refine ⟨⟨i + 1, s, out, ovals, dv, W, KO, KP ++ G, KS'⟩, kB, ⟨[], by simp⟩, ⟨by dsimp only; omega, by dsimp only; omega, ?_, ?_, i5, i6, ?_, hKS⟩, by dsimp only; omega⟩
      · dsimp only
        rw [e1]
        intro y hy
        rcases List.mem_append.1 hy with hy | hy
        · exact i3 y hy
        · simp at hy; subst hy; rw [ht]; rfl
      · dsimp only
        rw [e1, List.filterMap_append, ← i4]
        have e3 : l.drop i = x :: l.drop (i + 1) := by
          rw [List.drop_eq_getElem_cons (by omega)]
          have := (List.getElem?_eq_some_iff.1 hx).2
          rw [this]
        rw [e3]
        simp only [mergeF, ht, List.filterMap_cons, List.filterMap_nil]
      · dsimp only
        rw [e1, e2]
        exact i7.snoc hG
    · (repeat (refine z7 ?_))
      refine zf ?_
      (repeat (refine z7 ?_))
      refine zac [(0, lp p), (1, .slice (some ⟨g, 0, none⟩) n cap), (5, dv), (6, inat s), (7, inat i), (23, .bool false)] [W, KO, KP, KS] ?_ ?_
      · by_cases hlt : i < n
        · obtain ⟨x, hx⟩ : ∃ x, l[i]? = some x := ⟨_, List.getElem?_eq_getElem (by omega)⟩
          have ht : textOf x = none := by
            cases h : textOf x with
            | none => rfl
            | some t => exact absurd ⟨x, t, hx, h⟩ hT
          obtain ⟨v, G, KS', hvi, hKe, hG, hKS⟩ := i8.at_drop hx
          obtain ⟨ty, q, rfl, hP⟩ := hG.notext ht
          have hcv : cur[0 + i * 1]? = some (.iface ty (lp q)) := by rw [hcur i i1 hlt]; exact hvi
          (repeat' (first | refine zn (hm := hcm _) (hc := hcv) ?_ | refine zo (hP) ?_ | refine z6 ?_ | refine z2 ?_ | refine z1 ?_ | refine zh ?_ | refine z8 ?_ | refine zm ?_ | refine zj ?_ | refine zah ?_ | refine zal ?_ | refine zcl ?_))
          exact ⟨kA, sA⟩
        · (repeat' (first | refine z6 ?_ | refine z2 ?_ | refine z1 ?_ | refine za2 ?_ | refine z8 ?_ | refine za4 ?_ | refine zk ?_ | refine zah ?_))
          exact ⟨kA, sA⟩
      refine zb ?_
      refine zd ?_
      refine z1 ?_
      ((repeat (refine z7 ?_)); refine z6 ?_; (repeat' (first | refine z8 ?_ | refine zdy ?_)); refine z2 ?_; refine z1 ?_)
      (repeat (refine z7 ?_))
      refine zau (fun y : ML => [(0, lp p), (1, .slice (some ⟨g, 0, none⟩) n cap), (5, y.dv), (7, inat i)]) (fun y => [y.W, y.KO, KS]) (fun y => y.out = out ++ flushM (((l.take i).drop s).filterMap textOf) ∧ Rw InlT g 0 cap n vals [] i true y.dv y.ovals y.W ∧ InsR y.out y.ovals y.KO) ?_ ?_
      · by_cases hsi : s = i
        · subst hsi
          rw [decide_eq_false (show ¬ (s : Int) < s by omega)]
          (repeat' (first | refine z1 ?_ | refine zb ?_ | refine zd ?_))
          refine ⟨⟨s, s, out, ovals, dv, W, KO, [], []⟩, kA, sA, ?_, i5, i6⟩
          dsimp only
          rw [take_drop_self]; simp [flushM]
        · rw [decide_eq_true (show (s : Int) < i by omega)]
          by_cases h1 : i = s + 1
          · subst h1
            obtain ⟨ty, q, x, r, T, k1, k2, k3, k4⟩ := htx.at_ 0 (by omega)
            have k1' : cur[0 + s * 1]? = some (.iface ty (lp q)) := by simpa using k1
            have hm := merge1_one g (0 + s * 1) (cap - s) q ty cur W hcW k1' k3 (s + 1 - s) (by omega)
            obtain ⟨x0, hx0⟩ : ∃ x, l[s]? = some x := ⟨_, List.getElem?_eq_getElem (by omega)⟩
            have e1 : (l.take (s + 1)).drop s = [x0] := by rw [take_drop_snoc (Nat.le_refl s) hx0, take_drop_self]; rfl
            have hr5 := rwAdv i5 (j := s + 1) (by omega) (by omega)
            (repeat' (first | refine za9 (hm) ?_ | refine z6 ?_ | refine zc ?_ | refine z8 ?_ | refine zan ?_ | refine zem ?_ | refine zb7 (fun _ => ?_)))
            refine zc6 hr5 (by omega) (by omega) (fun v' W' hrw' => ?_)
            (repeat' (first | refine z2 ?_ | refine z1 ?_ | refine za ?_))
            rw [e1] at i7 i3 k2 ⊢
            obtain ⟨v0, hv0⟩ : ∃ x, vals[s]? = some x := ⟨_, List.getElem?_eq_getElem (by omega)⟩
            rw [take_drop_snoc (Nat.le_refl s) hv0, take_drop_self] at i7
            have hvq : v0 = .iface ty (lp q) := by
              have := hcur s (Nat.le_refl _) (by omega)
              rw [k1', hv0] at this
              exact (Option.some.inj this).symm
            subst hvq
            obtain ⟨t0, ht0⟩ := Option.isSome_iff_exists.1 (i3 x0 (by simp))
            have hx0t : x = t0 := by
              simp [List.filterMap_cons, ht0] at k2
              exact k2.symm
            subst hx0t
            cases i7 with
            | @cons _ _ _ _ G K0 hG0 hs0 =>
            cases hs0
            obtain ⟨ty', q', r', T', e5, hP', rfl⟩ := hG0.text ht0
            cases e5
            refine ⟨⟨s, s, out ++ [.plain x], ovals ++ [_], v', W', KO ++ [(q, cellsOf (str x :: r') T')], [], []⟩, kA, ?_, ?_, hrw', i6.snoc .plain⟩
            · exact SubH.trans (H' := [W', KO, [(q, cellsOf (str x :: r') T')] ++ [], KS]) sA ⟨[], by simp⟩
            · dsimp only
              simp [List.filterMap_cons, ht0, flushM]
          · have hm := fun (c : Nat) => merge1_tr g (0 + s * 1) (i - s) c cur W KP _ (by omega) (by omega) hcW htx hjl
            have hr5 := rwAdv i5 (j := i) (by omega) (by omega)
            (repeat' (first | refine z6 ?_ | refine zc ?_ | refine z8 ?_ | refine zem ?_))
            refine za1 (hm _) (fun u K hR => ?_)
            obtain ⟨q, rfl, rfl⟩ := hR
            (repeat' (first | refine zan ?_ | refine zb7 (fun _ => ?_)))
            refine zc6 hr5 (by omega) (by omega) (fun v' W' hrw' => ?_)
            (repeat' (first | refine z2 ?_ | refine z1 ?_ | refine za ?_))
            rw [join_flat]
            have hacc : ((l.take i).drop s).filterMap textOf ≠ [] := by
              intro h
              rw [h] at t1
              simp only [List.length_nil] at t1
              omega
            refine ⟨⟨s, s, out ++ [.plain (((l.take i).drop s).filterMap textOf).flatten], ovals ++ [_], v', W', KO ++ [(q, cellsOf [str (((l.take i).drop s).filterMap textOf).flatten] 158)], [], []⟩, kA, ?_, ?_, hrw', i6.snoc .plain⟩
            · exact SubH.trans (H' := [W', KO, [(q, cellsOf [str (((l.take i).drop s).filterMap textOf).flatten] 158)], KS]) sA ⟨[], by simp⟩
            · dsimp only
              rw [flushM, if_neg hacc]
      · rintro ⟨_, _, out2, ovals2, dv2, W2, KO2, _, _⟩ ⟨j1, j2, j3⟩
        dsimp only at j1 j2 j3 ⊢
        by_cases hlt : i < n
        · obtain ⟨x, hx⟩ : ∃ x, l[i]? = some x := ⟨_, List.getElem?_eq_getElem (by omega)⟩
          have ht : textOf x = none := by
            cases h : textOf x with
            | none => rfl
            | some t => exact absurd ⟨x, t, hx, h⟩ hT
          obtain ⟨v, G, KS', hvi, rfl, hG, hKS⟩ := i8.at_drop hx
          obtain ⟨ty, q, rfl⟩ := hG.iface
          obtain ⟨cur2, hcW2, hcur2⟩ := j2.src
          have hcm2 : ∀ H, HMem (W2 :: H) g (cellsOf cur2 89) := fun H => HMem.of_chunk hcW2
          have hcv : cur2[0 + i * 1]? = some (.iface ty (lp q)) := by rw [hcur2 i (Nat.le_refl _) hlt]; exact hvi
          have hr5 := j2.step hlt
          have hle2 := j2.le
          (repeat' (first | refine zn (hm := hcm2 _) (hc := hcv) ?_ | refine z7 ?_ | refine z6 ?_ | refine z2 ?_ | refine z1 ?_ | refine zb ?_ | refine zd ?_ | refine z8 ?_ | refine zab ?_ | refine zah ?_ | refine zal ?_ | refine zb7 (fun _ => ?_)))
          refine zc6 hr5 (by omega) (by omega) (fun v' W' hrw' => ?_)
          (repeat' (first | refine z6 ?_ | refine z2 ?_ | refine z1 ?_ | refine zu ?_ | refine z8 ?_ | refine za ?_ | refine zl ?_))
          refine ⟨⟨i + 1, i + 1, out2 ++ [x], ovals2 ++ [_], v', W', KO2 ++ G, [], KS'⟩, kB, ?_, ⟨Nat.le_refl _, by dsimp only; omega, ?_, ?_, hrw', j3.snoc hG, ?_, hKS⟩, by dsimp only; omega⟩
          · exact SubH.trans (H' := [W', KO2, G ++ KS']) sA ⟨[], by simp⟩
          · dsimp only
            rw [take_drop_self]
            intro y hy
            cases hy
          · dsimp only
            rw [take_drop_self]
            have e3 : l.drop i = x :: l.drop (i + 1) := by
              rw [List.drop_eq_getElem_cons (by omega)]
              have := (List.getElem?_eq_some_iff.1 hx).2
              rw [this]
            rw [← i4, e3, j1]
            simp [mergeF, ht]
          · dsimp only
            rw [take_drop_self, take_drop_self]
            exact .nil
        · have : i = n := by omega
          subst this
          (repeat' (first | refine z7 ?_ | refine z6 ?_ | refine z2 ?_ | refine z1 ?_ | refine zc ?_ | refine zw ?_ | refine zy ?_ | refine zz ?_ | refine zaw ?_ | refine z8 ?_ | refine zas ?_ | refine zah ?_))
          refine ⟨⟨i, i, out2, ovals2, dv2, W2, KO2, [], []⟩, kA, sA, ?_, i, j2, j3⟩
          dsimp only
          rw [← i4, j1, List.drop_eq_nil_of_le (show l.length ≤ i by omega)]
          rfl
  · rintro ⟨i, s, out, ovals, dv, W, KO, KP, KS⟩ ⟨h1, i, h2, h3⟩
    dsimp only at h1 h2 h3 ⊢
    subst h1
    (repeat' (first | refine z7 ?_ | refine z6 ?_ | refine z2 ?_ | refine z1 ?_ | refine ze ?_ | refine z8 ?_ | refine za ?_))
    cases h2 with
    | @same cur _ h0 h1 h2 h3' h4 h5 h6 h7 =>
      exact e_ret (vs := [.slice (some ⟨g, 0, none⟩) ovals.length cap]) _ ⟨ovals.length, ovals, _, KO, rfl, ⟨by simp, .inr ⟨g, cap, cur, rfl, rfl, by omega, h3', by simpa using h1, by simpa using h4⟩⟩, h3, rfl⟩ sA
end Go.Proofs

namespace Go.Proofs
open Go Go.Eng
set_option maxRecDepth 20000
set_option maxHeartbeats 1000000

/-! The scan of such a line. -/
/-- Letters, spaces, asterisks, tildes and backquotes. -/
def och (c : UInt8) : Prop := c.toNat = 120 ∨ c.toNat = 97 ∨ c.toNat = 98 ∨ c.toNat = 32 ∨ c.toNat = 126 ∨ c.toNat = 42 ∨ c.toNat = 96
theorem codeText_le (t : List UInt8) : (codeText t).length ≤ t.length := by
  unfold codeText
  split
  · simp only [List.length_drop, List.length_take, List.length_map]; omega
  · simp
theorem parD {o : IO} {s : List UInt8} {i : Nat} {c : UInt8} {bs : Bool} {bt : BT} (hc : s[i]? = some c) (ho : och c) :
    ∀ y a b, (parI o s i c bs bt).1 = some (y, a, b) → a = i ∧ Smp y ∧ wtI y + i ≤ b ∧ isOp y = false ∧ c.toNat ≠ 120 := by
  have hi := (List.getElem?_eq_some_iff.1 hc).1
  have hem : isRunC c → ∀ y a b, emphI s i c = some (y, a, b) → a = i ∧ Smp y ∧ wtI y + i ≤ b ∧ isOp y = false := by
    intro hr y a b h
    obtain ⟨h1, h2, h3, h4, h5⟩ := emphEnd_ok hc
    unfold emphI at h
    dsimp only at h
    by_cases hb : c.toNat = 126 ∧ 2 < emphEnd s i c - i
    · rw [if_pos hb] at h
      cases h
      exact ⟨rfl, slice_ne h1 h2, by rw [h3]; simp only [wtI, List.length_replicate]; omega, rfl⟩
    · rw [if_neg hb] at h
      cases h
      exact ⟨rfl, ⟨slice_ne h1 h2, by rw [h3]; exact isQ_rep hr⟩, by rw [h3]; simp only [wtI, List.length_replicate]; omega, rfl⟩
  intro y a b h
  unfold och at ho
  unfold parI at h
  rw [if_neg (by omega)] at h
  by_cases h2 : c.toNat = 96
  · rw [if_pos h2] at h
    have h' := Option.some.inj h
    generalize (if bs = true then bt else bt00) = b0 at h'
    have hj1 := scan_ge tickB s (i + 1)
    have hj2 := scan_le (p := tickB) (s := s) (i := i + 1) (by omega)
    have hpl : (((s.take (scan tickB s (i + 1))).drop i).length) + i ≤ scan tickB s (i + 1) := by
      rw [List.length_drop, List.length_take]; omega
    unfold codeI at h'
    dsimp only at h'
    split at h'
    · cases h'
      exact ⟨rfl, slice_ne (by omega) hj2, hpl, rfl, by omega⟩
    · split at h'
      · rename_i e e' l' he
        have hk := runsM_some he
        cases h'
        refine ⟨rfl, trivial, ?_, rfl, by omega⟩
        have hct := codeText_le ((s.take e).drop (scan tickB s (i + 1)))
        rw [List.length_drop, List.length_take] at hct
        simp only [wtI]
        omega
      · cases h'
        exact ⟨rfl, slice_ne (by omega) hj2, hpl, rfl, by omega⟩
  rw [if_neg h2, if_neg (by omega), if_neg (by omega), if_neg (by omega)] at h
  by_cases h6 : c.toNat = 95 ∨ c.toNat = 42
  · rw [if_pos h6] at h
    obtain ⟨k1, k2, k3, k4⟩ := hem (by unfold isRunC; omega) y a b h
    exact ⟨k1, k2, k3, k4, by omega⟩
  rw [if_neg h6, if_neg (by omega)] at h
  by_cases h8 : c.toNat = 126
  · rw [if_pos h8] at h
    cases hd : o.del with
    | true =>
      rw [hd] at h
      obtain ⟨k1, k2, k3, k4⟩ := hem (by unfold isRunC; omega) y a b h
      exact ⟨k1, k2, k3, k4, by omega⟩
    | false => rw [hd] at h; cases h
  rw [if_neg h8, if_neg (by omega), if_neg (by omega)] at h
  cases h
/-- What holds of the scan all along. -/
structure DInv (s : List UInt8) (x : IS) : Prop where
  inv : IInv s x
  sm : Smps x.out
  wt : wtIs x.out ≤ x.e
  ops : x.ops = []
  hd : (x.out = [] ∧ x.e = 0) ∨ ∃ t r, x.out = .plain (120 :: t) :: r
theorem emitD {s : List UInt8} {e i : Nat} {out : List In} (h0 : s[0]? = some 120) (hei : e ≤ i) (hi : i ≤ s.length) (hp : 0 < i) (hs : Smps out) (hw : wtIs out ≤ e) (hd : (out = [] ∧ e = 0) ∨ ∃ t r, out = .plain (120 :: t) :: r) :
    Smps (emitI s e i out) ∧ wtIs (emitI s e i out) ≤ i ∧ ∃ t r, emitI s e i out = .plain (120 :: t) :: r := by
  unfold emitI
  have hlen : ((s.take i).drop e).length = i - e := by rw [List.length_drop, List.length_take]; omega
  by_cases h : e < i
  · rw [if_pos h]
    refine ⟨Smps_append.2 ⟨hs, slice_ne h hi, trivial⟩, by rw [wtIs_append]; simp only [wtIs, wtI, hlen]; omega, ?_⟩
    rcases hd with ⟨rfl, rfl⟩ | ⟨t, r, rfl⟩
    · cases s with
      | nil => simp at h0
      | cons a s =>
        simp at h0
        subst h0
        obtain ⟨j, rfl⟩ : ∃ j, i = j + 1 := ⟨i - 1, by omega⟩
        exact ⟨s.take j, [], by simp⟩
    · exact ⟨t, r ++ [.plain ((s.take i).drop e)], rfl⟩
  · rw [if_neg h]
    refine ⟨hs, by omega, ?_⟩
    rcases hd with ⟨rfl, rfl⟩ | h
    · omega
    · exact h
theorem stepD {o : IO} {s : List UInt8} {x : IS} (hl : s.length ≤ 1000000) (hE : EntWF o s) (hall : ∀ c ∈ s, och c) (h0 : s[0]? = some 120) (h : DInv s x) (hlt : x.i < s.length) : DInv s (stepI o s x) := by
  obtain ⟨k1, k2⟩ := stepI_ok hl hE h.inv hlt
  obtain ⟨c, hc⟩ := get_some hlt
  have ho := hall c (List.mem_of_getElem? hc)
  have hp := parD (o := o) (bs := x.bs) (bt := x.bt) hc ho
  have hie := h.inv.ie
  refine ⟨k1, ?_, ?_, ?_, ?_⟩
  all_goals
    unfold stepI
    rw [hc]
    dsimp only
    generalize parI o s x.i c x.bs x.bt = R at hp
    obtain ⟨r, bs, bt⟩ := R
    cases r with
    | none =>
      dsimp only
      have : ¬ (c.toNat = 93 ∧ x.ops ≠ []) := by rw [h.ops]; simp
      rw [if_neg this]
      first | exact h.sm | exact h.wt | exact h.ops | exact h.hd
    | some r =>
      obtain ⟨y, a, b⟩ := r
      obtain ⟨q1, q2, q3, q4, q5⟩ := hp y a b rfl
      subst q1
      have hpos : 0 < x.i := by
        rcases Nat.eq_zero_or_pos x.i with e | e
        · rw [e, h0] at hc
          cases hc
          exact absurd rfl q5
        · exact e
      obtain ⟨e1, e2, t, r, e3⟩ := emitD h0 hie (by omega) hpos h.sm h.wt h.hd
      dsimp only
      first
        | exact Smps_append.2 ⟨e1, q2, trivial⟩
        | (rw [wtIs_append]; simp only [wtIs]; omega)
        | (rw [q4, if_neg (by simp)]; exact h.ops)
        | exact .inr ⟨t, r ++ [y], by rw [e3]; rfl⟩
theorem runD {o : IO} {s : List UInt8} (hl : s.length ≤ 1000000) (hE : EntWF o s) (hall : ∀ c ∈ s, och c) (h0 : s[0]? = some 120) : ∀ (f : Nat) (x : IS), DInv s x → DInv s (runI o s f x)
  | 0, x, h => h
  | f + 1, x, h => by
    unfold runI
    split
    · rename_i hlt
      exact runD hl hE hall h0 f _ (stepD hl hE hall h0 h hlt)
    · exact h
theorem scanD {o : IO} {s : List UInt8} (hl : s.length ≤ 1000000) (hE : EntWF o s) (hall : ∀ c ∈ s, och c) (h0 : s[0]? = some 120) :
    Smps (scanM o s) ∧ wtIs (scanM o s) ≤ s.length ∧ ∃ t r, scanM o s = .plain (120 :: t) :: r := by
  have hpos := (List.getElem?_eq_some_iff.1 h0).1
  have h := runD hl hE hall h0 (s.length + 1) is0 ⟨is0_ok s, trivial, Nat.le_refl _, rfl, .inl ⟨rfl, rfl⟩⟩
  unfold scanM
  exact emitD h0 (Nat.le_trans h.inv.ie h.inv.il) (Nat.le_refl _) hpos h.sm h.wt h.hd
theorem closeF_hd (c : UInt8) (po pc : Bool) (pn : Nat) : ∀ (f m : Nat) (S : EmS) (u : List UInt8) (r : List In), S.dst = .plain u :: r → ∃ r', (closeF c po pc pn f m S).2.dst = .plain u :: r'
  | 0, m, S, u, r, h => ⟨r, h⟩
  | f + 1, m, S, u, r, h => by
    unfold closeF
    split
    · exact ⟨r, h⟩
    · dsimp only
      split
      · exact ⟨r, h⟩
      · rename_i j hj
        split
        · rename_i t so sc sn hk
          refine closeF_hd c po pc pn f _ _ u ((baseOf S.dst ((S.st.getD (emIdx c) []).getD j 0) (dOf m t.length) t so sc sn).tail ++ [mkNode c (dOf m t.length) (S.dst.drop ((S.st.getD (emIdx c) []).getD j 0 + 1))]) ?_
          generalize (S.st.getD (emIdx c) []).getD j 0 = k at hk
          rw [h] at hk
          cases k with
          | zero => simp at hk
          | succ k =>
            unfold closeStep baseOf
            dsimp only
            split <;> simp [h]
        · exact ⟨r, h⟩
theorem emStep_hd {S : EmS} {x : In} {u : List UInt8} {r : List In} (h : S.dst = .plain u :: r) (hx : Smp x) : ∃ r', (emStep S x).dst = .plain u :: r' := by
  have push : ∀ y : In, ∃ r', S.dst ++ [y] = .plain u :: r' := fun y => ⟨r ++ [y], by rw [h]; rfl⟩
  cases x with
  | em t o c n =>
    unfold emStep
    dsimp only
    have hq : isQ (t.headD 0) = false := hx.2
    rw [hq]
    simp only [Bool.false_eq_true, if_false]
    have key : ∀ R : Nat × EmS, (∃ r', R.2.dst = .plain u :: r') → ∃ r', (if R.1 = 0 then R.2 else restM (emIdx (t.headD 0)) (List.replicate R.1 (t.headD 0)) o c n R.2).dst = .plain u :: r' := by
      rintro R ⟨r', hr⟩
      split
      · exact ⟨r', hr⟩
      · unfold restM
        split
        · exact ⟨r' ++ [_], by rw [hr]; rfl⟩
        · exact ⟨r' ++ [_], by rw [hr]; rfl⟩
    cases c with
    | false => exact key (t.length, S) ⟨r, h⟩
    | true => exact key _ (closeF_hd _ _ _ _ _ _ _ u r h)
  | _ => exact push _
theorem emphM_hd {u : List UInt8} {l : List In} (hl : Smps l) : ∃ r, emphM (.plain u :: l) = .plain u :: r := by
  have key : ∀ (l : List In) (S : EmS) (r : List In), Smps l → S.dst = .plain u :: r → ∃ r', (l.foldl emStep S).dst = .plain u :: r' := by
    intro l
    induction l with
    | nil => intro S r _ h; exact ⟨r, h⟩
    | cons x l ih =>
      intro S r hs h
      obtain ⟨r', h'⟩ := emStep_hd h hs.1
      exact ih _ r' hs.2 h'
  exact key l _ [] hl rfl
theorem merge_hd : ∀ (l : List In) (acc : List (List UInt8)) (w : List UInt8), acc.flatten = 120 :: w → ∃ t r, mergeF l acc = .plain (120 :: t) :: r
  | [], acc, w, h => by
    have hne : acc ≠ [] := by intro e; subst e; cases h
    exact ⟨w, [], by rw [mergeF, flushM, if_neg hne, h]⟩
  | x :: l, acc, w, h => by
    have hne : acc ≠ [] := by intro e; subst e; cases h
    rw [mergeF]
    cases hx : textOf x with
    | some t => exact merge_hd l (acc ++ [t]) (w ++ t) (by simp [h])
    | none => exact ⟨w, x :: mergeF l [], by dsimp only; rw [flushM, if_neg hne, h]; rfl⟩
theorem txt_wt : ∀ l : List In, txtLen l ≤ wtIs l
  | [] => Nat.le_refl _
  | x :: l => by
    have := txt_wt l
    unfold txtLen at this ⊢
    cases x <;> simp only [List.filterMap_cons, textOf, List.flatten_cons, List.length_append, wtIs, wtI] <;> omega

/-- What the inlines of such a line are. -/
theorem inlineD {o : IO} {s : List UInt8} (hl : s.length ≤ 1000000) (hE : EntWF o s) (hall : ∀ c ∈ s, och c) (h0 : s[0]? = some 120) :
    Smps (inlineM o s) ∧ wtIs (inlineM o s) ≤ s.length ∧ txtLen (emphM (scanM o s)) ≤ s.length ∧ ∃ t r, inlineM o s = .plain (120 :: t) :: r := by
  obtain ⟨h1, h2, t, r, h3⟩ := scanD hl hE hall h0
  obtain ⟨w1, w2, w3⟩ := scanM_ok hl hE
  obtain ⟨e1, e2⟩ := emphM_wt w1 w2 h1
  obtain ⟨m1, m2⟩ := mergeM_wt e2
  have ht := txt_wt (emphM (scanM o s))
  refine ⟨m2, by unfold inlineM; omega, by omega, ?_⟩
  rw [h3] at h1
  obtain ⟨r', hr⟩ := emphM_hd (u := 120 :: t) h1.2
  unfold inlineM mergeM
  rw [h3, hr]
  exact merge_hd r' [120 :: t] t (by simp)

/-! What becomes of inlines that go through plain data. -/
mutual
def nrm : In → In
  | .em t _ _ _ => .plain t
  | .emph m l => .emph m (nrms l)
  | .strong m l => .strong m (nrms l)
  | .del m l => .del m (nrms l)
  | .plain t => .plain t
  | .code t => .code t
  | .esc t => .esc t
  | .soft => .soft
  | .hard => .hard
  | .auto t u => .auto t u
  | .tag t => .tag t
  | .op t i => .op t i
  | .link d l => .link d l
  | .image d l => .image d l
def nrms : List In → List In
  | [] => []
  | x :: l => nrm x :: nrms l
end
theorem nrms_len : ∀ l : List In, (nrms l).length = l.length
  | [] => rfl
  | x :: l => by simp only [nrms, List.length_cons, nrms_len l]
mutual
theorem nrm_html : ∀ x : In, htmlI (nrm x) = htmlI x
  | .em t _ _ _ => rfl
  | .emph m l => by simp only [nrm, htmlI, nrms_html l]
  | .strong m l => by simp only [nrm, htmlI, nrms_html l]
  | .del m l => by simp only [nrm, htmlI, nrms_html l]
  | .plain t => rfl
  | .code t => rfl
  | .esc t => rfl
  | .soft => rfl
  | .hard => rfl
  | .auto t u => rfl
  | .tag t => rfl
  | .op t i => rfl
  | .link d l => rfl
  | .image d l => rfl
theorem nrms_html : ∀ l : List In, htmlIs (nrms l) = htmlIs l
  | [] => rfl
  | x :: l => by simp only [nrms, htmlIs, nrm_html x, nrms_html l]
end
mutual
theorem nrm_smp : ∀ x : In, Smp x → Smp (nrm x) ∧ wtI (nrm x) = wtI x
  | .em t _ _ _, h => ⟨h.1, rfl⟩
  | .emph m l, h => by obtain ⟨h1, h2⟩ := nrms_smp l h.2; exact ⟨⟨h.1, h1⟩, by simp only [nrm, wtI, h2]⟩
  | .strong m l, h => by obtain ⟨h1, h2⟩ := nrms_smp l h.2; exact ⟨⟨h.1, h1⟩, by simp only [nrm, wtI, h2]⟩
  | .del m l, h => by obtain ⟨h1, h2⟩ := nrms_smp l h.2; exact ⟨⟨h.1, h1⟩, by simp only [nrm, wtI, h2]⟩
  | .plain t, h => ⟨h, rfl⟩
  | .code t, _ => ⟨trivial, rfl⟩
  | .esc _, h => h.elim
  | .soft, h => h.elim
  | .hard, h => h.elim
  | .auto _ _, h => h.elim
  | .tag _, h => h.elim
  | .op _ _, h => h.elim
  | .link _ _, h => h.elim
  | .image _ _, h => h.elim
theorem nrms_smp : ∀ l : List In, Smps l → Smps (nrms l) ∧ wtIs (nrms l) = wtIs l
  | [], _ => ⟨trivial, rfl⟩
  | x :: l, h => by
    obtain ⟨h1, h2⟩ := nrm_smp x h.1
    obtain ⟨h3, h4⟩ := nrms_smp l h.2
    exact ⟨⟨h1, h3⟩, by simp only [nrms, wtIs, h2, h4]⟩
end
end Go.Proofs

/- Steps of the walk of the program and plain facts on what it computes. Conditions: as each theorem states them. -/
import Derived.Test.YtfnflaloojpckaaGreatDoorT16
import Derived.Test.YtfnflaloojpckaaGreatDoorT05
import Derived.Test.YtfnflaloojpckaaGreatDoorT03
namespace Go.Proofs
open Go Go.Eng
set_option maxRecDepth 20000
set_option maxHeartbeats 4000000

theorem InsR.at_drop {src : List In} {svals : List Value} {SK : Blk} {i : Nat} {x : In} (h : InsR (src.drop i) (svals.drop i) SK) (hx : src[i]? = some x) : ∃ v G SK', svals[i]? = some v ∧ SK = G ++ SK' ∧ InR x v G ∧ InsR (src.drop (i + 1)) (svals.drop (i + 1)) SK' := by
  have hi := (List.getElem?_eq_some_iff.1 hx).1
  have e : src.drop i = x :: src.drop (i + 1) := by
    rw [List.drop_eq_getElem_cons hi]
    have := (List.getElem?_eq_some_iff.1 hx).2
    rw [this]
  rw [e] at h
  generalize hv : svals.drop i = vs at h
  cases h with
  | @cons _ _ v vs G K h1 h2 =>
    have e2 : svals.drop (i + 1) = vs := by rw [← List.drop_drop, hv]; rfl
    have e3 : svals[i]? = some v := by
      have : (svals.drop i)[0]? = some v := by rw [hv]; rfl
      simpa using this
    exact ⟨v, G, K, e3, rfl, h1, by rw [e2]; exact h2⟩
/-- All inlines but openers and runs are of other types. -/
theorem InR.other {x : In} {v : Value} {G : Blk} (h : InR x v G) (h1 : ∀ t k, x ≠ .op t k) (h2 : ∀ t o c n, x ≠ .em t o c n) : ∃ ty q, v = .iface ty (lp q) ∧ Nat.beq ty 163 = false ∧ Nat.beq ty 200 = false := by
  cases h with
  | op => exact absurd rfl (h1 _ _)
  | em => exact absurd rfl (h2 _ _ _ _)
  | _ => exact ⟨_, _, rfl, rfl, rfl⟩
theorem rwShape {E g off cap k i : Nat} {svals cur0 dvals : List Value} {b : Bool} {dv : Value} {W : Blk} (h : Rw E g off cap k svals cur0 i b dv dvals W) : ∃ a c, dv = .slice a dvals.length c := by
  cases h with
  | same h0 h1 h2 h3 h4 h5 h6 h7 => exact ⟨_, _, rfl⟩
  | apart hO h5 h7 => exact ownShape hO
theorem StksR.app {vals l : List Value} {st : List (List Nat)} {vs : List Value} {K : Blk} (h : StksR vals st vs K) : StksR (vals ++ l) st vs K :=
  h.mono fun ps _ p _ u hu => by rw [List.getElem?_append_left (List.getElem?_eq_some_iff.1 hu).1]; exact hu

theorem stks0 (vals : List Value) : StksR vals [[], [], [], [], []] [.slice none 0 0, .slice none 0 0, .slice none 0 0, .slice none 0 0, .slice none 0 0] [] := by
  have h : StkR vals (.slice none 0 0) [] [] [] := ⟨Own.nil _ _, rfl, fun j p q h => (by simp at h)⟩
  show StksR vals _ _ ([] ++ ([] ++ ([] ++ ([] ++ ([] ++ [])))))
  exact .cons h (.cons h (.cons h (.cons h (.cons h .nil))))
structure EL where
  i : Nat
  S : EmS
  dv : Value
  dvals : List Value
  W : Blk
  K : Blk
  SK : Blk
  sv : List Value
  SB : Blk
abbrev InlT : Nat := 85
structure EI (b : Bool) (g off cap n : Nat) (src : List In) (svals cur0 : List Value) (x : EL) : Prop where
  st : x.S = (src.take x.i).foldl emStep emS0
  le : x.i ≤ n
  rw_ : Rw InlT g off cap n svals cur0 x.i b x.dv x.dvals x.W
  ds : DsR 0 x.S.dst x.dvals x.K
  ss : InsR (src.drop x.i) (svals.drop x.i) x.SK
  sk : StksR x.dvals x.S.st x.sv x.SB
/-- Behind the ends of a run: what is left of it, and the list. -/
structure EM where
  m : Nat
  S : EmS
  dv : Value
  dvals : List Value
  W : Blk
  K : Blk
  sv : List Value
  SB : Blk
structure EMI (b : Bool) (g off cap n : Nat) (svals cur0 : List Value) (i : Nat) (x : In) (y : EM) : Prop where
  rw_ : Rw InlT g off cap n svals cur0 (i + 1) b y.dv y.dvals y.W
  good : EGood y.S i x
  ds : DsR 0 y.S.dst y.dvals y.K
  sk : StksR y.dvals y.S.st y.sv y.SB
theorem EI.push {b : Bool} {g off cap n : Nat} {src : List In} {svals cur0 : List Value} {i : Nat} {x : In} (hx : src[i]? = some x) {S S' : EmS} (hS : S = (src.take i).foldl emStep emS0) (hst : emStep S x = S') (hi : i < n)
    {dv : Value} {dvals : List Value} {W K SK sv' : List (Nat × Obj)} {sv : List Value} (h1 : Rw InlT g off cap n svals cur0 (i + 1) b dv dvals W) (h2 : DsR 0 S'.dst dvals K) (h3 : InsR (src.drop (i + 1)) (svals.drop (i + 1)) SK) (h4 : StksR dvals S'.st sv sv') :
    EI b g off cap n src svals cur0 ⟨i + 1, S', dv, dvals, W, K, SK, sv, sv'⟩ := by
  refine ⟨?_, by dsimp only; omega, h1, h2, h3, h4⟩
  dsimp only
  rw [List.take_add_one, hx, List.foldl_append, ← hS, ← hst]; rfl
theorem emStep_other {S : EmS} {x : In} (h1 : ∀ t k, x ≠ .op t k) (h2 : ∀ t o c n, x ≠ .em t o c n) : emStep S x = ⟨S.dst ++ [x], S.st⟩ := by
  cases x with
  | op t k => exact absurd rfl (h1 _ _)
  | em t o c n => exact absurd rfl (h2 _ _ _ _)
  | _ => rfl
theorem SubH.five {a b c d e f h : Blk} : SubH [a, b, c, d, e, f, h] [a, b, c, d, e ++ f, h] := ⟨[], by simp⟩
theorem SubH.nil6 {a b c d : Blk} : SubH [a, b, c, d] [a, b, c, d, [], []] := ⟨[], by simp⟩
theorem SubH.cutS {a b c d e f h : Blk} : SubH [a, b, c, d ++ e, f, h] [a, b, c, d, e, f, h] := ⟨[], by simp⟩

/-! The em case. -/
abbrev emb (q : Nat) (t : List UInt8) (o c : Bool) (i n : Nat) : Blk := [(q, cellsOf (emC t o c i n) 202)]
theorem emWF_cases {t : List UInt8} {o c : Bool} {nn : Nat} (h : EmWF (.em t o c nn)) : ∃ ch m, t = List.replicate m ch ∧ 1 ≤ m ∧ m ≤ 1000000 ∧ nn ≤ 1000000 ∧ (isRunC ch ∨ isQ ch = true ∧ m = 1 ∧ (o && c) = false) := by
  obtain ⟨h1, h2⟩ := h
  rcases h2 with ⟨ch, m, r1, r2, r3, r4⟩ | ⟨⟨ch, r1, r2⟩, r3⟩
  · exact ⟨ch, m, r2, r3, r4, h1, .inl r1⟩
  · exact ⟨ch, 1, r2, Nat.le_refl _, by omega, h1, .inr ⟨r1, rfl, r3⟩⟩
theorem stackOfG (ch : UInt8) (h : isRunC ch ∨ isQ ch = true) : TrP Tryz.prog 99 [.int .u8 ch.toNat] (inat (emIdx ch)) := by
  have h1 : ch = 95 ∨ ch = 42 ∨ ch = 126 ∨ ch = 34 ∨ ch = 39 := by
    simp only [isRunC, isQ, Bool.or_eq_true, beq_iff_eq] at h
    rcases h with (h | h | h) | (h | h)
    · exact .inl (UInt8.toNat_inj.1 h)
    · exact .inr (.inl (UInt8.toNat_inj.1 h))
    · exact .inr (.inr (.inl (UInt8.toNat_inj.1 h)))
    · exact .inr (.inr (.inr (.inl (UInt8.toNat_inj.1 h))))
    · exact .inr (.inr (.inr (.inr (UInt8.toNat_inj.1 h))))
  have h2 : Lib.indexByte [95, 42, 126, 34, 39] ch = emIdx ch := by
    rcases h1 with rfl | rfl | rfl | rfl | rfl <;> rfl
  have h := indexByte_tr [95, 42, 126, 34, 39] ch
  rw [h2] at h
  refine Tr.start (n := 5) (rs := [.tmp 2]) rfl rfl rfl rfl fun B => ?_
  (repeat' (first | refine zt (h) ?_ | refine za ?_ | refine z8 ?_ | refine z6 ?_ | refine z7 ?_ | refine zh ?_ | refine zb ?_ | refine zc ?_))
  exact e_pure ⟨rfl, rfl⟩
/-- What a run comes to, when m of its signs are left. -/
def finS (ch : UInt8) (o c : Bool) (nn m : Nat) (S : EmS) : EmS := if m = 0 then S else restM (emIdx ch) (if isQ ch then restQ ch c else List.replicate m ch) o c nn S
theorem emStep_no {S : EmS} {m : Nat} {ch : UInt8} {o : Bool} {nn : Nat} (hm : 1 ≤ m) : emStep S (.em (List.replicate m ch) o false nn) = finS ch o false nn m S := by
  unfold emStep finS
  dsimp only
  rw [replicate_headD hm]
  cases hq : isQ ch with
  | true =>
    simp only [if_true]
    unfold quoteM
    dsimp only
    rw [if_neg (by rintro ⟨h, _⟩; cases h), if_neg (by omega)]
  | false =>
    simp only [Bool.false_eq_true, if_false, List.length_replicate]
/-- What a run that may end comes to. -/
def finC (ch : UInt8) (o : Bool) (nn f m : Nat) (S : EmS) : EmS := if isQ ch then quoteM ch o true nn S else finS ch o true nn (closeF ch o true nn f m S).1 (closeF ch o true nn f m S).2
theorem emStep_yes {S : EmS} {m : Nat} {ch : UInt8} {o : Bool} {nn : Nat} (hm : 1 ≤ m) : emStep S (.em (List.replicate m ch) o true nn) = finC ch o nn m m S := by
  unfold emStep finC
  dsimp only
  rw [replicate_headD hm]
  cases hq : isQ ch with
  | true => simp only [if_true]
  | false =>
    simp only [Bool.false_eq_true, if_false, if_true, List.length_replicate]
    unfold finS
    rw [hq]
    simp only [Bool.false_eq_true, if_false]
/-- The cell of an opener. -/
theorem DsR.opener {k : Nat} {l : List In} {vs : List Value} {K : Blk} (h : DsR k l vs K) {j n : Nat} {t : List UInt8} {c : Bool} (hj : l[j]? = some (.em t true c n)) : ∃ q, vs[j]? = some (vEm q) ∧ (q, cellsOf (emC t true c (k + j) n) 202) ∈ K := by
  obtain ⟨K1, G, K2, v, rfl, h2, h3, _⟩ := h.at j hj
  cases h3 with
  | opener => exact ⟨_, h2, by simp⟩
  | other hx _ => exact absurd rfl (hx _ _ _)
theorem vEm_inj {a b : Nat} (h : vEm a = vEm b) : a = b := by
  injection h with _ h
  injection h with h
  injection h with h
  injection h
theorem places_of {l : List In} {vals : List Value} {K : Blk} {st : List (List Nat)} (hd : DsR 0 l vals K) (h : ∀ ps ∈ st, ∀ p ∈ ps, ∃ t c n, l[p]? = some (.em t true c n)) (hl : l.length ≤ 1000000000) : Places5 st vals K := by
  intro ps hps p hp
  obtain ⟨t, c, n, e⟩ := h ps hps p hp
  have hlt := (List.getElem?_eq_some_iff.1 e).1
  refine ⟨by omega, fun q hq => ?_⟩
  obtain ⟨q', h1, h2⟩ := hd.opener e
  rw [hq] at h1
  have := vEm_inj (Option.some.inj h1)
  subst this
  rw [Nat.zero_add] at h2
  exact ⟨t, true, c, n, h2⟩
theorem pw_len : ∀ (ps : List Nat) (lo N : Nat), ps.Pairwise (· < ·) → (∀ p ∈ ps, lo ≤ p ∧ p < N) → lo ≤ N → ps.length + lo ≤ N
  | [], lo, N, _, _, h => by simpa using h
  | p :: ps, lo, N, h1, h2, _ => by
    obtain ⟨a, b⟩ := List.pairwise_cons.1 h1
    have hp := h2 p (by simp)
    have := pw_len ps (p + 1) N b (fun q hq => ⟨a q hq, (h2 q (by simp [hq])).2⟩) (by omega)
    simp only [List.length_cons]
    omega
theorem pairwise_le {ps : List Nat} {N : Nat} (h1 : ps.Pairwise (· < ·)) (h2 : ∀ p ∈ ps, p < N) : ps.length ≤ N := by
  have := pw_len ps 0 N h1 (fun p hp => ⟨Nat.zero_le _, h2 p hp⟩) (Nat.zero_le _)
  omega
theorem rep_ne {m : Nat} {ch d : UInt8} (h : ch.toNat ≠ d.toNat) : ¬ List.replicate (m + 1) ch = [d] := by
  intro e
  simp only [List.replicate_succ, List.cons.injEq] at e
  exact h (by rw [e.1])
theorem InR.node {ch : UInt8} {d q : Nat} {l : List In} {sv : Value} {vals : List Value} {LB IB : Blk} (hL : Own 85 1 sv vals.length vals LB) (hI : InsR l vals IB) (ty : Nat) (hty : ty = if ch.toNat = 126 then 138 else if d = 2 then 136 else 133) :
    InR (mkNode ch d l) (.iface ty (lp q)) ((q, cellsOf [str (List.replicate d ch), sv] 135) :: (LB ++ IB)) := by
  subst hty
  unfold mkNode
  split
  · exact .del hL hI
  · split
    · exact .strong hL hI
    · exact .emph hL hI
theorem mkNode_noem (c : UInt8) (d : Nat) (l : List In) : ∀ t b n, mkNode c d l ≠ .em t true b n := by
  intro t b n
  unfold mkNode
  split
  · intro h; cases h
  · split <;> (intro h; cases h)
theorem SubH.frame {A C F : Heap} (h : SubH A C) : SubH (A ++ F) (C ++ F) := by
  obtain ⟨D, hD⟩ := h
  refine ⟨D, ?_⟩
  simp only [List.flatten_append]
  exact (hD.append_right _).trans (by simp only [List.append_assoc]; exact List.Perm.append_left _ List.perm_append_comm)
/-- A part of a function's code, by the way to it. -/
def nav : List Nat → Code → Option Code
  | [], c => some c
  | 0 :: ks, .seq a _ => nav ks a
  | 1 :: ks, .seq _ b => nav ks b
  | 0 :: ks, .cond _ a _ => nav ks a
  | 1 :: ks, .cond _ _ b => nav ks b
  | 0 :: ks, .loop a => nav ks a
  | 0 :: ks, .block _ a => nav ks a
  | 0 :: ks, .scope a => nav ks a
  | _, _ => none
theorem use_nav {B : Base} {n : Nat} {L : Eng.Loc} {H : Heap} {Q : Eng.Post} {x : Option Code} {c' : Code} (h : x = some c') (h2 : Wp Tryz.prog B n c' L H Q) : ∀ c, x = some c → Wp Tryz.prog B n c L H Q := fun c hc => by rw [h] at hc; cases hc; exact h2
end Go.Proofs

namespace Go.Proofs
open Go Go.Eng
set_option maxRecDepth 20000
set_option maxHeartbeats 400000

theorem toPlain_em (q : Nat) : TrP Tryz.prog 78 [.iface 200 (lp q)] (lp q) := by
  refine Tr.start (n := 23) (rs := [.tmp 2]) rfl rfl rfl rfl fun B => ?_
  (repeat' (first | refine za ?_ | refine z8 ?_ | refine z6 ?_ | refine z7 ?_ | refine ze ?_ | refine zd ?_ | refine zg ?_ | refine zh ?_ | refine za2 ?_ | refine zak ?_ | refine zb ?_ | refine zc ?_ | refine zp ?_ | refine zq ?_ | refine za3 ?_ | refine zcx ?_ | refine zcb ?_))
  exact e_pure ⟨rfl, rfl⟩
theorem toPlain_op (q : Nat) : TrP Tryz.prog 78 [.iface 163 (lp q)] (lp q) := by
  refine Tr.start (n := 23) (rs := [.tmp 2]) rfl rfl rfl rfl fun B => ?_
  (repeat' (first | refine za ?_ | refine z8 ?_ | refine z6 ?_ | refine z7 ?_ | refine ze ?_ | refine zd ?_ | refine zg ?_ | refine zh ?_ | refine za2 ?_ | refine zak ?_ | refine zb ?_ | refine zc ?_ | refine zp ?_ | refine zq ?_ | refine za3 ?_ | refine zcx ?_ | refine zcb ?_))
  exact e_pure ⟨rfl, rfl⟩
/-- What is text is a pointer to its bytes. -/
theorem InR.text {x : In} {v : Value} {G : Blk} {t : List UInt8} (h : InR x v G) (ht : textOf x = some t) : ∃ ty q r T, v = .iface ty (lp q) ∧ TrP Tryz.prog 78 [.iface ty (lp q)] (lp q) ∧ G = [(q, cellsOf (str t :: r) T)] := by
  cases h with
  | plain => cases ht; exact ⟨_, _, _, _, rfl, toPlain_yes _, rfl⟩
  | op => cases ht; exact ⟨_, _, _, _, rfl, toPlain_op _, rfl⟩
  | em => cases ht; exact ⟨_, _, _, _, rfl, toPlain_em _, rfl⟩
  | _ => cases ht
theorem InR.notext {x : In} {v : Value} {G : Blk} (h : InR x v G) (ht : textOf x = none) : ∃ ty q, v = .iface ty (lp q) ∧ TrP Tryz.prog 78 [.iface ty (lp q)] (.pointer none) := by
  cases h with
  | plain => cases ht
  | op => cases ht
  | em => cases ht
  | _ => exact ⟨_, _, rfl, toPlain_no _ _ rfl rfl rfl⟩
theorem InR.iface {x : In} {v : Value} {G : Blk} (h : InR x v G) : ∃ ty q, v = .iface ty (lp q) := by
  cases h <;> exact ⟨_, _, rfl⟩
structure MS2 where
  j : Nat
  v : Value
  R : Blk
/-- The texts of a part of the list. -/
structure Txts (cur : List Value) (off n : Nat) (xs : List (List UInt8)) (G : Blk) : Prop where
  len : xs.length = n
  at_ : ∀ j, j < n → ∃ ty q x r T, cur[off + j]? = some (.iface ty (lp q)) ∧ xs[j]? = some x ∧ TrP Tryz.prog 78 [.iface ty (lp q)] (lp q) ∧ (q, cellsOf (str x :: r) T) ∈ G

theorem merge1_tr (g off n c : Nat) (cur : List Value) (W G : Blk) (xs : List (List UInt8)) (hn : 2 ≤ n) (hn2 : n ≤ 1000000) (hW : (g, cellsOf cur 85) ∈ W) (hx : Txts cur off n xs G) (hlen : (Lib.join xs []).length ≤ 1000000000) :
    Tr Tryz.prog 101 [.slice (some ⟨g, off, none⟩) n c] [W, G] fun u K => ∃ q, u = lp q ∧ K = [W, G, [(q, cellsOf [str (Lib.join xs [])] 154)]] := by
  have hcm : ∀ H, HMem (W :: H) g (cellsOf cur 85) := fun H => HMem.of_chunk hW
  have hxl := hx.len
  refine Tr.start (n := 32) (rs := [.tmp 2]) rfl rfl rfl rfl fun B => ?_
  (repeat' (first | refine za ?_ | refine z8 ?_ | refine z6 ?_ | refine z7 ?_ | refine zd ?_ | refine zg ?_ | refine zf ?_ | refine zb ?_ | refine zc ?_ | refine zw ?_ | refine zac ?_))
  refine w_nilblk ?_
  refine za7 (fun x : MS2 => [(0, .slice (some ⟨g, off, none⟩) n c), (3, x.v), (13, .slice (some ⟨g, off, none⟩) n c), (14, inat n), (15, inat x.j)]) (fun x => [W, G, x.R]) (fun x => x.j ≤ n ∧ Strs x.v (xs.take x.j) x.R) (fun x => n - x.j) ⟨0, .slice none 0 0, []⟩ ⟨Nat.zero_le _, Own.nil _ _⟩ kB sA fun x hxs => ?_
  obtain ⟨j, v, R⟩ := x
  obtain ⟨x1, x2⟩ := hxs
  simp only at x1 x2 ⊢
  by_cases hj : j < n
  · obtain ⟨ty, q, x, r, TT, hc, hxj, hP, hcell⟩ := hx.at_ j hj
    have hm : ∀ X H, HMem (X :: G :: H) q (cellsOf (str x :: r) TT) := fun X H => .there (HMem.of_chunk hcell)
    have hc' : cur[off + j * 1]? = some (.iface ty (lp q)) := by rw [Nat.mul_one]; exact hc
    have htl : (xs.take j).length = j := by rw [List.length_take]; omega
    have htk : xs.take (j + 1) = xs.take j ++ [x] := by rw [List.take_add_one, hxj]; rfl
    (repeat' (first | refine zr (hm := hcm _) (hc := hc') ?_ | refine zt (hP) ?_ | refine zr (hm := hm _ _) (hc := rfl) ?_ | refine za ?_ | refine z8 ?_ | refine z6 ?_ | refine z7 ?_ | refine ze ?_ | refine zg ?_ | refine zf ?_ | refine zb ?_ | refine zc ?_ | refine zp ?_ | refine zq ?_ | refine zo ?_ | refine zaj ?_ | refine zbb (fun _ => ?_)))
    refine zc4 x2 (by omega) (fun v2 R2 h2 => ?_)
    have h2' : Strs v2 (xs.take (j + 1)) R2 := by rw [htk]; simpa [Strs] using h2
    (repeat' (first | refine z8 ?_ | refine z6 ?_ | refine z7 ?_ | refine zu ?_ | refine zb ?_ | refine zc ?_ | refine zm ?_))
    exact ⟨⟨j + 1, v2, R2⟩, kB, sA, ⟨by simp only; omega, h2'⟩, by simp only; omega⟩
  · have : j = n := by omega
    subst this
    rw [List.take_of_length_le (by omega)] at x2
    have x3 : Own 9 1 v (xs.length - 1 + 1) (xs.map str) R := by rw [show xs.length - 1 + 1 = xs.length by omega]; exact x2
    obtain ⟨g2, cap2, cur2, rfl, rfl, k1, k2, k3, k4⟩ := x3.pos
    rw [show xs.length - 1 + 1 = xs.length by omega] at k1 k4 ⊢
    have hJ := joinRow_tr g2 xs.length cap2 cur2 xs [] rfl k1 (by omega) (by rw [← k4, Nat.mul_one]) (by omega) hlen
    (repeat' (first | refine zad (hJ) ?_ | refine za ?_ | refine z8 ?_ | refine z6 ?_ | refine z7 ?_ | refine zd ?_ | refine zy ?_ | refine zz ?_ | refine za0 ?_ | refine zh ?_ | refine zb ?_ | refine zc ?_ | refine za4 ?_ | refine zaw ?_ | refine zam (fun _ => ?_)))
    rename_i q
    exact e_ret _ ⟨q, rfl, rfl⟩ sA
theorem merge1_one (g off c q ty : Nat) (cur : List Value) (W : Blk) (hW : (g, cellsOf cur 85) ∈ W) (hq : cur[off]? = some (.iface ty (lp q))) (hP : TrP Tryz.prog 78 [.iface ty (lp q)] (lp q)) (m : Nat) (hm : m = 1) :
    TrD Tryz.prog 101 [.slice (some ⟨g, off, none⟩) m c] [W] (lp q) [W] := by
  subst hm
  have hcm : ∀ H, HMem (W :: H) g (cellsOf cur 85) := fun H => HMem.of_chunk hW
  have hq' : cur[off + 0 * 1]? = some (.iface ty (lp q)) := by rw [Nat.zero_mul, Nat.add_zero]; exact hq
  refine Tr.start (n := 32) (rs := [.tmp 2]) rfl rfl rfl rfl fun B => ?_
  (repeat' (first | refine zr (hm := hcm _) (hc := hq') ?_ | refine zt (hP) ?_ | refine za ?_ | refine z8 ?_ | refine z6 ?_ | refine z7 ?_ | refine ze ?_ | refine zh ?_ | refine za2 ?_ | refine zb ?_ | refine zc ?_ | refine zx ?_ | refine zac ?_ | refine zg1 ?_))
  exact e_ret _ ⟨rfl, rfl⟩ sA
theorem join_flat : ∀ xs : List (List UInt8), Lib.join xs [] = xs.flatten
  | [] => rfl
  | [x] => by simp [Lib.join]
  | x :: y :: xs => by
    have h := join_flat (y :: xs)
    have e : Lib.join (x :: y :: xs) [] = x ++ ([] ++ Lib.join (y :: xs) []) := rfl
    rw [e, h]
    simp
theorem rwAdv {E g off cap k i : Nat} {svals cur0 dvals : List Value} {b : Bool} {dv : Value} {W : Blk} (h : Rw E g off cap k svals cur0 i b dv dvals W) : ∀ {j : Nat}, i ≤ j → j ≤ k → Rw E g off cap k svals cur0 j b dv dvals W := by
  intro j h1 h2
  cases h with
  | same e0 e1 e2 e3 e4 e5 e6 e7 => exact .same e0 e1 e2 e3 e4 (by omega) h2 fun m hm => e7 m (by omega)
  | apart e1 e2 e3 => exact .apart e1 (by omega) e3

structure ML where
  i : Nat
  s : Nat
  out : List In
  ovals : List Value
  dv : Value
  W : Blk
  KO : Blk
  KP : Blk
  KS : Blk
structure MLI (g cap n : Nat) (l : List In) (vals : List Value) (x : ML) : Prop where
  si : x.s ≤ x.i
  le : x.i ≤ n
  txt : ∀ y ∈ (l.take x.i).drop x.s, (textOf y).isSome = true
  res : x.out ++ mergeF (l.drop x.i) (((l.take x.i).drop x.s).filterMap textOf) = mergeM l
  rw_ : Rw InlT g 0 cap n vals [] x.s true x.dv x.ovals x.W
  ro : InsR x.out x.ovals x.KO
  rp : InsR ((l.take x.i).drop x.s) ((vals.take x.i).drop x.s) x.KP
  rs : InsR (l.drop x.i) (vals.drop x.i) x.KS
theorem take_drop_snoc {α : Type} {l : List α} {i s : Nat} {x : α} (hs : s ≤ i) (hx : l[i]? = some x) : (l.take (i + 1)).drop s = (l.take i).drop s ++ [x] := by
  have hi := (List.getElem?_eq_some_iff.1 hx).1
  rw [List.take_add_one, hx, List.drop_append_of_le_length (by rw [List.length_take]; omega)]; rfl
theorem take_drop_self {α : Type} (l : List α) (i : Nat) : (l.take i).drop i = [] := List.drop_eq_nil_of_le (by rw [List.length_take]; omega)
theorem InsR.texts : ∀ {l : List In} {vs : List Value} {K : Blk}, InsR l vs K → (∀ y ∈ l, (textOf y).isSome = true) → (l.filterMap textOf).length = l.length ∧ ∀ j, j < l.length → ∃ ty q x r T, vs[j]? = some (.iface ty (lp q)) ∧ (l.filterMap textOf)[j]? = some x ∧ TrP Tryz.prog 78 [.iface ty (lp q)] (lp q) ∧ (q, cellsOf (str x :: r) T) ∈ K
  | [], _, _, h, _ => ⟨rfl, fun j hj => by simp at hj⟩
  | x :: l, _, _, h, ht => by
    cases h with
    | cons h hs =>
      obtain ⟨t, ht0⟩ := Option.isSome_iff_exists.1 (ht x (by simp))
      obtain ⟨i1, i2⟩ := InsR.texts hs fun y hy => ht y (by simp [hy])
      obtain ⟨ty, q, r, T, rfl, hP, rfl⟩ := h.text ht0
      have e : (x :: l).filterMap textOf = t :: l.filterMap textOf := by simp [List.filterMap_cons, ht0]
      rw [e]
      refine ⟨by simp [i1], fun j hj => ?_⟩
      cases j with
      | zero => exact ⟨ty, q, t, r, T, rfl, rfl, hP, by simp⟩
      | succ j =>
        obtain ⟨ty', q', x', r', T', k1, k2, k3, k4⟩ := i2 j (by simpa using hj)
        exact ⟨ty', q', x', r', T', by simpa using k1, by simpa using k2, k3, by simp [k4]⟩
/-- How many bytes the texts of a list have. -/
def txtLen (l : List In) : Nat := (l.filterMap textOf).flatten.length
theorem flat_sub {α : Type} {a b : List (List α)} (h : a.Sublist b) : a.flatten.length ≤ b.flatten.length := by
  induction h with
  | slnil => simp
  | cons a _ ih => simp only [List.flatten_cons, List.length_append]; omega
  | cons_cons a _ ih => simp only [List.flatten_cons, List.length_append]; omega

theorem mergeG_tr (p g cap n : Nat) (l : List In) (vals : List Value) (dv0 : Value) (W K : Blk) (hn : l.length = n) (hn2 : n ≤ 1000000) (hlen : txtLen l ≤ 1000000000) (hR : Rw InlT g 0 cap n vals [] n true (.slice (some ⟨g, 0, none⟩) n cap) vals W) (hv : vals.length = n) (hI : InsR l vals K) :
    Tr Tryz.prog 72 [lp p, .slice (some ⟨g, 0, none⟩) n cap] [W, K] fun u H => ∃ m vals' W' K', u = .slice (some ⟨g, 0, none⟩) m cap ∧ Own InlT 1 u m vals' W' ∧ InsR (mergeM l) vals' K' ∧ H = [W', K'] := by
  obtain ⟨hR0, hncap⟩ : Rw InlT g 0 cap n vals [] 0 true (.slice (some ⟨g, 0, none⟩) 0 cap) [] W ∧ n ≤ cap := by
    generalize hdv : (.slice (some ⟨g, 0, none⟩) n cap : Value) = dv at hR
    cases hR with
    | @same cur _ h0 h1 h2 h3 h4 h5 h6 h7 =>
      refine ⟨?_, h2⟩
      refine .same (dvals := []) h0 h1 h2 h3 rfl (Nat.zero_le _) (Nat.zero_le _) fun j _ hj => ?_
      have : (cur.take vals.length)[j]? = vals[j]? := by rw [h4]
      rw [List.getElem?_take, if_pos (by omega)] at this
      exact this
  refine Tr.start (n := 50) (rs := [.tmp 4]) rfl rfl rfl rfl fun B => ?_
  ((repeat (refine za ?_)); refine z8 ?_; (repeat' (first | refine zc ?_)); refine z6 ?_; refine z7 ?_)
  ((repeat (refine za ?_)); refine z8 ?_; (repeat' (first | refine Ops.pure _ (zd1 (b := 0) USlice.out Siz.out rfl rfl (Nat.zero_le _)) (by rfl) ?_ | refine zb ?_ | refine zc ?_)); refine z6 ?_; refine z7 ?_)
  ((repeat (refine za ?_)); refine z8 ?_; (repeat' (first | refine zc ?_)); refine z6 ?_; refine z7 ?_)
  ((repeat (refine za ?_)); refine z8 ?_; (repeat' (first | refine zc ?_)); refine z6 ?_; refine z7 ?_)
  (repeat (refine za ?_))
  refine zat (fun x : ML => [(0, lp p), (5, x.dv)]) (fun x => [x.W, x.KO]) (fun x => x.out = mergeM l ∧ ∃ i, Rw InlT g 0 cap n vals [] i true x.dv x.ovals x.W ∧ InsR x.out x.ovals x.KO) ?_ ?_
  · refine zg ?_
    refine za7 (fun x : ML => [(0, lp p), (1, .slice (some ⟨g, 0, none⟩) n cap), (5, x.dv), (6, inat x.s), (7, inat x.i)]) (fun x => [x.W, x.KO, x.KP, x.KS]) (fun x => MLI g cap n l vals x) (fun x => n - x.i) ⟨0, 0, [], [], .slice (some ⟨g, 0, none⟩) 0 cap, W, [], [], K⟩
      ⟨Nat.le_refl _, Nat.zero_le _, fun y hy => by simp at hy, rfl, hR0, .nil, by simpa using InsR.nil, by simpa using hI⟩ kB (SubH.trans (H' := [W, K]) sA ⟨[], by simp⟩) fun x hx => ?_
    obtain ⟨i, s, out, ovals, dv, W, KO, KP, KS⟩ := x
    obtain ⟨i1, i2, i3, i4, i5, i6, i7, i8⟩ := hx
    dsimp only at i1 i2 i3 i4 i5 i6 i7 i8 ⊢
    obtain ⟨cur, hcW, hcur⟩ := i5.src
    have hcm : ∀ H, HMem (W :: H) g (cellsOf cur 85) := fun H => HMem.of_chunk hcW
    have hle := i5.le
    -- what the pending texts come to
    have hpl : ((l.take i).drop s).length = i - s := by rw [List.length_drop, List.length_take]; omega
    obtain ⟨t1, t2⟩ := i7.texts i3
    have hpv : ∀ j, j < i - s → ((vals.take i).drop s)[j]? = vals[s + j]? := fun j hj => by rw [List.getElem?_drop, List.getElem?_take, if_pos (by omega)]
    have htx : Txts cur (0 + s * 1) (i - s) (((l.take i).drop s).filterMap textOf) KP := ⟨by rw [t1, hpl], fun j hj => by
      obtain ⟨ty, q, x, r, T, k1, k2, k3, k4⟩ := t2 j (by omega)
      refine ⟨ty, q, x, r, T, ?_, k2, k3, k4⟩
      have := hcur (s + j) (by omega) (by omega)
      rw [hpv j hj] at k1
      rw [k1] at this
      rw [← this]; congr 1; omega⟩
    have hjl : (Lib.join (((l.take i).drop s).filterMap textOf) []).length ≤ 1000000000 := by
      rw [join_flat]
      exact Nat.le_trans (flat_sub (((List.drop_sublist s (l.take i)).trans (List.take_sublist i l)).filterMap textOf)) hlen
    by_cases hT : ∃ x t, l[i]? = some x ∧ textOf x = some t
    · obtain ⟨x, t, hx, ht⟩ := hT
      have hlt : i < n := by have := (List.getElem?_eq_some_iff.1 hx).1; omega
      obtain ⟨v, G, KS', hvi, rfl, hG, hKS⟩ := i8.at_drop hx
      obtain ⟨ty, q, r, T, rfl, hP, hGe⟩ := hG.text ht
      have hcv : cur[0 + i * 1]? = some (.iface ty (lp q)) := by rw [hcur i i1 hlt]; exact hvi
      (repeat' (first | refine zr (hm := hcm _) (hc := hcv) ?_ | refine zt (hP) ?_ | refine za ?_ | refine z8 ?_ | refine z6 ?_ | refine z7 ?_ | refine ze ?_ | refine zg ?_ | refine zy ?_ | refine zz ?_ | refine za0 ?_ | refine zj ?_ | refine zb ?_ | refine zc ?_ | refine zm ?_ | refine zo ?_ | refine zk ?_ | refine zac ?_ | refine zaj ?_ | refine zeg ?_))
      have e1 := take_drop_snoc i1 hx
      have e2 := take_drop_snoc i1 hvi
      refine ⟨⟨i + 1, s, out, ovals, dv, W, KO, KP ++ G, KS'⟩, kB, ⟨[], by simp⟩, ⟨by dsimp only; omega, by dsimp only; omega, ?_, ?_, i5, i6, ?_, hKS⟩, by dsimp only; omega⟩
      · dsimp only
        rw [e1]
        intro y hy
        rcases List.mem_append.1 hy with hy | hy
        · exact i3 y hy
        · simp at hy; subst hy; rw [ht]; rfl
      · dsimp only
        rw [e1, List.filterMap_append, ← i4]
        have e3 : l.drop i = x :: l.drop (i + 1) := by
          rw [List.drop_eq_getElem_cons (by omega)]
          have := (List.getElem?_eq_some_iff.1 hx).2
          rw [this]
        rw [e3]
        simp only [mergeF, ht, List.filterMap_cons, List.filterMap_nil]
      · dsimp only
        rw [e1, e2]
        exact i7.snoc hG
    · (repeat (refine za ?_))
      refine zg ?_
      (repeat (refine za ?_))
      refine zah [(0, lp p), (1, .slice (some ⟨g, 0, none⟩) n cap), (5, dv), (6, inat s), (7, inat i), (23, .bool false)] [W, KO, KP, KS] ?_ ?_
      · by_cases hlt : i < n
        · obtain ⟨x, hx⟩ : ∃ x, l[i]? = some x := ⟨_, List.getElem?_eq_getElem (by omega)⟩
          have ht : textOf x = none := by
            cases h : textOf x with
            | none => rfl
            | some t => exact absurd ⟨x, t, hx, h⟩ hT
          obtain ⟨v, G, KS', hvi, hKe, hG, hKS⟩ := i8.at_drop hx
          obtain ⟨ty, q, rfl, hP⟩ := hG.notext ht
          have hcv : cur[0 + i * 1]? = some (.iface ty (lp q)) := by rw [hcur i i1 hlt]; exact hvi
          (repeat' (first | refine zr (hm := hcm _) (hc := hcv) ?_ | refine zt (hP) ?_ | refine z8 ?_ | refine z6 ?_ | refine z7 ?_ | refine zj ?_ | refine zb ?_ | refine zo ?_ | refine zk ?_ | refine zac ?_ | refine zaj ?_ | refine zde ?_))
          exact ⟨kA, sA⟩
        · (repeat' (first | refine z8 ?_ | refine z6 ?_ | refine z7 ?_ | refine za6 ?_ | refine zb ?_ | refine za4 ?_ | refine zn ?_ | refine zac ?_))
          exact ⟨kA, sA⟩
      refine zd ?_
      refine zf ?_
      refine z7 ?_
      ((repeat (refine za ?_)); refine z8 ?_; (repeat' (first | refine zb ?_ | refine zet ?_)); refine z6 ?_; refine z7 ?_)
      (repeat (refine za ?_))
      refine zat (fun y : ML => [(0, lp p), (1, .slice (some ⟨g, 0, none⟩) n cap), (5, y.dv), (7, inat i)]) (fun y => [y.W, y.KO, KS]) (fun y => y.out = out ++ flushM (((l.take i).drop s).filterMap textOf) ∧ Rw InlT g 0 cap n vals [] i true y.dv y.ovals y.W ∧ InsR y.out y.ovals y.KO) ?_ ?_
      · by_cases hsi : s = i
        · subst hsi
          rw [decide_eq_false (show ¬ (s : Int) < s by omega)]
          (repeat' (first | refine z7 ?_ | refine zd ?_ | refine zf ?_))
          refine ⟨⟨s, s, out, ovals, dv, W, KO, [], []⟩, kA, sA, ?_, i5, i6⟩
          dsimp only
          rw [take_drop_self]; simp [flushM]
        · rw [decide_eq_true (show (s : Int) < i by omega)]
          by_cases h1 : i = s + 1
          · subst h1
            obtain ⟨ty, q, x, r, T, k1, k2, k3, k4⟩ := htx.at_ 0 (by omega)
            have k1' : cur[0 + s * 1]? = some (.iface ty (lp q)) := by simpa using k1
            have hm := merge1_one g (0 + s * 1) (cap - s) q ty cur W hcW k1' k3 (s + 1 - s) (by omega)
            obtain ⟨x0, hx0⟩ : ∃ x, l[s]? = some x := ⟨_, List.getElem?_eq_getElem (by omega)⟩
            have e1 : (l.take (s + 1)).drop s = [x0] := by rw [take_drop_snoc (Nat.le_refl s) hx0, take_drop_self]; rfl
            have hr5 := rwAdv i5 (j := s + 1) (by omega) (by omega)
            (repeat' (first | refine zad (hm) ?_ | refine z8 ?_ | refine ze ?_ | refine zb ?_ | refine zau ?_ | refine zed ?_ | refine zbb (fun _ => ?_)))
            refine zcc hr5 (by omega) (by omega) (fun v' W' hrw' => ?_)
            (repeat' (first | refine z6 ?_ | refine z7 ?_ | refine zc ?_))
            rw [e1] at i7 i3 k2 ⊢
            obtain ⟨v0, hv0⟩ : ∃ x, vals[s]? = some x := ⟨_, List.getElem?_eq_getElem (by omega)⟩
            rw [take_drop_snoc (Nat.le_refl s) hv0, take_drop_self] at i7
            have hvq : v0 = .iface ty (lp q) := by
              have := hcur s (Nat.le_refl _) (by omega)
              rw [k1', hv0] at this
              exact (Option.some.inj this).symm
            subst hvq
            obtain ⟨t0, ht0⟩ := Option.isSome_iff_exists.1 (i3 x0 (by simp))
            have hx0t : x = t0 := by
              simp [List.filterMap_cons, ht0] at k2
              exact k2.symm
            subst hx0t
            cases i7 with
            | @cons _ _ _ _ G K0 hG0 hs0 =>
            cases hs0
            obtain ⟨ty', q', r', T', e5, hP', rfl⟩ := hG0.text ht0
            cases e5
            refine ⟨⟨s, s, out ++ [.plain x], ovals ++ [_], v', W', KO ++ [(q, cellsOf (str x :: r') T')], [], []⟩, kA, ?_, ?_, hrw', i6.snoc .plain⟩
            · exact SubH.trans (H' := [W', KO, [(q, cellsOf (str x :: r') T')] ++ [], KS]) sA ⟨[], by simp⟩
            · dsimp only
              simp [List.filterMap_cons, ht0, flushM]
          · have hm := fun (c : Nat) => merge1_tr g (0 + s * 1) (i - s) c cur W KP _ (by omega) (by omega) hcW htx hjl
            have hr5 := rwAdv i5 (j := i) (by omega) (by omega)
            (repeat' (first | refine z8 ?_ | refine ze ?_ | refine zb ?_ | refine zed ?_))
            refine za1 (hm _) (fun u K hR => ?_)
            obtain ⟨q, rfl, rfl⟩ := hR
            (repeat' (first | refine zau ?_ | refine zbb (fun _ => ?_)))
            refine zcc hr5 (by omega) (by omega) (fun v' W' hrw' => ?_)
            (repeat' (first | refine z6 ?_ | refine z7 ?_ | refine zc ?_))
            rw [join_flat]
            have hacc : ((l.take i).drop s).filterMap textOf ≠ [] := by
              intro h
              rw [h] at t1
              simp only [List.length_nil] at t1
              omega
            refine ⟨⟨s, s, out ++ [.plain (((l.take i).drop s).filterMap textOf).flatten], ovals ++ [_], v', W', KO ++ [(q, cellsOf [str (((l.take i).drop s).filterMap textOf).flatten] 154)], [], []⟩, kA, ?_, ?_, hrw', i6.snoc .plain⟩
            · exact SubH.trans (H' := [W', KO, [(q, cellsOf [str (((l.take i).drop s).filterMap textOf).flatten] 154)], KS]) sA ⟨[], by simp⟩
            · dsimp only
              rw [flushM, if_neg hacc]
      · rintro ⟨_, _, out2, ovals2, dv2, W2, KO2, _, _⟩ ⟨j1, j2, j3⟩
        dsimp only at j1 j2 j3 ⊢
        by_cases hlt : i < n
        · obtain ⟨x, hx⟩ : ∃ x, l[i]? = some x := ⟨_, List.getElem?_eq_getElem (by omega)⟩
          have ht : textOf x = none := by
            cases h : textOf x with
            | none => rfl
            | some t => exact absurd ⟨x, t, hx, h⟩ hT
          obtain ⟨v, G, KS', hvi, rfl, hG, hKS⟩ := i8.at_drop hx
          obtain ⟨ty, q, rfl⟩ := hG.iface
          obtain ⟨cur2, hcW2, hcur2⟩ := j2.src
          have hcm2 : ∀ H, HMem (W2 :: H) g (cellsOf cur2 85) := fun H => HMem.of_chunk hcW2
          have hcv : cur2[0 + i * 1]? = some (.iface ty (lp q)) := by rw [hcur2 i (Nat.le_refl _) hlt]; exact hvi
          have hr5 := j2.step hlt
          have hle2 := j2.le
          (repeat' (first | refine zr (hm := hcm2 _) (hc := hcv) ?_ | refine za ?_ | refine z8 ?_ | refine z6 ?_ | refine z7 ?_ | refine zd ?_ | refine zf ?_ | refine zb ?_ | refine zaf ?_ | refine zac ?_ | refine zaj ?_ | refine zbb (fun _ => ?_)))
          refine zcc hr5 (by omega) (by omega) (fun v' W' hrw' => ?_)
          (repeat' (first | refine z8 ?_ | refine z6 ?_ | refine z7 ?_ | refine zu ?_ | refine zb ?_ | refine zc ?_ | refine zm ?_))
          refine ⟨⟨i + 1, i + 1, out2 ++ [x], ovals2 ++ [_], v', W', KO2 ++ G, [], KS'⟩, kB, ?_, ⟨Nat.le_refl _, by dsimp only; omega, ?_, ?_, hrw', j3.snoc hG, ?_, hKS⟩, by dsimp only; omega⟩
          · exact SubH.trans (H' := [W', KO2, G ++ KS']) sA ⟨[], by simp⟩
          · dsimp only
            rw [take_drop_self]
            intro y hy
            cases hy
          · dsimp only
            rw [take_drop_self]
            have e3 : l.drop i = x :: l.drop (i + 1) := by
              rw [List.drop_eq_getElem_cons (by omega)]
              have := (List.getElem?_eq_some_iff.1 hx).2
              rw [this]
            rw [← i4, e3, j1]
            simp [mergeF, ht]
          · dsimp only
            rw [take_drop_self, take_drop_self]
            exact .nil
        · have : i = n := by omega
          subst this
          (repeat' (first | refine za ?_ | refine z8 ?_ | refine z6 ?_ | refine z7 ?_ | refine ze ?_ | refine zy ?_ | refine zz ?_ | refine za0 ?_ | refine zaz ?_ | refine zb ?_ | refine zav ?_ | refine zac ?_))
          refine ⟨⟨i, i, out2, ovals2, dv2, W2, KO2, [], []⟩, kA, sA, ?_, i, j2, j3⟩
          dsimp only
          rw [← i4, j1, List.drop_eq_nil_of_le (show l.length ≤ i by omega)]
          rfl
  · rintro ⟨i, s, out, ovals, dv, W, KO, KP, KS⟩ ⟨h1, i, h2, h3⟩
    dsimp only at h1 h2 h3 ⊢
    subst h1
    (repeat' (first | refine za ?_ | refine z8 ?_ | refine z6 ?_ | refine z7 ?_ | refine zh ?_ | refine zb ?_ | refine zc ?_))
    cases h2 with
    | @same cur _ h0 h1 h2 h3' h4 h5 h6 h7 =>
      exact e_ret (vs := [.slice (some ⟨g, 0, none⟩) ovals.length cap]) _ ⟨ovals.length, ovals, _, KO, rfl, ⟨by simp, .inr ⟨g, cap, cur, rfl, rfl, by omega, h3', by simpa using h1, by simpa using h4⟩⟩, h3, rfl⟩ sA
end Go.Proofs

namespace Go.Proofs
open Go Go.Eng
set_option maxRecDepth 20000
set_option maxHeartbeats 1000000

def hexB (c : UInt8) : Bool := decide (65 ≤ c.toNat ∧ c.toNat ≤ 70 ∨ 97 ≤ c.toNat ∧ c.toNat ≤ 102 ∨ 48 ≤ c.toNat ∧ c.toNat ≤ 57)
theorem hexB_tr (c : UInt8) : TrP Tryz.prog 88 [.int .u8 c.toNat] (.bool (hexB c)) := by
  unfold hexB
  refine Tr.start (n := 25) (rs := [.tmp 2]) rfl rfl rfl rfl fun B => ?_
  (repeat' (first | refine za ?_ | refine z8 ?_ | refine z6 ?_ | refine z7 ?_ | refine zh ?_ | refine zj ?_ | refine za6 ?_ | refine zae ?_ | refine zb2 ?_ | refine zb ?_ | refine zc ?_ | refine zba ?_ | refine zbx ?_ | refine zdl ?_ | refine zk ?_ | refine zn ?_ | refine Ops.split_run (fun hg => ?_) (fun hg => ?_) | refine Ops.split_skip (fun hg => ?_) (fun hg => ?_)))
  all_goals (refine e_pure ?_; refine ⟨?_, rfl⟩; simp only [oneOr, Value.bool.injEq]; first | (symm; exact decide_eq_true (by omega)) | (symm; exact decide_eq_false (by omega)) | (rw [decide_eq_decide]; omega))
theorem linkCorner_tr (s : List UInt8) (hl : s.length ≤ 1000000) : Tr Tryz.prog 70 [str s] [] fun u K => ∃ b, u = .bool b ∧ K = [] := by
  refine Tr.start (n := 35) (rs := [.tmp 2]) rfl rfl rfl rfl fun B => ?_
  ((repeat (refine za ?_)); refine z8 ?_; (repeat' (first | refine zc ?_)); refine z6 ?_; refine z7 ?_)
  ((repeat (refine za ?_)); refine z8 ?_; (repeat' (first | refine zc ?_)); refine z6 ?_; refine z7 ?_)
  (repeat (refine za ?_))
  refine zah [] [] ?_ ?_
  · refine zg ?_
    refine za7 (fun k : Nat => [(0, str s), (3, inat k)]) (fun _ => []) (fun k => k ≤ s.length) (fun k => s.length - k) 0 (Nat.zero_le _) kB sA fun k hk => ?_
    by_cases hlt : k < s.length
    · obtain ⟨c, hc⟩ := get_some hlt
      by_cases h37 : c.toNat = 37
      · by_cases h2 : k + 2 < s.length
        · obtain ⟨c1, hc1⟩ := get_some (show k + 1 < s.length by omega)
          obtain ⟨c2, hc2⟩ := get_some h2
          have hP1 := hexB_tr c1
          have hP2 := hexB_tr c2
          cases hb1 : hexB c1 with
          | false =>
            rw [hb1] at hP1
            (repeat' (first | refine zt (hP1) ?_ | refine za ?_ | refine z8 ?_ | refine z6 ?_ | refine z7 ?_ | refine ze ?_ | refine zg ?_ | refine zf ?_ | refine zh ?_ | refine za2 ?_ | refine zak ?_ | refine zj ?_ | refine zae ?_ | refine zb ?_ | refine zc ?_ | refine zm ?_ | refine zb4 ?_ | refine zo ?_ | refine zaf ?_ | refine zx ?_ | refine zk ?_ | refine zn ?_ | refine zi ?_ | refine zl ?_ | refine zan ?_))
            exact e_ret _ ⟨true, rfl, rfl⟩ sA
          | true =>
            cases hb2 : hexB c2 with
            | false =>
              rw [hb1] at hP1
              rw [hb2] at hP2
              (repeat' (first | refine zt (hP1) ?_ | refine zt (hP2) ?_ | refine za ?_ | refine z8 ?_ | refine z6 ?_ | refine z7 ?_ | refine ze ?_ | refine zg ?_ | refine zf ?_ | refine zh ?_ | refine za2 ?_ | refine zak ?_ | refine zj ?_ | refine zb ?_ | refine zc ?_ | refine zm ?_ | refine zb4 ?_ | refine zo ?_ | refine zaf ?_ | refine zx ?_ | refine zn ?_ | refine zi ?_ | refine zl ?_ | refine zap ?_ | refine zan ?_))
              exact e_ret _ ⟨true, rfl, rfl⟩ sA
            | true =>
              rw [hb1] at hP1
              rw [hb2] at hP2
              (repeat' (first | refine zt (hP1) ?_ | refine zt (hP2) ?_ | refine za ?_ | refine z8 ?_ | refine z6 ?_ | refine z7 ?_ | refine ze ?_ | refine zd ?_ | refine zg ?_ | refine zf ?_ | refine zu ?_ | refine zj ?_ | refine zb ?_ | refine zc ?_ | refine zm ?_ | refine zb4 ?_ | refine zo ?_ | refine zaf ?_ | refine zx ?_ | refine zn ?_ | refine zi ?_ | refine zl ?_ | refine zap ?_))
              exact ⟨k + 1, kB, sA, by omega, by omega⟩
        · (repeat' (first | refine za ?_ | refine z8 ?_ | refine z6 ?_ | refine z7 ?_ | refine ze ?_ | refine zg ?_ | refine zf ?_ | refine zh ?_ | refine za2 ?_ | refine zak ?_ | refine zae ?_ | refine zb ?_ | refine zc ?_ | refine zb4 ?_ | refine zo ?_ | refine zav ?_ | refine zx ?_ | refine zk ?_ | refine zi ?_ | refine zl ?_))
          exact e_ret _ ⟨true, rfl, rfl⟩ sA
      · (repeat' (first | refine za ?_ | refine z8 ?_ | refine z6 ?_ | refine z7 ?_ | refine ze ?_ | refine zd ?_ | refine zg ?_ | refine zf ?_ | refine zu ?_ | refine zb ?_ | refine zc ?_ | refine zm ?_ | refine zo ?_ | refine zw ?_ | refine zi ?_ | refine zl ?_))
        exact ⟨k + 1, kB, sA, by omega, by omega⟩
    · (repeat' (first | refine za ?_ | refine z8 ?_ | refine z6 ?_ | refine z7 ?_ | refine zd ?_ | refine zy ?_ | refine zz ?_ | refine za0 ?_ | refine zb ?_ | refine za4 ?_ | refine zi ?_))
      exact ⟨kA, sA⟩
  · (repeat' (first | refine za ?_ | refine z8 ?_ | refine z6 ?_ | refine z7 ?_ | refine zh ?_ | refine zc ?_))
    exact e_ret _ ⟨false, rfl, rfl⟩ sA

theorem setSeg_all : ∀ (vs cs : List Value), cs.length = vs.length → setSeg cs 0 vs = vs
  | [], [], _ => rfl
  | v :: vs, c :: cs, h => by
    show setSeg (v :: cs) (0 + 1) vs = v :: vs
    rw [setSeg_cons_succ, setSeg_all vs cs (by simpa using h)]
theorem setSeg_bt (s : PS) (vs : List Value) (h : s.bt.length = vs.length) : setSeg s.cells 12 vs = ({ s with bt := vs } : PS).cells := by
  show setSeg (_ :: _ :: _ :: _ :: _ :: _ :: _ :: _ :: _ :: _ :: _ :: _ :: s.bt) 12 vs = _
  simp only [setSeg_cons_succ]
  rw [setSeg_all vs s.bt h]
instance zerBt : Zer Tryz.prog 97 (.agg bt00.vals.toArray) := ⟨fun w => by kernel_rfl⟩
theorem reset_tr (p : Nat) (st : PS) (h : st.bt.length = 81) : TrD Tryz.prog 56 [.pointer (some ⟨p, 12, none⟩)] [st.blk p] unit [({ st with bt := bt00.vals } : PS).blk p] := by
  have hs := setSeg_bt st bt00.vals (by rw [h]; rfl)
  have hle : st.cells.length = 12 + 81 := by simp [PS.cells, h]
  refine Tr.start (n := 5) (rs := []) rfl rfl rfl rfl fun B => ?_
  (repeat (refine za ?_))
  refine z8 ?_
  refine zb ?_
  refine zaw ?_
  refine zq ?_
  refine Ops.store_agg (vs := bt00.vals) (k := 81) (b := p) (off := 12) (cs := st.cells) (T := 99) ({ st with bt := bt00.vals } : PS).cells [({ st with bt := bt00.vals } : PS).blk p] Siz.out rfl rfl rfl rfl .here hs (by rw [hle]; rfl) ?_
  (repeat' (first | refine z6 ?_))
  exact e_norm _ ⟨rfl, rfl⟩ sA

/-- emit: what is not yet put out, if anything. -/
theorem emitI_tr (p i e : Nat) (s : PS) (tx : List UInt8) (out : List In) (vals : List Value) (LB IB : Blk) (he : s.em = inat e) (hs : s.str = str tx) (hi : i ≤ tx.length) (hl : tx.length ≤ 140737488355328) (hv : Inls s.list vals LB) (hvl : vals.length ≤ 1000000) (hI : InsR out vals IB) :
    Tr Tryz.prog 67 [lp p, inat i] [s.blk p, LB, IB] fun u K => u = unit ∧ ∃ vals' v' LB' IB' e', Inls v' vals' LB' ∧ InsR (emitI tx e i out) vals' IB' ∧ K = [({ s with list := v', em := inat e' } : PS).blk p, LB', IB'] := by
  by_cases hei : e < i
  · refine Tr.ps (Tr.fr (F := [IB]) (emitP p i e s tx vals LB he hs hei hi hl hv hvl) (by repeat' (first | exact HTakes.nil | exact HTake.here | apply HTakes.cons | apply HTake.there))) ?_
    rintro u K ⟨K0, ⟨rfl, q, v', LB', h1, rfl⟩, rfl⟩
    refine ⟨[({ s with list := v', em := inat i } : PS).blk p, LB', IB ++ [It.cell (.plain ((tx.take i).drop e)) q]], ⟨rfl, _, v', LB', _, i, h1, ?_, rfl⟩, SubH.trans (H' := [_, LB', IB, [It.cell (.plain ((tx.take i).drop e)) q]]) sA ⟨[], by simp⟩⟩
    unfold emitI
    rw [if_pos hei]
    exact hI.snoc .plain
  · obtain ⟨par, root, links, lineno, stack, depth, corner, sv, em, list, lists, texts, bt⟩ := s
    simp only at he hs hv
    subst he
    refine Tr.ps (Tr.fr (F := [LB, IB]) (emit_no p i e (⟨par, root, links, lineno, stack, depth, corner, sv, inat e, list, lists, texts, bt⟩ : PS) rfl (by omega)) (by repeat' (first | exact HTakes.nil | exact HTake.here | apply HTakes.cons | apply HTake.there))) ?_
    rintro u K ⟨K0, ⟨rfl, rfl⟩, rfl⟩
    exact ⟨_, ⟨rfl, vals, list, LB, IB, e, hv, by unfold emitI; rw [if_neg hei]; exact hI, rfl⟩, SubH.refl _⟩
end Go.Proofs

namespace Go.Proofs
open Go Go.Eng
set_option maxRecDepth 20000
set_option maxHeartbeats 1000000

/-- Which parser is taken. -/
inductive PKd where
  | no | esc | code | ang | lnk | img | em | brk | ent
def PKd.val (p : Nat) : PKd → Value
  | .no => .nilFunc
  | .esc => .func (.func 55) #[] #[]
  | .code => .func (.func 57) #[.pointer (some ⟨p, 12, Option.none⟩)] #[]
  | .ang => .func (.func 58) #[] #[]
  | .lnk => .func (.func 59) #[] #[]
  | .img => .func (.func 60) #[] #[]
  | .em => .func (.func 61) #[] #[]
  | .brk => .func (.func 64) #[] #[]
  | .ent => .func (.func 65) #[] #[]
def KOK (qu de : Bool) (c : Nat) (bs : Bool) (btv : List Value) (bs' : Bool) (btv' : List Value) : PKd → Prop
  | .no => (c ≠ 92 ∧ c ≠ 96 ∧ c ≠ 60 ∧ c ≠ 91 ∧ c ≠ 33 ∧ c ≠ 95 ∧ c ≠ 42 ∧ c ≠ 10 ∧ c ≠ 38 ∧ (c = 34 ∨ c = 39 → qu = false) ∧ (c = 126 → de = false)) ∧ bs' = bs ∧ btv' = btv
  | .esc => c = 92 ∧ bs' = bs ∧ btv' = btv
  | .code => c = 96 ∧ bs' = true ∧ btv' = if bs then btv else bt00.vals
  | .ang => c = 60 ∧ bs' = bs ∧ btv' = btv
  | .lnk => c = 91 ∧ bs' = bs ∧ btv' = btv
  | .img => c = 33 ∧ bs' = bs ∧ btv' = btv
  | .em => (c = 95 ∨ c = 42 ∨ ((c = 34 ∨ c = 39) ∧ qu = true) ∨ (c = 126 ∧ de = true)) ∧ bs' = bs ∧ btv' = btv
  | .brk => c = 10 ∧ bs' = bs ∧ btv' = btv
  | .ent => c = 38 ∧ bs' = bs ∧ btv' = btv

theorem switch_w (B : Base) (Q : Eng.Post) [NoPan Q] (F : Heap) (p pr i llo : Nat) (o : PO) (st : PS) (s : List UInt8) (c : UInt8) (bs : Bool) (ov : Value) (hpar : st.par = lp pr) (hbt : st.bt.length = 81)
    (hdot : o.dots = true → c.toNat ≠ 46) (hdash : o.dashes = true → c.toNat ≠ 45) (hemo : o.emoji = true → c.toNat ≠ 58)
    (hQ : ∀ (k : PKd) (bs' : Bool) (btv' : List Value), KOK o.quotes o.del c.toNat bs st.bt bs' btv' k → ∀ L', Knows L' [(0, lp p), (1, str s), (5, ov), (6, inat llo), (7, .bool bs'), (8, inat i), (9, k.val p)] → Q .normal L' (({ st with bt := btv' } : PS).blk p :: o.blk pr :: F)) :
    ∀ x, nav [1, 1, 1, 1, 1, 1, 1, 1, 1, 0, 0, 0, 1, 0, 1, 0, 1, 0] (((Tryz.prog.funcs[40]?).bind Func.body).getD .skip) = some x → Wp Tryz.prog B 335 x [(0, lp p), (1, str s), (5, ov), (6, inat llo), (7, .bool bs), (8, inat i), (9, .nilFunc), (39, .int .u8 c.toNat)] (st.blk p :: o.blk pr :: F) Q := by
  obtain ⟨par, root, links, lineno, stack, depth, corner, sv, em, list, lists, texts, bt⟩ := st
  obtain ⟨o1, o2, o3, o4, o5, o6, o7, o8, o9, o10⟩ := o
  dsimp only at hpar hbt hdot hdash hemo hQ
  subst hpar
  have hcl := c.toNat_lt
  refine use_nav (by rfl) ?_
  by_cases h92 : c.toNat = 92
  · (repeat' (first | refine za ?_ | refine z8 ?_ | refine z6 ?_ | refine z7 ?_ | refine ze ?_ | refine zc ?_ | refine zx ?_))
    exact ⟨hQ .esc bs bt ⟨h92, rfl, rfl⟩ _ kA⟩
  by_cases h96 : c.toNat = 96
  · cases bs with
    | true =>
      (repeat' (first | refine za ?_ | refine z8 ?_ | refine z6 ?_ | refine z7 ?_ | refine ze ?_ | refine zd ?_ | refine zf ?_ | refine zb ?_ | refine zc ?_ | refine zp ?_ | refine zq ?_ | refine zx ?_ | refine zw ?_ | refine zap ?_ | refine ze9 ?_))
      exact ⟨hQ .code true bt ⟨h96, rfl, rfl⟩ _ kA⟩
    | false =>
      (repeat' (first | refine zad (reset_tr p (⟨lp pr, root, links, lineno, stack, depth, corner, sv, em, list, lists, texts, bt⟩ : PS) hbt) ?_ | refine za ?_ | refine z8 ?_ | refine z6 ?_ | refine z7 ?_ | refine ze ?_ | refine zd ?_ | refine zb ?_ | refine zc ?_ | refine zp ?_ | refine zq ?_ | refine zx ?_ | refine zw ?_ | refine zan ?_ | refine ze9 ?_))
      exact ⟨hQ .code true bt00.vals ⟨h96, rfl, rfl⟩ _ kA⟩
  by_cases h60 : c.toNat = 60
  · (repeat' (first | refine za ?_ | refine z8 ?_ | refine z6 ?_ | refine z7 ?_ | refine ze ?_ | refine zd ?_ | refine zc ?_ | refine zx ?_ | refine zw ?_))
    exact ⟨hQ .ang bs bt ⟨h60, rfl, rfl⟩ _ kA⟩
  by_cases h91 : c.toNat = 91
  · (repeat' (first | refine za ?_ | refine z8 ?_ | refine z6 ?_ | refine z7 ?_ | refine ze ?_ | refine zd ?_ | refine zc ?_ | refine zx ?_ | refine zw ?_))
    exact ⟨hQ .lnk bs bt ⟨h91, rfl, rfl⟩ _ kA⟩
  by_cases h33 : c.toNat = 33
  · (repeat' (first | refine za ?_ | refine z8 ?_ | refine z6 ?_ | refine z7 ?_ | refine ze ?_ | refine zd ?_ | refine zc ?_ | refine zx ?_ | refine zw ?_))
    exact ⟨hQ .img bs bt ⟨h33, rfl, rfl⟩ _ kA⟩
  by_cases h95 : c.toNat = 95
  · (repeat' (first | refine za ?_ | refine z8 ?_ | refine z6 ?_ | refine z7 ?_ | refine ze ?_ | refine zd ?_ | refine zf ?_ | refine zc ?_ | refine zx ?_ | refine zw ?_))
    exact ⟨hQ .em bs bt ⟨.inl h95, rfl, rfl⟩ _ kA⟩
  by_cases h42 : c.toNat = 42
  · (repeat' (first | refine za ?_ | refine z8 ?_ | refine z6 ?_ | refine z7 ?_ | refine ze ?_ | refine zd ?_ | refine zc ?_ | refine zx ?_ | refine zw ?_))
    exact ⟨hQ .em bs bt ⟨.inr (.inl h42), rfl, rfl⟩ _ kA⟩
  by_cases h46 : c.toNat = 46
  · have h8 : o8 = false := by
      cases o8 with
      | false => rfl
      | true => exact absurd h46 (hdot rfl)
    subst h8
    (repeat' (first | refine za ?_ | refine z8 ?_ | refine z6 ?_ | refine z7 ?_ | refine ze ?_ | refine zd ?_ | refine zf ?_ | refine zb ?_ | refine zc ?_ | refine zr ?_ | refine zp ?_ | refine zq ?_ | refine zx ?_ | refine zw ?_))
    exact ⟨hQ .no bs bt ⟨by omega, rfl, rfl⟩ _ kA⟩
  by_cases h45 : c.toNat = 45
  · have h9 : o9 = false := by
      cases o9 with
      | false => rfl
      | true => exact absurd h45 (hdash rfl)
    subst h9
    (repeat' (first | refine za ?_ | refine z8 ?_ | refine z6 ?_ | refine z7 ?_ | refine ze ?_ | refine zd ?_ | refine zf ?_ | refine zb ?_ | refine zc ?_ | refine zr ?_ | refine zp ?_ | refine zq ?_ | refine zx ?_ | refine zw ?_))
    exact ⟨hQ .no bs bt ⟨by omega, rfl, rfl⟩ _ kA⟩
  by_cases h34 : c.toNat = 34
  · cases o10 with
    | true =>
      (repeat' (first | refine za ?_ | refine z8 ?_ | refine z6 ?_ | refine z7 ?_ | refine ze ?_ | refine zd ?_ | refine zf ?_ | refine zb ?_ | refine zc ?_ | refine zr ?_ | refine zp ?_ | refine zq ?_ | refine zx ?_ | refine zw ?_))
      exact ⟨hQ .em bs bt ⟨.inr (.inr (.inl ⟨.inl h34, rfl⟩)), rfl, rfl⟩ _ kA⟩
    | false =>
      (repeat' (first | refine za ?_ | refine z8 ?_ | refine z6 ?_ | refine z7 ?_ | refine ze ?_ | refine zd ?_ | refine zf ?_ | refine zb ?_ | refine zc ?_ | refine zr ?_ | refine zp ?_ | refine zq ?_ | refine zx ?_ | refine zw ?_))
      exact ⟨hQ .no bs bt ⟨⟨h92, h96, h60, h91, h33, h95, h42, by omega, by omega, fun _ => rfl, by omega⟩, rfl, rfl⟩ _ kA⟩
  by_cases h39 : c.toNat = 39
  · cases o10 with
    | true =>
      (repeat' (first | refine za ?_ | refine z8 ?_ | refine z6 ?_ | refine z7 ?_ | refine ze ?_ | refine zd ?_ | refine zb ?_ | refine zc ?_ | refine zr ?_ | refine zp ?_ | refine zq ?_ | refine zx ?_ | refine zw ?_))
      exact ⟨hQ .em bs bt ⟨.inr (.inr (.inl ⟨.inr h39, rfl⟩)), rfl, rfl⟩ _ kA⟩
    | false =>
      (repeat' (first | refine za ?_ | refine z8 ?_ | refine z6 ?_ | refine z7 ?_ | refine ze ?_ | refine zd ?_ | refine zf ?_ | refine zb ?_ | refine zc ?_ | refine zr ?_ | refine zp ?_ | refine zq ?_ | refine zx ?_ | refine zw ?_))
      exact ⟨hQ .no bs bt ⟨⟨h92, h96, h60, h91, h33, h95, h42, by omega, by omega, fun _ => rfl, by omega⟩, rfl, rfl⟩ _ kA⟩
  by_cases h126 : c.toNat = 126
  · cases o2 with
    | true =>
      (repeat' (first | refine za ?_ | refine z8 ?_ | refine z6 ?_ | refine z7 ?_ | refine ze ?_ | refine zd ?_ | refine zb ?_ | refine zc ?_ | refine zr ?_ | refine zp ?_ | refine zq ?_ | refine zx ?_ | refine zw ?_))
      exact ⟨hQ .em bs bt ⟨.inr (.inr (.inr ⟨h126, rfl⟩)), rfl, rfl⟩ _ kA⟩
    | false =>
      (repeat' (first | refine za ?_ | refine z8 ?_ | refine z6 ?_ | refine z7 ?_ | refine ze ?_ | refine zd ?_ | refine zf ?_ | refine zb ?_ | refine zc ?_ | refine zr ?_ | refine zp ?_ | refine zq ?_ | refine zx ?_ | refine zw ?_))
      exact ⟨hQ .no bs bt ⟨⟨h92, h96, h60, h91, h33, h95, h42, by omega, by omega, by omega, fun _ => rfl⟩, rfl, rfl⟩ _ kA⟩
  by_cases h10 : c.toNat = 10
  · (repeat' (first | refine za ?_ | refine z8 ?_ | refine z6 ?_ | refine z7 ?_ | refine ze ?_ | refine zd ?_ | refine zc ?_ | refine zx ?_ | refine zw ?_))
    exact ⟨hQ .brk bs bt ⟨h10, rfl, rfl⟩ _ kA⟩
  by_cases h38 : c.toNat = 38
  · (repeat' (first | refine za ?_ | refine z8 ?_ | refine z6 ?_ | refine z7 ?_ | refine ze ?_ | refine zd ?_ | refine zc ?_ | refine zx ?_ | refine zw ?_))
    exact ⟨hQ .ent bs bt ⟨h38, rfl, rfl⟩ _ kA⟩
  by_cases h58 : c.toNat = 58
  · have h7 : o7 = false := by
      cases o7 with
      | false => rfl
      | true => exact absurd h58 (hemo rfl)
    subst h7
    (repeat' (first | refine za ?_ | refine z8 ?_ | refine z6 ?_ | refine z7 ?_ | refine ze ?_ | refine zd ?_ | refine zf ?_ | refine zb ?_ | refine zc ?_ | refine zr ?_ | refine zp ?_ | refine zq ?_ | refine zx ?_ | refine zw ?_))
    exact ⟨hQ .no bs bt ⟨by omega, rfl, rfl⟩ _ kA⟩
  · (repeat' (first | refine za ?_ | refine z8 ?_ | refine z6 ?_ | refine z7 ?_ | refine zd ?_ | refine zf ?_ | refine zc ?_ | refine zw ?_))
    exact ⟨hQ .no bs bt ⟨by omega, rfl, rfl⟩ _ kA⟩
end Go.Proofs

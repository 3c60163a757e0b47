/- Steps of the walk of the program and plain facts on what it computes. Conditions: as each theorem states them. -/
import Derived.Test.YtjbpohkcmgelkaaGreatDoorT11
import Derived.Test.YtjbpohkcmgelkaaGreatDoorEngB
import Derived.Test.YtjbpohkcmgelkaaGreatDoorT05
import Derived.Test.YtjbpohkcmgelkaaGreatDoorT07
import Derived.Test.YtjbpohkcmgelkaaGreatDoorT04
namespace Go.Proofs
open Go Go.Eng
set_option maxRecDepth 20000
set_option maxHeartbeats 2000000

/-- Where the bracket stands that ends a label. -/
def labF (s : List UInt8) : Nat → Nat → Option Nat
  | 0, _ => none
  | f + 1, j => match s[j]? with
    | none => none
    | some c => if c.toNat = 93 then some j else if c.toNat = 91 then none else if c.toNat = 92 ∧ j + 1 < s.length then labF s f (j + 1 + 1) else labF s f (j + 1)
theorem labF_lt {s : List UInt8} : ∀ {f j k : Nat}, labF s f j = some k → j ≤ k ∧ k < s.length
  | 0, _, _, h => by cases h
  | f + 1, j, k, h => by
    unfold labF at h
    split at h
    · cases h
    · rename_i c hc
      have h0 := (List.getElem?_eq_some_iff.1 hc).1
      split at h
      · have := Option.some.inj h; omega
      · split at h
        · cases h
        · split at h
          · have := labF_lt h; omega
          · have := labF_lt h; omega
def labelAt (s : List UInt8) (i : Nat) : Option Nat → Option (List UInt8 × Nat)
  | none => none
  | some j => if 999 < j - (i + 1) then none else if strim ((s.take j).drop (i + 1)) = [] then none else some (strim ((s.take j).drop (i + 1)), j + 1)
def labelM (s : List UInt8) (i : Nat) : Option (List UInt8 × Nat) := if s[i]? = some 91 then labelAt s i (labF s (s.length + 1) (i + 1)) else none
theorem labelM_lt {s l : List UInt8} {i k : Nat} (h : labelM s i = some (l, k)) : i < k ∧ k ≤ s.length ∧ l ≠ [] := by
  unfold labelM at h
  split at h
  · cases ha : labF s (s.length + 1) (i + 1) with
    | none => rw [ha] at h; cases h
    | some j =>
      rw [ha] at h
      have h1 := labF_lt ha
      dsimp only [labelAt] at h
      by_cases q1 : 999 < j - (i + 1)
      · rw [if_pos q1] at h; cases h
      · rw [if_neg q1] at h
        by_cases hne : strim ((s.take j).drop (i + 1)) = []
        · rw [if_pos hne] at h; cases h
        · rw [if_neg hne] at h
          have h2 := Option.some.inj h
          have h3 : j + 1 = k := congrArg Prod.snd h2
          have h4 : strim ((s.take j).drop (i + 1)) = l := congrArg Prod.fst h2
          exact ⟨by omega, by omega, by rw [← h4]; exact hne⟩
  · cases h

theorem labelG_tr (p : Nat) (st : PS) (s : List UInt8) (i : Nat) (hl : s.length ≤ 1000000) (hi : i ≤ s.length) (cn : Bool) (hcn : st.corner = .bool cn) :
    Tr Tryz.prog 103 [lp p, str s, inat i] [st.blk p] fun u K => ∃ cn', u = destV (labelM s i) ∧ K = [({ st with corner := .bool cn' } : PS).blk p] := by
  obtain ⟨par, root, links, lineno, stack, depth, corner, sv, em, list, lists, texts, bt⟩ := st
  subst hcn
  unfold labelM
  by_cases hlt : i < s.length
  · obtain ⟨c, hc⟩ := get_some hlt
    rw [hc]
    by_cases h91 : c.toNat = 91
    · rw [show c = 91 from UInt8.toNat_inj.1 h91, if_pos rfl]
      have hW : ∃ W, labF s (s.length + 1) (i + 1) = W := ⟨_, rfl⟩
      obtain ⟨W, hW⟩ := hW
      rw [hW]
      refine Tr.start (n := 69) (rs := [.tmp 6, .tmp 7, .tmp 8]) rfl rfl rfl rfl fun B => ?_
      (repeat' (first | refine z7 ?_ | refine z6 ?_ | refine z2 ?_ | refine z1 ?_ | refine zb ?_ | refine zd ?_ | refine zh ?_ | refine z8 ?_ | refine za ?_ | refine zl ?_ | refine zab ?_ | refine zb0 ?_ | refine zk ?_ | refine zg ?_ | refine zi ?_))
      refine zau (fun c : Bool => []) (fun c => [(⟨par, root, links, lineno, stack, depth, .bool c, sv, em, list, lists, texts, bt⟩ : PS).blk p]) (fun _ => labelAt s i W = none) ?_ ?_
      · (repeat' (first | refine zf ?_))
        refine za6 (fun x : AF => [(0, lp p), (1, str s), (2, inat i), (9, inat x.j)]) (fun _ => [(⟨par, root, links, lineno, stack, depth, .bool cn, sv, em, list, lists, texts, bt⟩ : PS).blk p]) (fun x => labF s x.f x.j = W ∧ i + 1 ≤ x.j ∧ x.j ≤ s.length ∧ s.length < x.j + x.f) (fun x => s.length - x.j) ⟨i + 1, s.length + 1⟩ ⟨hW, Nat.le_refl _, by dsimp only; omega, by dsimp only; omega⟩ kB sA fun x hx => ?_
        obtain ⟨j, f⟩ := x
        obtain ⟨i1, i2, i3, i4⟩ := hx
        dsimp only at i1 i2 i3 i4 ⊢
        obtain ⟨f, rfl⟩ : ∃ f', f = f' + 1 := ⟨f - 1, by omega⟩
        unfold labF at i1
        by_cases hjl : j < s.length
        · obtain ⟨d, hd⟩ := get_some hjl
          rw [hd] at i1
          dsimp only at i1
          by_cases g1 : d.toNat = 93
          · rw [if_pos g1] at i1
            rw [← i1]
            dsimp only [labelAt]
            by_cases g9 : 999 < j - (i + 1)
            · rw [if_pos g9]
              (repeat' (first | refine Ops.pure _ (zap (a := j) (b := i + 1) (c := j - (i + 1)) (by rfl) (by rfl) (by omega) (by omega)) (by rfl) ?_ | refine z7 ?_ | refine z6 ?_ | refine z2 ?_ | refine z1 ?_ | refine zc ?_ | refine zf ?_ | refine zd ?_ | refine zw ?_ | refine zy ?_ | refine zz ?_ | refine zaw ?_ | refine z8 ?_ | refine zp ?_ | refine zq ?_ | refine zl ?_ | refine zm ?_ | refine zaz ?_ | refine zt ?_ | refine zg ?_ | refine zi ?_ | refine za5 ?_))
              exact ⟨true, kA, sA, rfl⟩
            · rw [if_neg g9]
              have hT := strim_tr ((s.take j).drop (i + 1)) (by rw [List.length_drop, List.length_take]; omega)
              generalize strim ((s.take j).drop (i + 1)) = lb at hT ⊢
              by_cases gn : lb = []
              · rw [if_pos gn]
                (repeat' (first | refine Ops.pure _ (zap (a := j) (b := i + 1) (c := j - (i + 1)) (by rfl) (by rfl) (by omega) (by omega)) (by rfl) ?_ | refine zo (hT) ?_ | refine z7 ?_ | refine z6 ?_ | refine z2 ?_ | refine z1 ?_ | refine zc ?_ | refine zb ?_ | refine zf ?_ | refine zd ?_ | refine zw ?_ | refine zy ?_ | refine zz ?_ | refine zaw ?_ | refine z8 ?_ | refine za ?_ | refine zl ?_ | refine zm ?_ | refine zat ?_ | refine zt ?_ | refine zg ?_ | refine zi ?_ | refine zav ?_ | refine zd2 ?_))
                exact ⟨cn, kA, sA, rfl⟩
              · rw [if_neg gn]
                (repeat' (first | refine Ops.pure _ (zap (a := j) (b := i + 1) (c := j - (i + 1)) (by rfl) (by rfl) (by omega) (by omega)) (by rfl) ?_ | refine zo (hT) ?_ | refine z7 ?_ | refine z6 ?_ | refine z2 ?_ | refine z1 ?_ | refine zc ?_ | refine zb ?_ | refine zf ?_ | refine zd ?_ | refine ze ?_ | refine zx ?_ | refine zag ?_ | refine z8 ?_ | refine za ?_ | refine zl ?_ | refine zm ?_ | refine zat ?_ | refine zt ?_ | refine zg ?_ | refine zi ?_ | refine zav ?_ | refine zcd ?_))
                exact e_ret _ ⟨cn, rfl, rfl⟩ sA
          rw [if_neg g1] at i1
          by_cases g2 : d.toNat = 91
          · rw [if_pos g2] at i1
            rw [← i1]
            (repeat' (first | refine z7 ?_ | refine z6 ?_ | refine z2 ?_ | refine z1 ?_ | refine zc ?_ | refine zb ?_ | refine zf ?_ | refine zd ?_ | refine zw ?_ | refine zy ?_ | refine zz ?_ | refine zaw ?_ | refine z8 ?_ | refine zm ?_ | refine zt ?_ | refine zr ?_ | refine zg ?_ | refine zi ?_))
            exact ⟨cn, kA, sA, rfl⟩
          rw [if_neg g2] at i1
          by_cases g4 : d.toNat = 92
          · by_cases g5 : j + 1 < s.length
            · rw [if_pos ⟨g4, g5⟩] at i1
              (repeat' (first | refine z7 ?_ | refine z6 ?_ | refine z2 ?_ | refine z1 ?_ | refine zc ?_ | refine zb ?_ | refine zf ?_ | refine zd ?_ | refine zu ?_ | refine zh ?_ | refine z8 ?_ | refine za ?_ | refine zl ?_ | refine zm ?_ | refine zt ?_ | refine zr ?_ | refine zj ?_ | refine zg ?_ | refine zi ?_))
              exact ⟨⟨j + 1 + 1, f⟩, kB, sA, ⟨i1, by dsimp only; omega, by dsimp only; omega, by dsimp only; omega⟩, by dsimp only; omega⟩
            · rw [if_neg (by rintro ⟨_, h⟩; exact g5 h)] at i1
              (repeat' (first | refine z7 ?_ | refine z6 ?_ | refine z2 ?_ | refine z1 ?_ | refine zc ?_ | refine zb ?_ | refine zf ?_ | refine zd ?_ | refine zu ?_ | refine zh ?_ | refine z8 ?_ | refine za ?_ | refine zl ?_ | refine zm ?_ | refine za4 ?_ | refine zt ?_ | refine zr ?_ | refine zj ?_ | refine zg ?_ | refine zi ?_))
              exact ⟨⟨j + 1, f⟩, kB, sA, ⟨i1, by dsimp only; omega, by dsimp only; omega, by dsimp only; omega⟩, by dsimp only; omega⟩
          · rw [if_neg (by rintro ⟨h, _⟩; exact g4 h)] at i1
            (repeat' (first | refine z7 ?_ | refine z6 ?_ | refine z2 ?_ | refine z1 ?_ | refine zc ?_ | refine zb ?_ | refine zf ?_ | refine zd ?_ | refine zu ?_ | refine za2 ?_ | refine z8 ?_ | refine za ?_ | refine zl ?_ | refine zm ?_ | refine zr ?_ | refine zk ?_ | refine zg ?_ | refine zi ?_))
            exact ⟨⟨j + 1, f⟩, kB, sA, ⟨i1, by dsimp only; omega, by dsimp only; omega, by dsimp only; omega⟩, by dsimp only; omega⟩
        · rw [List.getElem?_eq_none (by omega)] at i1
          dsimp only at i1
          rw [← i1]
          (repeat' (first | refine z7 ?_ | refine z6 ?_ | refine z2 ?_ | refine z1 ?_ | refine zb ?_ | refine zw ?_ | refine zy ?_ | refine zz ?_ | refine z8 ?_ | refine za4 ?_ | refine zg ?_))
          exact ⟨cn, kA, sA, rfl⟩
      · rintro c2 hn
        rw [hn]
        (repeat' (first | refine z7 ?_ | refine z6 ?_ | refine z2 ?_ | refine z1 ?_ | refine ze ?_ | refine za ?_))
        exact e_ret _ ⟨c2, rfl, rfl⟩ sA
    · rw [if_neg (fun e => by cases e; exact h91 rfl)]
      refine Tr.start (n := 69) (rs := [.tmp 6, .tmp 7, .tmp 8]) rfl rfl rfl rfl fun B => ?_
      (repeat' (first | refine z7 ?_ | refine z6 ?_ | refine z2 ?_ | refine z1 ?_ | refine zc ?_ | refine ze ?_ | refine zx ?_ | refine zh ?_ | refine z8 ?_ | refine za ?_ | refine zab ?_ | refine zb2 ?_ | refine zk ?_ | refine zg ?_ | refine zi ?_))
      exact e_ret _ ⟨cn, rfl, rfl⟩ sA
  · rw [List.getElem?_eq_none (by omega), if_neg (by simp)]
    refine Tr.start (n := 69) (rs := [.tmp 6, .tmp 7, .tmp 8]) rfl rfl rfl rfl fun B => ?_
    (repeat' (first | refine z7 ?_ | refine z6 ?_ | refine z2 ?_ | refine z1 ?_ | refine zc ?_ | refine ze ?_ | refine zx ?_ | refine zaa ?_ | refine z8 ?_ | refine za ?_ | refine zas ?_ | refine zj ?_ | refine zg ?_))
    exact e_ret _ ⟨cn, rfl, rfl⟩ sA

def lowB (c : UInt8) : UInt8 := if 65 ≤ c.toNat ∧ c.toNat ≤ 90 then c + 32 else c
def normF : Bool → List UInt8 → List UInt8
  | _, [] => []
  | sp, c :: r => if isSp c = true then normF true r else (if sp = true then 32 :: lowB c :: normF false r else lowB c :: normF false r)
def normM (l : List UInt8) : List UInt8 := if (91 : UInt8) ∈ l ∨ (93 : UInt8) ∈ l then [] else normF false (strim l)
theorem lowB_up {c : UInt8} (h : 65 ≤ c.toNat ∧ c.toNat ≤ 90) : (lowB c).toNat = c.toNat + 32 := by
  unfold lowB
  rw [if_pos h, UInt8.toNat_add]
  have : (32 : UInt8).toNat = 32 := rfl
  rw [this]; omega
theorem strim_mem {l : List UInt8} {c : UInt8} (h : c ∈ strim l) : c ∈ l := by
  unfold strim srtrim sltrim at h
  rw [List.mem_reverse] at h
  have h1 := (List.dropWhile_sublist _).mem h
  rw [List.mem_reverse] at h1
  exact (List.dropWhile_sublist _).mem h1
theorem strim_len (l : List UInt8) : (strim l).length ≤ l.length := by
  unfold strim srtrim sltrim
  rw [List.length_reverse]
  have h1 := (List.dropWhile_sublist isSp (l := (l.dropWhile isSp).reverse)).length_le
  have h2 := (List.dropWhile_sublist isSp (l := l)).length_le
  rw [List.length_reverse] at h1
  omega
structure NB where
  j : Nat
  sp : Bool
  p : Value
  v : Value
  R : Blk
  o : List UInt8
abbrev NB.u (x : NB) : UB := ⟨x.j, x.p, x.v, x.R, x.o⟩

theorem normG_tr (l : List UInt8) (hl : l.length ≤ 100000) (hA : Asc l) : TrP Tryz.prog 104 [str l] (str (normM l)) := by
  have h1 := containsB_tr l 91 (by omega)
  have h2 := containsB_tr l 93 (by omega)
  unfold normM
  by_cases g1 : (91 : UInt8) ∈ l
  · rw [if_pos (.inl g1)]
    rw [decide_eq_true g1] at h1
    refine Tr.start (n := 47) (rs := [.tmp 2]) rfl rfl rfl rfl fun B => ?_
    (repeat' (first | refine zo (h1) ?_ | refine z7 ?_ | refine z6 ?_ | refine z2 ?_ | refine z1 ?_ | refine zc ?_ | refine ze ?_ | refine zx ?_ | refine zaa ?_ | refine z8 ?_ | refine za ?_ | refine zj ?_))
    exact e_pure ⟨rfl, rfl⟩
  rw [decide_eq_false g1] at h1
  by_cases g2 : (93 : UInt8) ∈ l
  · rw [if_pos (.inr g2)]
    rw [decide_eq_true g2] at h2
    refine Tr.start (n := 47) (rs := [.tmp 2]) rfl rfl rfl rfl fun B => ?_
    (repeat' (first | refine zo (h1) ?_ | refine zo (h2) ?_ | refine z7 ?_ | refine z6 ?_ | refine z2 ?_ | refine z1 ?_ | refine zc ?_ | refine ze ?_ | refine zx ?_ | refine zh ?_ | refine z8 ?_ | refine za ?_ | refine zk ?_))
    exact e_pure ⟨rfl, rfl⟩
  rw [decide_eq_false g2] at h2
  rw [if_neg (by rintro (h | h); exact g1 h; exact g2 h)]
  have h3 := strim_tr l (by omega)
  have hAt : ∀ c ∈ strim l, c.toNat < 128 := fun c hc => hA c (strim_mem hc)
  have htl := strim_len l
  generalize strim l = t at h3 hAt htl ⊢
  have hW : ∃ W, normF false t = W := ⟨_, rfl⟩
  obtain ⟨W, hW⟩ := hW
  rw [hW]
  refine Tr.start (n := 47) (rs := [.tmp 2]) rfl rfl rfl rfl fun B => ?_
  (repeat' (first | refine zo (h1) ?_ | refine zo (h2) ?_ | refine zo (h3) ?_ | refine z7 ?_ | refine z6 ?_ | refine z2 ?_ | refine z1 ?_ | refine zb ?_ | refine zd ?_ | refine zh ?_ | refine z8 ?_ | refine za ?_ | refine zk ?_ | refine zai (fun _ => ?_)))
  rename_i b
  refine w_nilblk ?_
  refine zau (fun x : UB => [(3, lp b), (5, .bool false)]) (fun x => [bldb b x.p x.v, x.R]) (fun x => BOK b x ∧ x.o.length ≤ 2 * t.length ∧ x.o = W) ?_ ?_
  · (repeat' (first | refine zf ?_))
    refine za6 (fun x : NB => [(0, str t), (3, lp b), (4, .bool x.sp), (5, .bool false), (6, inat x.j)]) (fun x => [bldb b x.p x.v, x.R]) (fun x => BOK b x.u ∧ x.j ≤ t.length ∧ x.o.length ≤ 2 * x.j ∧ x.o ++ normF x.sp (t.drop x.j) = W) (fun x => t.length - x.j) ⟨0, false, .pointer none, .slice none 0 0, [], []⟩ ⟨⟨.inl rfl, Own.nil _ _, .inl ⟨rfl, rfl, rfl⟩⟩, by simp, by simp, by simpa using hW⟩ kB sA fun x hx => ?_
    obtain ⟨j, sp, p, v, R, o⟩ := x
    obtain ⟨⟨hp, hO, hN⟩, hj, ho, hI⟩ := hx
    dsimp only at hp hO hN hj ho hI ⊢
    by_cases hlt : j < t.length
    · obtain ⟨c, hc⟩ := get_some hlt
      have hdr : t.drop j = c :: t.drop (j + 1) := by
        rw [List.drop_eq_getElem_cons hlt]
        have := (List.getElem?_eq_some_iff.1 hc).2
        rw [this]
      rw [hdr] at hI
      have hc128 := hAt c (List.mem_of_getElem? hc)
      by_cases s1 : c.toNat = 32
      · rw [show normF sp (c :: t.drop (j + 1)) = normF true (t.drop (j + 1)) by conv => lhs; unfold normF; rw [if_pos (by simp [isSp, s1])]] at hI
        (repeat' (first | refine z7 ?_ | refine z6 ?_ | refine z2 ?_ | refine z1 ?_ | refine zc ?_ | refine zf ?_ | refine zd ?_ | refine zw ?_ | refine zz ?_ | refine zaw ?_ | refine z8 ?_ | refine za ?_ | refine zl ?_ | refine zm ?_ | refine zt ?_ | refine zg ?_ | refine zi ?_))
        exact ⟨⟨j + 1, true, p, v, R, o⟩, kB, sA, ⟨⟨hp, hO, hN⟩, by dsimp only; omega, by dsimp only; omega, hI⟩, by dsimp only; omega⟩
      by_cases s2 : c.toNat = 9
      · rw [show normF sp (c :: t.drop (j + 1)) = normF true (t.drop (j + 1)) by conv => lhs; unfold normF; rw [if_pos (by simp [isSp, s2])]] at hI
        (repeat' (first | refine z7 ?_ | refine z6 ?_ | refine z2 ?_ | refine z1 ?_ | refine zc ?_ | refine zb ?_ | refine zf ?_ | refine zd ?_ | refine zw ?_ | refine zz ?_ | refine zaw ?_ | refine z8 ?_ | refine za ?_ | refine zl ?_ | refine zm ?_ | refine zt ?_ | refine zr ?_ | refine zg ?_ | refine zi ?_))
        exact ⟨⟨j + 1, true, p, v, R, o⟩, kB, sA, ⟨⟨hp, hO, hN⟩, by dsimp only; omega, by dsimp only; omega, hI⟩, by dsimp only; omega⟩
      by_cases s3 : c.toNat = 10
      · rw [show normF sp (c :: t.drop (j + 1)) = normF true (t.drop (j + 1)) by conv => lhs; unfold normF; rw [if_pos (by simp [isSp, s3])]] at hI
        (repeat' (first | refine z7 ?_ | refine z6 ?_ | refine z2 ?_ | refine z1 ?_ | refine zc ?_ | refine zb ?_ | refine zf ?_ | refine zd ?_ | refine zw ?_ | refine zz ?_ | refine zaw ?_ | refine z8 ?_ | refine za ?_ | refine zl ?_ | refine zm ?_ | refine zt ?_ | refine zr ?_ | refine zg ?_ | refine zi ?_))
        exact ⟨⟨j + 1, true, p, v, R, o⟩, kB, sA, ⟨⟨hp, hO, hN⟩, by dsimp only; omega, by dsimp only; omega, hI⟩, by dsimp only; omega⟩
      have hns : isSp c = false := by simp [isSp, s1, s2, s3]
      have hI2 : o ++ ((if sp = true then [32] else []) ++ lowB c :: normF false (t.drop (j + 1))) = W := by
        rw [← hI]
        congr 1
        conv => rhs; unfold normF
        rw [hns]
        cases sp <;> rfl
      by_cases up : 65 ≤ c.toNat ∧ c.toNat ≤ 90
      · have hlow := lowB_up up
        cases sp with
        | true =>
          (repeat' (first | refine z7 ?_ | refine z6 ?_ | refine z2 ?_ | refine z1 ?_ | refine zc ?_ | refine zb ?_ | refine zf ?_ | refine zd ?_ | refine z8 ?_ | refine za ?_ | refine zm ?_ | refine zr ?_ | refine zg ?_ | refine zi ?_))
          refine za1 (bldByte_tr b p v o R 32 hp hO (by omega)) (fun u K hR => ?_)
          obtain ⟨rfl, v2, R2, h2, rfl⟩ := hR
          (repeat' (first | refine Ops.pure _ (zei (a := c.toNat) (b := 32) (by rfl) (by rfl) rfl (by omega)) (by rfl) ?_ | refine z7 ?_ | refine z6 ?_ | refine z2 ?_ | refine z1 ?_ | refine zc ?_ | refine zb ?_ | refine zd ?_ | refine zh ?_ | refine z8 ?_ | refine za ?_ | refine zb8 ?_ | refine zab ?_ | refine zj ?_))
          rw [← hlow]
          refine za1 (bldByte_tr b (lp b) v2 (o ++ [32]) R2 (lowB c) (.inr rfl) h2 (by simp only [List.length_append, List.length_cons, List.length_nil]; omega)) (fun u K hR => ?_)
          obtain ⟨rfl, v3, R3, h3, rfl⟩ := hR
          (repeat' (first | refine z6 ?_ | refine z2 ?_ | refine z1 ?_ | refine zu ?_ | refine z8 ?_ | refine za ?_ | refine zl ?_))
          exact ⟨⟨j + 1, false, lp b, v3, R3, o ++ [32] ++ [lowB c]⟩, kB, sA, ⟨⟨.inr rfl, h3, .inr (by simp)⟩, by dsimp only; omega, by simp only [List.length_append, List.length_cons, List.length_nil]; omega, by dsimp only; rw [← hI2]; simp⟩, by dsimp only; omega⟩
        | false =>
          (repeat' (first | refine Ops.pure _ (zei (a := c.toNat) (b := 32) (by rfl) (by rfl) rfl (by omega)) (by rfl) ?_ | refine z7 ?_ | refine z6 ?_ | refine z2 ?_ | refine z1 ?_ | refine zc ?_ | refine zb ?_ | refine zf ?_ | refine zd ?_ | refine zh ?_ | refine z8 ?_ | refine za ?_ | refine zm ?_ | refine zb8 ?_ | refine zab ?_ | refine zr ?_ | refine zj ?_ | refine zg ?_ | refine zi ?_))
          rw [← hlow]
          refine za1 (bldByte_tr b p v o R (lowB c) hp hO (by omega)) (fun u K hR => ?_)
          obtain ⟨rfl, v3, R3, h3, rfl⟩ := hR
          (repeat' (first | refine z6 ?_ | refine z2 ?_ | refine z1 ?_ | refine zu ?_ | refine z8 ?_ | refine za ?_ | refine zl ?_))
          exact ⟨⟨j + 1, false, lp b, v3, R3, o ++ [lowB c]⟩, kB, sA, ⟨⟨.inr rfl, h3, .inr (by simp)⟩, by dsimp only; omega, by simp only [List.length_append, List.length_cons, List.length_nil]; omega, by dsimp only; rw [← hI2]; simp⟩, by dsimp only; omega⟩
      · have hlow : lowB c = c := by unfold lowB; rw [if_neg up]
        rw [hlow] at hI2
        cases sp with
        | true =>
          (repeat' (first | refine z7 ?_ | refine z6 ?_ | refine z2 ?_ | refine z1 ?_ | refine zc ?_ | refine zb ?_ | refine zf ?_ | refine zd ?_ | refine z8 ?_ | refine za ?_ | refine zm ?_ | refine zr ?_ | refine zg ?_ | refine zi ?_))
          refine za1 (bldByte_tr b p v o R 32 hp hO (by omega)) (fun u K hR => ?_)
          obtain ⟨rfl, v2, R2, h2, rfl⟩ := hR
          by_cases ge : 65 ≤ c.toNat
          · (repeat' (first | refine z7 ?_ | refine z6 ?_ | refine z2 ?_ | refine z1 ?_ | refine zb ?_ | refine zd ?_ | refine zh ?_ | refine z8 ?_ | refine za ?_ | refine zb8 ?_ | refine zbt ?_ | refine zab ?_ | refine zj ?_))
            refine za1 (bldByte_tr b (lp b) v2 (o ++ [32]) R2 c (.inr rfl) h2 (by simp only [List.length_append, List.length_cons, List.length_nil]; omega)) (fun u K hR => ?_)
            obtain ⟨rfl, v3, R3, h3, rfl⟩ := hR
            (repeat' (first | refine z6 ?_ | refine z2 ?_ | refine z1 ?_ | refine zu ?_ | refine z8 ?_ | refine za ?_ | refine zl ?_))
            exact ⟨⟨j + 1, false, lp b, v3, R3, o ++ [32] ++ [c]⟩, kB, sA, ⟨⟨.inr rfl, h3, .inr (by simp)⟩, by dsimp only; omega, by simp only [List.length_append, List.length_cons, List.length_nil]; omega, by dsimp only; rw [← hI2]; simp⟩, by dsimp only; omega⟩
          · (repeat' (first | refine z7 ?_ | refine z6 ?_ | refine z2 ?_ | refine z1 ?_ | refine zb ?_ | refine zd ?_ | refine za2 ?_ | refine z8 ?_ | refine za ?_ | refine zbt ?_ | refine zab ?_ | refine zk ?_))
            refine za1 (bldByte_tr b (lp b) v2 (o ++ [32]) R2 c (.inr rfl) h2 (by simp only [List.length_append, List.length_cons, List.length_nil]; omega)) (fun u K hR => ?_)
            obtain ⟨rfl, v3, R3, h3, rfl⟩ := hR
            (repeat' (first | refine z6 ?_ | refine z2 ?_ | refine z1 ?_ | refine zu ?_ | refine z8 ?_ | refine za ?_ | refine zl ?_))
            exact ⟨⟨j + 1, false, lp b, v3, R3, o ++ [32] ++ [c]⟩, kB, sA, ⟨⟨.inr rfl, h3, .inr (by simp)⟩, by dsimp only; omega, by simp only [List.length_append, List.length_cons, List.length_nil]; omega, by dsimp only; rw [← hI2]; simp⟩, by dsimp only; omega⟩
        | false =>
          by_cases ge : 65 ≤ c.toNat
          · (repeat' (first | refine z7 ?_ | refine z6 ?_ | refine z2 ?_ | refine z1 ?_ | refine zc ?_ | refine zb ?_ | refine zf ?_ | refine zd ?_ | refine zh ?_ | refine z8 ?_ | refine za ?_ | refine zm ?_ | refine zb8 ?_ | refine zbt ?_ | refine zab ?_ | refine zr ?_ | refine zj ?_ | refine zg ?_ | refine zi ?_))
            refine za1 (bldByte_tr b p v o R c hp hO (by omega)) (fun u K hR => ?_)
            obtain ⟨rfl, v3, R3, h3, rfl⟩ := hR
            (repeat' (first | refine z6 ?_ | refine z2 ?_ | refine z1 ?_ | refine zu ?_ | refine z8 ?_ | refine za ?_ | refine zl ?_))
            exact ⟨⟨j + 1, false, lp b, v3, R3, o ++ [c]⟩, kB, sA, ⟨⟨.inr rfl, h3, .inr (by simp)⟩, by dsimp only; omega, by simp only [List.length_append, List.length_cons, List.length_nil]; omega, by dsimp only; rw [← hI2]; simp⟩, by dsimp only; omega⟩
          · (repeat' (first | refine z7 ?_ | refine z6 ?_ | refine z2 ?_ | refine z1 ?_ | refine zc ?_ | refine zb ?_ | refine zf ?_ | refine zd ?_ | refine za2 ?_ | refine z8 ?_ | refine za ?_ | refine zm ?_ | refine zbt ?_ | refine zab ?_ | refine zr ?_ | refine zk ?_ | refine zg ?_ | refine zi ?_))
            refine za1 (bldByte_tr b p v o R c hp hO (by omega)) (fun u K hR => ?_)
            obtain ⟨rfl, v3, R3, h3, rfl⟩ := hR
            (repeat' (first | refine z6 ?_ | refine z2 ?_ | refine z1 ?_ | refine zu ?_ | refine z8 ?_ | refine za ?_ | refine zl ?_))
            exact ⟨⟨j + 1, false, lp b, v3, R3, o ++ [c]⟩, kB, sA, ⟨⟨.inr rfl, h3, .inr (by simp)⟩, by dsimp only; omega, by simp only [List.length_append, List.length_cons, List.length_nil]; omega, by dsimp only; rw [← hI2]; simp⟩, by dsimp only; omega⟩
    · have : j = t.length := by omega
      subst this
      rw [List.drop_eq_nil_of_le (Nat.le_refl _)] at hI
      have hI3 : o = W := by rw [← hI]; cases sp <;> simp [normF]
      (repeat' (first | refine z7 ?_ | refine z6 ?_ | refine z2 ?_ | refine z1 ?_ | refine zb ?_ | refine zw ?_ | refine zy ?_ | refine zz ?_ | refine z8 ?_ | refine za4 ?_ | refine zg ?_))
      exact ⟨⟨t.length, p, v, R, o⟩, kA, sA, ⟨hp, hO, hN⟩, by dsimp only; omega, hI3⟩
  · intro x ⟨⟨hp, hO, hN⟩, ho, hn⟩
    obtain ⟨j, p, v, R, o⟩ := x
    dsimp only at hp hO hN ho hn ⊢
    subst hn
    rcases hN with ⟨rfl, rfl, rfl⟩ | hne
    · (repeat' (first | refine z7 ?_ | refine z6 ?_))
      refine za1 (bldString_nil b p) (fun u K hR => ?_)
      obtain ⟨rfl, rfl⟩ := hR
      (repeat' (first | refine z7 ?_ | refine z6 ?_ | refine z2 ?_ | refine z1 ?_ | refine ze ?_ | refine z8 ?_ | refine za ?_))
      exact e_ret _ ⟨rfl, rfl⟩ sA
    · (repeat' (first | refine z7 ?_ | refine z6 ?_))
      refine za1 (bldString_tr b p v o R hO hne (by omega)) (fun u K hR => ?_)
      obtain ⟨rfl, rfl⟩ := hR
      (repeat' (first | refine z7 ?_ | refine z6 ?_ | refine z2 ?_ | refine z1 ?_ | refine ze ?_ | refine z8 ?_ | refine za ?_))
      exact e_ret _ ⟨rfl, rfl⟩ sA
end Go.Proofs

namespace Go.Proofs
open Go Go.Eng
set_option maxRecDepth 20000
set_option maxHeartbeats 2000000

instance mapLinks : UMapS Tryz.prog 67 107 (.pointer none) := by
  exact ⟨9, Tryz.t107, Tryz.underlying67, Tryz.underlying9, by kernel_rfl, rfl⟩
/-- A link of a definition: where it lies, and what it holds. -/
structure LR where
  q : Nat
  inner : Value
  url : List UInt8
  title : List UInt8
  tc : Nat
  cn : Bool
abbrev LR.row (x : LR) : Nat × Obj := (x.q, cellsOf [x.inner, str x.url, str x.title, .int .u8 (x.tc : Nat), .bool x.cn] 110)
abbrev LTab := List (List UInt8 × LR)
def tfind (k : List UInt8) : LTab → Option LR
  | [] => none
  | x :: r => if k = x.1 then some x.2 else tfind k r
/-- The table of the links that are defined, and its memory. -/
structure LinksR (v : Value) (tb : LTab) (LB : Blk) : Prop where
  at_ : ∀ H, MapAt (LB :: H) v (tb.map fun x => (x.1, lp x.2.q))
  row : ∀ x ∈ tb, x.2.row ∈ LB
theorem mfind_tfind (k : List UInt8) : ∀ tb : LTab, mfind k (tb.map fun x => (x.1, lp x.2.q)) = (tfind k tb).map fun x => lp x.q
  | [] => rfl
  | x :: r => by
    simp only [List.map_cons, mfind, tfind]
    split
    · rfl
    · exact mfind_tfind k r
theorem tfind_mem {k : List UInt8} {x : LR} : ∀ {tb : LTab}, tfind k tb = some x → ∃ l, (l, x) ∈ tb
  | [], h => by cases h
  | y :: r, h => by
    unfold tfind at h
    split at h
    · cases h; exact ⟨y.1, by simp⟩
    · obtain ⟨l, hl⟩ := tfind_mem h
      exact ⟨l, by simp [hl]⟩

/-- A link's destination, title, closing sign of the title, and its corner. -/
structure LDat where
  url : List UInt8
  title : List UInt8
  tc : Nat
  cn : Bool
def closeAt (s : List UInt8) (x : Nat) (d : LDat) : Option (LDat × Nat) := if s[x]? = some 41 then some (d, x + 1) else none
def inlineLinkM (tab : Nat → List UInt8) (s : List UInt8) (i : Nat) : Option (LDat × Nat) :=
  let a := scan isSp s (i + 2)
  if a < s.length ∧ s[a]? ≠ some 41 then (match linkDestM tab s a with
    | none => none
    | some (dest, b) =>
      let c := scan isSp s b
      if c < s.length ∧ s[c]? ≠ some 41 then (match titleM tab s c with
        | none => none
        | some (t, w, d) => closeAt s (scan isSp s d) ⟨dest, t, w, decide (t = [])⟩) else closeAt s c ⟨dest, [], 0, false⟩)
  else closeAt s a ⟨[], [], 0, false⟩
def shortM (tb : LTab) (s : List UInt8) (i o : Nat) : Option (LDat × Nat) := match tfind (normM ((s.take i).drop o)) tb with
  | none => none
  | some x => some (⟨x.url, x.title, 0, x.cn⟩, if (s.drop (i + 1)).take 2 = [91, 93] then i + 3 else i + 1)
def linkCloseM (tab : Nat → List UInt8) (tb : LTab) (s : List UInt8) (i o : Nat) : Option (LDat × Nat) := match s[i + 1]? with
  | none => shortM tb s i o
  | some c => if c.toNat = 40 then (match inlineLinkM tab s i with
      | some r => some r
      | none => shortM tb s i o)
    else if c.toNat = 91 then (match labelM s (i + 1) with
      | none => shortM tb s i o
      | some (lab, j) => match tfind (normM lab) tb with
        | none => none
        | some x => some (⟨x.url, x.title, 0, x.cn⟩, j))
    else shortM tb s i o
def linkV (q : Nat) : Option (LDat × Nat) → Value
  | some (_, j) => .tuple #[lp q, inat j, .bool true]
  | none => .tuple #[.pointer none, inat 0, .bool false]
def linkK (q : Nat) : Option (LDat × Nat) → Heap
  | some (d, _) => [[(q, cellsOf [.slice none 0 0, str d.url, str d.title, .int .u8 (d.tc : Nat), .bool d.cn] 110)]]
  | none => []

theorem shortM_lt {tb : LTab} {s : List UInt8} {i o k : Nat} {d : LDat} (hi : i < s.length) (h : shortM tb s i o = some (d, k)) : i < k ∧ k ≤ s.length := by
  unfold shortM at h
  split at h
  · cases h
  · have h2 := congrArg Prod.snd (Option.some.inj h)
    dsimp only at h2
    by_cases hp : (s.drop (i + 1)).take 2 = [91, 93]
    · rw [if_pos hp] at h2
      have := congrArg List.length hp
      rw [List.length_take, List.length_drop] at this
      simp only [List.length_cons, List.length_nil] at this
      omega
    · rw [if_neg hp] at h2
      omega

theorem labelM_sub {s l : List UInt8} {i k : Nat} (h : labelM s i = some (l, k)) : (∀ c ∈ l, c ∈ s) ∧ l.length ≤ s.length := by
  unfold labelM at h
  split at h
  · cases ha : labF s (s.length + 1) (i + 1) with
    | none => rw [ha] at h; cases h
    | some j =>
      rw [ha] at h
      dsimp only [labelAt] at h
      by_cases q1 : 999 < j - (i + 1)
      · rw [if_pos q1] at h; cases h
      · rw [if_neg q1] at h
        by_cases hne : strim ((s.take j).drop (i + 1)) = []
        · rw [if_pos hne] at h; cases h
        · rw [if_neg hne] at h
          have h4 : strim ((s.take j).drop (i + 1)) = l := congrArg Prod.fst (Option.some.inj h)
          rw [← h4]
          refine ⟨fun c hc => List.mem_of_mem_take (List.mem_of_mem_drop (strim_mem hc)), ?_⟩
          have := strim_len ((s.take j).drop (i + 1))
          rw [List.length_drop, List.length_take] at this
          omega
  · cases h

theorem linkCloseG_tr (p T : Nat) (es : List Value) (hE : EntOK es) (st : PS) (s : List UInt8) (i q o : Nat) (t0 : List UInt8) (tb : LTab) (LB IB : Blk) (hl : s.length ≤ 100000) (hi : i < s.length) (ho : o ≤ i) (hA : Asc s) (hlk : LinksR st.links tb LB) (hq : (q, cellsOf [str t0, inat o] 169) ∈ IB) (cn : Bool) (hcn : st.corner = .bool cn) :
    Tr Tryz.prog 75 [lp p, str s, inat i, lp q] [st.blk p, ent T es, LB, IB] fun u K => ∃ q' cn', u = linkV q' (linkCloseM (tabOf es) tb s i o) ∧ K = [({ st with corner := .bool cn' } : PS).blk p, ent T es, LB, IB] ++ linkK q' (linkCloseM (tabOf es) tb s i o) := by
  obtain ⟨par, root, links, lineno, stack, depth, corner, sv, em, list, lists, texts, bt⟩ := st
  subst hcn
  dsimp only at hlk
  have hopen : ∀ H, HMem (IB :: H) q (cellsOf [str t0, inat o] 169) := fun H => HMem.of_chunk hq
  have hAs : ∀ (a b : Nat), Asc ((s.take b).drop a) := fun a b c hc => hA c (List.mem_of_mem_take (List.mem_of_mem_drop hc))
  have hsl : ∀ (a b : Nat), ((s.take b).drop a).length ≤ s.length := fun a b => by rw [List.length_drop, List.length_take]; omega
  have hW : ∃ W, linkCloseM (tabOf es) tb s i o = W := ⟨_, rfl⟩
  obtain ⟨W, hW⟩ := hW
  rw [hW]
  refine Tr.start (n := 184) (rs := [.tmp 8, .tmp 9, .tmp 10]) rfl rfl rfl rfl fun B => ?_
  ((repeat (refine z7 ?_)); refine z6 ?_; (repeat' (first | refine za ?_)); refine z2 ?_; refine z1 ?_)
  ((repeat (refine z7 ?_)); refine z6 ?_; (repeat' (first | refine z8 ?_ | refine zl ?_ | refine zdy ?_ | refine zg ?_)); refine z2 ?_; refine z1 ?_)
  (repeat (refine z7 ?_))
  refine zau (fun _ : Bool => [(0, lp p), (1, str s), (2, inat i), (3, lp q)]) (fun c => [(⟨par, root, links, lineno, stack, depth, .bool c, sv, em, list, lists, texts, bt⟩ : PS).blk p, ent T es, LB, IB]) (fun _ => W = shortM tb s i o) ?_ ?_
  · refine zcp (fun hg => ?_) (fun hg => ?_)
    · have hlt : i + 1 < s.length := by omega
      obtain ⟨c, hc⟩ := get_some hlt
      unfold linkCloseM at hW
      rw [hc] at hW
      dsimp only at hW
      by_cases h40 : c.toNat = 40
      · rw [if_pos h40] at hW
        unfold inlineLinkM at hW
        have hS := skipSpaceG_tr s (i + 2) (by omega) (by omega)
        have ha1 := scan_ge isSp s (i + 2)
        have ha2 := scan_le (p := isSp) (s := s) (i := i + 2) (by omega)
        generalize scan isSp s (i + 2) = a at hW hS ha1 ha2
        dsimp only at hW
        ((repeat (refine z7 ?_)); refine z6 ?_; (repeat' (first | refine z8 ?_ | refine zl ?_ | refine zi ?_)); refine z2 ?_; refine z1 ?_)
        refine zf ?_
        ((repeat (refine z7 ?_)); refine z6 ?_; (repeat' (first | refine za ?_ | refine zt ?_)); refine z2 ?_; refine z1 ?_)
        refine zc ?_
        ((repeat (refine z7 ?_)); refine z6 ?_; (repeat' (first | refine zo (hS) ?_ | refine z8 ?_ | refine za ?_ | refine zb3 ?_)); refine z2 ?_; refine z1 ?_)
        ((repeat (refine z7 ?_)); refine z6 ?_; (repeat' (first | refine za ?_)); refine z2 ?_; refine z1 ?_)
        ((repeat (refine z7 ?_)); refine z6 ?_; (repeat' (first | refine za ?_)); refine z2 ?_; refine z1 ?_)
        ((repeat (refine z7 ?_)); refine z6 ?_; (repeat' (first | refine za ?_)); refine z2 ?_; refine z1 ?_)
        (repeat (refine z7 ?_))
        refine zac [(0, lp p), (1, str s), (2, inat i), (3, lp q), (11, inat a), (12, str []), (13, str []), (14, .int .u8 0), (15, .bool false), (49, .bool (decide (a < s.length ∧ s[a]? ≠ some 41)))] [(⟨par, root, links, lineno, stack, depth, .bool cn, sv, em, list, lists, texts, bt⟩ : PS).blk p, ent T es, LB, IB] ?_ ?_
        · by_cases hal : a < s.length
          · obtain ⟨d, hd⟩ := get_some hal
            by_cases h41 : d.toNat = 41
            · rw [decide_eq_false (p := a < s.length ∧ s[a]? ≠ some 41) (by rintro ⟨_, h⟩; exact h (by rw [hd, show d = 41 from UInt8.toNat_inj.1 h41]))]
              (repeat' (first | refine z6 ?_ | refine z2 ?_ | refine z1 ?_ | refine zh ?_ | refine z8 ?_ | refine zm ?_ | refine zb0 ?_ | refine zj ?_ | refine zg ?_ | refine zi ?_))
              exact ⟨kA, sA⟩
            · rw [decide_eq_true (p := a < s.length ∧ s[a]? ≠ some 41) ⟨hal, by rw [hd]; intro h; cases h; exact h41 rfl⟩]
              (repeat' (first | refine z6 ?_ | refine z2 ?_ | refine z1 ?_ | refine zh ?_ | refine z8 ?_ | refine zm ?_ | refine zb2 ?_ | refine zj ?_ | refine zg ?_ | refine zi ?_))
              exact ⟨kA, sA⟩
          · rw [decide_eq_false (p := a < s.length ∧ s[a]? ≠ some 41) (by rintro ⟨h, _⟩; exact hal h)]
            (repeat' (first | refine z6 ?_ | refine z2 ?_ | refine z1 ?_ | refine za2 ?_ | refine z8 ?_ | refine za4 ?_ | refine zk ?_ | refine zg ?_))
            exact ⟨kA, sA⟩
        (repeat (refine z7 ?_))
        refine zau (α := Nat × LDat) (fun x => [(0, lp p), (1, str s), (2, inat i), (3, lp q), (11, inat x.1), (12, str x.2.url), (13, str x.2.title), (14, .int .u8 (x.2.tc : Nat)), (15, .bool x.2.cn)]) (fun _ => [(⟨par, root, links, lineno, stack, depth, .bool cn, sv, em, list, lists, texts, bt⟩ : PS).blk p, ent T es, LB, IB]) (fun x => (match closeAt s x.1 x.2 with
          | some r => some r
          | none => shortM tb s i o) = W ∧ x.1 ≤ s.length) ?_ ?_
        · by_cases hcond : a < s.length ∧ s[a]? ≠ some 41
          · rw [decide_eq_true hcond]
            rw [if_pos hcond] at hW
            (repeat' (first | refine z7 ?_ | refine z6 ?_ | refine z2 ?_ | refine z1 ?_ | refine zc ?_ | refine z8 ?_ | refine za ?_))
            refine za1 (linkDestG_tr T es hE s a (by omega) (by omega)) (fun u K hR => ?_)
            obtain ⟨rfl, rfl⟩ := hR
            cases hdst : linkDestM (tabOf es) s a with
            | none =>
              rw [hdst] at hW
              dsimp only [destV] at hW ⊢
              (repeat' (first | refine z7 ?_ | refine z6 ?_ | refine z2 ?_ | refine z1 ?_ | refine zc ?_ | refine zw ?_ | refine zy ?_ | refine zz ?_ | refine z8 ?_ | refine za ?_ | refine za0 ?_ | refine zam ?_))
              exact ⟨cn, kA, sA, hW.symm⟩
            | some db =>
              obtain ⟨dest, b⟩ := db
              rw [hdst] at hW
              dsimp only [destV] at hW ⊢
              have hb := linkDestM_le hdst
              have hS2 := skipSpaceG_tr s b (by omega) (by omega)
              have hc1 := scan_ge isSp s b
              have hc2 := scan_le (p := isSp) (s := s) (i := b) (by omega)
              generalize scan isSp s b = c' at hW hS2 hc1 hc2
              by_cases hcl : c' < s.length
              · obtain ⟨d, hd⟩ := get_some hcl
                by_cases h41 : d.toNat = 41
                · rw [if_neg (by rintro ⟨_, h⟩; exact h (by rw [hd, show d = 41 from UInt8.toNat_inj.1 h41]))] at hW
                  (repeat' (first | refine zo (hS2) ?_ | refine z7 ?_ | refine z6 ?_ | refine z2 ?_ | refine z1 ?_ | refine zb ?_ | refine zd ?_ | refine zh ?_ | refine z8 ?_ | refine za ?_ | refine zm ?_ | refine zb0 ?_ | refine zj ?_ | refine zg ?_ | refine zi ?_ | refine za0 ?_ | refine zaq ?_))
                  exact ⟨(c', ⟨dest, [], 0, false⟩), kA, sA, hW, hc2⟩
                · rw [if_pos ⟨hcl, by rw [hd]; intro h; cases h; exact h41 rfl⟩] at hW
                  (repeat' (first | refine zo (hS2) ?_ | refine z7 ?_ | refine z6 ?_ | refine z2 ?_ | refine z1 ?_ | refine zc ?_ | refine zb ?_ | refine zd ?_ | refine zh ?_ | refine z8 ?_ | refine za ?_ | refine zm ?_ | refine zb2 ?_ | refine zj ?_ | refine zg ?_ | refine zi ?_ | refine za0 ?_ | refine zaq ?_))
                  refine za1 (titleG_tr T es hE s c' (by omega) (by omega)) (fun u K hR => ?_)
                  obtain ⟨rfl, rfl⟩ := hR
                  cases htt : titleM (tabOf es) s c' with
                  | none =>
                    rw [htt] at hW
                    dsimp only [titleV] at hW ⊢
                    (repeat' (first | refine z7 ?_ | refine z6 ?_ | refine z2 ?_ | refine z1 ?_ | refine zc ?_ | refine zw ?_ | refine zy ?_ | refine zz ?_ | refine z8 ?_ | refine za ?_ | refine za0 ?_ | refine zc8 ?_ | refine zam ?_))
                    exact ⟨cn, kA, sA, hW.symm⟩
                  | some tw =>
                    obtain ⟨tt, w, d2⟩ := tw
                    rw [htt] at hW
                    dsimp only [titleV] at hW ⊢
                    have hd2 := titleM_lt htt
                    have hS3 := skipSpaceG_tr s d2 (by omega) (by omega)
                    have he2 := scan_le (p := isSp) (s := s) (i := d2) (by omega)
                    generalize scan isSp s d2 = e2 at hW hS3 he2
                    by_cases htn : tt = []
                    · rw [decide_eq_true htn] at hW
                      (repeat' (first | refine zo (hS3) ?_ | refine z7 ?_ | refine z6 ?_ | refine z2 ?_ | refine z1 ?_ | refine zc ?_ | refine zb ?_ | refine zd ?_ | refine z8 ?_ | refine za ?_ | refine za0 ?_ | refine zc8 ?_ | refine zaq ?_))
                      exact ⟨(e2, ⟨dest, tt, w, true⟩), kA, sA, hW, he2⟩
                    · rw [decide_eq_false htn] at hW
                      (repeat' (first | refine zo (hS3) ?_ | refine z7 ?_ | refine z6 ?_ | refine z2 ?_ | refine z1 ?_ | refine zb ?_ | refine zd ?_ | refine z8 ?_ | refine za ?_ | refine za0 ?_ | refine zce ?_ | refine zaq ?_))
                      exact ⟨(e2, ⟨dest, tt, w, false⟩), kA, sA, hW, he2⟩
              · rw [if_neg (by rintro ⟨h, _⟩; exact hcl h)] at hW
                (repeat' (first | refine zo (hS2) ?_ | refine z7 ?_ | refine z6 ?_ | refine z2 ?_ | refine z1 ?_ | refine zb ?_ | refine zd ?_ | refine za2 ?_ | refine z8 ?_ | refine za ?_ | refine za4 ?_ | refine zk ?_ | refine zg ?_ | refine za0 ?_ | refine zaq ?_))
                exact ⟨(c', ⟨dest, [], 0, false⟩), kA, sA, hW, hc2⟩
          · rw [decide_eq_false hcond]
            rw [if_neg hcond] at hW
            (repeat' (first | refine z1 ?_ | refine zb ?_ | refine zd ?_))
            exact ⟨(a, ⟨[], [], 0, false⟩), kA, sA, hW, ha2⟩
        · rintro ⟨x, d⟩ ⟨hx, hxl⟩
          obtain ⟨url, title, tc, cr⟩ := d
          dsimp only at hx hxl ⊢
          unfold closeAt at hx
          by_cases hxs : x < s.length
          · obtain ⟨e, he⟩ := get_some hxs
            by_cases h41 : e.toNat = 41
            · rw [he, show e = 41 from UInt8.toNat_inj.1 h41, if_pos rfl] at hx
              dsimp only at hx
              rw [← hx]
              (repeat' (first | refine z7 ?_ | refine z6 ?_ | refine z2 ?_ | refine z1 ?_ | refine zc ?_ | refine ze ?_ | refine zx ?_ | refine zag ?_ | refine zh ?_ | refine z8 ?_ | refine za ?_ | refine zl ?_ | refine zm ?_ | refine zt ?_ | refine zj ?_ | refine zg ?_ | refine zi ?_ | refine zao ?_ | refine zaf (fun _ => ?_)))
              rename_i q'
              exact e_ret _ ⟨q', cn, rfl, rfl⟩ sA
            · rw [if_neg (by rw [he]; intro h; cases h; exact h41 rfl)] at hx
              dsimp only at hx
              (repeat' (first | refine z7 ?_ | refine z6 ?_ | refine z2 ?_ | refine z1 ?_ | refine zb ?_ | refine zd ?_ | refine zu ?_ | refine zh ?_ | refine z8 ?_ | refine zm ?_ | refine zr ?_ | refine zj ?_ | refine zg ?_ | refine zi ?_))
              exact ⟨cn, kA, sA, hx.symm⟩
          · rw [if_neg (by rw [List.getElem?_eq_none (by omega)]; simp)] at hx
            dsimp only at hx
            (repeat' (first | refine z7 ?_ | refine z6 ?_ | refine z2 ?_ | refine z1 ?_ | refine zb ?_ | refine zd ?_ | refine zu ?_ | refine za2 ?_ | refine z8 ?_ | refine za4 ?_ | refine zk ?_ | refine zg ?_))
            exact ⟨cn, kA, sA, hx.symm⟩
      · rw [if_neg h40] at hW
        by_cases h91 : c.toNat = 91
        · rw [if_pos h91] at hW
          have hL := labelG_tr p (⟨par, root, links, lineno, stack, depth, .bool cn, sv, em, list, lists, texts, bt⟩ : PS) s (i + 1) (by omega) (by omega) cn rfl
          (repeat' (first | refine z7 ?_ | refine z6 ?_ | refine z2 ?_ | refine z1 ?_ | refine zc ?_ | refine zb ?_ | refine zf ?_ | refine z8 ?_ | refine za ?_ | refine zl ?_ | refine zt ?_ | refine zr ?_ | refine zi ?_))
          refine za1 hL (fun u K hR => ?_)
          obtain ⟨cn', rfl, rfl⟩ := hR
          cases hlab : labelM s (i + 1) with
          | none =>
            rw [hlab] at hW
            dsimp only [destV] at hW ⊢
            (repeat' (first | refine z7 ?_ | refine z6 ?_ | refine z2 ?_ | refine z1 ?_ | refine zc ?_ | refine zw ?_ | refine zy ?_ | refine zz ?_ | refine z8 ?_ | refine za ?_ | refine za0 ?_ | refine zam ?_))
            exact ⟨cn', kA, sA, hW.symm⟩
          | some lj =>
            obtain ⟨lab, j⟩ := lj
            rw [hlab] at hW
            dsimp only [destV] at hW ⊢
            have hlb := labelM_lt hlab
            obtain ⟨hls1, hls2⟩ := labelM_sub hlab
            have hN := normG_tr lab (by omega) (fun c hc => hA c (hls1 c hc))
            (repeat' (first | refine z7 ?_ | refine z6 ?_ | refine z2 ?_ | refine z1 ?_ | refine zb ?_ | refine zd ?_ | refine z8 ?_ | refine za ?_ | refine za0 ?_ | refine zaq ?_))
            refine Wp.draw_held (id := 24) [LB, (⟨par, root, links, lineno, stack, depth, .bool cn', sv, em, list, lists, texts, bt⟩ : PS).blk p] 12 Mixed.out sA rfl ?_
            refine hF 0 ?_
            refine hF 1 ?_
            refine hF 2 ?_
            refine hF 3 ?_
            refine hF 4 ?_
            refine hO 5 ?_
            (repeat' (first | refine zo (hN) ?_ | refine z2 ?_ | refine z1 ?_))
            refine ⟨sA, ?_⟩
            refine hG 6 _ rfl (zea rfl rfl (hlk.at_ _)) ?_
            refine hF 7 ?_
            refine hF 8 ?_
            refine hF 9 ?_
            refine hF 10 ?_
            refine hF 11 ?_
            refine OpsH.nil (by kernel_rfl) ?_
            rw [mfind_tfind]
            cases hf : tfind (normM lab) tb with
            | none =>
              rw [hf] at hW
              dsimp only at hW
              rw [← hW]
              dsimp only [Option.map, Option.getD, Option.isSome]
              (repeat' (first | refine z7 ?_ | refine z6 ?_ | refine z2 ?_ | refine z1 ?_ | refine zb ?_ | refine zd ?_ | refine ze ?_ | refine zx ?_ | refine zag ?_ | refine z8 ?_ | refine za ?_))
              exact e_ret _ ⟨0, cn', rfl, rfl⟩ sA
            | some x =>
              rw [hf] at hW
              dsimp only at hW
              rw [← hW]
              obtain ⟨l, hm⟩ := tfind_mem hf
              have hrow : ∀ H, HMem (LB :: H) x.q (cellsOf [x.inner, str x.url, str x.title, .int .u8 (x.tc : Nat), .bool x.cn] 110) := fun H => HMem.of_chunk (hlk.row _ hm)
              dsimp only [Option.map, Option.getD, Option.isSome]
              (repeat' (first | refine z7 ?_ | refine z6 ?_ | refine z2 ?_ | refine z1 ?_ | refine zc ?_ | refine z8 ?_))
              refine Wp.draw_held (id := 26) [LB] 18 Mixed.out sA rfl ?_
              refine hF 0 ?_
              refine hF 1 ?_
              refine hF 2 ?_
              refine hG 3 _ rfl (zar rfl (hrow _) rfl) ?_
              refine hF 4 ?_
              refine hF 5 ?_
              refine hF 6 ?_
              refine hG 7 _ rfl (zar rfl (hrow _) rfl) ?_
              refine hF 8 ?_
              refine hF 9 ?_
              refine hF 10 ?_
              refine hG 11 _ rfl (zar rfl (hrow _) rfl) ?_
              refine hF 12 ?_
              refine hF 14 ?_
              refine hO 13 ?_
              (repeat' (first | refine z2 ?_ | refine z1 ?_ | refine zaf (fun _ => ?_)))
              rename_i q'
              refine ⟨sA, ?_⟩
              refine hF 15 ?_
              refine hF 16 ?_
              refine hF 17 ?_
              refine OpsH.nil (by kernel_rfl) ?_
              (repeat' (first | refine ze ?_ | refine zx ?_ | refine zag ?_))
              exact e_ret _ ⟨q', cn', rfl, rfl⟩ sA
        · rw [if_neg h91] at hW
          (repeat' (first | refine z7 ?_ | refine z6 ?_ | refine z2 ?_ | refine z1 ?_ | refine zb ?_ | refine zf ?_ | refine zd ?_ | refine zu ?_ | refine z8 ?_ | refine za ?_ | refine zl ?_ | refine zr ?_ | refine zi ?_))
          exact ⟨cn, kA, sA, hW.symm⟩
    · have hlt : ¬ i + 1 < s.length := by omega
      unfold linkCloseM at hW
      rw [List.getElem?_eq_none (by omega)] at hW
      (repeat' (first | refine z1 ?_ | refine zd ?_))
      exact ⟨cn, kA, sA, hW.symm⟩
  · rintro c2 hs
    have hN := normG_tr ((s.take i).drop o) (by have := hsl o i; omega) (hAs o i)
    unfold shortM at hs
    ((repeat (refine z7 ?_)); refine z6 ?_; (repeat' (first | refine z8 ?_ | refine za ?_ | refine zl ?_)); refine z2 ?_; refine z1 ?_)
    have hPx := hasPrefixG_tr (s.drop (i + 1)) [91, 93] (by rw [List.length_drop]; omega) (by decide)
    simp only [List.length_cons, List.length_nil, Nat.zero_add, Nat.reduceAdd] at hPx
    ((repeat (refine z7 ?_)); refine z6 ?_; (repeat' (first | refine zo (hPx) ?_ | refine z8 ?_ | refine zba ?_)); refine z2 ?_; refine z1 ?_)
    (repeat (refine z7 ?_))
    refine zac [(0, lp p), (1, str s), (2, inat i), (3, lp q), (22, inat (if (s.drop (i + 1)).take 2 = [91, 93] then i + 3 else i + 1))] [(⟨par, root, links, lineno, stack, depth, .bool c2, sv, em, list, lists, texts, bt⟩ : PS).blk p, ent T es, LB, IB] ?_ ?_
    · by_cases hp : (s.drop (i + 1)).take 2 = [91, 93]
      · rw [if_pos hp, decide_eq_true hp]
        (repeat' (first | refine z6 ?_ | refine z2 ?_ | refine z1 ?_ | refine zc ?_ | refine z8 ?_ | refine za ?_ | refine zb3 ?_))
        exact ⟨kA, sA⟩
      · rw [if_neg hp, decide_eq_false hp]
        (repeat' (first | refine z1 ?_ | refine zb ?_ | refine zd ?_))
        exact ⟨kA, sA⟩
    · generalize (if (s.drop (i + 1)).take 2 = [91, 93] then i + 3 else i + 1) = e at hs
      (repeat (refine z7 ?_))
      refine zac [(0, lp p), (1, str s), (2, inat i), (3, lp q), (22, inat e), (23, ((mfind (normM ((s.take i).drop o)) (tb.map fun x => (x.1, lp x.2.q))).getD (.pointer none))), (24, .bool (mfind (normM ((s.take i).drop o)) (tb.map fun x => (x.1, lp x.2.q))).isSome)] [(⟨par, root, links, lineno, stack, depth, .bool c2, sv, em, list, lists, texts, bt⟩ : PS).blk p, ent T es, LB, IB] ?_ ?_
      · refine Wp.draw_held (id := 31) [LB, IB, (⟨par, root, links, lineno, stack, depth, .bool c2, sv, em, list, lists, texts, bt⟩ : PS).blk p] 18 Mixed.out sA rfl ?_
        refine hF 0 ?_
        refine hF 1 ?_
        refine hF 2 ?_
        refine hF 3 ?_
        refine hF 4 ?_
        refine hF 5 ?_
        refine hF 6 ?_
        refine hF 7 ?_
        refine hG 8 _ rfl (zar rfl (HMem.there (hopen _)) rfl) ?_
        refine hF 9 ?_
        refine hG 10 _ rfl (zbb (a := o) (b := i) rfl rfl rfl (by omega) (by omega)) ?_
        refine hO 11 ?_
        (repeat' (first | refine zo (hN) ?_ | refine z2 ?_ | refine z1 ?_))
        refine ⟨sA, ?_⟩
        refine hG 12 _ rfl (zea rfl rfl (hlk.at_ _)) ?_
        refine hF 13 ?_
        refine hF 14 ?_
        refine hF 15 ?_
        refine hF 16 ?_
        refine hF 17 ?_
        refine OpsH.nil (by kernel_rfl) ?_
        exact ⟨kA, sA⟩
      · rw [mfind_tfind]
        cases hf : tfind (normM ((s.take i).drop o)) tb with
        | none =>
          rw [hf] at hs
          dsimp only at hs
          rw [hs]
          dsimp only [Option.map, Option.getD, Option.isSome]
          (repeat' (first | refine z7 ?_ | refine z6 ?_ | refine z2 ?_ | refine z1 ?_ | refine zb ?_ | refine zd ?_ | refine ze ?_ | refine z8 ?_ | refine za ?_))
          exact e_ret _ ⟨0, c2, rfl, rfl⟩ sA
        | some x =>
          rw [hf] at hs
          dsimp only at hs
          rw [hs]
          obtain ⟨l, hm⟩ := tfind_mem hf
          have hrow : ∀ H, HMem (LB :: H) x.q (cellsOf [x.inner, str x.url, str x.title, .int .u8 (x.tc : Nat), .bool x.cn] 110) := fun H => HMem.of_chunk (hlk.row _ hm)
          dsimp only [Option.map, Option.getD, Option.isSome]
          (repeat' (first | refine z7 ?_ | refine z6 ?_ | refine z2 ?_ | refine z1 ?_ | refine zc ?_ | refine z8 ?_))
          refine Wp.draw_held (id := 33) [LB] 18 Mixed.out sA rfl ?_
          refine hF 0 ?_
          refine hF 1 ?_
          refine hF 2 ?_
          refine hG 3 _ rfl (zar rfl (hrow _) rfl) ?_
          refine hF 4 ?_
          refine hF 5 ?_
          refine hF 6 ?_
          refine hG 7 _ rfl (zar rfl (hrow _) rfl) ?_
          refine hF 8 ?_
          refine hF 9 ?_
          refine hF 10 ?_
          refine hG 11 _ rfl (zar rfl (hrow _) rfl) ?_
          refine hF 12 ?_
          refine hF 14 ?_
          refine hO 13 ?_
          (repeat' (first | refine z2 ?_ | refine z1 ?_ | refine zaf (fun _ => ?_)))
          rename_i q'
          refine ⟨sA, ?_⟩
          refine hF 15 ?_
          refine hF 16 ?_
          refine hF 17 ?_
          refine OpsH.nil (by kernel_rfl) ?_
          (repeat' (first | refine ze ?_ | refine zx ?_))
          exact e_ret _ ⟨q', c2, rfl, rfl⟩ sA
end Go.Proofs

namespace Go.Proofs
open Go Go.Eng
set_option maxRecDepth 20000
set_option maxHeartbeats 1000000

/-- Inlines. -/
inductive In where
  | plain (t : List UInt8)
  | esc (t : List UInt8)
  | soft
  | hard
  | code (t : List UInt8)
  | auto (t u : List UInt8)
  | tag (t : List UInt8)
  | op (t : List UInt8) (i : Nat)
  | em (t : List UInt8) (o c : Bool) (n : Nat)
  | emph (m : List UInt8) (l : List In)
  | strong (m : List UInt8) (l : List In)
  | del (m : List UInt8) (l : List In)
  | link (d : LDat) (l : List In)
  | image (d : LDat) (l : List In)

mutual
/-- An inline in memory: its value, and the cells that it points to. -/
inductive InR : In → Value → Blk → Prop
  | plain {t : List UInt8} {q T : Nat} {r : List Value} : InR (.plain t) (.iface 161 (lp q)) [(q, cellsOf (str t :: r) T)]
  | esc {t : List UInt8} {q : Nat} : InR (.esc t) (.iface 157 (lp q)) [(q, cellsOf [str t] 160)]
  | soft {q : Nat} : InR .soft (.iface 130 (lp q)) [(q, cellsOf [] 131)]
  | hard {q : Nat} : InR .hard (.iface 132 (lp q)) [(q, cellsOf [] 133)]
  | code {t : List UInt8} {q : Nat} : InR (.code t) (.iface 134 (lp q)) [(q, cellsOf [str t] 136)]
  | auto {t u : List UInt8} {q : Nat} : InR (.auto t u) (.iface 144 (lp q)) [(q, cellsOf [str t, str u] 146)]
  | tag {t : List UInt8} {q : Nat} : InR (.tag t) (.iface 149 (lp q)) [(q, cellsOf [str t] 150)]
  | op {t : List UInt8} {i q : Nat} : InR (.op t i) (.iface 166 (lp q)) [(q, cellsOf [str t, inat i] 169)]
  | em {t : List UInt8} {o c : Bool} {n i q : Nat} : InR (.em t o c n) (.iface 202 (lp q)) [(q, cellsOf [str t, .bool o, .bool c, inat i, inat n] 204)]
  | emph {m : List UInt8} {l : List In} {q : Nat} {sv : Value} {vals : List Value} {LB IB : Blk} (hL : Own 89 1 sv vals.length vals LB) (hI : InsR l vals IB) :
    InR (.emph m l) (.iface 137 (lp q)) ((q, cellsOf [str m, sv] 139) :: (LB ++ IB))
  | strong {m : List UInt8} {l : List In} {q : Nat} {sv : Value} {vals : List Value} {LB IB : Blk} (hL : Own 89 1 sv vals.length vals LB) (hI : InsR l vals IB) :
    InR (.strong m l) (.iface 140 (lp q)) ((q, cellsOf [str m, sv] 139) :: (LB ++ IB))
  | del {m : List UInt8} {l : List In} {q : Nat} {sv : Value} {vals : List Value} {LB IB : Blk} (hL : Own 89 1 sv vals.length vals LB) (hI : InsR l vals IB) :
    InR (.del m l) (.iface 142 (lp q)) ((q, cellsOf [str m, sv] 139) :: (LB ++ IB))
  | link {d : LDat} {l : List In} {q : Nat} {sv : Value} {vals : List Value} {LB IB : Blk} (hL : Own 89 1 sv vals.length vals LB) (hI : InsR l vals IB) :
    InR (.link d l) (.iface 107 (lp q)) ((q, cellsOf [sv, str d.url, str d.title, .int .u8 (d.tc : Nat), .bool d.cn] 110) :: (LB ++ IB))
  | image {d : LDat} {l : List In} {q : Nat} {sv : Value} {vals : List Value} {LB IB : Blk} (hL : Own 89 1 sv vals.length vals LB) (hI : InsR l vals IB) :
    InR (.image d l) (.iface 147 (lp q)) ((q, cellsOf [sv, str d.url, str d.title, .int .u8 (d.tc : Nat), .bool d.cn] 110) :: (LB ++ IB))
inductive InsR : List In → List Value → Blk → Prop
  | nil : InsR [] [] []
  | cons {x : In} {l : List In} {v : Value} {vs : List Value} {G K : Blk} (h : InR x v G) (hs : InsR l vs K) : InsR (x :: l) (v :: vs) (G ++ K)
end

theorem InsR.length {l : List In} {vs : List Value} {K : Blk} (h : InsR l vs K) : vs.length = l.length := by
  induction l generalizing vs K with
  | nil => cases h; rfl
  | cons x l ih =>
    cases h with
    | cons h hs => simp [ih hs]
theorem InsR.snoc : ∀ {l : List In} {vs : List Value} {K G : Blk} {x : In} {v : Value}, InsR l vs K → InR x v G → InsR (l ++ [x]) (vs ++ [v]) (K ++ G)
  | [], _, _, G, x, v, h, hx => by
    cases h
    have := InsR.cons hx InsR.nil
    simpa using this
  | y :: l, _, _, G, x, v, h, hx => by
    cases h with
    | cons h hs =>
      have := InsR.cons h (InsR.snoc hs hx)
      simpa using this
theorem InsR.get : ∀ {l : List In} {vs : List Value} {K : Blk} (j : Nat) {x : In}, InsR l vs K → l[j]? = some x → ∃ v G, vs[j]? = some v ∧ InR x v G ∧ ∀ y ∈ G, y ∈ K
  | [], _, _, j, x, h, hx => by simp at hx
  | y :: l, _, _, 0, x, h, hx => by
    cases h with
    | cons h hs =>
      simp at hx
      subst hx
      exact ⟨_, _, rfl, h, fun z hz => by simp [hz]⟩
  | y :: l, _, _, j + 1, x, h, hx => by
    cases h with
    | cons h hs =>
      obtain ⟨v, G, h1, h2, h3⟩ := InsR.get j hs (by simpa using hx)
      exact ⟨v, G, by simpa using h1, h2, fun z hz => by simp [h3 z hz]⟩
end Go.Proofs

namespace Go.Proofs
open Go Go.Eng
set_option maxRecDepth 20000
set_option maxHeartbeats 8000000

end Go.Proofs

namespace Go.Proofs
open Go Go.Eng
set_option maxRecDepth 20000
set_option maxHeartbeats 8000000

/-- A byte by a table of pairs. -/
abbrev Pairs := List (UInt8 × List UInt8)
def pairB : Pairs → UInt8 → List UInt8
  | [], c => [c]
  | x :: r, c => if x.1 = c then x.2 else pairB r c
abbrev pairH (ps : Pairs) (l : List UInt8) : List UInt8 := l.flatMap (pairB ps)
end Go.Proofs

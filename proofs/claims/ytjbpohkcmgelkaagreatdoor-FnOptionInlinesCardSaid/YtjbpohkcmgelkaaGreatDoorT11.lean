/- Steps of the walk of the program and plain facts on what it computes. Conditions: as each theorem states them. -/
import Derived.Test.YtjbpohkcmgelkaaGreatDoorT10
namespace Go.Proofs
open Go Go.Eng
set_option maxRecDepth 20000
set_option maxHeartbeats 2000000

/-- The end of a destination in angle brackets: where the bracket stands that closes it. -/
def angF (s : List UInt8) : Nat → Nat → Option Nat
  | 0, _ => none
  | f + 1, j => match s[j]? with
    | none => none
    | some c => if c.toNat = 10 ∨ c.toNat = 60 then none else if c.toNat = 62 then some j else if c.toNat = 92 then angF s f (j + 1 + 1) else angF s f (j + 1)
theorem angF_lt {s : List UInt8} : ∀ {f j k : Nat}, angF s f j = some k → j ≤ k ∧ k < s.length
  | 0, _, _, h => by cases h
  | f + 1, j, k, h => by
    unfold angF at h
    split at h
    · cases h
    · rename_i c hc
      have h0 := (List.getElem?_eq_some_iff.1 hc).1
      split at h
      · cases h
      · split at h
        · have := Option.some.inj h; omega
        · split at h
          · have := angF_lt h; omega
          · have := angF_lt h; omega
/-- The end of a destination without brackets. -/
def plF (s : List UInt8) : Nat → Nat → Nat → Option Nat
  | 0, _, _ => none
  | f + 1, j, d => match s[j]? with
    | none => some j
    | some c => if c.toNat = 40 then (if 32 < d + 1 then none else plF s f (j + 1) (d + 1))
      else if c.toNat = 41 then (if d = 0 then some j else plF s f (j + 1) (d - 1))
      else if c.toNat = 92 then (match s[j + 1]? with
        | none => plF s f (j + 1) d
        | some e => if e.toNat = 32 ∨ e.toNat = 9 then none else plF s f (j + 1 + 1) d)
      else if c.toNat = 32 ∨ c.toNat = 9 ∨ c.toNat = 10 then some j else plF s f (j + 1) d
theorem plF_le {s : List UInt8} : ∀ {f j d k : Nat}, j ≤ s.length → plF s f j d = some k → j ≤ k ∧ k ≤ s.length
  | 0, _, _, _, _, h => by cases h
  | f + 1, j, d, k, hj, h => by
    unfold plF at h
    split at h
    · have := Option.some.inj h; omega
    · rename_i c hc
      have h0 := (List.getElem?_eq_some_iff.1 hc).1
      split at h
      · split at h
        · cases h
        · have := plF_le (by omega) h; omega
      · split at h
        · split at h
          · have := Option.some.inj h; omega
          · have := plF_le (by omega) h; omega
        · split at h
          · split at h
            · have := plF_le (by omega) h; omega
            · rename_i e he
              have h1 := (List.getElem?_eq_some_iff.1 he).1
              split at h
              · cases h
              · have := plF_le (by omega) h; omega
          · split at h
            · have := Option.some.inj h; omega
            · have := plF_le (by omega) h; omega
def linkDestM (tab : Nat → List UInt8) (s : List UInt8) (i : Nat) : Option (List UInt8 × Nat) := match s[i]? with
  | none => none
  | some c => if c.toNat = 60 then (angF s (s.length + 1) (i + 1)).map (fun j => (unescM tab ((s.take j).drop (i + 1)), j + 1))
    else (plF s (s.length + 1) i 0).map (fun j => (unescM tab ((s.take j).drop i), j))
theorem linkDestM_le {tab : Nat → List UInt8} {s : List UInt8} {i k : Nat} {d : List UInt8} (h : linkDestM tab s i = some (d, k)) : i ≤ k ∧ k ≤ s.length := by
  unfold linkDestM at h
  split at h
  · cases h
  · rename_i c hc
    have h0 := (List.getElem?_eq_some_iff.1 hc).1
    split at h
    · cases ha : angF s (s.length + 1) (i + 1) with
      | none => rw [ha] at h; cases h
      | some j =>
        rw [ha] at h
        have h1 := angF_lt ha
        have h2 : j + 1 = k := congrArg Prod.snd (Option.some.inj h)
        omega
    · cases ha : plF s (s.length + 1) i 0 with
      | none => rw [ha] at h; cases h
      | some j =>
        rw [ha] at h
        have h1 := plF_le (by omega) ha
        have h2 : j = k := congrArg Prod.snd (Option.some.inj h)
        omega
def destV : Option (List UInt8 × Nat) → Value
  | some (d, j) => .tuple #[str d, inat j, .bool true]
  | none => .tuple #[str [], inat 0, .bool false]
structure PD where
  j : Nat
  d : Nat
  f : Nat
structure AF where
  j : Nat
  f : Nat

theorem linkDestG_tr (T : Nat) (es : List Value) (hE : EntOK es) (s : List UInt8) (i : Nat) (hl : s.length ≤ 1000000) (hi : i ≤ s.length) :
    Tr Tryz.prog 101 [str s, inat i] [ent T es] fun u K => u = destV (linkDestM (tabOf es) s i) ∧ K = [ent T es] := by
  unfold linkDestM
  by_cases hlt : i < s.length
  · obtain ⟨c, hc⟩ := get_some hlt
    rw [hc]
    dsimp only
    by_cases h60 : c.toNat = 60
    · rw [if_pos h60]
      have hW : ∃ W, angF s (s.length + 1) (i + 1) = W := ⟨_, rfl⟩
      obtain ⟨W, hW⟩ := hW
      rw [hW]
      refine Tr.start (n := 111) (rs := [.tmp 4, .tmp 5, .tmp 6]) rfl rfl rfl rfl fun B => ?_
      (repeat' (first | refine z7 ?_ | refine z6 ?_ | refine z2 ?_ | refine z1 ?_ | refine zc ?_ | refine zb ?_ | refine zf ?_ | refine zd ?_ | refine zc9 ?_ | refine z8 ?_ | refine za ?_ | refine zl ?_ | refine zab ?_ | refine zt ?_ | refine zg ?_ | refine zi ?_))
      refine za6 (fun x : AF => [(0, str s), (1, inat i), (7, inat x.j)]) (fun _ => [ent T es]) (fun x => angF s x.f x.j = W ∧ i + 1 ≤ x.j ∧ x.j ≤ s.length + 1 ∧ s.length < x.j + x.f) (fun x => s.length + 2 - x.j) ⟨i + 1, s.length + 1⟩ ⟨hW, Nat.le_refl _, by dsimp only; omega, by dsimp only; omega⟩ kB sA fun x hx => ?_
      obtain ⟨j, f⟩ := x
      obtain ⟨i1, i2, i3, i4⟩ := hx
      dsimp only at i1 i2 i3 i4 ⊢
      by_cases hjl : j < s.length
      · obtain ⟨f, rfl⟩ : ∃ f', f = f' + 1 := ⟨f - 1, by omega⟩
        unfold angF at i1
        obtain ⟨d, hd⟩ := get_some hjl
        rw [hd] at i1
        dsimp only at i1
        by_cases g1 : d.toNat = 10
        · rw [if_pos (.inl g1)] at i1
          rw [← i1]
          (repeat' (first | refine z7 ?_ | refine z6 ?_ | refine z2 ?_ | refine z1 ?_ | refine zc ?_ | refine zf ?_ | refine ze ?_ | refine zx ?_ | refine zag ?_ | refine zbq ?_ | refine zh ?_ | refine zaa ?_ | refine z8 ?_ | refine za ?_ | refine zab ?_ | refine zt ?_ | refine zj ?_ | refine zk ?_ | refine zg ?_ | refine zi ?_))
          exact e_ret _ ⟨rfl, rfl⟩ sA
        by_cases g2 : d.toNat = 60
        · rw [if_pos (.inr g2)] at i1
          rw [← i1]
          (repeat' (first | refine z7 ?_ | refine z6 ?_ | refine z2 ?_ | refine z1 ?_ | refine zc ?_ | refine zf ?_ | refine ze ?_ | refine zx ?_ | refine zag ?_ | refine zbq ?_ | refine zh ?_ | refine z8 ?_ | refine za ?_ | refine zab ?_ | refine zt ?_ | refine zr ?_ | refine zk ?_ | refine zg ?_ | refine zi ?_))
          exact e_ret _ ⟨rfl, rfl⟩ sA
        rw [if_neg (by omega)] at i1
        by_cases g3 : d.toNat = 62
        · rw [if_pos g3] at i1
          rw [← i1]
          (repeat' (first | refine z7 ?_ | refine z6 ?_ | refine z2 ?_ | refine z1 ?_ | refine zc ?_ | refine zb ?_ | refine zf ?_ | refine zd ?_ | refine zh ?_ | refine z8 ?_ | refine zl ?_ | refine zab ?_ | refine zt ?_ | refine zr ?_ | refine zk ?_ | refine zg ?_ | refine zi ?_ | refine zav ?_))
          refine za1 (unescG_tr T es hE ((s.take j).drop (i + 1)) (by rw [List.length_drop, List.length_take]; omega)) (fun u K hR => ?_)
          obtain ⟨rfl, rfl⟩ := hR
          (repeat' (first | refine z2 ?_ | refine z1 ?_ | refine ze ?_ | refine zx ?_ | refine zag ?_ | refine zbq ?_ | refine z8 ?_ | refine za ?_ | refine zl ?_))
          exact e_ret _ ⟨rfl, rfl⟩ sA
        rw [if_neg g3] at i1
        by_cases g4 : d.toNat = 92
        · rw [if_pos g4] at i1
          (repeat' (first | refine z7 ?_ | refine z6 ?_ | refine z2 ?_ | refine z1 ?_ | refine zc ?_ | refine zb ?_ | refine zf ?_ | refine zd ?_ | refine zu ?_ | refine zh ?_ | refine z8 ?_ | refine za ?_ | refine zl ?_ | refine zab ?_ | refine zt ?_ | refine zr ?_ | refine zk ?_ | refine zg ?_ | refine zi ?_))
          exact ⟨⟨j + 1 + 1, f⟩, kB, sA, ⟨i1, by dsimp only; omega, by dsimp only; omega, by dsimp only; omega⟩, by dsimp only; omega⟩
        · rw [if_neg g4] at i1
          (repeat' (first | refine z7 ?_ | refine z6 ?_ | refine z2 ?_ | refine z1 ?_ | refine zb ?_ | refine zf ?_ | refine zd ?_ | refine zu ?_ | refine zh ?_ | refine z8 ?_ | refine za ?_ | refine zl ?_ | refine zab ?_ | refine zr ?_ | refine zk ?_ | refine zg ?_ | refine zi ?_))
          exact ⟨⟨j + 1, f⟩, kB, sA, ⟨i1, by dsimp only; omega, by dsimp only; omega, by dsimp only; omega⟩, by dsimp only; omega⟩
      · have hn : W = none := by
          rw [← i1]
          cases f with
          | zero => rfl
          | succ f => unfold angF; rw [List.getElem?_eq_none (by omega)]
        rw [hn]
        (repeat' (first | refine z7 ?_ | refine z6 ?_ | refine z2 ?_ | refine z1 ?_ | refine zc ?_ | refine zf ?_ | refine ze ?_ | refine zx ?_ | refine zag ?_ | refine zbq ?_ | refine zaa ?_ | refine z8 ?_ | refine za ?_ | refine zas ?_ | refine zj ?_ | refine zg ?_))
        exact e_ret _ ⟨rfl, rfl⟩ sA
    · rw [if_neg h60]
      have hW : ∃ W, plF s (s.length + 1) i 0 = W := ⟨_, rfl⟩
      obtain ⟨W, hW⟩ := hW
      rw [hW]
      refine Tr.start (n := 111) (rs := [.tmp 4, .tmp 5, .tmp 6]) rfl rfl rfl rfl fun B => ?_
      (repeat' (first | refine z7 ?_ | refine z6 ?_ | refine z2 ?_ | refine z1 ?_ | refine zb ?_ | refine zd ?_ | refine zc9 ?_ | refine zcb ?_ | refine z8 ?_ | refine za ?_ | refine zab ?_ | refine zr ?_ | refine zg ?_ | refine zi ?_))
      refine zau (fun j : Nat => [(0, str s), (1, inat i), (9, inat j)]) (fun _ => [ent T es]) (fun j => W = some j) ?_ ?_
      · (repeat' (first | refine zf ?_))
        refine za6 (fun x : PD => [(0, str s), (1, inat i), (8, inat x.d), (9, inat x.j)]) (fun _ => [ent T es]) (fun x => plF s x.f x.j x.d = W ∧ i ≤ x.j ∧ x.j ≤ s.length ∧ s.length < x.j + x.f ∧ x.d ≤ 32) (fun x => s.length - x.j) ⟨i, 0, s.length + 1⟩ ⟨hW, Nat.le_refl _, by dsimp only; omega, by dsimp only; omega, by dsimp only; omega⟩ kB sA fun x hx => ?_
        obtain ⟨j, d, f⟩ := x
        obtain ⟨i1, i2, i3, i4, i5⟩ := hx
        dsimp only at i1 i2 i3 i4 i5 ⊢
        obtain ⟨f, rfl⟩ : ∃ f', f = f' + 1 := ⟨f - 1, by omega⟩
        unfold plF at i1
        by_cases hjl : j < s.length
        · obtain ⟨e, he⟩ := get_some hjl
          rw [he] at i1
          dsimp only at i1
          by_cases g1 : e.toNat = 40
          · rw [if_pos g1] at i1
            by_cases g2 : 32 < d + 1
            · rw [if_pos g2] at i1
              rw [← i1]
              (repeat' (first | refine z7 ?_ | refine z6 ?_ | refine z2 ?_ | refine z1 ?_ | refine zc ?_ | refine zf ?_ | refine zd ?_ | refine ze ?_ | refine zx ?_ | refine zag ?_ | refine zbq ?_ | refine z8 ?_ | refine za ?_ | refine zl ?_ | refine zm ?_ | refine zaz ?_ | refine zt ?_ | refine zg ?_ | refine zi ?_))
              exact e_ret _ ⟨rfl, rfl⟩ sA
            · rw [if_neg g2] at i1
              (repeat' (first | refine z7 ?_ | refine z6 ?_ | refine z2 ?_ | refine z1 ?_ | refine zc ?_ | refine zb ?_ | refine zf ?_ | refine zd ?_ | refine zu ?_ | refine z8 ?_ | refine za ?_ | refine zl ?_ | refine zm ?_ | refine zat ?_ | refine zt ?_ | refine zg ?_ | refine zi ?_))
              exact ⟨⟨j + 1, d + 1, f⟩, kB, sA, ⟨i1, by dsimp only; omega, by dsimp only; omega, by dsimp only; omega, by dsimp only; omega⟩, by dsimp only; omega⟩
          rw [if_neg g1] at i1
          by_cases g3 : e.toNat = 41
          · rw [if_pos g3] at i1
            by_cases g4 : d = 0
            · rw [if_pos g4] at i1
              (repeat' (first | refine z7 ?_ | refine z6 ?_ | refine z2 ?_ | refine z1 ?_ | refine zc ?_ | refine zb ?_ | refine zf ?_ | refine zd ?_ | refine zw ?_ | refine zy ?_ | refine zz ?_ | refine zaw ?_ | refine z8 ?_ | refine za ?_ | refine zm ?_ | refine zt ?_ | refine zr ?_ | refine zg ?_ | refine zi ?_))
              exact ⟨j, kA, sA, i1.symm⟩
            · rw [if_neg g4] at i1
              (repeat' (first | refine Ops.pure _ (zap (a := d) (b := 1) (c := d - 1) (by rfl) (by rfl) (by omega) (by omega)) (by rfl) ?_ | refine z7 ?_ | refine z6 ?_ | refine z2 ?_ | refine z1 ?_ | refine zc ?_ | refine zb ?_ | refine zf ?_ | refine zd ?_ | refine zu ?_ | refine z8 ?_ | refine za ?_ | refine zl ?_ | refine zm ?_ | refine zt ?_ | refine zr ?_ | refine zg ?_ | refine zi ?_))
              exact ⟨⟨j + 1, d - 1, f⟩, kB, sA, ⟨i1, by dsimp only; omega, by dsimp only; omega, by dsimp only; omega, by dsimp only; omega⟩, by dsimp only; omega⟩
          rw [if_neg g3] at i1
          by_cases g5 : e.toNat = 92
          · rw [if_pos g5] at i1
            by_cases hj2 : j + 1 < s.length
            · obtain ⟨e2, he2⟩ := get_some hj2
              rw [he2] at i1
              dsimp only at i1
              by_cases g6 : e2.toNat = 32
              · rw [if_pos (.inl g6)] at i1
                rw [← i1]
                (repeat' (first | refine z7 ?_ | refine z6 ?_ | refine z2 ?_ | refine z1 ?_ | refine zc ?_ | refine zb ?_ | refine zf ?_ | refine zd ?_ | refine ze ?_ | refine zx ?_ | refine zag ?_ | refine zbq ?_ | refine zaa ?_ | refine z8 ?_ | refine za ?_ | refine zl ?_ | refine zm ?_ | refine zt ?_ | refine zr ?_ | refine zj ?_ | refine zg ?_ | refine zi ?_))
                exact e_ret _ ⟨rfl, rfl⟩ sA
              by_cases g7 : e2.toNat = 9
              · rw [if_pos (.inr g7)] at i1
                rw [← i1]
                (repeat' (first | refine z7 ?_ | refine z6 ?_ | refine z2 ?_ | refine z1 ?_ | refine zc ?_ | refine zb ?_ | refine zf ?_ | refine zd ?_ | refine ze ?_ | refine zx ?_ | refine zag ?_ | refine zbq ?_ | refine zh ?_ | refine z8 ?_ | refine za ?_ | refine zl ?_ | refine zm ?_ | refine zt ?_ | refine zr ?_ | refine zk ?_ | refine zg ?_ | refine zi ?_))
                exact e_ret _ ⟨rfl, rfl⟩ sA
              rw [if_neg (by omega)] at i1
              (repeat' (first | refine z7 ?_ | refine z6 ?_ | refine z2 ?_ | refine z1 ?_ | refine zc ?_ | refine zb ?_ | refine zf ?_ | refine zd ?_ | refine zu ?_ | refine zh ?_ | refine z8 ?_ | refine za ?_ | refine zl ?_ | refine zm ?_ | refine zt ?_ | refine zr ?_ | refine zk ?_ | refine zg ?_ | refine zi ?_))
              exact ⟨⟨j + 1 + 1, d, f⟩, kB, sA, ⟨i1, by dsimp only; omega, by dsimp only; omega, by dsimp only; omega, by dsimp only; omega⟩, by dsimp only; omega⟩
            · rw [List.getElem?_eq_none (show s.length ≤ j + 1 by omega)] at i1
              dsimp only at i1
              (repeat' (first | refine z7 ?_ | refine z6 ?_ | refine z2 ?_ | refine z1 ?_ | refine zc ?_ | refine zb ?_ | refine zf ?_ | refine zd ?_ | refine zu ?_ | refine z8 ?_ | refine za ?_ | refine zl ?_ | refine zm ?_ | refine za4 ?_ | refine zt ?_ | refine zr ?_ | refine zg ?_ | refine zi ?_))
              exact ⟨⟨j + 1, d, f⟩, kB, sA, ⟨i1, by dsimp only; omega, by dsimp only; omega, by dsimp only; omega, by dsimp only; omega⟩, by dsimp only; omega⟩
          rw [if_neg g5] at i1
          by_cases g8 : e.toNat = 32
          · rw [if_pos (.inl g8)] at i1
            (repeat' (first | refine z7 ?_ | refine z6 ?_ | refine z2 ?_ | refine z1 ?_ | refine zc ?_ | refine zb ?_ | refine zf ?_ | refine zd ?_ | refine zw ?_ | refine zy ?_ | refine zz ?_ | refine zaw ?_ | refine z8 ?_ | refine za ?_ | refine zm ?_ | refine zt ?_ | refine zr ?_ | refine zg ?_ | refine zi ?_))
            exact ⟨j, kA, sA, i1.symm⟩
          by_cases g9 : e.toNat = 9
          · rw [if_pos (.inr (.inl g9))] at i1
            (repeat' (first | refine z7 ?_ | refine z6 ?_ | refine z2 ?_ | refine z1 ?_ | refine zc ?_ | refine zb ?_ | refine zf ?_ | refine zd ?_ | refine zw ?_ | refine zy ?_ | refine zz ?_ | refine zaw ?_ | refine z8 ?_ | refine za ?_ | refine zm ?_ | refine zt ?_ | refine zr ?_ | refine zg ?_ | refine zi ?_))
            exact ⟨j, kA, sA, i1.symm⟩
          by_cases g10 : e.toNat = 10
          · rw [if_pos (.inr (.inr g10))] at i1
            (repeat' (first | refine z7 ?_ | refine z6 ?_ | refine z2 ?_ | refine z1 ?_ | refine zc ?_ | refine zb ?_ | refine zf ?_ | refine zd ?_ | refine zw ?_ | refine zy ?_ | refine zz ?_ | refine zaw ?_ | refine z8 ?_ | refine za ?_ | refine zm ?_ | refine zt ?_ | refine zr ?_ | refine zg ?_ | refine zi ?_))
            exact ⟨j, kA, sA, i1.symm⟩
          rw [if_neg (by omega)] at i1
          (repeat' (first | refine z7 ?_ | refine z6 ?_ | refine z2 ?_ | refine z1 ?_ | refine zc ?_ | refine zb ?_ | refine zf ?_ | refine zd ?_ | refine zu ?_ | refine z8 ?_ | refine za ?_ | refine zl ?_ | refine zm ?_ | refine zr ?_ | refine zg ?_ | refine zi ?_))
          exact ⟨⟨j + 1, d, f⟩, kB, sA, ⟨i1, by dsimp only; omega, by dsimp only; omega, by dsimp only; omega, by dsimp only; omega⟩, by dsimp only; omega⟩
        · rw [List.getElem?_eq_none (by omega)] at i1
          dsimp only at i1
          (repeat' (first | refine z7 ?_ | refine z6 ?_ | refine z2 ?_ | refine z1 ?_ | refine zb ?_ | refine zw ?_ | refine zy ?_ | refine zz ?_ | refine z8 ?_ | refine za4 ?_ | refine zg ?_))
          exact ⟨j, kA, sA, i1.symm⟩
      · rintro j hj
        have hb := plF_le (by omega) (hW.trans hj)
        rw [hj]
        (repeat' (first | refine z7 ?_ | refine z6 ?_ | refine z2 ?_ | refine z1 ?_ | refine z8 ?_ | refine za ?_ | refine zav ?_))
        refine za1 (unescG_tr T es hE ((s.take j).drop i) (by rw [List.length_drop, List.length_take]; omega)) (fun u K hR => ?_)
        obtain ⟨rfl, rfl⟩ := hR
        (repeat' (first | refine z2 ?_ | refine z1 ?_ | refine ze ?_ | refine zbq ?_ | refine z8 ?_ | refine za ?_))
        exact e_ret _ ⟨rfl, rfl⟩ sA
  · rw [List.getElem?_eq_none (by omega)]
    refine Tr.start (n := 111) (rs := [.tmp 4, .tmp 5, .tmp 6]) rfl rfl rfl rfl fun B => ?_
    (repeat' (first | refine z7 ?_ | refine z6 ?_ | refine z2 ?_ | refine z1 ?_ | refine zc ?_ | refine ze ?_ | refine zx ?_ | refine zc9 ?_ | refine zbq ?_ | refine z8 ?_ | refine za ?_ | refine zas ?_ | refine zg ?_))
    exact e_ret _ ⟨rfl, rfl⟩ sA
end Go.Proofs

namespace Go.Proofs
open Go Go.Eng
set_option maxRecDepth 20000
set_option maxHeartbeats 2000000

def sltrim (l : List UInt8) : List UInt8 := l.dropWhile isSp
def srtrim (l : List UInt8) : List UInt8 := (l.reverse.dropWhile isSp).reverse
def strim (l : List UInt8) : List UInt8 := srtrim (sltrim l)
theorem srtrim_at {l : List UInt8} {k : Nat} (hk : k ≤ l.length) (h1 : ∀ c ∈ l.drop k, isSp c = true) (h2 : ∀ c, 0 < k → l[k - 1]? = some c → isSp c = false) : l.take k = srtrim l := by
  have e : l.reverse.dropWhile isSp = (l.take k).reverse := by
    have h := drop_at isSp l.reverse (l.length - k) (fun c hc => by
      rw [List.take_reverse] at hc
      rw [show l.length - (l.length - k) = k by omega] at hc
      exact h1 c (by simpa using hc)) (fun c hc => by
      by_cases h0 : 0 < k
      · have hlt : l.length - k < l.length := by omega
        rw [List.getElem?_reverse hlt] at hc
        exact h2 c h0 (by rw [show k - 1 = l.length - 1 - (l.length - k) by omega]; exact hc)
      · have : k = 0 := by omega
        subst this
        rw [List.getElem?_eq_none (by simp)] at hc; cases hc)
    rw [← h, List.drop_reverse]
    congr 2
    omega
  simp [srtrim, e]

theorem strim_tr (l : List UInt8) (hl : l.length ≤ 140737488355328) : TrP Tryz.prog 144 [str l] (str (strim l)) := by
  refine Tr.start (n := 62) (rs := [.tmp 2]) rfl rfl rfl rfl fun B => ?_
  (repeat' (first | refine z7 ?_ | refine z6 ?_ | refine z2 ?_ | refine z1 ?_ | refine za ?_))
  have hd : (sltrim l).length ≤ l.length := (List.dropWhile_sublist _).length_le
  refine zac [(0, str l), (3, .int .i64 ((l.length - (sltrim l).length : Nat) : Int))] [] ?_ ?_
  · (repeat' (first | refine zf ?_))
    refine za6 (fun k : Nat => [(0, str l), (3, .int .i64 k)]) (fun _ => []) (fun k => k ≤ l.length ∧ ∀ c ∈ l.take k, isSp c = true) (fun k => l.length - k) 0 ⟨by omega, by simp⟩ kB (SubH.nilR _) fun k ⟨hk, hb⟩ => ?_
    have fin : (∀ c, l[k]? = some c → isSp c = false) → l.length - (sltrim l).length = k := fun h => by
      have := congrArg List.length (drop_at isSp l k hb h); simp only [List.length_drop] at this; unfold sltrim; omega
    by_cases hlt : k < l.length
    · obtain ⟨c, hc⟩ := get_some hlt
      by_cases h0 : c.toNat = 32
      · (repeat' (first | refine z7 ?_ | refine z6 ?_ | refine z2 ?_ | refine z1 ?_ | refine zc ?_ | refine zf ?_ | refine zd ?_ | refine zu ?_ | refine zh ?_ | refine zaa ?_ | refine z8 ?_ | refine za ?_ | refine zl ?_ | refine zm ?_ | refine zt ?_ | refine zj ?_ | refine zg ?_ | refine zi ?_))
        exact ⟨k + 1, kB, SubH.refl _, ⟨by omega, all_snoc hc hb (by simp [isSp, h0])⟩, by omega⟩
      · skip
        by_cases h1 : c.toNat = 9
        · (repeat' (first | refine z7 ?_ | refine z6 ?_ | refine z2 ?_ | refine z1 ?_ | refine zc ?_ | refine zf ?_ | refine zd ?_ | refine zu ?_ | refine zh ?_ | refine zaa ?_ | refine z8 ?_ | refine za ?_ | refine zl ?_ | refine zm ?_ | refine zt ?_ | refine zr ?_ | refine zj ?_ | refine zk ?_ | refine zg ?_ | refine zi ?_))
          exact ⟨k + 1, kB, SubH.refl _, ⟨by omega, all_snoc hc hb (by simp [isSp, h1])⟩, by omega⟩
        · skip
          by_cases h2 : c.toNat = 10
          · (repeat' (first | refine z7 ?_ | refine z6 ?_ | refine z2 ?_ | refine z1 ?_ | refine zc ?_ | refine zf ?_ | refine zd ?_ | refine zu ?_ | refine zh ?_ | refine z8 ?_ | refine za ?_ | refine zl ?_ | refine zm ?_ | refine zt ?_ | refine zr ?_ | refine zj ?_ | refine zk ?_ | refine zg ?_ | refine zi ?_))
            exact ⟨k + 1, kB, SubH.refl _, ⟨by omega, all_snoc hc hb (by simp [isSp, h2])⟩, by omega⟩
          · (repeat' (first | refine z7 ?_ | refine z6 ?_ | refine z2 ?_ | refine z1 ?_ | refine zb ?_ | refine zw ?_ | refine zy ?_ | refine zz ?_ | refine zh ?_ | refine z8 ?_ | refine zm ?_ | refine zr ?_ | refine zj ?_ | refine zk ?_ | refine zg ?_ | refine zi ?_))
            rw [fin (fun d hd => by rw [hc] at hd; cases hd; simp [isSp, h0, h1, h2])]
            exact ⟨kA, SubH.refl _⟩
    · (repeat' (first | refine z7 ?_ | refine z6 ?_ | refine z2 ?_ | refine z1 ?_ | refine zb ?_ | refine zw ?_ | refine zy ?_ | refine zz ?_ | refine za2 ?_ | refine zay ?_ | refine z8 ?_ | refine za4 ?_ | refine zk ?_ | refine zg ?_))
      rw [fin (fun d hd => (get_none (by omega) hd).elim)]
      exact ⟨kA, SubH.refl _⟩
  · (repeat' (first | refine z7 ?_ | refine z6 ?_ | refine z2 ?_ | refine z1 ?_ | refine zf ?_ | refine z8 ?_ | refine za ?_ | refine zg ?_ | refine zba ?_))
    have e : List.drop (l.length - (sltrim l).length) l = sltrim l := by
      have h1 : sltrim l <:+ l := List.dropWhile_suffix _
      obtain ⟨p, hp⟩ := h1
      have h2 : p.length = l.length - (sltrim l).length := by have := congrArg List.length hp; simp only [List.length_append] at this; omega
      rw [← h2]; conv => lhs; rw [← hp]
      exact List.drop_left
    rw [e, show strim l = srtrim (sltrim l) from rfl]
    generalize sltrim l = m at *
    refine za6 (fun k : Nat => [(0, str m), (4, .int .i64 k)]) (fun _ => []) (fun k => k ≤ m.length ∧ ∀ c ∈ m.drop k, isSp c = true) (fun k => k) m.length ⟨by omega, by simp⟩ kB (SubH.nilR _) fun k ⟨hk, hb⟩ => ?_
    by_cases hlt : 0 < k
    · obtain ⟨c, hc⟩ := get_some (l := m) (k := k - 1) (by omega)
      by_cases h0 : c.toNat = 32
      · (repeat' (first | refine z7 ?_ | refine z6 ?_ | refine z2 ?_ | refine z1 ?_ | refine zc ?_ | refine zf ?_ | refine zd ?_ | refine zu ?_ | refine zh ?_ | refine zaa ?_ | refine z8 ?_ | refine za ?_ | refine zc4 ?_ | refine zaz ?_ | refine zt ?_ | refine zj ?_ | refine zi ?_))
        exact ⟨k - 1, kB, SubH.refl _, ⟨by omega, drop_pred hlt hc hb (by simp [isSp, h0])⟩, by omega⟩
      · skip
        by_cases h1 : c.toNat = 9
        · (repeat' (first | refine z7 ?_ | refine z6 ?_ | refine z2 ?_ | refine z1 ?_ | refine zc ?_ | refine zf ?_ | refine zd ?_ | refine zu ?_ | refine zh ?_ | refine zaa ?_ | refine z8 ?_ | refine za ?_ | refine zc4 ?_ | refine zaz ?_ | refine zt ?_ | refine zr ?_ | refine zj ?_ | refine zk ?_ | refine zi ?_))
          exact ⟨k - 1, kB, SubH.refl _, ⟨by omega, drop_pred hlt hc hb (by simp [isSp, h1])⟩, by omega⟩
        · skip
          by_cases h2 : c.toNat = 10
          · (repeat' (first | refine z7 ?_ | refine z6 ?_ | refine z2 ?_ | refine z1 ?_ | refine zc ?_ | refine zf ?_ | refine zd ?_ | refine zu ?_ | refine zh ?_ | refine z8 ?_ | refine za ?_ | refine zc4 ?_ | refine zaz ?_ | refine zt ?_ | refine zr ?_ | refine zj ?_ | refine zk ?_ | refine zi ?_))
            exact ⟨k - 1, kB, SubH.refl _, ⟨by omega, drop_pred hlt hc hb (by simp [isSp, h2])⟩, by omega⟩
          · (repeat' (first | refine z7 ?_ | refine z6 ?_ | refine z2 ?_ | refine z1 ?_ | refine zb ?_ | refine zw ?_ | refine zy ?_ | refine zz ?_ | refine ze ?_ | refine zh ?_ | refine z8 ?_ | refine za ?_ | refine zc4 ?_ | refine zaz ?_ | refine zr ?_ | refine zj ?_ | refine zk ?_ | refine zi ?_ | refine zcc ?_))
            refine e_pure ⟨?_, rfl⟩
            simp only [oneOr]
            rw [srtrim_at hk hb (fun d _ hd => by rw [hc] at hd; cases hd; simp [isSp, h0, h1, h2])]
    · (repeat' (first | refine z7 ?_ | refine z6 ?_ | refine z2 ?_ | refine z1 ?_ | refine zb ?_ | refine zw ?_ | refine zy ?_ | refine zz ?_ | refine ze ?_ | refine za2 ?_ | refine zay ?_ | refine z8 ?_ | refine za ?_ | refine zat ?_ | refine zk ?_ | refine zcc ?_))
      refine e_pure ⟨?_, rfl⟩
      simp only [oneOr]
      rw [srtrim_at hk hb (fun d h _ => by omega)]


/-- Where the sign stands that ends a title. -/
def titF (s : List UInt8) (want : Nat) : Nat → Nat → Option Nat
  | 0, _ => none
  | f + 1, j => match s[j]? with
    | none => none
    | some c => if c.toNat = want then some j else if c.toNat = 40 ∧ want = 41 then none else if c.toNat = 92 ∧ j + 1 < s.length then titF s want f (j + 1 + 1) else titF s want f (j + 1)
theorem titF_lt {s : List UInt8} {w : Nat} : ∀ {f j k : Nat}, titF s w f j = some k → j ≤ k ∧ k < s.length
  | 0, _, _, h => by cases h
  | f + 1, j, k, h => by
    unfold titF at h
    split at h
    · cases h
    · rename_i c hc
      have h0 := (List.getElem?_eq_some_iff.1 hc).1
      split at h
      · have := Option.some.inj h; omega
      · split at h
        · cases h
        · split at h
          · have := titF_lt h; omega
          · have := titF_lt h; omega
def wantM (c : UInt8) : Nat := if c.toNat = 40 then 41 else c.toNat
def titleM (tab : Nat → List UInt8) (s : List UInt8) (i : Nat) : Option (List UInt8 × Nat × Nat) := match s[i]? with
  | none => none
  | some c => if c.toNat = 34 ∨ c.toNat = 39 ∨ c.toNat = 40 then (titF s (wantM c) (s.length + 1) (i + 1)).map (fun j => (replM tab ((s.take j).drop (i + 1)), wantM c, j + 1)) else none
theorem titleM_lt {tab : Nat → List UInt8} {s : List UInt8} {i k w : Nat} {d : List UInt8} (h : titleM tab s i = some (d, w, k)) : i < k ∧ k ≤ s.length := by
  unfold titleM at h
  split at h
  · cases h
  · split at h
    · rename_i c hc _
      cases ha : titF s (wantM c) (s.length + 1) (i + 1) with
      | none => rw [ha] at h; cases h
      | some j =>
        rw [ha] at h
        have h1 := titF_lt ha
        have h2 : j + 1 = k := congrArg (fun x => x.2.2) (Option.some.inj h)
        omega
    · cases h
def titleV : Option (List UInt8 × Nat × Nat) → Value
  | some (d, w, j) => .tuple #[str d, .int .u8 w, inat j, .bool true]
  | none => .tuple #[str [], .int .u8 0, inat 0, .bool false]

theorem titleG_tr (T : Nat) (es : List Value) (hE : EntOK es) (s : List UInt8) (i : Nat) (hl : s.length ≤ 1000000) (hi : i ≤ s.length) :
    Tr Tryz.prog 102 [str s, inat i] [ent T es] fun u K => u = titleV (titleM (tabOf es) s i) ∧ K = [ent T es] := by
  unfold titleM
  by_cases hlt : i < s.length
  · obtain ⟨c, hc⟩ := get_some hlt
    have hc256 := c.toNat_lt
    rw [hc]
    dsimp only
    by_cases hk : c.toNat = 34 ∨ c.toNat = 39 ∨ c.toNat = 40
    · rw [if_pos hk]
      have hw : ∃ w, wantM c = w := ⟨_, rfl⟩
      obtain ⟨w, hw⟩ := hw
      rw [hw]
      have hw2 : w < 256 := by rw [← hw]; unfold wantM; split <;> omega
      have hW : ∃ W, titF s w (s.length + 1) (i + 1) = W := ⟨_, rfl⟩
      obtain ⟨W, hW⟩ := hW
      rw [hW]
      refine Tr.start (n := 83) (rs := [.tmp 4, .tmp 5, .tmp 6, .tmp 7]) rfl rfl rfl rfl fun B => ?_
      ((repeat (refine z7 ?_)); refine z6 ?_; (repeat' (first | refine za ?_)); refine z2 ?_; refine z1 ?_)
      (repeat (refine z7 ?_))
      refine zac [(0, str s), (1, inat i), (32, .bool true)] [ent T es] ?_ ?_
      · by_cases h1 : c.toNat = 34
        · (repeat' (first | refine z6 ?_ | refine z2 ?_ | refine z1 ?_ | refine zh ?_ | refine zaa ?_ | refine z8 ?_ | refine zm ?_ | refine zt ?_ | refine zj ?_ | refine zg ?_ | refine zi ?_))
          exact ⟨kA, sA⟩
        by_cases h2 : c.toNat = 39
        · (repeat' (first | refine z6 ?_ | refine z2 ?_ | refine z1 ?_ | refine zh ?_ | refine zaa ?_ | refine z8 ?_ | refine zm ?_ | refine zt ?_ | refine zr ?_ | refine zj ?_ | refine zk ?_ | refine zg ?_ | refine zi ?_))
          exact ⟨kA, sA⟩
        · have h3 : c.toNat = 40 := by omega
          (repeat' (first | refine z6 ?_ | refine z2 ?_ | refine z1 ?_ | refine zh ?_ | refine z8 ?_ | refine zm ?_ | refine zt ?_ | refine zr ?_ | refine zj ?_ | refine zk ?_ | refine zg ?_ | refine zi ?_))
          exact ⟨kA, sA⟩
      (repeat (refine z7 ?_))
      refine zau (fun _ : Unit => []) (fun _ => [ent T es]) (fun _ => W = none) ?_ ?_
      · refine zc ?_
        ((repeat (refine z7 ?_)); refine z6 ?_; (repeat' (first | refine z8 ?_ | refine za ?_ | refine zi ?_)); refine z2 ?_; refine z1 ?_)
        ((repeat (refine z7 ?_)); refine z6 ?_; (repeat' (first | refine z8 ?_ | refine zdi ?_)); refine z2 ?_; refine z1 ?_)
        (repeat (refine z7 ?_))
        refine zac [(0, str s), (1, inat i), (8, .int .u8 (w : Nat))] [ent T es] ?_ ?_
        · refine zcp (fun hg => ?_) (fun hg => ?_)
          · have e : w = 41 := by rw [← hw]; unfold wantM; rw [if_pos (by omega)]
            subst e
            (repeat' (first | refine z6 ?_ | refine z2 ?_ | refine z1 ?_ | refine za ?_))
            exact ⟨kA, sA⟩
          · have e : w = c.toNat := by rw [← hw]; unfold wantM; rw [if_neg (by omega)]
            subst e
            (repeat' (first | refine z1 ?_ | refine zd ?_))
            exact ⟨kA, sA⟩
        (repeat' (first | refine z7 ?_ | refine z6 ?_ | refine z2 ?_ | refine z1 ?_ | refine zf ?_ | refine z8 ?_ | refine za ?_ | refine zl ?_))
        refine za6 (fun x : AF => [(0, str s), (1, inat i), (8, .int .u8 (w : Nat)), (9, inat x.j)]) (fun _ => [ent T es]) (fun x => titF s w x.f x.j = W ∧ i + 1 ≤ x.j ∧ x.j ≤ s.length ∧ s.length < x.j + x.f) (fun x => s.length - x.j) ⟨i + 1, s.length + 1⟩ ⟨hW, Nat.le_refl _, by dsimp only; omega, by dsimp only; omega⟩ kB sA fun x hx => ?_
        obtain ⟨j, f⟩ := x
        obtain ⟨i1, i2, i3, i4⟩ := hx
        dsimp only at i1 i2 i3 i4 ⊢
        obtain ⟨f, rfl⟩ : ∃ f', f = f' + 1 := ⟨f - 1, by omega⟩
        unfold titF at i1
        by_cases hjl : j < s.length
        · obtain ⟨d, hd⟩ := get_some hjl
          rw [hd] at i1
          dsimp only at i1
          by_cases g1 : d.toNat = w
          · rw [if_pos g1] at i1
            rw [← i1]
            (repeat' (first | refine z7 ?_ | refine z6 ?_ | refine z2 ?_ | refine z1 ?_ | refine zc ?_ | refine zf ?_ | refine zd ?_ | refine z8 ?_ | refine za ?_ | refine zl ?_ | refine zm ?_ | refine zt ?_ | refine zg ?_ | refine zi ?_ | refine zav ?_ | refine zao ?_))
            refine za1 (replaceG_tr T es hE ((s.take j).drop (i + 1)) (by rw [List.length_drop, List.length_take]; omega)) (fun u K hR => ?_)
            obtain ⟨rfl, _, rfl⟩ := hR
            (repeat' (first | refine z2 ?_ | refine z1 ?_ | refine ze ?_ | refine zx ?_ | refine zag ?_ | refine z8 ?_ | refine za ?_ | refine zl ?_))
            exact e_ret _ ⟨rfl, rfl⟩ sA
          rw [if_neg g1] at i1
          by_cases g2 : d.toNat = 40
          · by_cases g3 : w = 41
            · rw [if_pos ⟨g2, g3⟩] at i1
              (repeat' (first | refine z7 ?_ | refine z6 ?_ | refine z2 ?_ | refine z1 ?_ | refine zc ?_ | refine zb ?_ | refine zf ?_ | refine zd ?_ | refine zw ?_ | refine zy ?_ | refine zz ?_ | refine zaw ?_ | refine zh ?_ | refine z8 ?_ | refine zm ?_ | refine zt ?_ | refine zr ?_ | refine zj ?_ | refine zg ?_ | refine zi ?_))
              exact ⟨(), kA, sA, i1.symm⟩
            · rw [if_neg (by rintro ⟨_, h⟩; exact g3 h), if_neg (by omega)] at i1
              (repeat' (first | refine z7 ?_ | refine z6 ?_ | refine z2 ?_ | refine z1 ?_ | refine zc ?_ | refine zb ?_ | refine zf ?_ | refine zd ?_ | refine zu ?_ | refine zh ?_ | refine za2 ?_ | refine z8 ?_ | refine za ?_ | refine zl ?_ | refine zm ?_ | refine zt ?_ | refine zr ?_ | refine zj ?_ | refine zk ?_ | refine zg ?_ | refine zi ?_))
              exact ⟨⟨j + 1, f⟩, kB, sA, ⟨i1, by dsimp only; omega, by dsimp only; omega, by dsimp only; omega⟩, by dsimp only; omega⟩
          rw [if_neg (by rintro ⟨h, _⟩; exact g2 h)] at i1
          by_cases g4 : d.toNat = 92
          · by_cases g5 : j + 1 < s.length
            · rw [if_pos ⟨g4, g5⟩] at i1
              (repeat' (first | refine z7 ?_ | refine z6 ?_ | refine z2 ?_ | refine z1 ?_ | refine zc ?_ | refine zb ?_ | refine zf ?_ | refine zd ?_ | refine zu ?_ | refine zh ?_ | refine za2 ?_ | refine z8 ?_ | refine za ?_ | refine zl ?_ | refine zm ?_ | refine zt ?_ | refine zr ?_ | refine zj ?_ | refine zk ?_ | refine zg ?_ | refine zi ?_))
              exact ⟨⟨j + 1 + 1, f⟩, kB, sA, ⟨i1, by dsimp only; omega, by dsimp only; omega, by dsimp only; omega⟩, by dsimp only; omega⟩
            · rw [if_neg (by rintro ⟨_, h⟩; exact g5 h)] at i1
              (repeat' (first | refine z7 ?_ | refine z6 ?_ | refine z2 ?_ | refine z1 ?_ | refine zc ?_ | refine zb ?_ | refine zf ?_ | refine zd ?_ | refine zu ?_ | refine zh ?_ | refine za2 ?_ | refine z8 ?_ | refine za ?_ | refine zl ?_ | refine zm ?_ | refine za4 ?_ | refine zt ?_ | refine zr ?_ | refine zj ?_ | refine zk ?_ | refine zg ?_ | refine zi ?_))
              exact ⟨⟨j + 1, f⟩, kB, sA, ⟨i1, by dsimp only; omega, by dsimp only; omega, by dsimp only; omega⟩, by dsimp only; omega⟩
          · rw [if_neg (by rintro ⟨h, _⟩; exact g4 h)] at i1
            (repeat' (first | refine z7 ?_ | refine z6 ?_ | refine z2 ?_ | refine z1 ?_ | refine zc ?_ | refine zb ?_ | refine zf ?_ | refine zd ?_ | refine zu ?_ | refine za2 ?_ | refine z8 ?_ | refine za ?_ | refine zl ?_ | refine zm ?_ | refine zr ?_ | refine zk ?_ | refine zg ?_ | refine zi ?_))
            exact ⟨⟨j + 1, f⟩, kB, sA, ⟨i1, by dsimp only; omega, by dsimp only; omega, by dsimp only; omega⟩, by dsimp only; omega⟩
        · rw [List.getElem?_eq_none (by omega)] at i1
          dsimp only at i1
          (repeat' (first | refine z7 ?_ | refine z6 ?_ | refine z2 ?_ | refine z1 ?_ | refine zb ?_ | refine zw ?_ | refine zy ?_ | refine zz ?_ | refine z8 ?_ | refine za4 ?_ | refine zg ?_))
          exact ⟨(), kA, sA, i1.symm⟩
      · rintro _ hn
        rw [hn]
        (repeat' (first | refine z7 ?_ | refine z6 ?_ | refine z2 ?_ | refine z1 ?_ | refine ze ?_ | refine za ?_))
        exact e_ret _ ⟨rfl, rfl⟩ sA
    · rw [if_neg hk]
      refine Tr.start (n := 83) (rs := [.tmp 4, .tmp 5, .tmp 6, .tmp 7]) rfl rfl rfl rfl fun B => ?_
      (repeat' (first | refine z7 ?_ | refine z6 ?_ | refine z2 ?_ | refine z1 ?_ | refine zb ?_ | refine zd ?_ | refine ze ?_ | refine zh ?_ | refine z8 ?_ | refine za ?_ | refine zm ?_ | refine zr ?_ | refine zj ?_ | refine zk ?_ | refine zg ?_ | refine zi ?_))
      exact e_ret _ ⟨rfl, rfl⟩ sA
  · rw [List.getElem?_eq_none (by omega)]
    refine Tr.start (n := 83) (rs := [.tmp 4, .tmp 5, .tmp 6, .tmp 7]) rfl rfl rfl rfl fun B => ?_
    (repeat' (first | refine z7 ?_ | refine z6 ?_ | refine z2 ?_ | refine z1 ?_ | refine zb ?_ | refine zd ?_ | refine ze ?_ | refine za2 ?_ | refine zay ?_ | refine z8 ?_ | refine za ?_ | refine za4 ?_ | refine zk ?_ | refine zg ?_))
    exact e_ret _ ⟨rfl, rfl⟩ sA
end Go.Proofs

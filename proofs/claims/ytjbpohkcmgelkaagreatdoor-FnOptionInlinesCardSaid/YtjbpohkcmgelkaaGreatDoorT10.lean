/- Steps of the walk of the program and plain facts on what it computes. Conditions: as each theorem states them. -/
import Derived.Test.YtjbpohkcmgelkaaGreatDoorT09
import Derived.Test.YtjbpohkcmgelkaaGreatDoorEngB
import Derived.Test.YtjbpohkcmgelkaaGreatDoorT04
namespace Go.Proofs
open Go Go.Eng
set_option maxRecDepth 20000
set_option maxHeartbeats 2000000

instance : UArr Tryz.prog 99 80 3 := ⟨Tryz.underlying99⟩
/-- What the parser of code spans has seen. -/
structure BT where
  last : List Nat
  sc : Bool
abbrev BT.vals (b : BT) : List Value := b.last.map inat ++ [.bool b.sc]
def tickB (c : UInt8) : Bool := c.toNat == 96
def runsM (s : List UInt8) (n : Nat) (sc : Bool) : Nat → Nat → List Nat → Option (Nat × Nat) × List Nat
  | 0, _, last => (none, last)
  | f + 1, e, last => match s[e]? with
    | none => (none, last)
    | some c => if tickB c = true then
        (let last' := if sc = false ∧ scan tickB s e - e < 80 then last.set (scan tickB s e - e - 1) e else last
        if scan tickB s e - e = n then (some (e, scan tickB s e), last') else runsM s n sc f (scan tickB s e) last')
      else runsM s n sc f (e + 1) last
def codeText (t : List UInt8) : List UInt8 :=
  if 2 ≤ (t.map nlsp).length ∧ (t.map nlsp)[0]? = some 32 ∧ (t.map nlsp)[(t.map nlsp).length - 1]? = some 32 ∧ btrim (t.map nlsp) ≠ [] then ((t.map nlsp).take ((t.map nlsp).length - 1)).drop 1 else t.map nlsp
def codeSpanM (s : List UInt8) (i : Nat) (b : BT) : (LIt × Nat × Nat) × BT :=
  let j := scan tickB s (i + 1)
  if 80 < j - i ∨ b.sc = true ∧ b.last.getD (j - i - 1) 0 < j then ((plainL ((s.take j).drop i), i, j), b)
  else match runsM s (j - i) b.sc (s.length + 1) j b.last with
    | (some (e, e'), last') => ((codeL (codeText ((s.take e).drop j)), i, e'), ⟨last', b.sc⟩)
    | (none, last') => ((plainL ((s.take j).drop i), i, j), ⟨last', true⟩)

theorem SetAt.of : ∀ {cs : List Value} {k : Nat} {v : Value}, k < cs.length → SetAt cs k v (cs.set k v)
  | [], _, _, h => by simp at h
  | _ :: _, 0, _, _ => .here
  | _ :: _, _ + 1, _, h => .there (SetAt.of (by simpa using h))
theorem bt_set (s : PS) {k : Nat} {v : Value} (h : k < s.bt.length) : SetAt s.cells (12 + k) v ({ s with bt := s.bt.set k v } : PS).cells := by
  rw [Nat.add_comm]
  exact .there (.there (.there (.there (.there (.there (.there (.there (.there (.there (.there (.there (SetAt.of h))))))))))))
theorem bt_get (s : PS) (k : Nat) : s.cells[12 + k]? = s.bt[k]? := by
  rw [Nat.add_comm]; rfl
theorem bt_last {b : BT} {k : Nat} (h : k < b.last.length) : b.vals[k]? = some (inat (b.last.getD k 0)) := by
  rw [List.getElem?_append_left (by simpa using h), List.getElem?_map, List.getD, List.getElem?_eq_getElem h]; rfl
theorem bt_sc {b : BT} (h : b.last.length = 80) : b.vals[80]? = some (.bool b.sc) := by
  rw [List.getElem?_append_right (by simp [h])]; simp [h]
theorem bt_setl {b : BT} {k e : Nat} (h : k < b.last.length) : b.vals.set k (inat e) = ({ b with last := b.last.set k e } : BT).vals := by
  show (b.last.map inat ++ [Value.bool b.sc]).set k (inat e) = (b.last.set k e).map inat ++ [Value.bool b.sc]
  rw [List.set_append_left _ _ (by simpa using h), List.map_set]
theorem bt_sets {b : BT} (h : b.last.length = 80) (c : Bool) : b.vals.set 80 (.bool c) = ({ b with sc := c } : BT).vals := by
  show (b.last.map inat ++ [Value.bool b.sc]).set 80 (.bool c) = b.last.map inat ++ [Value.bool c]
  rw [List.set_append_right _ _ (by simp [h])]; simp [h]

theorem runsM_len {s : List UInt8} {n : Nat} {sc : Bool} : ∀ {f e : Nat} {last : List Nat}, (runsM s n sc f e last).2.length = last.length
  | 0, _, _ => rfl
  | f + 1, e, last => by
    unfold runsM
    split
    · rfl
    · split
      · dsimp only
        have h : (if sc = false ∧ scan tickB s e - e < 80 then last.set (scan tickB s e - e - 1) e else last).length = last.length := by split <;> simp
        split
        · exact h
        · rw [runsM_len, h]
      · exact runsM_len
structure CS where
  e : Nat
  f : Nat
  l : List Nat

theorem scan_at {p : UInt8 → Bool} {s : List UInt8} : ∀ {n i : Nat} {c : UInt8}, s.length ≤ i + n → s[scan p s i]? = some c → p c = false
  | 0, i, c, h, hc => by rw [scan_end (by omega), List.getElem?_eq_none (by omega)] at hc; cases hc
  | n + 1, i, c, h, hc => by
    by_cases hlt : i < s.length
    · obtain ⟨d, hd⟩ := get_some hlt
      cases hb : p d with
      | true =>
        rw [scan_step hd hb] at hc
        exact scan_at (n := n) (by omega) hc
      | false =>
        rw [scan_stop hd hb, hd] at hc
        cases hc
        exact hb
    · rw [scan_end (by omega), List.getElem?_eq_none (by omega)] at hc; cases hc

theorem codeSpanG_tr (p : Nat) (st : PS) (s : List UInt8) (i : Nat) (b : BT) (hl : s.length ≤ 1000000) (hi : s[i]? = some 96) (hbt : st.bt = b.vals) (hb80 : b.last.length = 80) :
    Tr Tryz.prog 63 [.pointer (some ⟨p, 12, none⟩), lp p, str s, inat i] [st.blk p] fun u K => ∃ q, u = prsV q (some (codeSpanM s i b).1) ∧ K = ({ st with bt := (codeSpanM s i b).2.vals } : PS).blk p :: prsK q (some (codeSpanM s i b).1) := by
  obtain ⟨par, root, links, lineno, stack, depth, corner, sv, em, list, lists, texts, bt⟩ := st
  dsimp only at hbt
  subst hbt
  have hil := (List.getElem?_eq_some_iff.1 hi).1
  have hj1 := scan_ge tickB s (i + 1)
  have hj2 := scan_le (p := tickB) (s := s) (i := i + 1) (by omega)
  have hcs : ∃ R, codeSpanM s i b = R := ⟨_, rfl⟩
  obtain ⟨R, hR⟩ := hcs
  rw [hR]
  unfold codeSpanM at hR
  generalize hj : scan tickB s (i + 1) = j at hj1 hj2 hR
  obtain ⟨n, rfl⟩ : ∃ n, j = i + n := ⟨j - i, by omega⟩
  dsimp only at hR
  rw [Nat.add_sub_cancel_left] at hR
  refine Tr.start (n := 160) (rs := [.tmp 8, .tmp 9, .tmp 10, .tmp 11]) rfl rfl rfl rfl fun B => ?_
  ((repeat (refine z7 ?_)); refine z6 ?_; (repeat' (first | refine za ?_)); refine z2 ?_; refine z1 ?_)
  (repeat (refine z7 ?_))
  refine zf9 (α := BT) (l := 0) (fun _ => [(0, .pointer (some ⟨p, 12, none⟩)), (2, str s), (3, inat i), (12, inat i), (13, inat n)]) (fun b' => [(⟨par, root, links, lineno, stack, depth, corner, sv, em, list, lists, texts, b'.vals⟩ : PS).blk p]) (fun b' => R = ((plainL ((s.take (i + n)).drop i), i, i + n), b')) rfl ?_ ?_
  · ((repeat (refine z7 ?_)); refine z6 ?_; (repeat' (first | refine z8 ?_ | refine za ?_)); refine z2 ?_; refine z1 ?_)
    ((repeat (refine z7 ?_)); refine z6 ?_; (repeat' (first | refine za ?_)); refine z2 ?_; refine z1 ?_)
    (repeat (refine z7 ?_))
    refine zac [(0, .pointer (some ⟨p, 12, none⟩)), (2, str s), (3, inat i), (12, inat i), (13, inat n)] [(⟨par, root, links, lineno, stack, depth, corner, sv, em, list, lists, texts, b.vals⟩ : PS).blk p] ?_ ?_
    · (repeat' (first | refine zf ?_))
      refine za6 (fun k : Nat => [(0, .pointer (some ⟨p, 12, none⟩)), (2, str s), (3, inat i), (12, inat i), (13, inat k)]) (fun _ => [(⟨par, root, links, lineno, stack, depth, corner, sv, em, list, lists, texts, b.vals⟩ : PS).blk p]) (fun k => scan tickB s (i + k) = i + n ∧ i + k ≤ s.length) (fun k => s.length - k) 1 ⟨hj, by omega⟩ kB sA fun k hk => ?_
      obtain ⟨hk1, hk2⟩ := hk
      by_cases hlt : i + k < s.length
      · obtain ⟨d, hd⟩ := get_some hlt
        by_cases h1 : d.toNat = 96
        · (repeat' (first | refine z7 ?_ | refine z6 ?_ | refine z2 ?_ | refine z1 ?_ | refine zc ?_ | refine zf ?_ | refine zd ?_ | refine zu ?_ | refine zh ?_ | refine z8 ?_ | refine za ?_ | refine zl ?_ | refine zb1 ?_ | refine zm ?_ | refine zt ?_ | refine zj ?_ | refine zg ?_ | refine zi ?_))
          exact ⟨k + 1, kB, sA, ⟨by rw [← hk1, ← Nat.add_assoc, ← scan_step hd (by simp [tickB, h1])], by omega⟩, by omega⟩
        · have : k = n := by have := scan_stop (p := tickB) hd (by simp [tickB, h1]); omega
          subst this
          (repeat' (first | refine z7 ?_ | refine z6 ?_ | refine z2 ?_ | refine z1 ?_ | refine zb ?_ | refine zw ?_ | refine zy ?_ | refine zz ?_ | refine zh ?_ | refine z8 ?_ | refine zb1 ?_ | refine zm ?_ | refine zr ?_ | refine zj ?_ | refine zg ?_ | refine zi ?_))
          exact ⟨kA, sA⟩
      · have : k = n := by have := scan_end (p := tickB) (s := s) (i := i + k) (by omega); omega
        subst this
        (repeat' (first | refine z7 ?_ | refine z6 ?_ | refine z2 ?_ | refine z1 ?_ | refine zb ?_ | refine zw ?_ | refine zy ?_ | refine zz ?_ | refine za2 ?_ | refine z8 ?_ | refine zb1 ?_ | refine za4 ?_ | refine zk ?_ | refine zg ?_))
        exact ⟨kA, sA⟩
    have hsc : (⟨par, root, links, lineno, stack, depth, corner, sv, em, list, lists, texts, b.vals⟩ : PS).cells[12 + 80]? = some (.bool b.sc) := by rw [bt_get]; exact bt_sc hb80
    (repeat (refine z7 ?_))
    refine zac [(0, .pointer (some ⟨p, 12, none⟩)), (2, str s), (3, inat i), (12, inat i), (13, inat n), (55, .bool (decide (80 < n ∨ b.sc = true ∧ b.last.getD (n - 1) 0 < i + n)))] [(⟨par, root, links, lineno, stack, depth, corner, sv, em, list, lists, texts, b.vals⟩ : PS).blk p] ?_ ?_
    · by_cases h80 : 80 < n
      · rw [decide_eq_true (.inl h80)]
        (repeat' (first | refine z6 ?_ | refine z2 ?_ | refine z1 ?_ | refine zaa ?_ | refine zay ?_ | refine z8 ?_ | refine zaz ?_ | refine zj ?_))
        exact ⟨kA, sA⟩
      · cases hbs : b.sc with
        | false =>
          rw [hbs] at hsc
          rw [decide_eq_false (by rintro (h | ⟨h, _⟩); exact h80 h; cases h)]
          (repeat' (first | refine zn (hc := hsc) ?_ | refine z6 ?_ | refine z2 ?_ | refine z1 ?_ | refine zh ?_ | refine za2 ?_ | refine z8 ?_ | refine zp ?_ | refine zq ?_ | refine zat ?_ | refine zk ?_))
          exact ⟨kA, sA⟩
        | true =>
          rw [hbs] at hsc
          have hla : (⟨par, root, links, lineno, stack, depth, corner, sv, em, list, lists, texts, b.vals⟩ : PS).cells[12 + 0 + (n - 1) * 1]? = some (inat (b.last.getD (n - 1) 0)) := by
            rw [show 12 + 0 + (n - 1) * 1 = 12 + (n - 1) by omega, bt_get]; exact bt_last (by omega)
          generalize b.last.getD (n - 1) 0 = lv at hla ⊢
          by_cases hlv : lv < i + n
          · rw [decide_eq_true (.inr ⟨rfl, hlv⟩)]
            (repeat' (first | refine zn (hc := hsc) ?_ | refine Ops.pure _ (zap (a := n) (b := 1) (c := n - 1) (by rfl) (by rfl) (by omega) (by omega)) (by rfl) ?_ | refine zca ?_ | refine zn (hc := hla) ?_ | refine z6 ?_ | refine z2 ?_ | refine z1 ?_ | refine zh ?_ | refine z8 ?_ | refine zp ?_ | refine zq ?_ | refine zb1 ?_ | refine zm ?_ | refine zat ?_ | refine zj ?_ | refine zk ?_))
            exact ⟨kA, sA⟩
          · rw [decide_eq_false (by rintro (h | ⟨_, h⟩); exact h80 h; exact hlv h)]
            (repeat' (first | refine zn (hc := hsc) ?_ | refine Ops.pure _ (zap (a := n) (b := 1) (c := n - 1) (by rfl) (by rfl) (by omega) (by omega)) (by rfl) ?_ | refine zca ?_ | refine zn (hc := hla) ?_ | refine z6 ?_ | refine z2 ?_ | refine z1 ?_ | refine zh ?_ | refine z8 ?_ | refine zp ?_ | refine zq ?_ | refine zb1 ?_ | refine za4 ?_ | refine zat ?_ | refine zj ?_ | refine zk ?_))
            exact ⟨kA, sA⟩
    by_cases hc : 80 < n ∨ b.sc = true ∧ b.last.getD (n - 1) 0 < i + n
    · rw [if_pos hc] at hR
      rw [decide_eq_true hc]
      (repeat' (first | refine zc ?_ | refine zf4 ?_ | refine zg5 ?_ | refine zez ?_))
      exact ⟨b, kA, sA, hR.symm⟩
    rw [if_neg hc] at hR
    rw [decide_eq_false hc]
    have hrx : ∃ rr, runsM s n b.sc (s.length + 1) (i + n) b.last = rr := ⟨_, rfl⟩
    obtain ⟨rr, hrr⟩ := hrx
    rw [hrr] at hR
    refine zb ?_
    refine zd ?_
    refine z1 ?_
    ((repeat (refine z7 ?_)); refine z6 ?_; (repeat' (first | refine z8 ?_ | refine za ?_ | refine zb1 ?_)); refine z2 ?_; refine z1 ?_)
    (repeat (refine z7 ?_))
    refine zau (fun _ : Unit => [(0, .pointer (some ⟨p, 12, none⟩)), (2, str s), (3, inat i), (12, inat i), (13, inat n)]) (fun _ => [(⟨par, root, links, lineno, stack, depth, corner, sv, em, list, lists, texts, (⟨rr.2, b.sc⟩ : BT).vals⟩ : PS).blk p]) (fun _ => rr.1 = none ∧ rr.2.length = 80) ?_ ?_
    · (repeat' (first | refine zf ?_))
      refine za6 (fun x : CS => [(0, .pointer (some ⟨p, 12, none⟩)), (2, str s), (3, inat i), (12, inat i), (13, inat n), (14, inat x.e)]) (fun x => [(⟨par, root, links, lineno, stack, depth, corner, sv, em, list, lists, texts, (⟨x.l, b.sc⟩ : BT).vals⟩ : PS).blk p]) (fun x => runsM s n b.sc x.f x.e x.l = rr ∧ i + n ≤ x.e ∧ x.e ≤ s.length ∧ s.length < x.e + x.f ∧ x.l.length = 80) (fun x => s.length - x.e) ⟨i + n, s.length + 1, b.last⟩ ⟨hrr, Nat.le_refl _, by dsimp only; omega, by dsimp only; omega, hb80⟩ kB sA fun x hx => ?_
      obtain ⟨e, f, la⟩ := x
      obtain ⟨i1, i2, i3, i4, i5⟩ := hx
      dsimp only at i1 i2 i3 i4 i5 ⊢
      obtain ⟨f, rfl⟩ : ∃ f', f = f' + 1 := ⟨f - 1, by omega⟩
      unfold runsM at i1
      by_cases hlt : e < s.length
      · obtain ⟨d, hd⟩ := get_some hlt
        rw [hd] at i1
        dsimp only at i1
        by_cases h96 : d.toNat = 96
        · have htd : tickB d = true := by simp [tickB, h96]
          rw [if_pos htd] at i1
          have hg1 : e + 1 ≤ scan tickB s e := by rw [scan_step hd htd]; exact scan_ge _ _ _
          have hg2 := scan_le (p := tickB) (s := s) (i := e) (by omega)
          generalize he' : scan tickB s e = e' at i1 hg1 hg2
          ((repeat (refine z7 ?_)); refine z6 ?_; (repeat' (first | refine z8 ?_ | refine zm ?_ | refine zg ?_)); refine z2 ?_; refine z1 ?_)
          (repeat (refine z7 ?_))
          refine zc ?_
          refine zd ?_
          refine z1 ?_
          refine zf ?_
          ((repeat (refine z7 ?_)); refine z6 ?_; (repeat' (first | refine z8 ?_ | refine zb0 ?_ | refine zi ?_)); refine z2 ?_; refine z1 ?_)
          (repeat (refine z7 ?_))
          refine zb ?_
          refine zd ?_
          refine z1 ?_
          ((repeat (refine z7 ?_)); refine z6 ?_; (repeat' (first | refine z8 ?_ | refine za ?_)); refine z2 ?_; refine z1 ?_)
          (repeat (refine z7 ?_))
          refine zac [(0, .pointer (some ⟨p, 12, none⟩)), (2, str s), (3, inat i), (12, inat i), (13, inat n), (14, inat e'), (15, inat e)] [(⟨par, root, links, lineno, stack, depth, corner, sv, em, list, lists, texts, (⟨la, b.sc⟩ : BT).vals⟩ : PS).blk p] ?_ ?_
          · (repeat' (first | refine zf ?_))
            refine za6 (fun k : Nat => [(0, .pointer (some ⟨p, 12, none⟩)), (2, str s), (3, inat i), (12, inat i), (13, inat n), (14, inat k), (15, inat e)]) (fun _ => [(⟨par, root, links, lineno, stack, depth, corner, sv, em, list, lists, texts, (⟨la, b.sc⟩ : BT).vals⟩ : PS).blk p]) (fun k => scan tickB s k = e' ∧ k ≤ s.length) (fun k => s.length - k) e ⟨he', by omega⟩ kB sA fun k hk => ?_
            obtain ⟨hk1, hk2⟩ := hk
            by_cases hlt : k < s.length
            · obtain ⟨d, hd⟩ := get_some hlt
              by_cases h1 : d.toNat = 96
              · (repeat' (first | refine z7 ?_ | refine z6 ?_ | refine z2 ?_ | refine z1 ?_ | refine zc ?_ | refine zf ?_ | refine zd ?_ | refine zu ?_ | refine zh ?_ | refine z8 ?_ | refine za ?_ | refine zl ?_ | refine zm ?_ | refine zt ?_ | refine zj ?_ | refine zg ?_ | refine zi ?_))
                exact ⟨k + 1, kB, sA, ⟨by rw [← hk1, ← scan_step hd (by simp [tickB, h1])], by omega⟩, by omega⟩
              · have : k = e' := by rw [← hk1, scan_stop hd (by simp [tickB, h1])]
                subst this
                (repeat' (first | refine z7 ?_ | refine z6 ?_ | refine z2 ?_ | refine z1 ?_ | refine zb ?_ | refine zw ?_ | refine zy ?_ | refine zz ?_ | refine zh ?_ | refine z8 ?_ | refine zm ?_ | refine zr ?_ | refine zj ?_ | refine zg ?_ | refine zi ?_))
                exact ⟨kA, sA⟩
            · have : k = e' := by rw [← hk1, scan_end (by omega)]
              subst this
              (repeat' (first | refine z7 ?_ | refine z6 ?_ | refine z2 ?_ | refine z1 ?_ | refine zb ?_ | refine zw ?_ | refine zy ?_ | refine zz ?_ | refine za2 ?_ | refine z8 ?_ | refine za4 ?_ | refine zk ?_ | refine zg ?_))
              exact ⟨kA, sA⟩
          ((repeat (refine z7 ?_)); refine z6 ?_; (repeat' (first | refine Ops.pure _ (zap (a := e') (b := e) (c := e' - e) (by rfl) (by rfl) (by omega) (by omega)) (by rfl) ?_ | refine z8 ?_ | refine za ?_)); refine z2 ?_; refine z1 ?_)
          have hsc' : (⟨par, root, links, lineno, stack, depth, corner, sv, em, list, lists, texts, (⟨la, b.sc⟩ : BT).vals⟩ : PS).cells[12 + 80]? = some (.bool b.sc) := by rw [bt_get]; exact bt_sc (b := ⟨la, b.sc⟩) i5
          (repeat (refine z7 ?_))
          refine zac [(0, .pointer (some ⟨p, 12, none⟩)), (2, str s), (3, inat i), (12, inat i), (13, inat n), (14, inat e'), (15, inat e), (16, inat (e' - e)), (93, .bool (decide (b.sc = false ∧ e' - e < 80)))] [(⟨par, root, links, lineno, stack, depth, corner, sv, em, list, lists, texts, (⟨la, b.sc⟩ : BT).vals⟩ : PS).blk p] ?_ ?_
          · cases hbs : b.sc with
            | true =>
              rw [hbs] at hsc'
              rw [decide_eq_false (by rintro ⟨h, _⟩; cases h)]
              (repeat' (first | refine zn (hc := hsc') ?_ | refine z6 ?_ | refine z2 ?_ | refine z1 ?_ | refine za2 ?_ | refine z8 ?_ | refine zp ?_ | refine zq ?_ | refine zk ?_ | refine zaq ?_))
              exact ⟨kA, sA⟩
            | false =>
              rw [hbs] at hsc'
              by_cases h80 : e' - e < 80
              · rw [decide_eq_true ⟨rfl, h80⟩]
                (repeat' (first | refine zn (hc := hsc') ?_ | refine z6 ?_ | refine z2 ?_ | refine z1 ?_ | refine zh ?_ | refine z8 ?_ | refine zp ?_ | refine zq ?_ | refine zm ?_ | refine zj ?_ | refine zam ?_))
                exact ⟨kA, sA⟩
              · rw [decide_eq_false (by rintro ⟨_, h⟩; exact h80 h)]
                (repeat' (first | refine zn (hc := hsc') ?_ | refine z6 ?_ | refine z2 ?_ | refine z1 ?_ | refine zh ?_ | refine z8 ?_ | refine zp ?_ | refine zq ?_ | refine za4 ?_ | refine zj ?_ | refine zam ?_))
                exact ⟨kA, sA⟩
          have hla : ∃ la', (if b.sc = false ∧ e' - e < 80 then la.set (e' - e - 1) e else la) = la' := ⟨_, rfl⟩
          obtain ⟨la', hla'⟩ := hla
          have hl80 : la'.length = 80 := by rw [← hla']; split <;> simp [i5]
          rw [hla'] at i1
          refine zac [(0, .pointer (some ⟨p, 12, none⟩)), (2, str s), (3, inat i), (12, inat i), (13, inat n), (14, inat e'), (15, inat e), (16, inat (e' - e))] [(⟨par, root, links, lineno, stack, depth, corner, sv, em, list, lists, texts, (⟨la', b.sc⟩ : BT).vals⟩ : PS).blk p] ?_ ?_
          · by_cases hcc : b.sc = false ∧ e' - e < 80
            · rw [decide_eq_true hcc]
              rw [if_pos hcc] at hla'
              have hst : SetAt (⟨par, root, links, lineno, stack, depth, corner, sv, em, list, lists, texts, (⟨la, b.sc⟩ : BT).vals⟩ : PS).cells (12 + 0 + (e' - e - 1) * 1) (inat e) (⟨par, root, links, lineno, stack, depth, corner, sv, em, list, lists, texts, (⟨la', b.sc⟩ : BT).vals⟩ : PS).cells := by
                rw [show 12 + 0 + (e' - e - 1) * 1 = 12 + (e' - e - 1) by omega, ← hla']
                have h1 := bt_setl (b := ⟨la, b.sc⟩) (k := e' - e - 1) (e := e) (by dsimp only; omega)
                have h2 := bt_set (⟨par, root, links, lineno, stack, depth, corner, sv, em, list, lists, texts, (⟨la, b.sc⟩ : BT).vals⟩ : PS) (k := e' - e - 1) (v := inat e) (by simp; omega)
                rw [h1] at h2
                exact h2
              (repeat' (first | refine Ops.pure _ (zap (a := e' - e) (b := 1) (c := e' - e - 1) (by rfl) (by rfl) (by omega) (by omega)) (by rfl) ?_ | refine zca ?_ | refine za5 (hc := hst) ?_ | refine z6 ?_ | refine z2 ?_ | refine z1 ?_ | refine zc ?_ | refine z8 ?_ | refine zp ?_ | refine zq ?_))
              exact ⟨kA, sA⟩
            · rw [decide_eq_false hcc]
              rw [if_neg hcc] at hla'
              subst hla'
              (repeat' (first | refine z1 ?_ | refine zb ?_ | refine zd ?_))
              exact ⟨kA, sA⟩
          by_cases hmn : e' - e = n
          · rw [if_pos hmn] at i1
            rw [← i1] at hR
            dsimp only at hR
            rw [← hR]
            dsimp only
            have hns : e ≠ i + n := fun h => by
              have h1 : s[scan tickB s (i + 1)]? = some d := by rw [hj, ← h]; exact hd
              rw [scan_at (n := s.length) (by omega) h1] at htd; cases htd
            have htl : ((s.take e).drop (i + n)).length = e - (i + n) := by rw [List.length_drop, List.length_take]; omega
            have hrep := replNL_tr ((s.take e).drop (i + n)) (by omega) (by intro h; rw [h] at htl; simp at htl; omega)
            unfold codeText
            have hml : (((s.take e).drop (i + n)).map nlsp).length = e - (i + n) := by rw [List.length_map, htl]
            generalize ((s.take e).drop (i + n)).map nlsp = t at hrep hml ⊢
            by_cases g1 : 2 ≤ t.length
            · obtain ⟨c0, hc0⟩ := get_some (show 0 < t.length by omega)
              obtain ⟨c1, hc1⟩ := get_some (show t.length - 1 < t.length by omega)
              by_cases g2 : c0.toNat = 32
              · by_cases g3 : c1.toNat = 32
                · by_cases g4 : btrim t = []
                  · rw [if_neg (by rintro ⟨_, _, _, h⟩; exact h g4)]
                    (repeat' (first | refine zo (hrep) ?_ | refine Ops.pure _ (zc0 c0 (i := 0) (by rfl) (by rfl) hc0) (by rfl) ?_ | refine Ops.pure _ (zap (a := t.length) (b := 1) (c := t.length - 1) (by rfl) (by rfl) (by omega) (by omega)) (by rfl) ?_ | refine zo (btrim_tr2 t (by omega)) ?_ | refine z7 ?_ | refine z6 ?_ | refine z2 ?_ | refine z1 ?_ | refine zc ?_ | refine zb ?_ | refine zd ?_ | refine ze ?_ | refine zx ?_ | refine zag ?_ | refine zh ?_ | refine z8 ?_ | refine za ?_ | refine zb1 ?_ | refine zas ?_ | refine zt ?_ | refine zj ?_ | refine zg ?_ | refine zi ?_ | refine zav ?_ | refine zd2 ?_ | refine zan ?_ | refine zao ?_ | refine zaf (fun _ => ?_) | refine zcu ?_))
                    rename_i q
                    exact e_ret _ ⟨q, rfl, rfl⟩ sA
                  · rw [if_pos ⟨g1, by rw [hc0, show c0 = 32 from UInt8.toNat_inj.1 g2], by rw [hc1, show c1 = 32 from UInt8.toNat_inj.1 g3], g4⟩]
                    (repeat' (first | refine zo (hrep) ?_ | refine Ops.pure _ (zc0 c0 (i := 0) (by rfl) (by rfl) hc0) (by rfl) ?_ | refine Ops.pure _ (zap (a := t.length) (b := 1) (c := t.length - 1) (by rfl) (by rfl) (by omega) (by omega)) (by rfl) ?_ | refine zo (btrim_tr2 t (by omega)) ?_ | refine Ops.pure _ (zbb (l := t) (a := 1) (b := t.length - 1) (by rfl) (by rfl) (by rfl) (by omega) (by omega)) (by rfl) ?_ | refine z7 ?_ | refine z6 ?_ | refine z2 ?_ | refine z1 ?_ | refine zc ?_ | refine ze ?_ | refine zx ?_ | refine zag ?_ | refine zh ?_ | refine z8 ?_ | refine za ?_ | refine zb1 ?_ | refine zas ?_ | refine zt ?_ | refine zj ?_ | refine zg ?_ | refine zi ?_ | refine zav ?_ | refine zcd ?_ | refine zan ?_ | refine zao ?_ | refine zaf (fun _ => ?_) | refine zcu ?_))
                    rename_i q
                    exact e_ret _ ⟨q, rfl, rfl⟩ sA
                · rw [if_neg (by rintro ⟨_, _, h, _⟩; rw [hc1] at h; cases h; exact g3 rfl)]
                  (repeat' (first | refine zo (hrep) ?_ | refine Ops.pure _ (zc0 c0 (i := 0) (by rfl) (by rfl) hc0) (by rfl) ?_ | refine Ops.pure _ (zap (a := t.length) (b := 1) (c := t.length - 1) (by rfl) (by rfl) (by omega) (by omega)) (by rfl) ?_ | refine z7 ?_ | refine z6 ?_ | refine z2 ?_ | refine z1 ?_ | refine zc ?_ | refine zb ?_ | refine zd ?_ | refine ze ?_ | refine zx ?_ | refine zag ?_ | refine zh ?_ | refine za2 ?_ | refine z8 ?_ | refine za ?_ | refine zb1 ?_ | refine zas ?_ | refine zt ?_ | refine zr ?_ | refine zj ?_ | refine zk ?_ | refine zg ?_ | refine zi ?_ | refine zav ?_ | refine zan ?_ | refine zao ?_ | refine zaf (fun _ => ?_) | refine zcu ?_))
                  rename_i q
                  exact e_ret _ ⟨q, rfl, rfl⟩ sA
              · rw [if_neg (by rintro ⟨_, h, _⟩; rw [hc0] at h; cases h; exact g2 rfl)]
                (repeat' (first | refine zo (hrep) ?_ | refine Ops.pure _ (zc0 c0 (i := 0) (by rfl) (by rfl) hc0) (by rfl) ?_ | refine z7 ?_ | refine z6 ?_ | refine z2 ?_ | refine z1 ?_ | refine zc ?_ | refine zb ?_ | refine zd ?_ | refine ze ?_ | refine zx ?_ | refine zag ?_ | refine zh ?_ | refine za2 ?_ | refine z8 ?_ | refine za ?_ | refine zb1 ?_ | refine zas ?_ | refine zt ?_ | refine zr ?_ | refine zj ?_ | refine zk ?_ | refine zg ?_ | refine zav ?_ | refine zan ?_ | refine zao ?_ | refine zaf (fun _ => ?_) | refine zcu ?_))
                rename_i q
                exact e_ret _ ⟨q, rfl, rfl⟩ sA
            · rw [if_neg (by rintro ⟨h, _⟩; exact g1 h)]
              (repeat' (first | refine zo (hrep) ?_ | refine z7 ?_ | refine z6 ?_ | refine z2 ?_ | refine z1 ?_ | refine zc ?_ | refine zb ?_ | refine zd ?_ | refine ze ?_ | refine zx ?_ | refine zag ?_ | refine za2 ?_ | refine z8 ?_ | refine za ?_ | refine zb1 ?_ | refine zab ?_ | refine zt ?_ | refine zk ?_ | refine zg ?_ | refine zav ?_ | refine zan ?_ | refine zao ?_ | refine zaf (fun _ => ?_) | refine zcu ?_))
              rename_i q
              exact e_ret _ ⟨q, rfl, rfl⟩ sA
          · rw [if_neg hmn] at i1
            (repeat' (first | refine z7 ?_ | refine z6 ?_ | refine z2 ?_ | refine z1 ?_ | refine zb ?_ | refine zd ?_ | refine zu ?_ | refine z8 ?_ | refine zr ?_))
            exact ⟨⟨e', f, la'⟩, kB, sA, ⟨i1, by dsimp only; omega, by dsimp only; omega, by dsimp only; omega, hl80⟩, by dsimp only; omega⟩
        · have htd : tickB d = false := by simp [tickB, h96]
          rw [htd] at i1
          simp only [Bool.false_eq_true, if_false] at i1
          (repeat' (first | refine z7 ?_ | refine z6 ?_ | refine z2 ?_ | refine z1 ?_ | refine zc ?_ | refine zf ?_ | refine zd ?_ | refine zw ?_ | refine zy ?_ | refine zz ?_ | refine z8 ?_ | refine za ?_ | refine zl ?_ | refine zm ?_ | refine zb2 ?_ | refine zg ?_ | refine zi ?_))
          exact ⟨⟨e + 1, f, la⟩, kB, sA, ⟨i1, by dsimp only; omega, by dsimp only; omega, by dsimp only; omega, i5⟩, by dsimp only; omega⟩
      · rw [List.getElem?_eq_none (by omega)] at i1
        dsimp only at i1
        rw [← i1]
        (repeat' (first | refine z7 ?_ | refine z6 ?_ | refine z2 ?_ | refine z1 ?_ | refine zb ?_ | refine zw ?_ | refine zy ?_ | refine zz ?_ | refine z8 ?_ | refine za4 ?_ | refine zg ?_))
        exact ⟨(), kA, sA, rfl, i5⟩
    · rintro _ ⟨hn, hl80⟩
      obtain ⟨o, la⟩ := rr
      dsimp only at hn hl80 hR ⊢
      subst hn
      dsimp only at hR
      rw [← hR]
      have hst : SetAt (⟨par, root, links, lineno, stack, depth, corner, sv, em, list, lists, texts, (⟨la, b.sc⟩ : BT).vals⟩ : PS).cells (12 + 80) (.bool true) (⟨par, root, links, lineno, stack, depth, corner, sv, em, list, lists, texts, (⟨la, true⟩ : BT).vals⟩ : PS).cells := by
        have h1 := bt_sets (b := ⟨la, b.sc⟩) hl80 true
        have h2 := bt_set (⟨par, root, links, lineno, stack, depth, corner, sv, em, list, lists, texts, (⟨la, b.sc⟩ : BT).vals⟩ : PS) (k := 80) (v := .bool true) (by simp [hl80])
        rw [h1] at h2
        exact h2
      (repeat' (first | refine za5 (hc := hst) ?_ | refine z7 ?_ | refine z6 ?_ | refine z2 ?_ | refine z1 ?_ | refine ze ?_ | refine zcb ?_ | refine z8 ?_ | refine za ?_ | refine zp ?_ | refine zq ?_ | refine zb1 ?_ | refine zav ?_ | refine zan ?_ | refine zao ?_ | refine zaf (fun _ => ?_) | refine zcu ?_))
      rename_i q
      exact e_ret _ ⟨q, rfl, rfl⟩ sA
  · rintro b' hb'
    rw [hb']
    (repeat' (first | refine z7 ?_ | refine z6 ?_ | refine z2 ?_ | refine z1 ?_ | refine zd ?_ | refine ze ?_ | refine zbq ?_ | refine z8 ?_ | refine za ?_ | refine zb1 ?_ | refine zav ?_ | refine zan ?_ | refine zao ?_ | refine zaf (fun _ => ?_)))
    rename_i q
    exact e_ret _ ⟨q, rfl, rfl⟩ sA
end Go.Proofs

namespace Go.Proofs
open Go Go.Eng
set_option maxRecDepth 20000
set_option maxHeartbeats 2000000

/-- The texts of the table of entities. -/
def tabOf (es : List Value) (k : Nat) : List UInt8 := match es[k]? with
  | some (.string b) => b.data.toList
  | _ => []
theorem tabOf_at {es : List Value} (hE : EntOK es) {k : Nat} (h : k < 24) : es[k]? = some (str (tabOf es k)) ∧ tabOf es k ≠ [] ∧ (tabOf es k).length ≤ 8 := by
  obtain ⟨s, e, h1, h2⟩ := hE k h
  have : tabOf es k = s := by unfold tabOf; rw [e]
  rw [this]; exact ⟨e, h1, h2⟩
def entF (tab : Nat → List UInt8) (name : List UInt8) : Nat → Nat → Option (List UInt8)
  | 0, _ => none
  | f + 1, k => if tab (2 * k) = name then some (tab (2 * k + 1)) else entF tab name f (k + 1)
abbrev entM (tab : Nat → List UInt8) (name : List UInt8) : Option (List UInt8) := entF tab name 12 0
def entV : Option (List UInt8) → Value
  | some s => .tuple #[str s, .bool true]
  | none => .tuple #[str [], .bool false]
theorem entF_ok {es : List Value} (hE : EntOK es) {name s : List UInt8} : ∀ {f k : Nat}, k + f ≤ 12 → entF (tabOf es) name f k = some s → s ≠ [] ∧ s.length ≤ 8
  | 0, _, _, h => by cases h
  | f + 1, k, hk, h => by
    unfold entF at h
    split at h
    · cases h
      exact (tabOf_at hE (by omega)).2
    · exact entF_ok hE (by omega) h
theorem htmlEntityG_tr (T : Nat) (es : List Value) (hE : EntOK es) (l : List UInt8) :
    Tr Tryz.prog 98 [str l] [ent T es] fun u K => u = entV (entM (tabOf es) l) ∧ K = [ent T es] := by
  have hW : ∃ W, entM (tabOf es) l = W := ⟨_, rfl⟩
  obtain ⟨W, hW⟩ := hW
  rw [hW]
  refine Tr.start (n := 19) (rs := [.tmp 2, .tmp 3]) rfl rfl rfl rfl fun B => ?_
  (repeat' (first | refine z7 ?_ | refine z6 ?_ | refine z2 ?_ | refine z1 ?_ | refine zf ?_ | refine za ?_))
  refine za6 (fun k : Nat => [(0, str l), (4, inat k)]) (fun _ => [ent T es]) (fun k => k ≤ 12 ∧ entF (tabOf es) l (12 - k) k = W) (fun k => 12 - k) 0 ⟨by omega, hW⟩ kB sA fun k hk => ?_
  obtain ⟨hk, hI⟩ := hk
  by_cases hlt : k < 12
  · obtain ⟨e1, _, _⟩ := tabOf_at hE (k := 0 + k * 2 + 0 * 1) (by omega)
    obtain ⟨e2, n2, m2⟩ := tabOf_at hE (k := 0 + k * 2 + 1 * 1) (by omega)
    rw [show 12 - k = (11 - k) + 1 by omega] at hI
    unfold entF at hI
    rw [show 2 * k = 0 + k * 2 + 0 * 1 by omega, show 0 + k * 2 + 0 * 1 + 1 = 0 + k * 2 + 1 * 1 by omega] at hI
    generalize tabOf es (0 + k * 2 + 0 * 1) = s1 at e1 hI
    generalize tabOf es (0 + k * 2 + 1 * 1) = s2 at e2 hI
    by_cases h : s1 = l
    · rw [if_pos h] at hI
      rw [← hI]
      (repeat' (first | refine zca ?_ | refine zca (i := 0) ?_ | refine zca (i := 1) ?_ | refine zn (hc := e1) ?_ | refine zn (hc := e2) ?_ | refine z7 ?_ | refine z6 ?_ | refine z2 ?_ | refine z1 ?_ | refine zc ?_ | refine zf ?_ | refine zd ?_ | refine ze ?_ | refine zx ?_ | refine zag ?_ | refine z8 ?_ | refine za ?_ | refine zm ?_ | refine zc8 ?_))
      exact e_ret _ ⟨rfl, rfl⟩ sA
    · rw [if_neg h] at hI
      (repeat' (first | refine zca ?_ | refine zca (i := 0) ?_ | refine zn (hc := e1) ?_ | refine z7 ?_ | refine z6 ?_ | refine z2 ?_ | refine z1 ?_ | refine zc ?_ | refine zb ?_ | refine zf ?_ | refine zd ?_ | refine zu ?_ | refine z8 ?_ | refine za ?_ | refine zl ?_ | refine zm ?_ | refine zce ?_))
      exact ⟨k + 1, kB, sA, ⟨by omega, by rw [← hI]; congr 1; omega⟩, by omega⟩
  · have : k = 12 := by omega
    subst this
    rw [← hI]
    (repeat' (first | refine z7 ?_ | refine z6 ?_ | refine z2 ?_ | refine z1 ?_ | refine zb ?_ | refine zw ?_ | refine zy ?_ | refine zz ?_ | refine ze ?_ | refine z8 ?_ | refine za ?_ | refine za4 ?_))
    exact e_ret _ ⟨rfl, rfl⟩ sA

def semiB (c : UInt8) : Bool := !(c.toNat == 59)
/-- The text without backslashes ahead of punctuation, and with entities replaced, from a place on. -/
def replF (tab : Nat → List UInt8) (l : List UInt8) : Nat → Nat → List UInt8
  | 0, _ => []
  | f + 1, j => match l[j]? with
    | none => []
    | some c => if c.toNat = 92 then (match l[j + 1]? with
        | some d => if isPunB d = true then d :: replF tab l f (j + 1 + 1) else c :: replF tab l f (j + 1)
        | none => c :: replF tab l f (j + 1))
      else if c.toNat = 38 then (if scan semiB l (j + 1) < l.length then (match entM tab ((l.take (scan semiB l (j + 1) + 1)).drop j) with
        | some s => s ++ replF tab l f (scan semiB l (j + 1) + 1)
        | none => c :: replF tab l f (j + 1)) else c :: replF tab l f (j + 1))
      else c :: replF tab l f (j + 1)
abbrev replM (tab : Nat → List UInt8) (l : List UInt8) : List UInt8 := replF tab l (l.length + 1) 0
structure UC where
  j : Nat
  f : Nat
  p : Value
  v : Value
  R : Blk
  o : List UInt8
abbrev UC.u (x : UC) : UB := ⟨x.j, x.p, x.v, x.R, x.o⟩
/-- Replace of any text. -/
theorem replaceG_tr (T : Nat) (es : List Value) (hE : EntOK es) (l : List UInt8) (hl : l.length ≤ 1000000) :
    Tr Tryz.prog 143 [.agg #[], str l] [ent T es] fun u K => u = str (replM (tabOf es) l) ∧ (replM (tabOf es) l).length ≤ 8 * l.length ∧ K = [ent T es] := by
  have hW : ∃ W, replM (tabOf es) l = W := ⟨_, rfl⟩
  obtain ⟨W, hW⟩ := hW
  rw [hW]
  refine Tr.start (n := 86) (rs := [.tmp 4]) rfl rfl rfl rfl fun B => ?_
  (repeat' (first | refine z7 ?_ | refine z6 ?_ | refine z2 ?_ | refine z1 ?_ | refine za ?_ | refine zai (fun _ => ?_) | refine zaf (fun _ => ?_)))
  rename_i r b
  refine w_nilblk ?_
  refine zau (fun x : UB => [(5, lp b)]) (fun x => [bldb b x.p x.v, x.R, ent T es]) (fun x => BOK b x ∧ x.o.length ≤ 8 * l.length ∧ x.o = W) ?_ ?_
  · (repeat' (first | refine zf ?_))
    refine za6 (fun x : UC => [(1, str l), (5, lp b), (6, inat x.j)]) (fun x => [bldb b x.p x.v, x.R, ent T es]) (fun x => BOK b x.u ∧ x.j ≤ l.length ∧ x.o.length ≤ 8 * x.j ∧ x.o ++ replF (tabOf es) l x.f x.j = W ∧ l.length < x.j + x.f) (fun x => l.length - x.j) ⟨0, l.length + 1, .pointer none, .slice none 0 0, [], []⟩ ⟨⟨.inl rfl, Own.nil _ _, .inl ⟨rfl, rfl, rfl⟩⟩, by simp, by simp, hW, by simp⟩ kB sA fun x hx => ?_
    obtain ⟨j, f, p, v, R, o⟩ := x
    obtain ⟨⟨hp, hO, hN⟩, hj, ho, hI, hf⟩ := hx
    dsimp only at hp hO hN hj ho hI hf ⊢
    obtain ⟨f, rfl⟩ : ∃ f', f = f' + 1 := ⟨f - 1, by omega⟩
    unfold replF at hI
    by_cases hlt : j < l.length
    · obtain ⟨c, hc⟩ := get_some hlt
      rw [hc] at hI
      dsimp only at hI
      by_cases h92 : c.toNat = 92
      · rw [if_pos h92] at hI
        by_cases hlt2 : j + 1 < l.length
        · obtain ⟨d, hd⟩ := get_some hlt2
          rw [hd] at hI
          dsimp only at hI
          have hP := isPunB_tr d
          cases hpu : isPunB d with
          | true =>
            rw [hpu] at hI hP
            simp only [if_true] at hI
            (repeat' (first | refine zo (hP) ?_ | refine z7 ?_ | refine z6 ?_ | refine z2 ?_ | refine z1 ?_ | refine zc ?_ | refine zf ?_ | refine zd ?_ | refine zh ?_ | refine z8 ?_ | refine za ?_ | refine zl ?_ | refine zm ?_ | refine zt ?_ | refine zj ?_ | refine zg ?_ | refine zi ?_))
            refine za1 (bldByte_tr b p v o R d hp hO (by omega)) (fun u K hR => ?_)
            obtain ⟨rfl, v2, R2, h2, rfl⟩ := hR
            (repeat' (first | refine z6 ?_ | refine z2 ?_ | refine z1 ?_ | refine zu ?_ | refine z8 ?_ | refine za ?_ | refine zl ?_))
            exact ⟨⟨j + 1 + 1, f, lp b, v2, R2, o ++ [d]⟩, kB, sA, ⟨⟨.inr rfl, h2, .inr (by simp)⟩, by dsimp only; omega, by simp only [List.length_append, List.length_cons, List.length_nil]; omega, by dsimp only; rw [← hI]; simp, by dsimp only; omega⟩, by dsimp only; omega⟩
          | false =>
            rw [hpu] at hI hP
            simp only [Bool.false_eq_true, if_false] at hI
            (repeat' (first | refine zo (hP) ?_ | refine z7 ?_ | refine z6 ?_ | refine z2 ?_ | refine z1 ?_ | refine zc ?_ | refine zb ?_ | refine zf ?_ | refine zd ?_ | refine zh ?_ | refine z8 ?_ | refine za ?_ | refine zl ?_ | refine zm ?_ | refine zt ?_ | refine zr ?_ | refine zj ?_ | refine zg ?_ | refine zi ?_))
            refine za1 (bldByte_tr b p v o R c hp hO (by omega)) (fun u K hR => ?_)
            obtain ⟨rfl, v2, R2, h2, rfl⟩ := hR
            (repeat' (first | refine z6 ?_ | refine z2 ?_ | refine z1 ?_ | refine zu ?_ | refine z8 ?_ | refine za ?_ | refine zl ?_))
            exact ⟨⟨j + 1, f, lp b, v2, R2, o ++ [c]⟩, kB, sA, ⟨⟨.inr rfl, h2, .inr (by simp)⟩, by dsimp only; omega, by simp only [List.length_append, List.length_cons, List.length_nil]; omega, by dsimp only; rw [← hI]; simp, by dsimp only; omega⟩, by dsimp only; omega⟩
        · rw [List.getElem?_eq_none (show l.length ≤ j + 1 by omega)] at hI
          dsimp only at hI
          (repeat' (first | refine z7 ?_ | refine z6 ?_ | refine z2 ?_ | refine z1 ?_ | refine zc ?_ | refine zb ?_ | refine zf ?_ | refine zd ?_ | refine zh ?_ | refine za2 ?_ | refine z8 ?_ | refine za ?_ | refine zl ?_ | refine zm ?_ | refine za4 ?_ | refine zt ?_ | refine zr ?_ | refine zj ?_ | refine zk ?_ | refine zg ?_ | refine zi ?_))
          refine za1 (bldByte_tr b p v o R c hp hO (by omega)) (fun u K hR => ?_)
          obtain ⟨rfl, v2, R2, h2, rfl⟩ := hR
          (repeat' (first | refine z6 ?_ | refine z2 ?_ | refine z1 ?_ | refine zu ?_ | refine z8 ?_ | refine za ?_ | refine zl ?_))
          exact ⟨⟨j + 1, f, lp b, v2, R2, o ++ [c]⟩, kB, sA, ⟨⟨.inr rfl, h2, .inr (by simp)⟩, by dsimp only; omega, by simp only [List.length_append, List.length_cons, List.length_nil]; omega, by dsimp only; rw [← hI]; simp, by dsimp only; omega⟩, by dsimp only; omega⟩
      · rw [if_neg h92] at hI
        by_cases h38 : c.toNat = 38
        · rw [if_pos h38] at hI
          have hg1 := scan_ge semiB l (j + 1)
          have hg2 := scan_le (p := semiB) (s := l) (i := j + 1) (by omega)
          generalize hk0 : scan semiB l (j + 1) = k at hI hg1 hg2
          (repeat' (first | refine z7 ?_ | refine z6 ?_ | refine z2 ?_ | refine z1 ?_ | refine zc ?_ | refine zd ?_ | refine z8 ?_ | refine zm ?_ | refine zg ?_))
          refine zf ?_
          skip
          refine zf ?_
          (repeat' (first | refine z7 ?_ | refine z6 ?_ | refine z2 ?_ | refine z1 ?_ | refine zc ?_ | refine zb ?_ | refine za2 ?_ | refine z8 ?_ | refine za ?_ | refine zl ?_ | refine zt ?_ | refine zr ?_ | refine zk ?_ | refine zi ?_))
          refine zac [(1, str l), (5, lp b), (6, inat j), (7, inat k)] [bldb b p v, R, ent T es] ?_ ?_
          · (repeat' (first | refine zf ?_))
            refine za6 (fun k : Nat => [(1, str l), (5, lp b), (6, inat j), (7, inat k)]) (fun _ => [bldb b p v, R, ent T es]) (fun m => scan semiB l m = k ∧ m ≤ l.length) (fun m => l.length - m) (j + 1) ⟨hk0, by omega⟩ kB sA fun m hm => ?_
            obtain ⟨hm1, hm2⟩ := hm
            by_cases hkl : m < l.length
            · obtain ⟨d, hd⟩ := get_some hkl
              by_cases h59 : d.toNat = 59
              · have : m = k := by rw [← hm1, scan_stop hd (by simp [semiB, h59])]
                subst this
                (repeat' (first | refine z7 ?_ | refine z6 ?_ | refine z2 ?_ | refine z1 ?_ | refine zb ?_ | refine zw ?_ | refine zy ?_ | refine zz ?_ | refine zh ?_ | refine z8 ?_ | refine zm ?_ | refine zb0 ?_ | refine zj ?_ | refine zg ?_ | refine zi ?_))
                exact ⟨kA, sA⟩
              · (repeat' (first | refine z7 ?_ | refine z6 ?_ | refine z2 ?_ | refine z1 ?_ | refine zc ?_ | refine zf ?_ | refine zd ?_ | refine zu ?_ | refine zh ?_ | refine z8 ?_ | refine za ?_ | refine zl ?_ | refine zm ?_ | refine zb2 ?_ | refine zj ?_ | refine zg ?_ | refine zi ?_))
                exact ⟨m + 1, kB, sA, ⟨by rw [← hm1, ← scan_step hd (by simp [semiB, h59])], by omega⟩, by omega⟩
            · have : m = k := by rw [← hm1, scan_end (by omega)]
              subst this
              (repeat' (first | refine z7 ?_ | refine z6 ?_ | refine z2 ?_ | refine z1 ?_ | refine zb ?_ | refine zw ?_ | refine zy ?_ | refine zz ?_ | refine za2 ?_ | refine z8 ?_ | refine za4 ?_ | refine zk ?_ | refine zg ?_))
              exact ⟨kA, sA⟩
          · by_cases hkl : k < l.length
            · rw [if_pos hkl] at hI
              (repeat' (first | refine z7 ?_ | refine z6 ?_ | refine z2 ?_ | refine z1 ?_ | refine zc ?_ | refine z8 ?_ | refine zl ?_ | refine zm ?_ | refine zg ?_ | refine zav ?_))
              refine za1 (htmlEntityG_tr T es hE _) (fun u K hR => ?_)
              obtain ⟨rfl, rfl⟩ := hR
              cases hen : entM (tabOf es) ((l.take (k + 1)).drop j) with
              | some s =>
                rw [hen] at hI
                dsimp only [entV] at hI ⊢
                obtain ⟨hs1, hs2⟩ := entF_ok hE (by omega) hen
                (repeat' (first | refine z7 ?_ | refine z6 ?_ | refine z2 ?_ | refine z1 ?_ | refine zc ?_ | refine z8 ?_ | refine za ?_ | refine za0 ?_))
                refine za1 (bldStr_tr b p v o R s hp hO hs1 (by omega)) (fun u K hR => ?_)
                obtain ⟨rfl, v2, R2, h2, rfl⟩ := hR
                (repeat' (first | refine z7 ?_ | refine z6 ?_ | refine z2 ?_ | refine z1 ?_ | refine zw ?_ | refine zy ?_ | refine zz ?_ | refine zaw ?_ | refine z8 ?_ | refine za ?_ | refine zl ?_))
                exact ⟨⟨k + 1, f, lp b, v2, R2, o ++ s⟩, kB, sA, ⟨⟨.inr rfl, h2, .inr (by simp [hs1])⟩, by dsimp only; omega, by simp only [List.length_append]; omega, by dsimp only; rw [← hI]; simp, by dsimp only; omega⟩, by dsimp only; omega⟩
              | none =>
                rw [hen] at hI
                dsimp only [entV] at hI ⊢
                (repeat' (first | refine z7 ?_ | refine z6 ?_ | refine z2 ?_ | refine z1 ?_ | refine zb ?_ | refine zd ?_ | refine z8 ?_ | refine za ?_ | refine zi ?_ | refine za0 ?_))
                refine za1 (bldByte_tr b p v o R c hp hO (by omega)) (fun u K hR => ?_)
                obtain ⟨rfl, v2, R2, h2, rfl⟩ := hR
                (repeat' (first | refine z6 ?_ | refine z2 ?_ | refine z1 ?_ | refine zu ?_ | refine z8 ?_ | refine za ?_ | refine zl ?_))
                exact ⟨⟨j + 1, f, lp b, v2, R2, o ++ [c]⟩, kB, sA, ⟨⟨.inr rfl, h2, .inr (by simp)⟩, by dsimp only; omega, by simp only [List.length_append, List.length_cons, List.length_nil]; omega, by dsimp only; rw [← hI]; simp, by dsimp only; omega⟩, by dsimp only; omega⟩
            · rw [if_neg hkl] at hI
              (repeat' (first | refine z7 ?_ | refine z6 ?_ | refine z2 ?_ | refine z1 ?_ | refine zb ?_ | refine zd ?_ | refine z8 ?_ | refine za4 ?_ | refine zg ?_ | refine zi ?_))
              refine za1 (bldByte_tr b p v o R c hp hO (by omega)) (fun u K hR => ?_)
              obtain ⟨rfl, v2, R2, h2, rfl⟩ := hR
              (repeat' (first | refine z6 ?_ | refine z2 ?_ | refine z1 ?_ | refine zu ?_ | refine z8 ?_ | refine za ?_ | refine zl ?_))
              exact ⟨⟨j + 1, f, lp b, v2, R2, o ++ [c]⟩, kB, sA, ⟨⟨.inr rfl, h2, .inr (by simp)⟩, by dsimp only; omega, by simp only [List.length_append, List.length_cons, List.length_nil]; omega, by dsimp only; rw [← hI]; simp, by dsimp only; omega⟩, by dsimp only; omega⟩
        · rw [if_neg h38] at hI
          (repeat' (first | refine z7 ?_ | refine z6 ?_ | refine z2 ?_ | refine z1 ?_ | refine zc ?_ | refine zb ?_ | refine zf ?_ | refine zd ?_ | refine za2 ?_ | refine z8 ?_ | refine za ?_ | refine zm ?_ | refine zr ?_ | refine zk ?_ | refine zg ?_ | refine zi ?_))
          refine za1 (bldByte_tr b p v o R c hp hO (by omega)) (fun u K hR => ?_)
          obtain ⟨rfl, v2, R2, h2, rfl⟩ := hR
          (repeat' (first | refine z6 ?_ | refine z2 ?_ | refine z1 ?_ | refine zu ?_ | refine z8 ?_ | refine za ?_ | refine zl ?_))
          exact ⟨⟨j + 1, f, lp b, v2, R2, o ++ [c]⟩, kB, sA, ⟨⟨.inr rfl, h2, .inr (by simp)⟩, by dsimp only; omega, by simp only [List.length_append, List.length_cons, List.length_nil]; omega, by dsimp only; rw [← hI]; simp, by dsimp only; omega⟩, by dsimp only; omega⟩
    · have : j = l.length := by omega
      subst this
      rw [List.getElem?_eq_none (Nat.le_refl _)] at hI
      dsimp only at hI
      rw [List.append_nil] at hI
      (repeat' (first | refine z7 ?_ | refine z6 ?_ | refine z2 ?_ | refine z1 ?_ | refine zb ?_ | refine zw ?_ | refine zy ?_ | refine zz ?_ | refine z8 ?_ | refine za4 ?_ | refine zg ?_))
      exact ⟨⟨l.length, p, v, R, o⟩, kA, sA, ⟨hp, hO, hN⟩, by dsimp only; omega, hI⟩
  · intro x ⟨⟨hp, hO, hN⟩, ho, hn⟩
    obtain ⟨j, p, v, R, o⟩ := x
    dsimp only at hp hO hN ho hn ⊢
    subst hn
    rcases hN with ⟨rfl, rfl, rfl⟩ | hne
    · (repeat' (first | refine z7 ?_ | refine z6 ?_))
      refine za1 (bldString_nil b p) (fun u K hR => ?_)
      obtain ⟨rfl, rfl⟩ := hR
      (repeat' (first | refine z2 ?_ | refine z1 ?_ | refine ze ?_ | refine za ?_))
      exact e_ret _ ⟨rfl, by simp, rfl⟩ sA
    · (repeat' (first | refine z7 ?_ | refine z6 ?_))
      refine za1 (bldString_tr b p v o R hO hne (by omega)) (fun u K hR => ?_)
      obtain ⟨rfl, rfl⟩ := hR
      (repeat' (first | refine z2 ?_ | refine z1 ?_ | refine ze ?_ | refine za ?_))
      exact e_ret _ ⟨rfl, ho, rfl⟩ sA

def unescM (tab : Nat → List UInt8) (l : List UInt8) : List UInt8 := if (92 : UInt8) ∈ l ∨ (38 : UInt8) ∈ l then replM tab l else l
theorem fst1_mem {c : UInt8} {l : List UInt8} : fst1 c l < l.length ↔ c ∈ l := by
  constructor
  · intro h; exact List.mem_of_getElem? (fst1_at h)
  · intro h
    refine Classical.byContradiction fun hn => ?_
    obtain ⟨k, hk, e⟩ := List.mem_iff_getElem.1 h
    obtain ⟨d, hd, hne⟩ := @fst1_lt c l k (by omega)
    have : l[k]? = some c := by rw [List.getElem?_eq_getElem hk, e]
    rw [this] at hd; cases hd; exact hne rfl
theorem containsB_tr (l : List UInt8) (c : UInt8) (hl : l.length ≤ 1000000) : TrP Tryz.prog 51 [str l, str [c]] (.bool (decide (c ∈ l))) := by
  by_cases h : c ∈ l
  · rw [decide_eq_true h]
    exact zzContains_yes l c (by omega) (fst1_mem.2 h)
  · rw [decide_eq_false h]
    exact zzContains_tr l c (by omega) (fun hh => h (fst1_mem.1 hh))
theorem unescG_tr (T : Nat) (es : List Value) (hE : EntOK es) (l : List UInt8) (hl : l.length ≤ 1000000) :
    Tr Tryz.prog 142 [str l] [ent T es] fun u K => u = str (unescM (tabOf es) l) ∧ K = [ent T es] := by
  have h1 := containsB_tr l 92 hl
  have h2 := containsB_tr l 38 hl
  unfold unescM
  by_cases g1 : (92 : UInt8) ∈ l
  · rw [if_pos (.inl g1)]
    rw [decide_eq_true g1] at h1
    refine Tr.start (n := 15) (rs := [.tmp 2]) rfl rfl rfl rfl fun B => ?_
    (repeat' (first | refine zo (h1) ?_ | refine z7 ?_ | refine z6 ?_ | refine z2 ?_ | refine z1 ?_ | refine zb ?_ | refine zd ?_ | refine za2 ?_ | refine z8 ?_ | refine za ?_ | refine zk ?_ | refine zaq ?_ | refine zao ?_))
    refine za1 (replaceG_tr T es hE l hl) (fun u K hR => ?_)
    obtain ⟨rfl, _, rfl⟩ := hR
    (repeat' (first | refine z2 ?_ | refine z1 ?_ | refine ze ?_ | refine za ?_))
    exact e_ret _ ⟨rfl, rfl⟩ sA
  · rw [decide_eq_false g1] at h1
    by_cases g2 : (38 : UInt8) ∈ l
    · rw [if_pos (.inr g2)]
      rw [decide_eq_true g2] at h2
      refine Tr.start (n := 15) (rs := [.tmp 2]) rfl rfl rfl rfl fun B => ?_
      (repeat' (first | refine zo (h1) ?_ | refine zo (h2) ?_ | refine z7 ?_ | refine z6 ?_ | refine z2 ?_ | refine z1 ?_ | refine zb ?_ | refine zd ?_ | refine zh ?_ | refine z8 ?_ | refine za ?_ | refine zj ?_ | refine zaq ?_ | refine zam ?_ | refine zao ?_))
      refine za1 (replaceG_tr T es hE l hl) (fun u K hR => ?_)
      obtain ⟨rfl, _, rfl⟩ := hR
      (repeat' (first | refine z2 ?_ | refine z1 ?_ | refine ze ?_ | refine za ?_))
      exact e_ret _ ⟨rfl, rfl⟩ sA
    · rw [if_neg (by rintro (h | h); exact g1 h; exact g2 h)]
      rw [decide_eq_false g2] at h2
      refine Tr.start (n := 15) (rs := [.tmp 2]) rfl rfl rfl rfl fun B => ?_
      (repeat' (first | refine zo (h1) ?_ | refine zo (h2) ?_ | refine z7 ?_ | refine z6 ?_ | refine z2 ?_ | refine z1 ?_ | refine zc ?_ | refine ze ?_ | refine zx ?_ | refine zh ?_ | refine z8 ?_ | refine za ?_ | refine zj ?_ | refine zam ?_))
      exact e_ret _ ⟨rfl, rfl⟩ sA
end Go.Proofs

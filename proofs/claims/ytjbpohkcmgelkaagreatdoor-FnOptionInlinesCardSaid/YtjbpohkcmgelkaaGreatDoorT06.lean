/- Steps of the walk of the program and plain facts on what it computes. Conditions: as each theorem states them. -/
import Derived.Test.YtjbpohkcmgelkaaGreatDoorT05
namespace Go.Proofs
open Go Go.Eng
set_option maxRecDepth 20000
set_option maxHeartbeats 4000000

def tendB (c : UInt8) : Bool := c.toNat == 32 || c.toNat == 9 || c.toNat == 10 || c.toNat == 47 || c.toNat == 62
def attrsM (s : List UInt8) : Nat → Nat → Option Nat
  | 0, _ => none
  | f + 1, j => match s[j]? with
    | none => none
    | some c => if tendB c = true then (match attrM s j with
      | some k => attrsM s f k
      | none => some j) else none
theorem attrsM_le {s : List UInt8} : ∀ {f j k : Nat}, attrsM s f j = some k → j ≤ k ∧ k < s.length
  | 0, _, _, h => by simp [attrsM] at h
  | f + 1, j, k, h => by
    unfold attrsM at h
    split at h
    · cases h
    · rename_i c hc
      split at h
      · split at h
        · rename_i k' hk
          have := attrsM_le h
          have := attrM_lt hk
          omega
        · cases h
          exact ⟨Nat.le_refl _, (List.getElem?_eq_some_iff.1 hc).1⟩
      · cases h
/-- The end of a tag, behind its attributes. -/
def tagEndM (s : List UInt8) (j : Nat) : Option Nat :=
  let k := scan isSp s j
  let m := if s[k]? = some 47 then k + 1 else k
  if s[m]? = some 62 then some (m + 1) else none
def openTagM (s : List UInt8) (i : Nat) : Option Nat :=
  if s[i]? = some 60 then (match tagNameM s (i + 1) with
    | none => none
    | some j => match attrsM s (s.length + 1) j with
      | none => none
      | some k => tagEndM s k) else none
theorem tagEndM_lt {s : List UInt8} {j k : Nat} (h : tagEndM s j = some k) : j < k ∧ k ≤ s.length := by
  unfold tagEndM at h
  have h0 := scan_ge isSp s j
  generalize scan isSp s j = a at h h0
  dsimp only at h
  have hm : ∃ m, m = (if s[a]? = some 47 then a + 1 else a) := ⟨_, rfl⟩
  obtain ⟨m, hm⟩ := hm
  rw [← hm] at h
  have h1 : a ≤ m := by rw [hm]; split <;> omega
  clear hm
  by_cases h62 : s[m]? = some 62
  · rw [if_pos h62] at h
    have := (List.getElem?_eq_some_iff.1 h62).1
    have := Option.some.inj h
    omega
  · rw [if_neg h62] at h; cases h
theorem openTagM_lt {s : List UInt8} {i k : Nat} (h : openTagM s i = some k) : i < k ∧ k ≤ s.length := by
  unfold openTagM at h
  split at h
  · split at h
    · cases h
    · rename_i j hj
      have := tagNameM_lt hj
      split at h
      · cases h
      · rename_i k' hk
        have := attrsM_le hk
        have := tagEndM_lt h
        omega
  · cases h

def tagV (q : Nat) : Option Nat → Value
  | some j => .tuple #[.iface 149 (lp q), inat j, .bool true]
  | none => .tuple #[.nilIface, inat 0, .bool false]
def tagK (q : Nat) (s : List UInt8) (i : Nat) : Option Nat → Heap
  | some j => [[(q, cellsOf [str ((s.take j).drop i)] 150)]]
  | none => []

structure OT where
  j : Nat
  f : Nat
  c : Bool

theorem openTagG_tr (p : Nat) (st : PS) (s : List UInt8) (i : Nat) (hl : s.length ≤ 1000000) (hi : i ≤ 100000000) (cn : Bool) (hcn : st.corner = .bool cn) :
    Tr Tryz.prog 129 [lp p, str s, inat i] [st.blk p] fun u K => ∃ q cn', u = tagV q (openTagM s i) ∧ K = ({ st with corner := .bool cn' } : PS).blk p :: tagK q s i (openTagM s i) := by
  obtain ⟨par, root, links, lineno, stack, depth, corner, sv, em, list, lists, texts, bt⟩ := st
  subst hcn
  by_cases hlt : i < s.length
  · obtain ⟨c, hc⟩ := get_some hlt
    by_cases h60 : c.toNat = 60
    · have e60 : c = 60 := UInt8.toNat_inj.1 h60
      have ht := tagNameG_tr s (i + 1) hl (by omega)
      unfold openTagM
      rw [hc, e60, if_pos rfl]
      cases hn : tagNameM s (i + 1) with
      | none =>
        rw [hn] at ht
        dsimp only
        refine Tr.start (n := 131) (rs := [.tmp 6, .tmp 7, .tmp 8]) rfl rfl rfl rfl fun B => ?_
        (repeat' (first | refine zo (ht) ?_ | refine z7 ?_ | refine z6 ?_ | refine z2 ?_ | refine z1 ?_ | refine zb ?_ | refine zd ?_ | refine ze ?_ | refine zh ?_ | refine z8 ?_ | refine za ?_ | refine zl ?_ | refine zab ?_ | refine zb0 ?_ | refine zk ?_ | refine zg ?_ | refine zi ?_ | refine za0 ?_))
        exact e_ret _ ⟨0, cn, rfl, rfl⟩ sA
      | some j0 =>
        rw [hn] at ht
        obtain ⟨hj1, hj2⟩ := tagNameM_lt hn
        dsimp only
        have hex : ∃ R, attrsM s (s.length + 1) j0 = R := ⟨_, rfl⟩
        obtain ⟨R, hR0⟩ := hex
        rw [hR0]
        refine Tr.start (n := 131) (rs := [.tmp 6, .tmp 7, .tmp 8]) rfl rfl rfl rfl fun B => ?_
        (repeat' (first | refine zo (ht) ?_ | refine z7 ?_ | refine z6 ?_ | refine z2 ?_ | refine z1 ?_ | refine zc ?_ | refine zb ?_ | refine zd ?_ | refine zh ?_ | refine z8 ?_ | refine za ?_ | refine zl ?_ | refine zab ?_ | refine zb0 ?_ | refine zk ?_ | refine zg ?_ | refine zi ?_ | refine za0 ?_))
        generalize (s.take j0).drop (i + 1) = nm
        refine zau (fun c : Bool => [(0, lp p), (1, str s), (2, inat i), (10, inat j0)]) (fun c => [(⟨par, root, links, lineno, stack, depth, .bool c, sv, em, list, lists, texts, bt⟩ : PS).blk p]) (fun _ => True) ?_ ?_
        · by_cases h1 : nm = [112, 114, 101]
          · subst h1
            (repeat' (first | refine z7 ?_ | refine z6 ?_ | refine z2 ?_ | refine z1 ?_ | refine zc ?_ | refine zf ?_ | refine zd ?_ | refine zu ?_ | refine z8 ?_ | refine za ?_ | refine zp ?_ | refine zq ?_ | refine zc8 ?_ | refine za5 ?_))
            exact ⟨true, kA, sA, trivial⟩
          · by_cases h2 : nm = [115, 99, 114, 105, 112, 116]
            · subst h2
              (repeat' (first | refine z7 ?_ | refine z6 ?_ | refine z2 ?_ | refine z1 ?_ | refine zc ?_ | refine zb ?_ | refine zf ?_ | refine zd ?_ | refine zu ?_ | refine z8 ?_ | refine za ?_ | refine zp ?_ | refine zq ?_ | refine zc8 ?_ | refine zce ?_ | refine za5 ?_))
              exact ⟨true, kA, sA, trivial⟩
            · by_cases h3 : nm = [115, 116, 121, 108, 101]
              · subst h3
                (repeat' (first | refine z7 ?_ | refine z6 ?_ | refine z2 ?_ | refine z1 ?_ | refine zc ?_ | refine zb ?_ | refine zf ?_ | refine zd ?_ | refine zu ?_ | refine z8 ?_ | refine za ?_ | refine zp ?_ | refine zq ?_ | refine zc8 ?_ | refine zce ?_ | refine za5 ?_))
                exact ⟨true, kA, sA, trivial⟩
              · by_cases h4 : nm = [116, 101, 120, 116, 97, 114, 101, 97]
                · subst h4
                  (repeat' (first | refine z7 ?_ | refine z6 ?_ | refine z2 ?_ | refine z1 ?_ | refine zc ?_ | refine zb ?_ | refine zf ?_ | refine zu ?_ | refine z8 ?_ | refine za ?_ | refine zp ?_ | refine zq ?_ | refine zc8 ?_ | refine zce ?_ | refine za5 ?_))
                  exact ⟨true, kA, sA, trivial⟩
                · (repeat' (first | refine z7 ?_ | refine z6 ?_ | refine z2 ?_ | refine z1 ?_ | refine zb ?_ | refine zf ?_ | refine zd ?_ | refine zu ?_ | refine za ?_ | refine zce ?_))
                  exact ⟨cn, kA, sA, trivial⟩
        · rintro c -
          (repeat (refine z7 ?_))
          refine zau (fun x : OT => [(0, lp p), (1, str s), (2, inat i), (10, inat x.j)]) (fun x => [(⟨par, root, links, lineno, stack, depth, .bool x.c, sv, em, list, lists, texts, bt⟩ : PS).blk p]) (fun x => R = some x.j ∧ x.j < s.length) ?_ ?_
          · (repeat' (first | refine zf ?_))
            refine za6 (fun x : OT => [(0, lp p), (1, str s), (2, inat i), (10, inat x.j)]) (fun x => [(⟨par, root, links, lineno, stack, depth, .bool x.c, sv, em, list, lists, texts, bt⟩ : PS).blk p]) (fun x => attrsM s x.f x.j = R ∧ x.j ≤ s.length ∧ s.length < x.j + x.f) (fun x => s.length + 1 - x.j) ⟨j0, s.length + 1, c⟩ ⟨hR0, by dsimp only; omega, by dsimp only; omega⟩ kB sA fun x hx => ?_
            obtain ⟨j, f, c2⟩ := x
            obtain ⟨i1, i2, i3⟩ := hx
            dsimp only at i1 i2 i3 ⊢
            obtain ⟨f, rfl⟩ : ∃ f', f = f' + 1 := ⟨f - 1, by omega⟩
            unfold attrsM at i1
            by_cases hjl : j < s.length
            · obtain ⟨d, hd⟩ := get_some hjl
              rw [hd] at i1
              dsimp only at i1
              refine zf ?_
              (repeat (refine z7 ?_))
              refine zac [(0, lp p), (1, str s), (2, inat i), (10, inat j), (77, .bool (!tendB d))] [(⟨par, root, links, lineno, stack, depth, .bool c2, sv, em, list, lists, texts, bt⟩ : PS).blk p] ?_ ?_
              · by_cases k1 : d.toNat = 32
                · rw [show tendB d = true by simp [tendB, k1]]
                  (repeat' (first | refine z6 ?_ | refine z2 ?_ | refine z1 ?_ | refine zh ?_ | refine za2 ?_ | refine z8 ?_ | refine zab ?_ | refine zb0 ?_ | refine zk ?_ | refine zg ?_ | refine zi ?_))
                  exact ⟨kA, sA⟩
                by_cases k2 : d.toNat = 9
                · rw [show tendB d = true by simp [tendB, k2]]
                  (repeat' (first | refine z6 ?_ | refine z2 ?_ | refine z1 ?_ | refine zh ?_ | refine za2 ?_ | refine z8 ?_ | refine zab ?_ | refine zb2 ?_ | refine zb0 ?_ | refine zj ?_ | refine zk ?_ | refine zg ?_ | refine zi ?_))
                  exact ⟨kA, sA⟩
                by_cases k3 : d.toNat = 10
                · rw [show tendB d = true by simp [tendB, k3]]
                  (repeat' (first | refine z6 ?_ | refine z2 ?_ | refine z1 ?_ | refine zh ?_ | refine za2 ?_ | refine z8 ?_ | refine zab ?_ | refine zb2 ?_ | refine zb0 ?_ | refine zj ?_ | refine zk ?_ | refine zg ?_ | refine zi ?_))
                  exact ⟨kA, sA⟩
                by_cases k4 : d.toNat = 47
                · rw [show tendB d = true by simp [tendB, k4]]
                  (repeat' (first | refine z6 ?_ | refine z2 ?_ | refine z1 ?_ | refine zh ?_ | refine za2 ?_ | refine z8 ?_ | refine zab ?_ | refine zb2 ?_ | refine zb0 ?_ | refine zj ?_ | refine zk ?_ | refine zg ?_ | refine zi ?_))
                  exact ⟨kA, sA⟩
                by_cases k5 : d.toNat = 62
                · rw [show tendB d = true by simp [tendB, k5]]
                  (repeat' (first | refine z6 ?_ | refine z2 ?_ | refine z1 ?_ | refine zh ?_ | refine z8 ?_ | refine zab ?_ | refine zb2 ?_ | refine zb0 ?_ | refine zj ?_ | refine zk ?_ | refine zg ?_ | refine zi ?_))
                  exact ⟨kA, sA⟩
                · rw [show tendB d = false by simp [tendB, k1, k2, k3, k4, k5]]
                  (repeat' (first | refine z6 ?_ | refine z2 ?_ | refine z1 ?_ | refine zh ?_ | refine z8 ?_ | refine zab ?_ | refine zb2 ?_ | refine zj ?_ | refine zk ?_ | refine zg ?_ | refine zi ?_))
                  exact ⟨kA, sA⟩
              · cases htd : tendB d with
                | false =>
                  rw [htd] at i1
                  simp only [Bool.false_eq_true, if_false] at i1
                  rw [← i1, Bool.not_false]
                  dsimp only
                  (repeat' (first | refine z7 ?_ | refine z6 ?_ | refine z2 ?_ | refine z1 ?_ | refine zc ?_ | refine ze ?_ | refine zx ?_ | refine zag ?_ | refine za ?_))
                  exact e_ret _ ⟨0, c2, rfl, rfl⟩ sA
                | true =>
                  rw [htd] at i1
                  simp only [if_true] at i1
                  rw [Bool.not_true]
                  (repeat' (first | refine z7 ?_ | refine z6 ?_ | refine z1 ?_ | refine zb ?_ | refine zd ?_ | refine z8 ?_))
                  refine za1 (attrG_tr p _ s j hl (by omega) c2 rfl) (fun u K hR => ?_)
                  obtain ⟨cn', rfl, rfl⟩ := hR
                  cases ha : attrM s j with
                  | none =>
                    rw [ha] at i1
                    dsimp only at i1
                    (repeat' (first | refine z7 ?_ | refine z6 ?_ | refine z2 ?_ | refine z1 ?_ | refine zc ?_ | refine zw ?_ | refine zy ?_ | refine zz ?_ | refine zaw ?_ | refine z8 ?_ | refine za ?_ | refine za0 ?_ | refine zam ?_))
                    exact ⟨⟨j, 0, cn'⟩, kA, sA, i1.symm, hjl⟩
                  | some k =>
                    rw [ha] at i1
                    dsimp only at i1
                    have := attrM_lt ha
                    (repeat' (first | refine z7 ?_ | refine z6 ?_ | refine z2 ?_ | refine z1 ?_ | refine zb ?_ | refine zd ?_ | refine zu ?_ | refine z8 ?_ | refine za ?_ | refine za0 ?_ | refine zaq ?_))
                    exact ⟨⟨k, f, cn'⟩, kB, sA, ⟨i1, by dsimp only; omega, by dsimp only; omega⟩, by dsimp only; omega⟩
            · rw [List.getElem?_eq_none (by omega)] at i1
              dsimp only at i1
              rw [← i1]
              dsimp only
              (repeat' (first | refine z7 ?_ | refine z6 ?_ | refine z2 ?_ | refine z1 ?_ | refine zc ?_ | refine zf ?_ | refine ze ?_ | refine zx ?_ | refine zag ?_ | refine zaa ?_ | refine zay ?_ | refine z8 ?_ | refine za ?_ | refine zas ?_ | refine zj ?_ | refine zg ?_))
              exact e_ret _ ⟨0, c2, rfl, rfl⟩ sA
          · rintro ⟨j, f, c2⟩ ⟨hj, hjl⟩
            dsimp only at hj hjl ⊢
            have hj0 := attrsM_le (hR0.trans hj)
            rw [hj]
            dsimp only
            have hS := skipSpaceG_tr s j hl (by omega)
            have hge := scan_ge isSp s j
            have hle := scan_le (p := isSp) (s := s) (i := j) (by omega)
            unfold tagEndM
            generalize scan isSp s j = k at hS hge hle ⊢
            dsimp only
            ((repeat (refine z7 ?_)); refine z6 ?_; (repeat' (first | refine zo (hS) ?_ | refine z8 ?_ | refine za ?_)); refine z2 ?_; refine z1 ?_)
            ((repeat (refine z7 ?_)); refine z6 ?_; (repeat' (first | refine z8 ?_ | refine zdx ?_)); refine z2 ?_; refine z1 ?_)
            (repeat (refine z7 ?_))
            refine zau (fun c : Bool => [(0, lp p), (1, str s), (2, inat i), (15, inat k)]) (fun c => [(⟨par, root, links, lineno, stack, depth, .bool c, sv, em, list, lists, texts, bt⟩ : PS).blk p]) (fun _ => True) ?_ ?_
            · refine zcp (fun _ => ?_) (fun _ => ?_)
              · (repeat' (first | refine z6 ?_ | refine z2 ?_ | refine z1 ?_ | refine z8 ?_ | refine zp ?_ | refine zq ?_ | refine za5 ?_))
                exact ⟨true, kA, sA, trivial⟩
              · (repeat' (first | refine z1 ?_ | refine zd ?_))
                exact ⟨c2, kA, sA, trivial⟩
            · rintro c3 -
              ((repeat (refine z7 ?_)); refine z6 ?_; (repeat' (first | refine z8 ?_ | refine za ?_)); refine z2 ?_; refine z1 ?_)
              obtain ⟨b, hb⟩ : ∃ b : Bool, b = decide (s[k]? = some 47) := ⟨_, rfl⟩
              (repeat (refine z7 ?_))
              refine zac [(0, lp p), (1, str s), (2, inat i), (10, inat k), (108, .bool b)] [(⟨par, root, links, lineno, stack, depth, .bool c3, sv, em, list, lists, texts, bt⟩ : PS).blk p] ?_ ?_
              · by_cases hkl : k < s.length
                · obtain ⟨d, hd⟩ := get_some hkl
                  rw [hd] at hb
                  by_cases h47 : d.toNat = 47
                  · have e : d = 47 := UInt8.toNat_inj.1 h47
                    rw [e, decide_eq_true rfl] at hb
                    rw [hb]
                    (repeat' (first | refine z6 ?_ | refine z2 ?_ | refine z1 ?_ | refine zh ?_ | refine z8 ?_ | refine zm ?_ | refine zt ?_ | refine zj ?_ | refine zg ?_ | refine zi ?_))
                    exact ⟨kA, sA⟩
                  · rw [decide_eq_false (fun e => by cases e; exact h47 rfl)] at hb
                    rw [hb]
                    (repeat' (first | refine z6 ?_ | refine z2 ?_ | refine z1 ?_ | refine zh ?_ | refine z8 ?_ | refine zm ?_ | refine zr ?_ | refine zj ?_ | refine zg ?_ | refine zi ?_))
                    exact ⟨kA, sA⟩
                · rw [List.getElem?_eq_none (by omega), decide_eq_false (by simp)] at hb
                  rw [hb]
                  (repeat' (first | refine z6 ?_ | refine z2 ?_ | refine z1 ?_ | refine za2 ?_ | refine z8 ?_ | refine za4 ?_ | refine zk ?_ | refine zg ?_))
                  exact ⟨kA, sA⟩
              · (repeat (refine z7 ?_))
                refine zau (fun m : Nat => [(0, lp p), (1, str s), (2, inat i), (10, inat m)]) (fun _ => [(⟨par, root, links, lineno, stack, depth, .bool c3, sv, em, list, lists, texts, bt⟩ : PS).blk p]) (fun m => m = (if s[k]? = some 47 then k + 1 else k)) ?_ ?_
                · cases b with
                  | true =>
                    have h := of_decide_eq_true hb.symm
                    rw [if_pos h]
                    have := (List.getElem?_eq_some_iff.1 h).1
                    (repeat' (first | refine z6 ?_ | refine z2 ?_ | refine z1 ?_ | refine zc ?_ | refine z8 ?_ | refine za ?_ | refine zl ?_))
                    exact ⟨k + 1, kA, sA, rfl⟩
                  | false =>
                    rw [if_neg (of_decide_eq_false hb.symm)]
                    (repeat' (first | refine z1 ?_ | refine zb ?_ | refine zd ?_))
                    exact ⟨k, kA, sA, rfl⟩
                · rintro m hm
                  rw [← hm]
                  have hm1 : k ≤ m := by rw [hm]; split <;> omega
                  have hm2 : m ≤ k + 1 := by rw [hm]; split <;> omega
                  clear hm
                  by_cases hml : m < s.length
                  · obtain ⟨d, hd⟩ := get_some hml
                    rw [hd]
                    by_cases h62 : d.toNat = 62
                    · have e : d = 62 := UInt8.toNat_inj.1 h62
                      rw [e, if_pos rfl]
                      (repeat' (first | refine z7 ?_ | refine z6 ?_ | refine z2 ?_ | refine z1 ?_ | refine zc ?_ | refine ze ?_ | refine zx ?_ | refine zh ?_ | refine z8 ?_ | refine za ?_ | refine zl ?_ | refine zm ?_ | refine zt ?_ | refine zj ?_ | refine zg ?_ | refine zi ?_ | refine zav ?_ | refine zan ?_ | refine zao ?_ | refine zaf (fun _ => ?_)))
                      rename_i q
                      exact e_ret _ ⟨q, c3, rfl, rfl⟩ sA
                    · rw [if_neg (fun e => by cases e; exact h62 rfl)]
                      (repeat' (first | refine z7 ?_ | refine z6 ?_ | refine z2 ?_ | refine z1 ?_ | refine zb ?_ | refine zd ?_ | refine ze ?_ | refine zh ?_ | refine z8 ?_ | refine za ?_ | refine zm ?_ | refine zr ?_ | refine zj ?_ | refine zg ?_ | refine zi ?_))
                      exact e_ret _ ⟨0, c3, rfl, rfl⟩ sA
                  · rw [List.getElem?_eq_none (by omega), if_neg (by simp)]
                    (repeat' (first | refine z7 ?_ | refine z6 ?_ | refine z2 ?_ | refine z1 ?_ | refine zb ?_ | refine zd ?_ | refine ze ?_ | refine za2 ?_ | refine z8 ?_ | refine za ?_ | refine za4 ?_ | refine zk ?_ | refine zg ?_))
                    exact e_ret _ ⟨0, c3, rfl, rfl⟩ sA
    · have e : openTagM s i = none := by
        unfold openTagM
        rw [if_neg (fun e => by rw [hc] at e; cases e; exact h60 rfl)]
      rw [e]
      refine Tr.start (n := 131) (rs := [.tmp 6, .tmp 7, .tmp 8]) rfl rfl rfl rfl fun B => ?_
      (repeat' (first | refine z7 ?_ | refine z6 ?_ | refine z2 ?_ | refine z1 ?_ | refine zc ?_ | refine ze ?_ | refine zx ?_ | refine zh ?_ | refine z8 ?_ | refine za ?_ | refine zab ?_ | refine zb2 ?_ | refine zk ?_ | refine zg ?_ | refine zi ?_))
      exact e_ret _ ⟨0, cn, rfl, rfl⟩ sA
  · have e : openTagM s i = none := by
      unfold openTagM
      rw [if_neg (by rw [List.getElem?_eq_none (by omega)]; simp)]
    rw [e]
    refine Tr.start (n := 131) (rs := [.tmp 6, .tmp 7, .tmp 8]) rfl rfl rfl rfl fun B => ?_
    (repeat' (first | refine z7 ?_ | refine z6 ?_ | refine z2 ?_ | refine z1 ?_ | refine zc ?_ | refine ze ?_ | refine zx ?_ | refine zaa ?_ | refine z8 ?_ | refine za ?_ | refine zas ?_ | refine zj ?_ | refine zg ?_))
    exact e_ret _ ⟨0, cn, rfl, rfl⟩ sA
end Go.Proofs

namespace Go.Proofs
open Go Go.Eng
set_option maxRecDepth 20000
set_option maxHeartbeats 4000000

theorem hasPreG_tr (l p : List UInt8) (_hl : l.length ≤ 100000000) (_hp : p.length ≤ 100000000) : TrP Tryz.prog 39 [str l, str p] (.bool (decide (l.take p.length = p))) := by
  by_cases hlen : p.length ≤ l.length
  · by_cases h : l.take p.length = p
    · rw [decide_eq_true h]
      refine Tr.start (n := 18) (rs := [.tmp 4]) rfl rfl rfl rfl fun B => ?_
      (repeat' (first | refine z7 ?_ | refine z6 ?_ | refine z2 ?_ | refine z1 ?_ | refine ze ?_ | refine zh ?_ | refine z8 ?_ | refine za ?_ | refine zas ?_ | refine zj ?_ | refine zg ?_ | refine zcc ?_ | refine zc8 ?_))
      exact e_pure ⟨rfl, rfl⟩
    · rw [decide_eq_false h]
      refine Tr.start (n := 18) (rs := [.tmp 4]) rfl rfl rfl rfl fun B => ?_
      (repeat' (first | refine z7 ?_ | refine z6 ?_ | refine z2 ?_ | refine z1 ?_ | refine ze ?_ | refine zh ?_ | refine z8 ?_ | refine za ?_ | refine zas ?_ | refine zj ?_ | refine zg ?_ | refine zcc ?_ | refine zce ?_))
      exact e_pure ⟨rfl, rfl⟩
  · rw [decide_eq_false (fun e => by have := congrArg List.length e; rw [List.length_take] at this; omega)]
    refine Tr.start (n := 18) (rs := [.tmp 4]) rfl rfl rfl rfl fun B => ?_
    (repeat' (first | refine z7 ?_ | refine z6 ?_ | refine z2 ?_ | refine z1 ?_ | refine ze ?_ | refine za2 ?_ | refine z8 ?_ | refine za ?_ | refine zab ?_ | refine zk ?_ | refine zg ?_))
    exact e_pure ⟨rfl, rfl⟩
theorem hasPrefixG_tr (l p : List UInt8) (hl : l.length ≤ 100000000) (hp : p.length ≤ 100000000) : TrP Tryz.prog 23 [str l, str p] (.bool (decide (l.take p.length = p))) := by
  refine Tr.start (n := 8) (rs := [.tmp 4]) rfl rfl rfl rfl fun B => ?_
  (repeat' (first | refine zo (hasPreG_tr l p hl hp) ?_ | refine z7 ?_ | refine z6 ?_ | refine z2 ?_ | refine z1 ?_ | refine ze ?_ | refine z8 ?_ | refine za ?_))
  exact e_pure ⟨rfl, rfl⟩

def markM (s : List UInt8) (i : Nat) (pre suf : List UInt8) : Option Nat :=
  if (s.drop i).take pre.length = pre then (fsub suf (s.drop (i + pre.length))).map (fun j => i + pre.length + j + suf.length) else none
theorem markM_lt {s : List UInt8} {i k : Nat} {pre suf : List UInt8} (hp : 0 < pre.length) (h : markM s i pre suf = some k) : i + pre.length + suf.length ≤ k ∧ k ≤ s.length := by
  unfold markM at h
  by_cases h1 : (s.drop i).take pre.length = pre
  · rw [if_pos h1] at h
    have := congrArg List.length h1
    rw [List.length_take, List.length_drop] at this
    cases hf : fsub suf (s.drop (i + pre.length)) with
    | none => rw [hf] at h; cases h
    | some j =>
      rw [hf] at h
      have h2 : i + pre.length + j + suf.length = k := Option.some.inj h
      have h3 := fsub_le hf
      rw [List.length_drop] at h3
      have h4 : pre.length ≤ s.length - i := by rw [← this]; exact Nat.min_le_right _ _
      omega
  · rw [if_neg h1] at h; cases h
theorem markG_tr (s : List UInt8) (i : Nat) (pre suf : List UInt8) (hl : s.length ≤ 1000000) (hi : i ≤ s.length) (hp : 0 < pre.length ∧ pre.length ≤ 100) (hs : 0 < suf.length ∧ suf.length ≤ 100) :
    Tr Tryz.prog 175 [str s, inat i, str pre, str suf] [] fun u K => ∃ q, u = tagV q (markM s i pre suf) ∧ K = tagK q s i (markM s i pre suf) := by
  have hP := hasPrefixG_tr (s.drop i) pre (by rw [List.length_drop]; omega) (by omega)
  by_cases h1 : (s.drop i).take pre.length = pre
  · have h2 := congrArg List.length h1
    rw [List.length_take, List.length_drop] at h2
    rw [decide_eq_true h1] at hP
    have hI := zzIndexS_tr (s.drop (i + pre.length)) suf (by rw [List.length_drop]; omega) (by omega) (List.length_pos_iff.1 hs.1)
    cases hf : fsub suf (s.drop (i + pre.length)) with
    | none =>
      have e : markM s i pre suf = none := by unfold markM; rw [if_pos h1, hf]; rfl
      rw [e]
      rw [hf, oint_none] at hI
      refine Tr.start (n := 45) (rs := [.tmp 8, .tmp 9, .tmp 10]) rfl rfl rfl rfl fun B => ?_
      (repeat' (first | refine zo (hP) ?_ | refine zo (hI) ?_ | refine z7 ?_ | refine z6 ?_ | refine z2 ?_ | refine z1 ?_ | refine zc ?_ | refine zb ?_ | refine zd ?_ | refine ze ?_ | refine z8 ?_ | refine za ?_ | refine zb1 ?_ | refine zab ?_ | refine zg ?_ | refine zba ?_))
      exact e_ret _ ⟨0, rfl, rfl⟩ sA
    | some j =>
      have e : markM s i pre suf = some (i + pre.length + j + suf.length) := by unfold markM; rw [if_pos h1, hf]; rfl
      have hb := markM_lt hp.1 e
      rw [e]
      rw [hf, show oint (some j) = (j : Int) from rfl] at hI
      refine Tr.start (n := 45) (rs := [.tmp 8, .tmp 9, .tmp 10]) rfl rfl rfl rfl fun B => ?_
      (repeat' (first | refine zo (hP) ?_ | refine zo (hI) ?_ | refine z7 ?_ | refine z6 ?_ | refine z2 ?_ | refine z1 ?_ | refine zc ?_ | refine ze ?_ | refine zx ?_ | refine z8 ?_ | refine za ?_ | refine zb1 ?_ | refine zas ?_ | refine zg ?_ | refine zav ?_ | refine zba ?_ | refine zan ?_ | refine zao ?_ | refine zaf (fun _ => ?_)))
      rename_i q
      exact e_ret _ ⟨q, rfl, rfl⟩ sA
  · rw [decide_eq_false h1] at hP
    have e : markM s i pre suf = none := by unfold markM; rw [if_neg h1]
    rw [e]
    refine Tr.start (n := 45) (rs := [.tmp 8, .tmp 9, .tmp 10]) rfl rfl rfl rfl fun B => ?_
    (repeat' (first | refine zo (hP) ?_ | refine z7 ?_ | refine z6 ?_ | refine z2 ?_ | refine z1 ?_ | refine zb ?_ | refine zd ?_ | refine ze ?_ | refine z8 ?_ | refine za ?_ | refine zba ?_))
    exact e_ret _ ⟨0, rfl, rfl⟩ sA

abbrev cdataM (s : List UInt8) (i : Nat) : Option Nat := markM s i [60, 33, 91, 67, 68, 65, 84, 65, 91] [93, 93, 62]
abbrev procM (s : List UInt8) (i : Nat) : Option Nat := markM s i [60, 63] [63, 62]
theorem cdataG_tr (s : List UInt8) (i : Nat) (hl : s.length ≤ 1000000) (hi : i ≤ s.length) :
    Tr Tryz.prog 132 [str s, inat i] [] fun u K => ∃ q, u = tagV q (cdataM s i) ∧ K = tagK q s i (cdataM s i) := by
  unfold cdataM
  refine Tr.start (n := 13) (rs := [.tmp 4, .tmp 5, .tmp 6]) rfl rfl rfl rfl fun B => ?_
  (repeat' (first | refine z7 ?_ | refine z6 ?_ | refine z2 ?_ | refine z1 ?_ | refine z8 ?_ | refine za ?_))
  refine za1 (markG_tr s i [60, 33, 91, 67, 68, 65, 84, 65, 91] [93, 93, 62] hl hi (by decide) (by decide)) (fun u K hR => ?_)
  obtain ⟨q, rfl, rfl⟩ := hR
  cases hm : markM s i [60, 33, 91, 67, 68, 65, 84, 65, 91] [93, 93, 62] with
  | none =>
    (repeat' (first | refine z2 ?_ | refine z1 ?_ | refine ze ?_ | refine za ?_ | refine za0 ?_))
    exact e_ret _ ⟨q, rfl, rfl⟩ sA
  | some j =>
    (repeat' (first | refine z2 ?_ | refine z1 ?_ | refine ze ?_ | refine za ?_ | refine za0 ?_))
    exact e_ret _ ⟨q, rfl, rfl⟩ sA
theorem procG_tr (s : List UInt8) (i : Nat) (hl : s.length ≤ 1000000) (hi : i ≤ s.length) :
    Tr Tryz.prog 134 [str s, inat i] [] fun u K => ∃ q, u = tagV q (procM s i) ∧ K = tagK q s i (procM s i) := by
  unfold procM
  refine Tr.start (n := 13) (rs := [.tmp 4, .tmp 5, .tmp 6]) rfl rfl rfl rfl fun B => ?_
  (repeat' (first | refine z7 ?_ | refine z6 ?_ | refine z2 ?_ | refine z1 ?_ | refine z8 ?_ | refine za ?_))
  refine za1 (markG_tr s i [60, 63] [63, 62] hl hi (by decide) (by decide)) (fun u K hR => ?_)
  obtain ⟨q, rfl, rfl⟩ := hR
  cases hm : markM s i [60, 63] [63, 62] with
  | none =>
    (repeat' (first | refine z2 ?_ | refine z1 ?_ | refine ze ?_ | refine za ?_ | refine za0 ?_))
    exact e_ret _ ⟨q, rfl, rfl⟩ sA
  | some j =>
    (repeat' (first | refine z2 ?_ | refine z1 ?_ | refine ze ?_ | refine za ?_ | refine za0 ?_))
    exact e_ret _ ⟨q, rfl, rfl⟩ sA

def commentM (s : List UInt8) (i : Nat) : Option Nat :=
  if (s.drop i).take 5 = [60, 33, 45, 45, 62] ∨ (s.drop i).take 6 = [60, 33, 45, 45, 45, 62] then none else match markM s i [60, 33, 45, 45] [45, 45, 62] with
    | none => none
    | some e => if (fsub [45, 45] ((((s.take e).drop i).take (e - i - 2)).drop 4)).isSome = true then none else some e
theorem commentM_lt {s : List UInt8} {i k : Nat} (h : commentM s i = some k) : i < k ∧ k ≤ s.length := by
  unfold commentM at h
  split at h
  · cases h
  · split at h
    · cases h
    · rename_i e he
      have := markM_lt (by decide) he
      split at h
      · cases h
      · have h2 := Option.some.inj h
        simp only [List.length_cons, List.length_nil] at this
        omega
theorem commentG_tr (s : List UInt8) (i : Nat) (hl : s.length ≤ 1000000) (hi : i ≤ s.length) :
    Tr Tryz.prog 131 [str s, inat i] [] fun u K => ∃ q, u = tagV q (commentM s i) ∧ K = tagK q s i (commentM s i) := by
  have hP1 := hasPrefixG_tr (s.drop i) [60, 33, 45, 45, 62] (by rw [List.length_drop]; omega) (by decide)
  have hP2 := hasPrefixG_tr (s.drop i) [60, 33, 45, 45, 45, 62] (by rw [List.length_drop]; omega) (by decide)
  simp only [List.length_cons, List.length_nil, Nat.zero_add, Nat.reduceAdd] at hP1 hP2
  unfold commentM
  by_cases h1 : (s.drop i).take 5 = [60, 33, 45, 45, 62]
  · rw [if_pos (.inl h1)]
    rw [decide_eq_true h1] at hP1
    refine Tr.start (n := 46) (rs := [.tmp 4, .tmp 5, .tmp 6]) rfl rfl rfl rfl fun B => ?_
    (repeat' (first | refine zo (hP1) ?_ | refine z7 ?_ | refine z6 ?_ | refine z2 ?_ | refine z1 ?_ | refine zb ?_ | refine zd ?_ | refine ze ?_ | refine za2 ?_ | refine z8 ?_ | refine za ?_ | refine zk ?_ | refine zba ?_ | refine zaq ?_))
    exact e_ret _ ⟨0, rfl, rfl⟩ sA
  rw [decide_eq_false h1] at hP1
  by_cases h2 : (s.drop i).take 6 = [60, 33, 45, 45, 45, 62]
  · rw [if_pos (.inr h2)]
    rw [decide_eq_true h2] at hP2
    refine Tr.start (n := 46) (rs := [.tmp 4, .tmp 5, .tmp 6]) rfl rfl rfl rfl fun B => ?_
    (repeat' (first | refine zo (hP1) ?_ | refine zo (hP2) ?_ | refine z7 ?_ | refine z6 ?_ | refine z2 ?_ | refine z1 ?_ | refine zb ?_ | refine zd ?_ | refine ze ?_ | refine zh ?_ | refine z8 ?_ | refine za ?_ | refine zj ?_ | refine zba ?_ | refine zaq ?_ | refine zam ?_))
    exact e_ret _ ⟨0, rfl, rfl⟩ sA
  rw [decide_eq_false h2] at hP2
  rw [if_neg (by rintro (h | h); exact h1 h; exact h2 h)]
  refine Tr.start (n := 46) (rs := [.tmp 4, .tmp 5, .tmp 6]) rfl rfl rfl rfl fun B => ?_
  (repeat' (first | refine zo (hP1) ?_ | refine zo (hP2) ?_ | refine z7 ?_ | refine z6 ?_ | refine z2 ?_ | refine z1 ?_ | refine zc ?_ | refine zh ?_ | refine z8 ?_ | refine za ?_ | refine zj ?_ | refine zba ?_ | refine zam ?_))
  refine za1 (markG_tr s i [60, 33, 45, 45] [45, 45, 62] hl hi (by decide) (by decide)) (fun u K hR => ?_)
  obtain ⟨q, rfl, rfl⟩ := hR
  cases hm : markM s i [60, 33, 45, 45] [45, 45, 62] with
  | none =>
    dsimp only
    (repeat' (first | refine z7 ?_ | refine z6 ?_ | refine z2 ?_ | refine z1 ?_ | refine zb ?_ | refine zd ?_ | refine ze ?_ | refine z8 ?_ | refine za ?_ | refine za0 ?_))
    exact e_ret _ ⟨q, rfl, rfl⟩ sA
  | some e =>
    have hb := markM_lt (by decide) hm
    simp only [List.length_cons, List.length_nil] at hb
    dsimp only [tagK, tagV]
    have hlen : ((s.take e).drop i).length = e - i := by rw [List.length_drop, List.length_take]; omega
    have hC := zzContainsS_tr ((((s.take e).drop i).take (e - i - 2)).drop 4) [45, 45] (by rw [List.length_drop, List.length_take]; omega) (by decide) (by decide)
    cases hf : (fsub [45, 45] ((((s.take e).drop i).take (e - i - 2)).drop 4)).isSome with
    | true =>
      rw [hf] at hC
      simp only [if_true]
      (repeat' (first | refine zo (hC) ?_ | refine Ops.pure _ (zap (a := ((s.take e).drop i).length) (b := 2) (c := e - i - 2) (by rfl) (by rfl) (by omega) (by omega)) (by rfl) ?_ | refine Ops.pure _ (zbb (l := (s.take e).drop i) (a := 4) (b := e - i - 2) (by rfl) (by rfl) (by rfl) (by omega) (by omega)) (by rfl) ?_ | refine z7 ?_ | refine z6 ?_ | refine z2 ?_ | refine z1 ?_ | refine zc ?_ | refine zb ?_ | refine zd ?_ | refine ze ?_ | refine z8 ?_ | refine za ?_ | refine zn ?_ | refine zp ?_ | refine zq ?_ | refine zg ?_ | refine za0 ?_ | refine zaq ?_ | refine zcm ?_))
      exact e_ret _ ⟨0, rfl, rfl⟩ sA
    | false =>
      rw [hf] at hC
      simp only [Bool.false_eq_true, if_false]
      (repeat' (first | refine zo (hC) ?_ | refine Ops.pure _ (zap (a := ((s.take e).drop i).length) (b := 2) (c := e - i - 2) (by rfl) (by rfl) (by omega) (by omega)) (by rfl) ?_ | refine Ops.pure _ (zbb (l := (s.take e).drop i) (a := 4) (b := e - i - 2) (by rfl) (by rfl) (by rfl) (by omega) (by omega)) (by rfl) ?_ | refine z7 ?_ | refine z6 ?_ | refine z2 ?_ | refine z1 ?_ | refine zc ?_ | refine ze ?_ | refine zx ?_ | refine z8 ?_ | refine za ?_ | refine zn ?_ | refine zp ?_ | refine zq ?_ | refine zg ?_ | refine za0 ?_ | refine zam ?_ | refine zcm ?_))
      exact e_ret _ ⟨q, rfl, rfl⟩ sA

def declM (s : List UInt8) (i : Nat) : Option Nat := match s[i + 2]? with
  | some c => if letB c = true then markM s i [60, 33] [62] else none
  | none => none
theorem declG_tr (p : Nat) (st : PS) (s : List UInt8) (i : Nat) (hl : s.length ≤ 1000000) (hi : i ≤ s.length) (cn : Bool) (hcn : st.corner = .bool cn) :
    Tr Tryz.prog 133 [lp p, str s, inat i] [st.blk p] fun u K => ∃ q cn', u = tagV q (declM s i) ∧ K = ({ st with corner := .bool cn' } : PS).blk p :: tagK q s i (declM s i) := by
  obtain ⟨par, root, links, lineno, stack, depth, corner, sv, em, list, lists, texts, bt⟩ := st
  subst hcn
  unfold declM
  by_cases hlt : i + 2 < s.length
  · obtain ⟨c, hc⟩ := get_some hlt
    rw [hc]
    dsimp only
    have hL := isLetB_tr c
    cases hb : letB c with
    | false =>
      rw [hb] at hL
      simp only [Bool.false_eq_true, if_false]
      refine Tr.start (n := 42) (rs := [.tmp 6, .tmp 7, .tmp 8]) rfl rfl rfl rfl fun B => ?_
      (repeat' (first | refine zo (hL) ?_ | refine z7 ?_ | refine z6 ?_ | refine z2 ?_ | refine z1 ?_ | refine zb ?_ | refine zd ?_ | refine ze ?_ | refine zh ?_ | refine z8 ?_ | refine za ?_ | refine zb3 ?_ | refine zm ?_ | refine zj ?_ | refine zg ?_ | refine zi ?_))
      exact e_ret _ ⟨0, cn, rfl, rfl⟩ sA
    | true =>
      rw [hb] at hL
      simp only [if_true]
      have hll : let8 c.toNat := of_decide_eq_true hb
      by_cases hlow : 97 ≤ c.toNat
      · refine Tr.start (n := 42) (rs := [.tmp 6, .tmp 7, .tmp 8]) rfl rfl rfl rfl fun B => ?_
        (repeat' (first | refine zo (hL) ?_ | refine z7 ?_ | refine z6 ?_ | refine z2 ?_ | refine z1 ?_ | refine zc ?_ | refine zh ?_ | refine z8 ?_ | refine za ?_ | refine zp ?_ | refine zq ?_ | refine zb3 ?_ | refine zm ?_ | refine zb8 ?_ | refine zj ?_ | refine zg ?_ | refine zi ?_ | refine za5 ?_))
        refine za1 (markG_tr s i [60, 33] [62] hl hi (by decide) (by decide)) (fun u K hR => ?_)
        obtain ⟨q, rfl, rfl⟩ := hR
        cases hm : markM s i [60, 33] [62] with
        | none =>
          (repeat' (first | refine z2 ?_ | refine z1 ?_ | refine ze ?_ | refine zx ?_ | refine za ?_ | refine za0 ?_))
          exact e_ret _ ⟨q, true, rfl, rfl⟩ sA
        | some j =>
          (repeat' (first | refine z2 ?_ | refine z1 ?_ | refine ze ?_ | refine zx ?_ | refine za ?_ | refine za0 ?_))
          exact e_ret _ ⟨q, true, rfl, rfl⟩ sA
      · refine Tr.start (n := 42) (rs := [.tmp 6, .tmp 7, .tmp 8]) rfl rfl rfl rfl fun B => ?_
        (repeat' (first | refine zo (hL) ?_ | refine z7 ?_ | refine z6 ?_ | refine z2 ?_ | refine z1 ?_ | refine zc ?_ | refine zb ?_ | refine zd ?_ | refine zh ?_ | refine za2 ?_ | refine z8 ?_ | refine za ?_ | refine zb3 ?_ | refine zm ?_ | refine zbt ?_ | refine zj ?_ | refine zk ?_ | refine zg ?_ | refine zi ?_))
        refine za1 (markG_tr s i [60, 33] [62] hl hi (by decide) (by decide)) (fun u K hR => ?_)
        obtain ⟨q, rfl, rfl⟩ := hR
        cases hm : markM s i [60, 33] [62] with
        | none =>
          (repeat' (first | refine z2 ?_ | refine z1 ?_ | refine ze ?_ | refine zx ?_ | refine za ?_ | refine za0 ?_))
          exact e_ret _ ⟨q, cn, rfl, rfl⟩ sA
        | some j =>
          (repeat' (first | refine z2 ?_ | refine z1 ?_ | refine ze ?_ | refine zx ?_ | refine za ?_ | refine za0 ?_))
          exact e_ret _ ⟨q, cn, rfl, rfl⟩ sA
  · rw [List.getElem?_eq_none (by omega)]
    refine Tr.start (n := 42) (rs := [.tmp 6, .tmp 7, .tmp 8]) rfl rfl rfl rfl fun B => ?_
    (repeat' (first | refine z7 ?_ | refine z6 ?_ | refine z2 ?_ | refine z1 ?_ | refine zb ?_ | refine zd ?_ | refine ze ?_ | refine za2 ?_ | refine z8 ?_ | refine za ?_ | refine zb3 ?_ | refine za4 ?_ | refine zk ?_ | refine zg ?_))
    exact e_ret _ ⟨0, cn, rfl, rfl⟩ sA
end Go.Proofs

namespace Go.Proofs
open Go Go.Eng
set_option maxRecDepth 20000
set_option maxHeartbeats 4000000

def closeTagM (s : List UInt8) (i : Nat) : Option Nat :=
  if s[i]? = some 60 ∧ s[i + 1]? = some 47 ∧ i + 2 < s.length then (match tagNameM s (i + 2) with
    | none => none
    | some j => if s[scan isSp s j]? = some 62 then some (scan isSp s j + 1) else none) else none
theorem closeTagM_lt {s : List UInt8} {i k : Nat} (h : closeTagM s i = some k) : i < k ∧ k ≤ s.length := by
  unfold closeTagM at h
  split at h
  · split at h
    · cases h
    · rename_i j hj
      have h1 := tagNameM_lt hj
      have h2 := scan_ge isSp s j
      generalize scan isSp s j = a at h h2
      by_cases h62 : s[a]? = some 62
      · rw [if_pos h62] at h
        have := (List.getElem?_eq_some_iff.1 h62).1
        have := Option.some.inj h
        omega
      · rw [if_neg h62] at h; cases h
  · cases h
theorem closeTagG_tr (p : Nat) (st : PS) (s : List UInt8) (i : Nat) (hl : s.length ≤ 1000000) (hi : i ≤ s.length) (cn : Bool) (hcn : st.corner = .bool cn) :
    Tr Tryz.prog 130 [lp p, str s, inat i] [st.blk p] fun u K => ∃ q cn', u = tagV q (closeTagM s i) ∧ K = ({ st with corner := .bool cn' } : PS).blk p :: tagK q s i (closeTagM s i) := by
  obtain ⟨par, root, links, lineno, stack, depth, corner, sv, em, list, lists, texts, bt⟩ := st
  subst hcn
  by_cases hlt : i + 2 < s.length
  · obtain ⟨c, hc⟩ := get_some (show i < s.length by omega)
    obtain ⟨d, hd⟩ := get_some (show i + 1 < s.length by omega)
    by_cases h60 : c.toNat = 60
    · by_cases h47 : d.toNat = 47
      · have e60 : c = 60 := UInt8.toNat_inj.1 h60
        have e47 : d = 47 := UInt8.toNat_inj.1 h47
        unfold closeTagM
        rw [hc, hd, e60, e47, if_pos ⟨rfl, rfl, hlt⟩]
        have hS := skipSpaceG_tr s (i + 2) hl (by omega)
        have hT := tagNameG_tr s (i + 2) hl (by omega)
        generalize scan isSp s (i + 2) = a at hS
        refine Tr.start (n := 72) (rs := [.tmp 6, .tmp 7, .tmp 8]) rfl rfl rfl rfl fun B => ?_
        (repeat' (first | refine zo (hS) ?_ | refine z7 ?_ | refine z6 ?_ | refine z2 ?_ | refine z1 ?_ | refine zb ?_ | refine zd ?_ | refine zh ?_ | refine z8 ?_ | refine za ?_ | refine zl ?_ | refine zb3 ?_ | refine zab ?_ | refine zb0 ?_ | refine zdx ?_ | refine zk ?_ | refine zg ?_ | refine zi ?_))
        refine zau (fun c : Bool => [(0, lp p), (1, str s), (2, inat i)]) (fun c => [(⟨par, root, links, lineno, stack, depth, .bool c, sv, em, list, lists, texts, bt⟩ : PS).blk p]) (fun _ => True) ?_ ?_
        · refine zcp (fun _ => ?_) (fun _ => ?_)
          · (repeat' (first | refine z6 ?_ | refine z2 ?_ | refine z1 ?_ | refine z8 ?_ | refine zp ?_ | refine zq ?_ | refine za5 ?_))
            exact ⟨true, kA, sA, trivial⟩
          · (repeat' (first | refine z1 ?_ | refine zd ?_))
            exact ⟨cn, kA, sA, trivial⟩
        · rintro c2 -
          cases hn : tagNameM s (i + 2) with
          | none =>
            rw [hn] at hT
            dsimp only
            (repeat' (first | refine zo (hT) ?_ | refine z7 ?_ | refine z6 ?_ | refine z2 ?_ | refine z1 ?_ | refine zb ?_ | refine zd ?_ | refine ze ?_ | refine z8 ?_ | refine za ?_ | refine zb3 ?_ | refine za0 ?_))
            exact e_ret _ ⟨0, c2, rfl, rfl⟩ sA
          | some j =>
            rw [hn] at hT
            have h1 := tagNameM_lt hn
            dsimp only
            have hS2 := skipSpaceG_tr s j hl (by omega)
            have hge := scan_ge isSp s j
            generalize scan isSp s j = k at hS2 hge ⊢
            by_cases hkl : k < s.length
            · obtain ⟨e, he⟩ := get_some hkl
              rw [he]
              by_cases h62 : e.toNat = 62
              · have e62 : e = 62 := UInt8.toNat_inj.1 h62
                rw [e62, if_pos rfl]
                (repeat' (first | refine zo (hT) ?_ | refine zo (hS2) ?_ | refine z7 ?_ | refine z6 ?_ | refine z2 ?_ | refine z1 ?_ | refine zc ?_ | refine ze ?_ | refine zx ?_ | refine zh ?_ | refine z8 ?_ | refine za ?_ | refine zl ?_ | refine zb3 ?_ | refine zm ?_ | refine zt ?_ | refine zj ?_ | refine zg ?_ | refine zi ?_ | refine za0 ?_ | refine zav ?_ | refine zan ?_ | refine zao ?_ | refine zaf (fun _ => ?_)))
                rename_i q
                exact e_ret _ ⟨q, c2, rfl, rfl⟩ sA
              · rw [if_neg (fun h => by cases h; exact h62 rfl)]
                (repeat' (first | refine zo (hT) ?_ | refine zo (hS2) ?_ | refine z7 ?_ | refine z6 ?_ | refine z2 ?_ | refine z1 ?_ | refine zc ?_ | refine zb ?_ | refine zd ?_ | refine ze ?_ | refine zh ?_ | refine z8 ?_ | refine za ?_ | refine zb3 ?_ | refine zm ?_ | refine zr ?_ | refine zj ?_ | refine zg ?_ | refine zi ?_ | refine za0 ?_))
                exact e_ret _ ⟨0, c2, rfl, rfl⟩ sA
            · rw [List.getElem?_eq_none (by omega), if_neg (by simp)]
              (repeat' (first | refine zo (hT) ?_ | refine zo (hS2) ?_ | refine z7 ?_ | refine z6 ?_ | refine z2 ?_ | refine z1 ?_ | refine zc ?_ | refine zb ?_ | refine zd ?_ | refine ze ?_ | refine za2 ?_ | refine z8 ?_ | refine za ?_ | refine zb3 ?_ | refine za4 ?_ | refine zk ?_ | refine zg ?_ | refine za0 ?_))
              exact e_ret _ ⟨0, c2, rfl, rfl⟩ sA
      · have e : closeTagM s i = none := by
          unfold closeTagM
          rw [if_neg (by rintro ⟨_, h, _⟩; rw [hd] at h; cases h; exact h47 rfl)]
        rw [e]
        refine Tr.start (n := 72) (rs := [.tmp 6, .tmp 7, .tmp 8]) rfl rfl rfl rfl fun B => ?_
        (repeat' (first | refine z7 ?_ | refine z6 ?_ | refine z2 ?_ | refine z1 ?_ | refine zc ?_ | refine ze ?_ | refine zx ?_ | refine zh ?_ | refine z8 ?_ | refine za ?_ | refine zl ?_ | refine zb3 ?_ | refine zab ?_ | refine zb2 ?_ | refine zb0 ?_ | refine zk ?_ | refine zg ?_ | refine zi ?_))
        exact e_ret _ ⟨0, cn, rfl, rfl⟩ sA
    · have e : closeTagM s i = none := by
        unfold closeTagM
        rw [if_neg (by rintro ⟨h, _, _⟩; rw [hc] at h; cases h; exact h60 rfl)]
      rw [e]
      refine Tr.start (n := 72) (rs := [.tmp 6, .tmp 7, .tmp 8]) rfl rfl rfl rfl fun B => ?_
      (repeat' (first | refine z7 ?_ | refine z6 ?_ | refine z2 ?_ | refine z1 ?_ | refine zc ?_ | refine ze ?_ | refine zx ?_ | refine zh ?_ | refine zaa ?_ | refine z8 ?_ | refine za ?_ | refine zb3 ?_ | refine zab ?_ | refine zb2 ?_ | refine zj ?_ | refine zk ?_ | refine zg ?_ | refine zi ?_))
      exact e_ret _ ⟨0, cn, rfl, rfl⟩ sA
  · have e : closeTagM s i = none := by
      unfold closeTagM
      rw [if_neg (by rintro ⟨_, _, h⟩; omega)]
    rw [e]
    refine Tr.start (n := 72) (rs := [.tmp 6, .tmp 7, .tmp 8]) rfl rfl rfl rfl fun B => ?_
    (repeat' (first | refine z7 ?_ | refine z6 ?_ | refine z2 ?_ | refine z1 ?_ | refine zc ?_ | refine ze ?_ | refine zx ?_ | refine zaa ?_ | refine z8 ?_ | refine za ?_ | refine zb3 ?_ | refine zas ?_ | refine zj ?_ | refine zg ?_))
    exact e_ret _ ⟨0, cn, rfl, rfl⟩ sA

theorem declM_lt {s : List UInt8} {i k : Nat} (h : declM s i = some k) : i < k ∧ k ≤ s.length := by
  unfold declM at h
  split at h
  · split at h
    · have := markM_lt (by decide) h
      simp only [List.length_cons, List.length_nil] at this
      omega
    · cases h
  · cases h
/-- A piece of HTML in a line. -/
def htmlTagM (s : List UInt8) (i : Nat) : Option Nat := if s[i]? = some 60 then (match s[i + 1]?, s[i + 2]? with
  | some c, some d => if c.toNat = 47 then closeTagM s i else if c.toNat = 33 then (if d.toNat = 45 then commentM s i else if d.toNat = 91 then cdataM s i else declM s i) else if c.toNat = 63 then procM s i else openTagM s i
  | _, _ => none) else none
theorem htmlTagM_lt {s : List UInt8} {i k : Nat} (h : htmlTagM s i = some k) : i < k ∧ k ≤ s.length := by
  unfold htmlTagM at h
  split at h
  · split at h
    · split at h
      · exact closeTagM_lt h
      · split at h
        · split at h
          · exact commentM_lt h
          · split at h
            · have := markM_lt (by decide) h
              simp only [List.length_cons, List.length_nil] at this
              omega
            · exact declM_lt h
        · split at h
          · have := markM_lt (by decide) h
            simp only [List.length_cons, List.length_nil] at this
            omega
          · exact openTagM_lt h
    · cases h
  · cases h
theorem htmlTagG_tr (p : Nat) (st : PS) (s : List UInt8) (i : Nat) (hl : s.length ≤ 1000000) (hi : i ≤ s.length) (cn : Bool) (hcn : st.corner = .bool cn) :
    Tr Tryz.prog 89 [lp p, str s, inat i] [st.blk p] fun u K => ∃ q cn', u = tagV q (htmlTagM s i) ∧ K = ({ st with corner := .bool cn' } : PS).blk p :: tagK q s i (htmlTagM s i) := by
  obtain ⟨par, root, links, lineno, stack, depth, corner, sv, em, list, lists, texts, bt⟩ := st
  subst hcn
  unfold htmlTagM
  by_cases hlt : i + 2 < s.length
  · obtain ⟨c0, hc0⟩ := get_some (show i < s.length by omega)
    obtain ⟨c, hc⟩ := get_some (show i + 1 < s.length by omega)
    obtain ⟨d, hd⟩ := get_some hlt
    rw [hc0, hc, hd]
    dsimp only
    by_cases h60 : c0.toNat = 60
    · have e60 : c0 = 60 := UInt8.toNat_inj.1 h60
      rw [e60, if_pos rfl]
      by_cases h1 : c.toNat = 47
      · rw [if_pos h1]
        refine Tr.start (n := 77) (rs := [.tmp 6, .tmp 7, .tmp 8]) rfl rfl rfl rfl fun B => ?_
        (repeat' (first | refine z7 ?_ | refine z6 ?_ | refine z2 ?_ | refine z1 ?_ | refine zc ?_ | refine zf ?_ | refine zh ?_ | refine z8 ?_ | refine za ?_ | refine zl ?_ | refine zck ?_ | refine zb8 ?_ | refine zt ?_ | refine zj ?_ | refine zg ?_ | refine zi ?_))
        refine za1 (closeTagG_tr p _ s i hl hi cn rfl) (fun u K hR => ?_)
        obtain ⟨q, cn', rfl, rfl⟩ := hR
        cases closeTagM s i with
        | none =>
          (repeat' (first | refine z2 ?_ | refine z1 ?_ | refine ze ?_ | refine zx ?_ | refine zag ?_ | refine za ?_ | refine za0 ?_))
          exact e_ret _ ⟨q, cn', rfl, rfl⟩ sA
        | some j =>
          (repeat' (first | refine z2 ?_ | refine z1 ?_ | refine ze ?_ | refine zx ?_ | refine zag ?_ | refine za ?_ | refine za0 ?_))
          exact e_ret _ ⟨q, cn', rfl, rfl⟩ sA
      rw [if_neg h1]
      by_cases h2 : c.toNat = 33
      · rw [if_pos h2]
        by_cases h3 : d.toNat = 45
        · rw [if_pos h3]
          refine Tr.start (n := 77) (rs := [.tmp 6, .tmp 7, .tmp 8]) rfl rfl rfl rfl fun B => ?_
          (repeat' (first | refine z7 ?_ | refine z6 ?_ | refine z2 ?_ | refine z1 ?_ | refine zc ?_ | refine zb ?_ | refine zf ?_ | refine zh ?_ | refine z8 ?_ | refine za ?_ | refine zl ?_ | refine zb3 ?_ | refine zck ?_ | refine zb8 ?_ | refine zt ?_ | refine zr ?_ | refine zj ?_ | refine zg ?_ | refine zi ?_))
          refine za1 (commentG_tr s i hl hi) (fun u K hR => ?_)
          obtain ⟨q, rfl, rfl⟩ := hR
          cases commentM s i with
          | none =>
            (repeat' (first | refine z2 ?_ | refine z1 ?_ | refine ze ?_ | refine zx ?_ | refine zag ?_ | refine za ?_ | refine za0 ?_))
            exact e_ret _ ⟨q, cn, rfl, rfl⟩ sA
          | some j =>
            (repeat' (first | refine z2 ?_ | refine z1 ?_ | refine ze ?_ | refine zx ?_ | refine zag ?_ | refine za ?_ | refine za0 ?_))
            exact e_ret _ ⟨q, cn, rfl, rfl⟩ sA
        rw [if_neg h3]
        by_cases h4 : d.toNat = 91
        · rw [if_pos h4]
          refine Tr.start (n := 77) (rs := [.tmp 6, .tmp 7, .tmp 8]) rfl rfl rfl rfl fun B => ?_
          (repeat' (first | refine z7 ?_ | refine z6 ?_ | refine z2 ?_ | refine z1 ?_ | refine zc ?_ | refine zb ?_ | refine zf ?_ | refine zh ?_ | refine z8 ?_ | refine za ?_ | refine zl ?_ | refine zb3 ?_ | refine zck ?_ | refine zb8 ?_ | refine zt ?_ | refine zr ?_ | refine zj ?_ | refine zg ?_ | refine zi ?_))
          refine za1 (cdataG_tr s i hl hi) (fun u K hR => ?_)
          obtain ⟨q, rfl, rfl⟩ := hR
          cases cdataM s i with
          | none =>
            (repeat' (first | refine z2 ?_ | refine z1 ?_ | refine ze ?_ | refine zx ?_ | refine zag ?_ | refine za ?_ | refine za0 ?_))
            exact e_ret _ ⟨q, cn, rfl, rfl⟩ sA
          | some j =>
            (repeat' (first | refine z2 ?_ | refine z1 ?_ | refine ze ?_ | refine zx ?_ | refine zag ?_ | refine za ?_ | refine za0 ?_))
            exact e_ret _ ⟨q, cn, rfl, rfl⟩ sA
        · rw [if_neg h4]
          refine Tr.start (n := 77) (rs := [.tmp 6, .tmp 7, .tmp 8]) rfl rfl rfl rfl fun B => ?_
          (repeat' (first | refine z7 ?_ | refine z6 ?_ | refine z2 ?_ | refine z1 ?_ | refine zc ?_ | refine zb ?_ | refine zf ?_ | refine zh ?_ | refine z8 ?_ | refine za ?_ | refine zl ?_ | refine zb3 ?_ | refine zck ?_ | refine zb8 ?_ | refine zt ?_ | refine zr ?_ | refine zj ?_ | refine zg ?_ | refine zi ?_))
          refine za1 (declG_tr p _ s i hl hi cn rfl) (fun u K hR => ?_)
          obtain ⟨q, cn', rfl, rfl⟩ := hR
          cases declM s i with
          | none =>
            (repeat' (first | refine z2 ?_ | refine z1 ?_ | refine ze ?_ | refine zx ?_ | refine zag ?_ | refine za ?_ | refine za0 ?_))
            exact e_ret _ ⟨q, cn', rfl, rfl⟩ sA
          | some j =>
            (repeat' (first | refine z2 ?_ | refine z1 ?_ | refine ze ?_ | refine zx ?_ | refine zag ?_ | refine za ?_ | refine za0 ?_))
            exact e_ret _ ⟨q, cn', rfl, rfl⟩ sA
      rw [if_neg h2]
      by_cases h5 : c.toNat = 63
      · rw [if_pos h5]
        refine Tr.start (n := 77) (rs := [.tmp 6, .tmp 7, .tmp 8]) rfl rfl rfl rfl fun B => ?_
        (repeat' (first | refine z7 ?_ | refine z6 ?_ | refine z2 ?_ | refine z1 ?_ | refine zc ?_ | refine zb ?_ | refine zf ?_ | refine zh ?_ | refine z8 ?_ | refine za ?_ | refine zl ?_ | refine zck ?_ | refine zb8 ?_ | refine zt ?_ | refine zr ?_ | refine zj ?_ | refine zg ?_ | refine zi ?_))
        refine za1 (procG_tr s i hl hi) (fun u K hR => ?_)
        obtain ⟨q, rfl, rfl⟩ := hR
        cases procM s i with
        | none =>
          (repeat' (first | refine z2 ?_ | refine z1 ?_ | refine ze ?_ | refine zx ?_ | refine zag ?_ | refine za ?_ | refine za0 ?_))
          exact e_ret _ ⟨q, cn, rfl, rfl⟩ sA
        | some j =>
          (repeat' (first | refine z2 ?_ | refine z1 ?_ | refine ze ?_ | refine zx ?_ | refine zag ?_ | refine za ?_ | refine za0 ?_))
          exact e_ret _ ⟨q, cn, rfl, rfl⟩ sA
      · rw [if_neg h5]
        refine Tr.start (n := 77) (rs := [.tmp 6, .tmp 7, .tmp 8]) rfl rfl rfl rfl fun B => ?_
        (repeat' (first | refine z7 ?_ | refine z6 ?_ | refine z2 ?_ | refine z1 ?_ | refine zc ?_ | refine zb ?_ | refine zf ?_ | refine zh ?_ | refine z8 ?_ | refine za ?_ | refine zl ?_ | refine zck ?_ | refine zb8 ?_ | refine zt ?_ | refine zr ?_ | refine zj ?_ | refine zg ?_ | refine zi ?_))
        refine za1 (openTagG_tr p _ s i hl (by omega) cn rfl) (fun u K hR => ?_)
        obtain ⟨q, cn', rfl, rfl⟩ := hR
        cases openTagM s i with
        | none =>
          (repeat' (first | refine z2 ?_ | refine z1 ?_ | refine ze ?_ | refine zx ?_ | refine zag ?_ | refine za ?_ | refine za0 ?_))
          exact e_ret _ ⟨q, cn', rfl, rfl⟩ sA
        | some j =>
          (repeat' (first | refine z2 ?_ | refine z1 ?_ | refine ze ?_ | refine zx ?_ | refine zag ?_ | refine za ?_ | refine za0 ?_))
          exact e_ret _ ⟨q, cn', rfl, rfl⟩ sA
    · rw [if_neg (fun h => by cases h; exact h60 rfl)]
      refine Tr.start (n := 77) (rs := [.tmp 6, .tmp 7, .tmp 8]) rfl rfl rfl rfl fun B => ?_
      (repeat' (first | refine z7 ?_ | refine z6 ?_ | refine z2 ?_ | refine z1 ?_ | refine zb ?_ | refine zd ?_ | refine ze ?_ | refine zh ?_ | refine z8 ?_ | refine za ?_ | refine zck ?_ | refine zb8 ?_ | refine zr ?_ | refine zj ?_ | refine zg ?_ | refine zi ?_))
      exact e_ret _ ⟨0, cn, rfl, rfl⟩ sA
  · have e : (if s[i]? = some 60 then (match s[i + 1]?, s[i + 2]? with
      | some c, some d => if c.toNat = 47 then closeTagM s i else if c.toNat = 33 then (if d.toNat = 45 then commentM s i else if d.toNat = 91 then cdataM s i else declM s i) else if c.toNat = 63 then procM s i else openTagM s i
      | _, _ => none) else none) = none := by
      rw [List.getElem?_eq_none (show s.length ≤ i + 2 by omega)]
      split
      · cases s[i + 1]? <;> rfl
      · rfl
    rw [e]
    refine Tr.start (n := 77) (rs := [.tmp 6, .tmp 7, .tmp 8]) rfl rfl rfl rfl fun B => ?_
    (repeat' (first | refine z7 ?_ | refine z6 ?_ | refine z2 ?_ | refine z1 ?_ | refine zb ?_ | refine zd ?_ | refine ze ?_ | refine za2 ?_ | refine z8 ?_ | refine za ?_ | refine zck ?_ | refine zbt ?_ | refine zk ?_ | refine zg ?_))
    exact e_ret _ ⟨0, cn, rfl, rfl⟩ sA
end Go.Proofs

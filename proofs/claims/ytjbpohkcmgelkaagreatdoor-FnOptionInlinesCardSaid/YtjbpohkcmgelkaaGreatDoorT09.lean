/- Steps of the walk of the program and plain facts on what it computes. Conditions: as each theorem states them. -/
import Derived.Test.YtjbpohkcmgelkaaGreatDoorT08
import Derived.Test.YtjbpohkcmgelkaaGreatDoorT07
import Derived.Test.YtjbpohkcmgelkaaGreatDoorEngB
import Derived.Test.YtjbpohkcmgelkaaGreatDoorT04
namespace Go.Proofs
open Go Go.Eng
set_option maxRecDepth 20000
set_option maxHeartbeats 1000000

def spcB (c : UInt8) : Bool := c.toNat == 32 || c.toNat == 9 || c.toNat == 12 || c.toNat == 10
theorem uspG_tr (c : UInt8) (h : c.toNat < 128) : TrP Tryz.prog 92 [.int .i32 c.toNat] (.bool (spcB c)) := by
  by_cases h1 : c.toNat = 32
  · rw [show spcB c = true by simp [spcB, h1]]
    refine Tr.start (n := 21) (rs := [.tmp 2]) rfl rfl rfl rfl fun B => ?_
    (repeat' (first | refine z7 ?_ | refine z6 ?_ | refine z2 ?_ | refine z1 ?_ | refine zc ?_ | refine ze ?_ | refine zx ?_ | refine zaa ?_ | refine z8 ?_ | refine za ?_ | refine zm ?_ | refine zt ?_ | refine zj ?_))
    exact e_pure ⟨rfl, rfl⟩
  by_cases h2 : c.toNat = 9
  · rw [show spcB c = true by simp [spcB, h2]]
    refine Tr.start (n := 21) (rs := [.tmp 2]) rfl rfl rfl rfl fun B => ?_
    (repeat' (first | refine z7 ?_ | refine z6 ?_ | refine z2 ?_ | refine z1 ?_ | refine zc ?_ | refine ze ?_ | refine zx ?_ | refine zh ?_ | refine zaa ?_ | refine z8 ?_ | refine za ?_ | refine zm ?_ | refine zt ?_ | refine zr ?_ | refine zj ?_ | refine zk ?_))
    exact e_pure ⟨rfl, rfl⟩
  by_cases h3 : c.toNat = 12
  · rw [show spcB c = true by simp [spcB, h3]]
    refine Tr.start (n := 21) (rs := [.tmp 2]) rfl rfl rfl rfl fun B => ?_
    (repeat' (first | refine z7 ?_ | refine z6 ?_ | refine z2 ?_ | refine z1 ?_ | refine zc ?_ | refine ze ?_ | refine zx ?_ | refine zh ?_ | refine zaa ?_ | refine z8 ?_ | refine za ?_ | refine zm ?_ | refine zt ?_ | refine zr ?_ | refine zj ?_ | refine zk ?_))
    exact e_pure ⟨rfl, rfl⟩
  by_cases h4 : c.toNat = 10
  · rw [show spcB c = true by simp [spcB, h4]]
    refine Tr.start (n := 21) (rs := [.tmp 2]) rfl rfl rfl rfl fun B => ?_
    (repeat' (first | refine z7 ?_ | refine z6 ?_ | refine z2 ?_ | refine z1 ?_ | refine zc ?_ | refine ze ?_ | refine zx ?_ | refine zh ?_ | refine z8 ?_ | refine za ?_ | refine zm ?_ | refine zt ?_ | refine zr ?_ | refine zk ?_))
    exact e_pure ⟨rfl, rfl⟩
  · rw [show spcB c = false by simp [spcB, h1, h2, h3, h4]]
    refine Tr.start (n := 21) (rs := [.tmp 2]) rfl rfl rfl rfl fun B => ?_
    (repeat' (first | refine z7 ?_ | refine z6 ?_ | refine z2 ?_ | refine z1 ?_ | refine zc ?_ | refine ze ?_ | refine zx ?_ | refine zh ?_ | refine z8 ?_ | refine za ?_ | refine zm ?_ | refine zr ?_ | refine zk ?_))
    exact e_pure ⟨rfl, rfl⟩
theorem upuG_tr (c : UInt8) (h : c.toNat < 128) : TrP Tryz.prog 93 [.int .i32 c.toNat] (.bool (isPunB c)) := by
  have hP := isPunB_tr c
  refine Tr.start (n := 10) (rs := [.tmp 2]) rfl rfl rfl rfl fun B => ?_
  (repeat' (first | refine zo (hP) ?_ | refine Ops.pure _ (zds (a := c.toNat) rfl (wrap8_of (by omega) (by omega))) (by rfl) ?_ | refine z7 ?_ | refine z6 ?_ | refine z2 ?_ | refine z1 ?_ | refine zc ?_ | refine ze ?_ | refine zx ?_ | refine z8 ?_ | refine za ?_ | refine zm ?_))
  exact e_pure ⟨rfl, rfl⟩

abbrev emL (t : List UInt8) (o c : Bool) (n : Nat) : LIt := ⟨202, 204, [str t, .bool o, .bool c, inat 0, inat n]⟩
/-- Left-flanking and right-flanking runs between two characters. -/
def flankL (b a : UInt8) : Bool := !spcB a && (!isPunB a || spcB b || isPunB b)
def flankR (b a : UInt8) : Bool := !spcB b && (!isPunB b || spcB a || isPunB a)
def canOpenM (c b a : UInt8) : Bool :=
  if c.toNat = 39 ∨ c.toNat = 34 then flankL b a && !flankR b a && decide (b.toNat ≠ 93) && decide (b.toNat ≠ 41)
  else if c.toNat = 95 then flankL b a && (!flankR b a || isPunB b) else flankL b a
def canCloseM (c b a : UInt8) : Bool := if c.toNat = 95 then flankR b a && (!flankL b a || isPunB a) else flankR b a
def emphEnd (s : List UInt8) (i : Nat) (c : UInt8) : Nat := if c.toNat = 42 ∨ c.toNat = 126 ∨ c.toNat = 95 then scan (fun d => d == c) s (i + 1) else i + 1
def beforeM (s : List UInt8) (i : Nat) : UInt8 := if i = 0 then 32 else s.getD (i - 1) 32
def afterM (s : List UInt8) (j : Nat) : UInt8 := s.getD j 32
def parseEmphM (s : List UInt8) (i : Nat) (c : UInt8) : Prs :=
  let j := emphEnd s i c
  if c.toNat = 126 ∧ 2 < j - i then some (plainL ((s.take j).drop i), i, j)
  else some (emL ((s.take j).drop i) (canOpenM c (beforeM s i) (afterM s j)) (canCloseM c (beforeM s i) (afterM s j)) (j - i), i, j)
def Asc (s : List UInt8) : Prop := ∀ c ∈ s, c.toNat < 128

theorem parseEmphG_tr (p : Nat) (st : PS) (s : List UInt8) (i : Nat) (c : UInt8) (hl : s.length ≤ 1000000) (hA : Asc s) (hc : s[i]? = some c) (hk : c.toNat = 42 ∨ c.toNat = 126 ∨ c.toNat = 95 ∨ c.toNat = 34 ∨ c.toNat = 39) (cn : Bool) (hcn : st.corner = .bool cn) :
    Tr Tryz.prog 67 [lp p, str s, inat i] [st.blk p] fun u K => ∃ q cn', u = prsV q (parseEmphM s i c) ∧ K = ({ st with corner := .bool cn' } : PS).blk p :: prsK q (parseEmphM s i c) := by
  obtain ⟨par, root, links, lineno, stack, depth, corner, sv, em, list, lists, texts, bt⟩ := st
  subst hcn
  have hi := (List.getElem?_eq_some_iff.1 hc).1
  have hj1 : i + 1 ≤ emphEnd s i c := by unfold emphEnd; split; exact scan_ge _ _ _; exact Nat.le_refl _
  have hj2 : emphEnd s i c ≤ s.length := by unfold emphEnd; split; exact scan_le (by omega); omega
  unfold parseEmphM
  dsimp only
  have hjd : ∃ j, emphEnd s i c = j := ⟨_, rfl⟩
  obtain ⟨j, hj⟩ := hjd
  rw [hj] at hj1 hj2 ⊢
  refine Tr.start (n := 184) (rs := [.tmp 6, .tmp 7, .tmp 8, .tmp 9]) rfl rfl rfl rfl fun B => ?_
  ((repeat (refine z7 ?_)); refine z6 ?_; (repeat' (first | refine za ?_)); refine z2 ?_; refine z1 ?_)
  ((repeat (refine z7 ?_)); refine z6 ?_; (repeat' (first | refine z8 ?_ | refine za ?_ | refine zi ?_)); refine z2 ?_; refine z1 ?_)
  ((repeat (refine z7 ?_)); refine z6 ?_; (repeat' (first | refine z8 ?_ | refine za ?_ | refine zl ?_)); refine z2 ?_; refine z1 ?_)
  (repeat (refine z7 ?_))
  refine zac [(0, lp p), (1, str s), (2, inat i), (10, .int .u8 c.toNat), (11, inat (i + 1)), (32, .bool (decide (c.toNat = 42 ∨ c.toNat = 126 ∨ c.toNat = 95)))] [(⟨par, root, links, lineno, stack, depth, .bool cn, sv, em, list, lists, texts, bt⟩ : PS).blk p] ?_ ?_
  · by_cases h1 : c.toNat = 42
    · rw [decide_eq_true (.inl h1)]
      (repeat' (first | refine z6 ?_ | refine z2 ?_ | refine z1 ?_ | refine zaa ?_ | refine z8 ?_ | refine zt ?_ | refine zj ?_))
      exact ⟨kA, sA⟩
    by_cases h2 : c.toNat = 126
    · rw [decide_eq_true (.inr (.inl h2))]
      (repeat' (first | refine z6 ?_ | refine z2 ?_ | refine z1 ?_ | refine zh ?_ | refine zaa ?_ | refine z8 ?_ | refine zt ?_ | refine zr ?_ | refine zj ?_ | refine zk ?_))
      exact ⟨kA, sA⟩
    by_cases h3 : c.toNat = 95
    · rw [decide_eq_true (.inr (.inr h3))]
      (repeat' (first | refine z6 ?_ | refine z2 ?_ | refine z1 ?_ | refine zh ?_ | refine z8 ?_ | refine zt ?_ | refine zr ?_ | refine zk ?_))
      exact ⟨kA, sA⟩
    · rw [decide_eq_false (by omega)]
      (repeat' (first | refine z6 ?_ | refine z2 ?_ | refine z1 ?_ | refine zh ?_ | refine z8 ?_ | refine zr ?_ | refine zk ?_))
      exact ⟨kA, sA⟩
  refine zac [(0, lp p), (1, str s), (2, inat i), (10, .int .u8 c.toNat), (11, inat j)] [(⟨par, root, links, lineno, stack, depth, .bool cn, sv, em, list, lists, texts, bt⟩ : PS).blk p] ?_ ?_
  · by_cases h1 : c.toNat = 42 ∨ c.toNat = 126 ∨ c.toNat = 95
    · rw [decide_eq_true h1]
      have hj' : scan (fun d => d == c) s (i + 1) = j := by rw [← hj]; unfold emphEnd; rw [if_pos h1]
      (repeat' (first | refine zc ?_ | refine zf ?_))
      refine za6 (fun k : Nat => [(0, lp p), (1, str s), (2, inat i), (10, .int .u8 c.toNat), (11, inat k)]) (fun _ => [(⟨par, root, links, lineno, stack, depth, .bool cn, sv, em, list, lists, texts, bt⟩ : PS).blk p]) (fun k => scan (fun d => d == c) s k = j ∧ k ≤ s.length) (fun k => s.length - k) (i + 1) ⟨hj', by omega⟩ kB sA fun k hk => ?_
      obtain ⟨hk1, hk2⟩ := hk
      by_cases hlt : k < s.length
      · obtain ⟨d, hd⟩ := get_some hlt
        by_cases h1 : d.toNat = c.toNat
        · (repeat' (first | refine z7 ?_ | refine z6 ?_ | refine z2 ?_ | refine z1 ?_ | refine zc ?_ | refine zf ?_ | refine zd ?_ | refine zu ?_ | refine zh ?_ | refine z8 ?_ | refine za ?_ | refine zl ?_ | refine zm ?_ | refine zt ?_ | refine zj ?_ | refine zg ?_ | refine zi ?_))
          exact ⟨k + 1, kB, sA, ⟨by rw [← hk1, scan_step hd (by simp [UInt8.toNat_inj.1 h1])], by omega⟩, by omega⟩
        · have : k = j := by rw [← hk1, scan_stop hd (by simp; intro e; exact h1 (by rw [e]))]
          subst this
          (repeat' (first | refine z7 ?_ | refine z6 ?_ | refine z2 ?_ | refine z1 ?_ | refine zb ?_ | refine zw ?_ | refine zy ?_ | refine zz ?_ | refine zh ?_ | refine z8 ?_ | refine zm ?_ | refine zr ?_ | refine zj ?_ | refine zg ?_ | refine zi ?_))
          exact ⟨kA, sA⟩
      · have : k = j := by rw [← hk1, scan_end (by omega)]
        subst this
        (repeat' (first | refine z7 ?_ | refine z6 ?_ | refine z2 ?_ | refine z1 ?_ | refine zb ?_ | refine zw ?_ | refine zy ?_ | refine zz ?_ | refine za2 ?_ | refine z8 ?_ | refine za4 ?_ | refine zk ?_ | refine zg ?_))
        exact ⟨kA, sA⟩
    · rw [decide_eq_false h1]
      have hj' : i + 1 = j := by rw [← hj]; unfold emphEnd; rw [if_neg h1]
      subst hj'
      (repeat' (first | refine z1 ?_ | refine zb ?_ | refine zd ?_))
      exact ⟨kA, sA⟩
  (repeat (refine z7 ?_))
  refine zau (fun b : Bool => [(0, lp p), (1, str s), (2, inat i), (10, .int .u8 c.toNat), (11, inat j), (53, .bool b)]) (fun _ => [(⟨par, root, links, lineno, stack, depth, .bool cn, sv, em, list, lists, texts, bt⟩ : PS).blk p]) (fun _ => True) ?_ ?_
  · by_cases h2 : c.toNat = 126
    · by_cases h3 : j - i = 2
      · (repeat' (first | refine Ops.pure _ (zap (a := j) (b := i) (c := j - i) (by rfl) (by rfl) (by omega) (by omega)) (by rfl) ?_ | refine z6 ?_ | refine z2 ?_ | refine z1 ?_ | refine zh ?_ | refine z8 ?_ | refine zt ?_ | refine zb0 ?_ | refine zj ?_))
        exact ⟨false, kA, sA, trivial⟩
      · (repeat' (first | refine Ops.pure _ (zap (a := j) (b := i) (c := j - i) (by rfl) (by rfl) (by omega) (by omega)) (by rfl) ?_ | refine z6 ?_ | refine z2 ?_ | refine z1 ?_ | refine zh ?_ | refine z8 ?_ | refine zt ?_ | refine zb2 ?_ | refine zj ?_))
        exact ⟨true, kA, sA, trivial⟩
    · (repeat' (first | refine z6 ?_ | refine z2 ?_ | refine z1 ?_ | refine za2 ?_ | refine z8 ?_ | refine zr ?_ | refine zk ?_))
      exact ⟨false, kA, sA, trivial⟩
  rintro b0 -
  refine zau (fun c' : Bool => [(0, lp p), (1, str s), (2, inat i), (10, .int .u8 c.toNat), (11, inat j)]) (fun c => [(⟨par, root, links, lineno, stack, depth, .bool c, sv, em, list, lists, texts, bt⟩ : PS).blk p]) (fun _ => True) ?_ ?_
  · cases b0 with
    | true =>
      (repeat' (first | refine z6 ?_ | refine z2 ?_ | refine z1 ?_ | refine zc ?_ | refine z8 ?_ | refine zp ?_ | refine zq ?_ | refine za5 ?_))
      exact ⟨true, kA, sA, trivial⟩
    | false =>
      (repeat' (first | refine z1 ?_ | refine zb ?_ | refine zd ?_))
      exact ⟨cn, kA, sA, trivial⟩
  rintro c2 -
  by_cases hbig : c.toNat = 126 ∧ 2 < j - i
  · obtain ⟨hb1, hb2⟩ := hbig
    rw [if_pos ⟨hb1, hb2⟩]
    (repeat' (first | refine Ops.pure _ (zap (a := j) (b := i) (c := j - i) (by rfl) (by rfl) (by omega) (by omega)) (by rfl) ?_ | refine z7 ?_ | refine z6 ?_ | refine z2 ?_ | refine z1 ?_ | refine zc ?_ | refine ze ?_ | refine zx ?_ | refine zh ?_ | refine z8 ?_ | refine za ?_ | refine zaz ?_ | refine zt ?_ | refine zj ?_ | refine zav ?_ | refine zan ?_ | refine zao ?_ | refine zaf (fun _ => ?_)))
    rename_i q
    exact e_ret _ ⟨q, c2, rfl, rfl⟩ sA
  rw [if_neg hbig]
  (repeat (refine z7 ?_))
  refine zac [(0, lp p), (1, str s), (2, inat i), (10, .int .u8 c.toNat), (11, inat j), (64, .bool false)] [(⟨par, root, links, lineno, stack, depth, .bool c2, sv, em, list, lists, texts, bt⟩ : PS).blk p] ?_ ?_
  · by_cases h2 : c.toNat = 126
    · have h3 : ¬ 2 < j - i := fun h => hbig ⟨h2, h⟩
      (repeat' (first | refine Ops.pure _ (zap (a := j) (b := i) (c := j - i) (by rfl) (by rfl) (by omega) (by omega)) (by rfl) ?_ | refine z6 ?_ | refine z2 ?_ | refine z1 ?_ | refine zh ?_ | refine z8 ?_ | refine zat ?_ | refine zt ?_ | refine zj ?_))
      exact ⟨kA, sA⟩
    · (repeat' (first | refine z6 ?_ | refine z2 ?_ | refine z1 ?_ | refine za2 ?_ | refine z8 ?_ | refine zr ?_ | refine zk ?_))
      exact ⟨kA, sA⟩
  have hbA : (beforeM s i).toNat < 128 := by
    unfold beforeM
    split
    · decide
    · obtain ⟨d, hd⟩ := get_some (show i - 1 < s.length by omega)
      rw [List.getD, hd]; exact hA d (List.mem_of_getElem? hd)
  have haA : (afterM s j).toNat < 128 := by
    unfold afterM
    by_cases hjl : j < s.length
    · obtain ⟨d, hd⟩ := get_some hjl
      rw [List.getD, hd]; exact hA d (List.mem_of_getElem? hd)
    · rw [List.getD, List.getElem?_eq_none (by omega)]; decide
  have hbd : i ≠ 0 → s[i - 1]? = some (beforeM s i) := fun h => by
    obtain ⟨d, hd⟩ := get_some (show i - 1 < s.length by omega)
    unfold beforeM
    rw [if_neg h, List.getD, hd]; rfl
  have hb0 : i = 0 → beforeM s i = 32 := fun h => by unfold beforeM; rw [if_pos h]
  have had : j < s.length → s[j]? = some (afterM s j) := fun h => by
    obtain ⟨d, hd⟩ := get_some h
    unfold afterM
    rw [List.getD, hd]; rfl
  have ha0 : ¬ j < s.length → afterM s j = 32 := fun h => by
    unfold afterM
    rw [List.getD, List.getElem?_eq_none (by omega)]; rfl
  generalize beforeM s i = b at hbA hbd hb0 ⊢
  generalize afterM s j = a at haA had ha0 ⊢
  refine zb ?_
  refine zd ?_
  refine z1 ?_
  ((repeat (refine z7 ?_)); refine z6 ?_; (repeat' (first | refine za ?_)); refine z2 ?_; refine z1 ?_)
  ((repeat (refine z7 ?_)); refine z6 ?_; (repeat' (first | refine z8 ?_ | refine zdi ?_)); refine z2 ?_; refine z1 ?_)
  (repeat (refine z7 ?_))
  refine zac [(0, lp p), (1, str s), (2, inat i), (10, .int .u8 c.toNat), (11, inat j), (12, .int .i32 b.toNat)] [(⟨par, root, links, lineno, stack, depth, .bool c2, sv, em, list, lists, texts, bt⟩ : PS).blk p] ?_ ?_
  · refine zcp (fun hg => ?_) (fun hg => ?_)
    · have h0 : i = 0 := by omega
      rw [hb0 h0]
      (repeat' (first | refine z6 ?_ | refine z2 ?_ | refine z1 ?_ | refine za ?_))
      exact ⟨kA, sA⟩
    · have h0 : i ≠ 0 := by omega
      have hti : (s.take i).length = i := by rw [List.length_take]; omega
      have hD := decLast_tr (s.take i) b (by rw [hti]; omega) (by rw [hti]; omega) (by rw [hti, List.getElem?_take, if_pos (by omega)]; exact hbd h0) hbA
      (repeat' (first | refine zo (hD) ?_ | refine z6 ?_ | refine z2 ?_ | refine z1 ?_ | refine z8 ?_ | refine za ?_ | refine za0 ?_ | refine zcc ?_))
      exact ⟨kA, sA⟩
  ((repeat (refine z7 ?_)); refine z6 ?_; (repeat' (first | refine z8 ?_ | refine zeg ?_ | refine zg ?_)); refine z2 ?_; refine z1 ?_)
  (repeat (refine z7 ?_))
  refine zac [(0, lp p), (1, str s), (2, inat i), (10, .int .u8 c.toNat), (11, inat j), (12, .int .i32 b.toNat), (13, .int .i32 a.toNat)] [(⟨par, root, links, lineno, stack, depth, .bool c2, sv, em, list, lists, texts, bt⟩ : PS).blk p] ?_ ?_
  · refine zcp (fun hg => ?_) (fun hg => ?_)
    · have h0 : ¬ j < s.length := by omega
      rw [ha0 h0]
      (repeat' (first | refine z6 ?_ | refine z2 ?_ | refine z1 ?_ | refine za ?_))
      exact ⟨kA, sA⟩
    · have h0 : j < s.length := by omega
      have hD := dec_tr (s.drop j) a (by rw [List.getElem?_drop]; exact had h0) haA
      (repeat' (first | refine zo (hD) ?_ | refine z6 ?_ | refine z2 ?_ | refine z1 ?_ | refine z8 ?_ | refine za ?_ | refine za0 ?_ | refine zba ?_))
      exact ⟨kA, sA⟩
  have hSa := uspG_tr a haA
  have hSb := uspG_tr b hbA
  have hPa := upuG_tr a haA
  have hPb := upuG_tr b hbA
  (repeat (refine z7 ?_))
  refine zac [(0, lp p), (1, str s), (2, inat i), (10, .int .u8 c.toNat), (11, inat j), (12, .int .i32 b.toNat), (13, .int .i32 a.toNat), (14, .bool (flankL b a))] [(⟨par, root, links, lineno, stack, depth, .bool c2, sv, em, list, lists, texts, bt⟩ : PS).blk p] ?_ ?_
  · unfold flankL
    cases h1 : spcB a with
    | true =>
      rw [h1] at hSa
      (repeat' (first | refine zo (hSa) ?_ | refine z6 ?_ | refine z2 ?_ | refine z1 ?_ | refine za2 ?_ | refine zay ?_ | refine z8 ?_ | refine za ?_ | refine zk ?_ | refine zaq ?_))
      exact ⟨kA, sA⟩
    | false =>
      rw [h1] at hSa
      cases h2 : isPunB a with
      | false =>
        rw [h2] at hPa
        (repeat' (first | refine zo (hSa) ?_ | refine zo (hPa) ?_ | refine z6 ?_ | refine z2 ?_ | refine z1 ?_ | refine zh ?_ | refine zaa ?_ | refine z8 ?_ | refine za ?_ | refine zj ?_ | refine zam ?_))
        exact ⟨kA, sA⟩
      | true =>
        rw [h2] at hPa
        cases h3 : spcB b with
        | true =>
          rw [h3] at hSb
          (repeat' (first | refine zo (hSa) ?_ | refine zo (hPa) ?_ | refine zo (hSb) ?_ | refine z6 ?_ | refine z2 ?_ | refine z1 ?_ | refine zh ?_ | refine zaa ?_ | refine z8 ?_ | refine za ?_ | refine zj ?_ | refine zk ?_ | refine zaq ?_ | refine zam ?_))
          exact ⟨kA, sA⟩
        | false =>
          rw [h3] at hSb
          (repeat' (first | refine zo (hSa) ?_ | refine zo (hPa) ?_ | refine zo (hSb) ?_ | refine zo (hPb) ?_ | refine z6 ?_ | refine z2 ?_ | refine z1 ?_ | refine zh ?_ | refine z8 ?_ | refine za ?_ | refine zj ?_ | refine zk ?_ | refine zaq ?_ | refine zam ?_))
          exact ⟨kA, sA⟩
  (repeat (refine z7 ?_))
  refine zac [(0, lp p), (1, str s), (2, inat i), (10, .int .u8 c.toNat), (11, inat j), (12, .int .i32 b.toNat), (13, .int .i32 a.toNat), (14, .bool (flankL b a)), (15, .bool (flankR b a))] [(⟨par, root, links, lineno, stack, depth, .bool c2, sv, em, list, lists, texts, bt⟩ : PS).blk p] ?_ ?_
  · unfold flankR
    cases h1 : spcB b with
    | true =>
      rw [h1] at hSb
      (repeat' (first | refine zo (hSb) ?_ | refine z6 ?_ | refine z2 ?_ | refine z1 ?_ | refine za2 ?_ | refine zay ?_ | refine z8 ?_ | refine za ?_ | refine zk ?_ | refine zaq ?_))
      exact ⟨kA, sA⟩
    | false =>
      rw [h1] at hSb
      cases h2 : isPunB b with
      | false =>
        rw [h2] at hPb
        (repeat' (first | refine zo (hSb) ?_ | refine zo (hPb) ?_ | refine z6 ?_ | refine z2 ?_ | refine z1 ?_ | refine zh ?_ | refine zaa ?_ | refine z8 ?_ | refine za ?_ | refine zj ?_ | refine zam ?_))
        exact ⟨kA, sA⟩
      | true =>
        rw [h2] at hPb
        cases h3 : spcB a with
        | true =>
          rw [h3] at hSa
          (repeat' (first | refine zo (hSb) ?_ | refine zo (hPb) ?_ | refine zo (hSa) ?_ | refine z6 ?_ | refine z2 ?_ | refine z1 ?_ | refine zh ?_ | refine zaa ?_ | refine z8 ?_ | refine za ?_ | refine zj ?_ | refine zk ?_ | refine zaq ?_ | refine zam ?_))
          exact ⟨kA, sA⟩
        | false =>
          rw [h3] at hSa
          (repeat' (first | refine zo (hSb) ?_ | refine zo (hPb) ?_ | refine zo (hSa) ?_ | refine zo (hPa) ?_ | refine z6 ?_ | refine z2 ?_ | refine z1 ?_ | refine zh ?_ | refine z8 ?_ | refine za ?_ | refine zj ?_ | refine zk ?_ | refine zaq ?_ | refine zam ?_))
          exact ⟨kA, sA⟩
  ((repeat (refine z7 ?_)); refine z6 ?_; (repeat' (first | refine za ?_)); refine z2 ?_; refine z1 ?_)
  ((repeat (refine z7 ?_)); refine z6 ?_; (repeat' (first | refine z8 ?_)); refine z2 ?_; refine z1 ?_)
  (repeat (refine z7 ?_))
  refine zac [(0, lp p), (1, str s), (2, inat i), (10, .int .u8 c.toNat), (11, inat j), (16, .bool (canOpenM c b a)), (17, .bool (canCloseM c b a))] [(⟨par, root, links, lineno, stack, depth, .bool c2, sv, em, list, lists, texts, bt⟩ : PS).blk p] ?_ ?_
  · unfold canOpenM canCloseM
    generalize flankL b a = lf
    generalize flankR b a = rf
    by_cases q1 : c.toNat = 39 ∨ c.toNat = 34
    · rw [if_pos q1, if_neg (by omega)]
      by_cases q2 : c.toNat = 39
      · cases lf with
        | false =>
          (repeat' (first | refine z7 ?_ | refine z6 ?_ | refine z2 ?_ | refine z1 ?_ | refine zc ?_ | refine zf ?_ | refine zd ?_ | refine zu ?_ | refine za2 ?_ | refine z8 ?_ | refine za ?_ | refine zt ?_ | refine zk ?_))
          exact ⟨kA, sA⟩
        | true =>
          cases rf with
          | true =>
            (repeat' (first | refine z7 ?_ | refine z6 ?_ | refine z2 ?_ | refine z1 ?_ | refine zc ?_ | refine zf ?_ | refine zd ?_ | refine zu ?_ | refine zh ?_ | refine za2 ?_ | refine z8 ?_ | refine za ?_ | refine zt ?_ | refine zj ?_ | refine zk ?_ | refine zaq ?_))
            exact ⟨kA, sA⟩
          | false =>
            by_cases q3 : b.toNat = 93
            · rw [show decide (b.toNat ≠ 93) = false by simp [q3]]
              (repeat' (first | refine z7 ?_ | refine z6 ?_ | refine z2 ?_ | refine z1 ?_ | refine zc ?_ | refine zf ?_ | refine zd ?_ | refine zu ?_ | refine zh ?_ | refine za2 ?_ | refine z8 ?_ | refine za ?_ | refine zt ?_ | refine zb0 ?_ | refine zj ?_ | refine zk ?_ | refine zam ?_))
              exact ⟨kA, sA⟩
            · rw [show decide (b.toNat ≠ 93) = true by simp [q3]]
              by_cases q4 : b.toNat = 41
              · rw [show decide (b.toNat ≠ 41) = false by simp [q4]]
                (repeat' (first | refine z7 ?_ | refine z6 ?_ | refine z2 ?_ | refine z1 ?_ | refine zc ?_ | refine zf ?_ | refine zd ?_ | refine zu ?_ | refine zh ?_ | refine z8 ?_ | refine za ?_ | refine zt ?_ | refine zb2 ?_ | refine zb0 ?_ | refine zj ?_ | refine zam ?_))
                exact ⟨kA, sA⟩
              · rw [show decide (b.toNat ≠ 41) = true by simp [q4]]
                (repeat' (first | refine z7 ?_ | refine z6 ?_ | refine z2 ?_ | refine z1 ?_ | refine zc ?_ | refine zf ?_ | refine zd ?_ | refine zu ?_ | refine zh ?_ | refine z8 ?_ | refine za ?_ | refine zt ?_ | refine zb2 ?_ | refine zj ?_ | refine zam ?_))
                exact ⟨kA, sA⟩
      · have q2' : c.toNat = 34 := by omega
        cases lf with
        | false =>
          (repeat' (first | refine z7 ?_ | refine z6 ?_ | refine z2 ?_ | refine z1 ?_ | refine zc ?_ | refine zb ?_ | refine zf ?_ | refine zu ?_ | refine za2 ?_ | refine z8 ?_ | refine za ?_ | refine zt ?_ | refine zr ?_ | refine zk ?_))
          exact ⟨kA, sA⟩
        | true =>
          cases rf with
          | true =>
            (repeat' (first | refine z7 ?_ | refine z6 ?_ | refine z2 ?_ | refine z1 ?_ | refine zc ?_ | refine zb ?_ | refine zf ?_ | refine zu ?_ | refine zh ?_ | refine za2 ?_ | refine z8 ?_ | refine za ?_ | refine zt ?_ | refine zr ?_ | refine zj ?_ | refine zk ?_ | refine zaq ?_))
            exact ⟨kA, sA⟩
          | false =>
            by_cases q3 : b.toNat = 93
            · rw [show decide (b.toNat ≠ 93) = false by simp [q3]]
              (repeat' (first | refine z7 ?_ | refine z6 ?_ | refine z2 ?_ | refine z1 ?_ | refine zc ?_ | refine zb ?_ | refine zf ?_ | refine zu ?_ | refine zh ?_ | refine za2 ?_ | refine z8 ?_ | refine za ?_ | refine zt ?_ | refine zr ?_ | refine zb0 ?_ | refine zj ?_ | refine zk ?_ | refine zam ?_))
              exact ⟨kA, sA⟩
            · rw [show decide (b.toNat ≠ 93) = true by simp [q3]]
              by_cases q4 : b.toNat = 41
              · rw [show decide (b.toNat ≠ 41) = false by simp [q4]]
                (repeat' (first | refine z7 ?_ | refine z6 ?_ | refine z2 ?_ | refine z1 ?_ | refine zc ?_ | refine zb ?_ | refine zf ?_ | refine zu ?_ | refine zh ?_ | refine z8 ?_ | refine za ?_ | refine zt ?_ | refine zr ?_ | refine zb2 ?_ | refine zb0 ?_ | refine zj ?_ | refine zam ?_))
                exact ⟨kA, sA⟩
              · rw [show decide (b.toNat ≠ 41) = true by simp [q4]]
                (repeat' (first | refine z7 ?_ | refine z6 ?_ | refine z2 ?_ | refine z1 ?_ | refine zc ?_ | refine zb ?_ | refine zf ?_ | refine zu ?_ | refine zh ?_ | refine z8 ?_ | refine za ?_ | refine zt ?_ | refine zr ?_ | refine zb2 ?_ | refine zj ?_ | refine zam ?_))
                exact ⟨kA, sA⟩
    · rw [if_neg q1]
      by_cases q5 : c.toNat = 95
      · rw [if_pos q5, if_pos q5]
        cases lf with
        | false =>
          cases rf with
          | false =>
            (repeat' (first | refine z7 ?_ | refine z6 ?_ | refine z2 ?_ | refine z1 ?_ | refine zc ?_ | refine zb ?_ | refine zf ?_ | refine zu ?_ | refine za2 ?_ | refine zay ?_ | refine z8 ?_ | refine za ?_ | refine zt ?_ | refine zr ?_ | refine zk ?_))
            exact ⟨kA, sA⟩
          | true =>
            (repeat' (first | refine z7 ?_ | refine z6 ?_ | refine z2 ?_ | refine z1 ?_ | refine zc ?_ | refine zb ?_ | refine zf ?_ | refine zu ?_ | refine zh ?_ | refine za2 ?_ | refine zaa ?_ | refine zay ?_ | refine z8 ?_ | refine za ?_ | refine zt ?_ | refine zr ?_ | refine zj ?_ | refine zk ?_ | refine zam ?_))
            exact ⟨kA, sA⟩
        | true =>
          cases rf with
          | false =>
            (repeat' (first | refine z7 ?_ | refine z6 ?_ | refine z2 ?_ | refine z1 ?_ | refine zc ?_ | refine zb ?_ | refine zf ?_ | refine zu ?_ | refine zh ?_ | refine za2 ?_ | refine zaa ?_ | refine zay ?_ | refine z8 ?_ | refine za ?_ | refine zt ?_ | refine zr ?_ | refine zj ?_ | refine zk ?_ | refine zam ?_))
            exact ⟨kA, sA⟩
          | true =>
            (repeat' (first | refine zo (hPb) ?_ | refine zo (hPa) ?_ | refine z7 ?_ | refine z6 ?_ | refine z2 ?_ | refine z1 ?_ | refine zc ?_ | refine zb ?_ | refine zf ?_ | refine zu ?_ | refine zh ?_ | refine z8 ?_ | refine za ?_ | refine zt ?_ | refine zr ?_ | refine zj ?_ | refine zk ?_ | refine zaq ?_))
            exact ⟨kA, sA⟩
      · rw [if_neg q5, if_neg q5]
        by_cases q6 : c.toNat = 42
        · (repeat' (first | refine z7 ?_ | refine z6 ?_ | refine z2 ?_ | refine z1 ?_ | refine zc ?_ | refine zb ?_ | refine zf ?_ | refine zd ?_ | refine zu ?_ | refine z8 ?_ | refine za ?_ | refine zt ?_ | refine zr ?_))
          exact ⟨kA, sA⟩
        · have q7 : c.toNat = 126 := by omega
          (repeat' (first | refine z7 ?_ | refine z6 ?_ | refine z2 ?_ | refine z1 ?_ | refine zc ?_ | refine zb ?_ | refine zf ?_ | refine zu ?_ | refine z8 ?_ | refine za ?_ | refine zt ?_ | refine zr ?_))
          exact ⟨kA, sA⟩
  generalize canOpenM c b a = co
  generalize canCloseM c b a = cc
  (repeat' (first | refine Ops.pure _ (zap (a := j) (b := i) (c := j - i) (by rfl) (by rfl) (by omega) (by omega)) (by rfl) ?_ | refine z7 ?_ | refine z6 ?_ | refine z2 ?_ | refine z1 ?_ | refine ze ?_ | refine z8 ?_ | refine za ?_ | refine zav ?_ | refine zan ?_ | refine zao ?_ | refine zaf (fun _ => ?_)))
  rename_i q
  exact e_ret _ ⟨q, c2, rfl, rfl⟩ sA
end Go.Proofs

namespace Go.Proofs
open Go Go.Eng
set_option maxRecDepth 20000
set_option maxHeartbeats 1000000

def nlsp (c : UInt8) : UInt8 := if c = 10 then 32 else c
structure RA where
  l : List UInt8
  r : List UInt8
  v : Value
  R : Blk
theorem nlsp_id {l : List UInt8} (h : ∀ d ∈ l, d ≠ 10) : l.map nlsp = l := by
  induction l with
  | nil => rfl
  | cons c l ih =>
    have h0 := h c (by simp)
    simp only [List.map_cons, nlsp, if_neg h0]
    congr 1
    exact ih (fun d hd => h d (by simp [hd]))
theorem replNL_tr (s : List UInt8) (hl : s.length ≤ 1000000) (hne : s ≠ []) : TrP Tryz.prog 52 [str s, str [10], str [32]] (str (s.map nlsp)) := by
  refine Tr.start (n := 31) (rs := [.tmp 6]) rfl rfl rfl rfl fun B => ?_
  (repeat' (first | refine z7 ?_ | refine z6 ?_ | refine z2 ?_ | refine z1 ?_ | refine zf ?_ | refine za ?_))
  refine za6 (fun x : RA => [(0, str x.r), (1, str [10]), (2, str [32]), (7, x.v)]) (fun x => [x.R]) (fun x => x.l ++ x.r.map nlsp = s.map nlsp ∧ x.l.length + x.r.length = s.length ∧ Bys x.v x.l x.R) (fun x => x.r.length) ⟨[], s, .slice none 0 0, []⟩ ⟨rfl, by simp, Own.nil _ _⟩ kB (⟨[], by simp⟩) fun x hx => ?_
  obtain ⟨l, r, v, R⟩ := x
  obtain ⟨i1, i2, i3⟩ := hx
  dsimp only at i1 i2 i3 ⊢
  by_cases hk : fst1 10 r < r.length
  · have hI := zzIndex_tr r 10 (by omega) (fst1 10 r) (by rw [if_pos hk])
    have hat := fst1_at hk
    have hlt := @fst1_lt 10 r
    generalize fst1 10 r = k at hI hk hat hlt
    have hr : r = r.take k ++ 10 :: r.drop (k + 1) := by
      conv => lhs; rw [← List.take_append_drop k r]
      rw [List.drop_eq_getElem_cons hk]
      have := (List.getElem?_eq_some_iff.1 hat).2
      rw [this]
    have hid : (r.take k).map nlsp = r.take k := nlsp_id fun d hd => by
      obtain ⟨j, hj, e⟩ := List.mem_iff_getElem.1 hd
      rw [List.length_take] at hj
      obtain ⟨d', hd', hne⟩ := hlt (show j < k by omega)
      rw [List.getElem_take] at e
      have := (List.getElem?_eq_some_iff.1 hd').2
      rw [← e, this]
      exact hne
    have e10 : ([10] : List UInt8).length = 1 := rfl
    have htl : (r.take k).length = k := by rw [List.length_take]; omega
    (repeat' (first | refine zo (hI) ?_ | refine z7 ?_ | refine z6 ?_ | refine z2 ?_ | refine z1 ?_ | refine zb ?_ | refine zf ?_ | refine zd ?_ | refine z8 ?_ | refine za ?_ | refine za4 ?_ | refine zcc ?_))
    refine zdv i3 (by rw [htl]; omega) (fun v2 R2 h2 => ?_)
    have h2' : Bys v2 (l ++ r.take k) R2 := Bys.app h2
    (repeat' (first | refine z8 ?_))
    refine zdv (l := [32]) h2' (by simp only [List.length_append, List.length_cons, List.length_nil]; omega) (fun v3 R3 h3 => ?_)
    have h3' : Bys v3 (l ++ r.take k ++ [32]) R3 := Bys.app h3
    (repeat' (first | refine z6 ?_ | refine z2 ?_ | refine z1 ?_ | refine zu ?_ | refine z8 ?_ | refine za ?_ | refine zb1 ?_ | refine zg ?_ | refine zba ?_))
    refine ⟨⟨l ++ r.take k ++ [32], r.drop (k + 1), v3, R3⟩, kB, sA, ⟨?_, ?_, h3'⟩, ?_⟩
    · dsimp only
      rw [← i1]
      conv => rhs; rw [hr]
      rw [List.map_append, List.map_cons, hid]
      simp [nlsp]
    · simp only [List.length_append, List.length_cons, List.length_nil, List.length_drop]; omega
    · simp only [List.length_drop]; omega
  · have hI := zzIndex_tr r 10 (by omega) (-1) (by rw [if_neg hk])
    have hid : r.map nlsp = r := nlsp_id fun d hd e => by
      subst e
      obtain ⟨j, hj, e⟩ := List.mem_iff_getElem.1 hd
      obtain ⟨d', hd', hne⟩ := @fst1_lt 10 r j (by omega)
      have := (List.getElem?_eq_some_iff.1 hd').2
      rw [e] at this
      exact hne this.symm
    rw [hid] at i1
    rw [← i1]
    have hpos : 0 < s.length := List.length_pos_iff.2 hne
    (repeat' (first | refine zo (hI) ?_ | refine z7 ?_ | refine z6 ?_ | refine z2 ?_ | refine z1 ?_ | refine zc ?_ | refine zf ?_ | refine z8 ?_ | refine za ?_ | refine zm ?_))
    refine zdv (l := r) i3 (by omega) (fun v2 R2 h2 => ?_)
    have h2' : Bys v2 (l ++ r) R2 := Bys.app h2
    have hlr : (l ++ r).length = l.length + r.length - 1 + 1 := by rw [List.length_append]; omega
    have h2'' : Own 5 1 v2 (l.length + r.length - 1 + 1) (Lib.byteCells (l ++ r)) R2 := hlr ▸ h2'
    obtain ⟨g, cap, cur, rfl, rfl, k1, k2, k3, k4⟩ := h2''.pos
    rw [← hlr, Nat.mul_one] at k4
    rw [← hlr]
    refine Ops.pure _ (ze0 (g := g) (cap := cap) (l := l ++ r) Tryz.underlying22 Tryz.underlying5 Tryz.underlying9 (by rfl) (by repeat (first | exact HMem.here | apply HMem.skip | apply HMem.there)) k4) (by rfl) ?_
    (repeat' (first | refine z2 ?_ | refine z1 ?_ | refine ze ?_ | refine zx ?_ | refine zag ?_ | refine za ?_))
    exact e_pure ⟨rfl, rfl⟩
end Go.Proofs

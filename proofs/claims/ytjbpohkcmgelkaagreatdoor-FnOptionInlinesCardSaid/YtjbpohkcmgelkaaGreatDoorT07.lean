/- parseEmph at a run of tildes or at a quotation mark beside words and spaces of ASCII. Conditions: Run. isPunct, and parseEscape at punctuation. Conditions: bounds. Texts as literal and escaped characters, and the inlines that they make: plain facts on lists. The scan's state. emph without openers and delimiters leaves the list. Conditions: bounds. toPlain and autoLinkText (off). Conditions: the option is off. mergePlain where no two texts stand side by side. Conditions: bounds. Tokens of literal bytes and runs, and emit. Conditions: bounds on the length. -/
import Derived.Test.YtjbpohkcmgelkaaGreatDoorT06
import Derived.Test.YtjbpohkcmgelkaaGreatDoorT04
import Derived.Test.YtjbpohkcmgelkaaGreatDoorT05
import Derived.Test.YtjbpohkcmgelkaaGreatDoorEngB
namespace Go.Proofs
open Go Go.Eng
set_option maxRecDepth 20000
set_option maxHeartbeats 4000000

def ldB (c : UInt8) : Bool := decide (ld8 c.toNat)
theorem isLDB_tr (c : UInt8) : TrP Tryz.prog 155 [.int .u8 c.toNat] (.bool (ldB c)) := isLDF c.toNat c.toNat_lt
def schB (c : UInt8) : Bool := ldB c || c.toNat == 43 || c.toNat == 46 || c.toNat == 45
theorem isSchB_tr (c : UInt8) : TrP Tryz.prog 125 [.int .u8 c.toNat] (.bool (schB c)) := by
  have hL := isLDB_tr c
  cases hb : ldB c with
  | true =>
    rw [hb] at hL
    rw [show schB c = true by simp [schB, hb]]
    refine Tr.start (n := 17) (rs := [.tmp 2]) rfl rfl rfl rfl fun B => ?_
    (repeat' (first | refine zo (hL) ?_ | refine z7 ?_ | refine z6 ?_ | refine z2 ?_ | refine z1 ?_ | refine ze ?_ | refine zaa ?_ | refine z8 ?_ | refine za ?_ | refine zj ?_))
    exact e_pure ⟨rfl, rfl⟩
  | false =>
    rw [hb] at hL
    by_cases h1 : c.toNat = 43
    · rw [show schB c = true by simp [schB, h1]]
      refine Tr.start (n := 17) (rs := [.tmp 2]) rfl rfl rfl rfl fun B => ?_
      (repeat' (first | refine zo (hL) ?_ | refine z7 ?_ | refine z6 ?_ | refine z2 ?_ | refine z1 ?_ | refine ze ?_ | refine zh ?_ | refine zaa ?_ | refine z8 ?_ | refine za ?_ | refine zt ?_ | refine zj ?_ | refine zk ?_))
      exact e_pure ⟨rfl, rfl⟩
    by_cases h2 : c.toNat = 46
    · rw [show schB c = true by simp [schB, h2]]
      refine Tr.start (n := 17) (rs := [.tmp 2]) rfl rfl rfl rfl fun B => ?_
      (repeat' (first | refine zo (hL) ?_ | refine z7 ?_ | refine z6 ?_ | refine z2 ?_ | refine z1 ?_ | refine ze ?_ | refine zh ?_ | refine zaa ?_ | refine z8 ?_ | refine za ?_ | refine zt ?_ | refine zr ?_ | refine zj ?_ | refine zk ?_))
      exact e_pure ⟨rfl, rfl⟩
    by_cases h3 : c.toNat = 45
    · rw [show schB c = true by simp [schB, h3]]
      refine Tr.start (n := 17) (rs := [.tmp 2]) rfl rfl rfl rfl fun B => ?_
      (repeat' (first | refine zo (hL) ?_ | refine z7 ?_ | refine z6 ?_ | refine z2 ?_ | refine z1 ?_ | refine ze ?_ | refine zh ?_ | refine z8 ?_ | refine za ?_ | refine zt ?_ | refine zr ?_ | refine zk ?_))
      exact e_pure ⟨rfl, rfl⟩
    · rw [show schB c = false by simp [schB, hb, h1, h2, h3]]
      refine Tr.start (n := 17) (rs := [.tmp 2]) rfl rfl rfl rfl fun B => ?_
      (repeat' (first | refine zo (hL) ?_ | refine z7 ?_ | refine z6 ?_ | refine z2 ?_ | refine z1 ?_ | refine ze ?_ | refine zh ?_ | refine z8 ?_ | refine za ?_ | refine zr ?_ | refine zk ?_))
      exact e_pure ⟨rfl, rfl⟩
def urlB (c : UInt8) : Bool := decide (32 < c.toNat ∧ c.toNat ≠ 60 ∧ c.toNat ≠ 62)
theorem isURLB_tr (c : UInt8) : TrP Tryz.prog 126 [.int .u8 c.toNat] (.bool (urlB c)) := by
  by_cases h1 : 32 < c.toNat
  · by_cases h2 : c.toNat = 60
    · rw [show urlB c = false by simp [urlB, h2]]
      refine Tr.start (n := 13) (rs := [.tmp 2]) rfl rfl rfl rfl fun B => ?_
      (repeat' (first | refine z7 ?_ | refine z6 ?_ | refine z2 ?_ | refine z1 ?_ | refine ze ?_ | refine zh ?_ | refine za2 ?_ | refine z8 ?_ | refine za ?_ | refine zaz ?_ | refine zb0 ?_ | refine zj ?_ | refine zk ?_))
      exact e_pure ⟨rfl, rfl⟩
    · by_cases h3 : c.toNat = 62
      · rw [show urlB c = false by simp [urlB, h3]]
        refine Tr.start (n := 13) (rs := [.tmp 2]) rfl rfl rfl rfl fun B => ?_
        (repeat' (first | refine z7 ?_ | refine z6 ?_ | refine z2 ?_ | refine z1 ?_ | refine ze ?_ | refine zh ?_ | refine z8 ?_ | refine za ?_ | refine zaz ?_ | refine zb2 ?_ | refine zb0 ?_ | refine zj ?_))
        exact e_pure ⟨rfl, rfl⟩
      · rw [show urlB c = true by simp [urlB, h1, h2, h3]]
        refine Tr.start (n := 13) (rs := [.tmp 2]) rfl rfl rfl rfl fun B => ?_
        (repeat' (first | refine z7 ?_ | refine z6 ?_ | refine z2 ?_ | refine z1 ?_ | refine ze ?_ | refine zh ?_ | refine z8 ?_ | refine za ?_ | refine zaz ?_ | refine zb2 ?_ | refine zj ?_))
        exact e_pure ⟨rfl, rfl⟩
  · rw [show urlB c = false by simp [urlB, h1]]
    refine Tr.start (n := 13) (rs := [.tmp 2]) rfl rfl rfl rfl fun B => ?_
    (repeat' (first | refine z7 ?_ | refine z6 ?_ | refine z2 ?_ | refine z1 ?_ | refine ze ?_ | refine za2 ?_ | refine z8 ?_ | refine za ?_ | refine zat ?_ | refine zk ?_))
    exact e_pure ⟨rfl, rfl⟩
def userL : List UInt8 := [46, 33, 35, 36, 37, 38, 39, 42, 43, 47, 61, 63, 94, 95, 96, 123, 124, 125, 126, 45]
def userB (c : UInt8) : Bool := ldB c || decide (c ∈ userL)
theorem isUserB_tr (c : UInt8) : TrP Tryz.prog 127 [.int .u8 c.toNat] (.bool (userB c)) := by
  have hul : userL.length = 20 := rfl
  have hL := isLDB_tr c
  cases hb : ldB c with
  | true =>
    rw [hb] at hL
    rw [show userB c = true by simp [userB, hb]]
    refine Tr.start (n := 18) (rs := [.tmp 2]) rfl rfl rfl rfl fun B => ?_
    (repeat' (first | refine zo (hL) ?_ | refine z7 ?_ | refine z6 ?_ | refine z2 ?_ | refine z1 ?_ | refine zc ?_ | refine ze ?_ | refine zx ?_ | refine z8 ?_ | refine za ?_))
    exact e_pure ⟨rfl, rfl⟩
  | false =>
    rw [hb] at hL
    by_cases hin : c ∈ userL
    · rw [show userB c = true by simp [userB, hin]]
      refine Tr.start (n := 18) (rs := [.tmp 2]) rfl rfl rfl rfl fun B => ?_
      (repeat' (first | refine zo (hL) ?_ | refine z7 ?_ | refine z6 ?_ | refine z2 ?_ | refine z1 ?_ | refine zb ?_ | refine zd ?_ | refine z8 ?_ | refine za ?_))
      refine zau (fun _ : Unit => []) (fun _ => []) (fun _ => False) ?_ (fun _ h => h.elim)
      (repeat' (first | refine zf ?_))
      refine za6 (fun j : Nat => [(0, .int .u8 c.toNat), (3, str userL), (4, inat j)]) (fun _ => []) (fun j => j ≤ userL.length ∧ ∀ d ∈ userL.take j, d ≠ c) (fun j => userL.length - j) 0 ⟨Nat.zero_le _, by simp⟩ kB sA fun j hj => ?_
      obtain ⟨hj, hA⟩ := hj
      by_cases h : j < userL.length
      · obtain ⟨d, hd⟩ : ∃ d, userL[j]? = some d := ⟨_, List.getElem?_eq_getElem h⟩
        by_cases e : d.toNat = c.toNat
        · (repeat' (first | refine z7 ?_ | refine z6 ?_ | refine z2 ?_ | refine z1 ?_ | refine zc ?_ | refine zf ?_ | refine zd ?_ | refine ze ?_ | refine zx ?_ | refine zag ?_ | refine z8 ?_ | refine za ?_ | refine zm ?_ | refine zt ?_ | refine zg ?_ | refine zi ?_))
          exact e_pure ⟨rfl, rfl⟩
        · (repeat' (first | refine z7 ?_ | refine z6 ?_ | refine z2 ?_ | refine z1 ?_ | refine zc ?_ | refine zb ?_ | refine zf ?_ | refine zd ?_ | refine zu ?_ | refine z8 ?_ | refine za ?_ | refine zl ?_ | refine zm ?_ | refine zr ?_ | refine zg ?_ | refine zi ?_))
          exact ⟨j + 1, kB, sA, ⟨by omega, all_snoc (p := fun d => d ≠ c) hd hA (fun h => e (by rw [h]))⟩, by omega⟩
      · have : userL.take j = userL := List.take_of_length_le (by omega)
        rw [this] at hA
        exact absurd rfl (hA c hin)
    · rw [show userB c = false by simp [userB, hb, hin]]
      refine Tr.start (n := 18) (rs := [.tmp 2]) rfl rfl rfl rfl fun B => ?_
      (repeat' (first | refine zo (hL) ?_ | refine z7 ?_ | refine z6 ?_ | refine z2 ?_ | refine z1 ?_ | refine zb ?_ | refine zd ?_ | refine z8 ?_ | refine za ?_))
      refine zac [] [] ?_ ?_
      · (repeat' (first | refine zf ?_))
        refine za6 (fun j : Nat => [(0, .int .u8 c.toNat), (3, str userL), (4, inat j)]) (fun _ => []) (fun j => j ≤ userL.length) (fun j => userL.length - j) 0 (Nat.zero_le _) kB sA fun j hj => ?_
        by_cases h : j < userL.length
        · obtain ⟨d, hd⟩ : ∃ d, userL[j]? = some d := ⟨_, List.getElem?_eq_getElem h⟩
          have e : ¬ d.toNat = c.toNat := fun e => hin (by rw [← UInt8.toNat_inj.1 e]; exact List.mem_of_getElem? hd)
          (repeat' (first | refine z7 ?_ | refine z6 ?_ | refine z2 ?_ | refine z1 ?_ | refine zc ?_ | refine zb ?_ | refine zf ?_ | refine zd ?_ | refine zu ?_ | refine z8 ?_ | refine za ?_ | refine zl ?_ | refine zm ?_ | refine zr ?_ | refine zg ?_ | refine zi ?_))
          exact ⟨j + 1, kB, sA, by omega, by omega⟩
        · have : j = userL.length := by omega
          subst this
          (repeat' (first | refine z7 ?_ | refine z6 ?_ | refine z2 ?_ | refine z1 ?_ | refine zb ?_ | refine zw ?_ | refine zy ?_ | refine zz ?_ | refine z8 ?_ | refine za4 ?_ | refine zg ?_))
          exact ⟨kA, sA⟩
      · (repeat' (first | refine z7 ?_ | refine z6 ?_ | refine z2 ?_ | refine z1 ?_ | refine ze ?_ | refine za ?_))
        exact e_pure ⟨rfl, rfl⟩

/-- Behind a run of bytes of a class, at most n of them. -/
def bscan (p : UInt8 → Bool) (n : Nat) (s : List UInt8) (i : Nat) : Nat := min (scan p s i) (i + n)
def skipDomM (l : List UInt8) : Option Nat := match l[0]? with
  | none => none
  | some c => if ldB c = true then (let i := min (scan ldhB l 1) 64
    if 63 < i then none else match l[i - 1]? with
      | some d => if ldB d = true then some i else none
      | none => none) else none
theorem skipDomM_le {l : List UInt8} {n : Nat} (h : skipDomM l = some n) : 0 < n ∧ n ≤ l.length := by
  unfold skipDomM at h
  split at h
  · cases h
  · rename_i c hc
    have h0 := (List.getElem?_eq_some_iff.1 hc).1
    have h1 := scan_ge ldhB l 1
    have h2 := scan_le (p := ldhB) (s := l) (i := 1) (by omega)
    generalize scan ldhB l 1 = a at h h1 h2
    split at h
    · dsimp only at h
      by_cases h63 : 63 < min a 64
      · rw [if_pos h63] at h; cases h
      · rw [if_neg h63] at h
        split at h
        · split at h
          · have := Option.some.inj h
            omega
          · cases h
        · cases h
    · cases h
theorem skipDomG_tr (l : List UInt8) (hl : l.length ≤ 1000000) : TrP Tryz.prog 128 [str l] (match skipDomM l with | some n => .tuple #[inat n, .bool true] | none => .tuple #[inat 0, .bool false]) := by
  by_cases h0 : 0 < l.length
  · obtain ⟨c, hc⟩ := get_some h0
    have hL := isLDB_tr c
    unfold skipDomM
    rw [hc]
    dsimp only
    cases hb : ldB c with
    | false =>
      rw [hb] at hL
      simp only [Bool.false_eq_true, if_false]
      refine Tr.start (n := 41) (rs := [.tmp 2, .tmp 3]) rfl rfl rfl rfl fun B => ?_
      (repeat' (first | refine zo (hL) ?_ | refine Ops.pure _ (zc0 c (i := 0) (by rfl) (by rfl) hc) (by rfl) ?_ | refine z7 ?_ | refine z6 ?_ | refine z2 ?_ | refine z1 ?_ | refine zc ?_ | refine ze ?_ | refine zx ?_ | refine zh ?_ | refine z8 ?_ | refine za ?_ | refine za4 ?_ | refine zk ?_ | refine zg ?_ | refine zam ?_))
      exact e_pure ⟨rfl, rfl⟩
    | true =>
      rw [hb] at hL
      simp only [if_true]
      have h1 := scan_ge ldhB l 1
      have h2 := scan_le (p := ldhB) (s := l) (i := 1) (by omega)
      generalize hj : scan ldhB l 1 = j at h1 h2 ⊢
      refine Tr.start (n := 41) (rs := [.tmp 2, .tmp 3]) rfl rfl rfl rfl fun B => ?_
      (repeat' (first | refine zo (hL) ?_ | refine Ops.pure _ (zc0 c (i := 0) (by rfl) (by rfl) hc) (by rfl) ?_ | refine z7 ?_ | refine z6 ?_ | refine z2 ?_ | refine z1 ?_ | refine zb ?_ | refine zd ?_ | refine zh ?_ | refine z8 ?_ | refine za ?_ | refine za4 ?_ | refine zk ?_ | refine zg ?_ | refine zaq ?_))
      refine zac [(0, str l), (4, inat (min j 64))] [] ?_ ?_
      · (repeat' (first | refine zf ?_))
        refine za6 (fun k : Nat => [(0, str l), (4, inat k)]) (fun _ => []) (fun k => scan ldhB l k = j ∧ k ≤ l.length ∧ k ≤ 64 ∧ 1 ≤ k) (fun k => l.length - k) 1 ⟨hj, by omega, by omega, by omega⟩ kB sA fun k hk => ?_
        obtain ⟨hk1, hk2, hk3, hk4⟩ := hk
        by_cases hlt : k < l.length
        · obtain ⟨d, hd⟩ := get_some hlt
          have hD := isLDHB_tr d
          cases hb1 : ldhB d with
          | true =>
            rw [hb1] at hD
            by_cases h63 : k ≤ 63
            · (repeat' (first | refine zo (hD) ?_ | refine z7 ?_ | refine z6 ?_ | refine z2 ?_ | refine z1 ?_ | refine zc ?_ | refine zf ?_ | refine zd ?_ | refine zu ?_ | refine zh ?_ | refine z8 ?_ | refine za ?_ | refine zl ?_ | refine zm ?_ | refine zb8 ?_ | refine zj ?_ | refine zg ?_ | refine zi ?_))
              exact ⟨k + 1, kB, sA, ⟨by rw [← hk1, scan_step hd hb1], by omega, by omega, by omega⟩, by omega⟩
            · have : k = min j 64 := by rw [← hk1]; have := scan_ge ldhB l k; omega
              rw [← this]
              (repeat' (first | refine zo (hD) ?_ | refine z7 ?_ | refine z6 ?_ | refine z2 ?_ | refine z1 ?_ | refine zb ?_ | refine zw ?_ | refine zy ?_ | refine zz ?_ | refine zh ?_ | refine z8 ?_ | refine zm ?_ | refine zbt ?_ | refine zj ?_ | refine zg ?_ | refine zi ?_))
              exact ⟨kA, sA⟩
          | false =>
            rw [hb1] at hD
            have hkj : k = j := by rw [← hk1, scan_stop hd hb1]
            have : k = min j 64 := by omega
            rw [← this]
            (repeat' (first | refine zo (hD) ?_ | refine z7 ?_ | refine z6 ?_ | refine z2 ?_ | refine z1 ?_ | refine zb ?_ | refine zw ?_ | refine zy ?_ | refine zz ?_ | refine zh ?_ | refine za2 ?_ | refine z8 ?_ | refine zm ?_ | refine zj ?_ | refine zk ?_ | refine zg ?_ | refine zi ?_))
            exact ⟨kA, sA⟩
        · have hkj : k = j := by rw [← hk1, scan_end (by omega)]
          have : k = min j 64 := by omega
          rw [← this]
          (repeat' (first | refine z7 ?_ | refine z6 ?_ | refine z2 ?_ | refine z1 ?_ | refine zb ?_ | refine zw ?_ | refine zy ?_ | refine zz ?_ | refine za2 ?_ | refine z8 ?_ | refine za4 ?_ | refine zk ?_ | refine zg ?_))
          exact ⟨kA, sA⟩
      · generalize hi : min j 64 = i
        have hi1 : 1 ≤ i ∧ i ≤ l.length := by omega
        by_cases h63 : 63 < i
        · rw [if_pos h63]
          (repeat' (first | refine z7 ?_ | refine z6 ?_ | refine z2 ?_ | refine z1 ?_ | refine zc ?_ | refine ze ?_ | refine zx ?_ | refine zaa ?_ | refine z8 ?_ | refine za ?_ | refine zaz ?_ | refine zj ?_))
          exact e_pure ⟨rfl, rfl⟩
        · rw [if_neg h63]
          obtain ⟨d, hd⟩ := get_some (show i - 1 < l.length by omega)
          have hD := isLDB_tr d
          rw [hd]
          dsimp only
          cases hb1 : ldB d with
          | true =>
            rw [hb1] at hD
            simp only [if_true]
            (repeat' (first | refine Ops.pure _ (zap (a := i) (b := 1) (c := i - 1) (by rfl) (by rfl) (by omega) (by omega)) (by rfl) ?_ | refine zo (hD) ?_ | refine z7 ?_ | refine z6 ?_ | refine z2 ?_ | refine z1 ?_ | refine zb ?_ | refine zd ?_ | refine ze ?_ | refine zh ?_ | refine z8 ?_ | refine za ?_ | refine zat ?_ | refine zk ?_ | refine zi ?_ | refine zaq ?_))
            exact e_pure ⟨rfl, rfl⟩
          | false =>
            rw [hb1] at hD
            simp only [Bool.false_eq_true, if_false]
            (repeat' (first | refine Ops.pure _ (zap (a := i) (b := 1) (c := i - 1) (by rfl) (by rfl) (by omega) (by omega)) (by rfl) ?_ | refine zo (hD) ?_ | refine z7 ?_ | refine z6 ?_ | refine z2 ?_ | refine z1 ?_ | refine zc ?_ | refine ze ?_ | refine zx ?_ | refine zh ?_ | refine z8 ?_ | refine za ?_ | refine zat ?_ | refine zk ?_ | refine zi ?_ | refine zam ?_))
            exact e_pure ⟨rfl, rfl⟩
  · have e : skipDomM l = none := by
      unfold skipDomM
      rw [List.getElem?_eq_none (by omega)]
    rw [e]
    refine Tr.start (n := 41) (rs := [.tmp 2, .tmp 3]) rfl rfl rfl rfl fun B => ?_
    (repeat' (first | refine z7 ?_ | refine z6 ?_ | refine z2 ?_ | refine z1 ?_ | refine zc ?_ | refine ze ?_ | refine zx ?_ | refine zaa ?_ | refine z8 ?_ | refine za ?_ | refine zm ?_ | refine zj ?_ | refine zg ?_))
    exact e_pure ⟨rfl, rfl⟩
end Go.Proofs

namespace Go.Proofs
open Go Go.Eng
set_option maxRecDepth 20000
set_option maxHeartbeats 4000000

/-- The end of an address in angle brackets (where the bracket stands that closes it). -/
def autoURIM (s : List UInt8) (i : Nat) : Option Nat := match s[i]?, s[i + 1]? with
  | some c, some d => if c.toNat = 60 ∧ letB d = true then (let a := bscan schB 33 s (i + 1)
    if a < i + 3 ∨ i + 33 < a then none else if s[a]? = some 58 then (let b := scan urlB s (a + 1)
      if s[b]? = some 62 then some b else none) else none) else none
  | _, _ => none
def autV (q : Nat) : Option Nat → Value
  | some j => .tuple #[.iface 144 (lp q), inat (j + 1), .bool true]
  | none => .tuple #[.nilIface, inat 0, .bool false]
def autK (q : Nat) (s pre : List UInt8) (i : Nat) : Option Nat → Heap
  | some j => [[(q, cellsOf [str ((s.take j).drop (i + 1)), str (pre ++ (s.take j).drop (i + 1))] 146)]]
  | none => []
theorem autoURIM_lt {s : List UInt8} {i k : Nat} (h : autoURIM s i = some k) : i < k ∧ k < s.length := by
  unfold autoURIM at h
  split at h
  · rename_i c d hc hd
    split at h
    · have h1 := scan_ge schB s (i + 1)
      generalize ha : bscan schB 33 s (i + 1) = a at h
      have ha1 : i + 1 ≤ a := by rw [← ha]; unfold bscan; omega
      dsimp only at h
      by_cases hx : a < i + 3 ∨ i + 33 < a
      · rw [if_pos hx] at h; cases h
      · rw [if_neg hx] at h
        by_cases h58 : s[a]? = some 58
        · rw [if_pos h58] at h
          have h2 := scan_ge urlB s (a + 1)
          generalize scan urlB s (a + 1) = b at h h2
          by_cases h62 : s[b]? = some 62
          · rw [if_pos h62] at h
            have := (List.getElem?_eq_some_iff.1 h62).1
            have := Option.some.inj h
            omega
          · rw [if_neg h62] at h; cases h
        · rw [if_neg h58] at h; cases h
    · cases h
  · cases h

theorem autoURIG_tr (s : List UInt8) (i : Nat) (hl : s.length ≤ 1000000) (hi : i ≤ s.length) :
    Tr Tryz.prog 87 [str s, inat i] [] fun u K => ∃ q, u = autV q (autoURIM s i) ∧ K = autK q s [] i (autoURIM s i) := by
  unfold autoURIM
  by_cases hlt : i + 1 < s.length
  · obtain ⟨c, hc⟩ := get_some (show i < s.length by omega)
    obtain ⟨d, hd⟩ := get_some hlt
    have hL := isLetB_tr d
    rw [hc, hd]
    dsimp only
    by_cases h60 : c.toNat = 60
    · cases hb : letB d with
      | false =>
        rw [hb] at hL
        rw [if_neg (by rintro ⟨_, h⟩; cases h)]
        refine Tr.start (n := 110) (rs := [.tmp 4, .tmp 5, .tmp 6]) rfl rfl rfl rfl fun B => ?_
        (repeat' (first | refine zo (hL) ?_ | refine z7 ?_ | refine z6 ?_ | refine z2 ?_ | refine z1 ?_ | refine zc ?_ | refine ze ?_ | refine zx ?_ | refine zh ?_ | refine z8 ?_ | refine za ?_ | refine zl ?_ | refine zab ?_ | refine zb0 ?_ | refine zk ?_ | refine zg ?_ | refine zi ?_ | refine zam ?_))
        exact e_ret _ ⟨0, rfl, rfl⟩ sA
      | true =>
        rw [hb] at hL
        rw [if_pos ⟨h60, rfl⟩]
        have h1 := scan_ge schB s (i + 1)
        have h2 := scan_le (p := schB) (s := s) (i := i + 1) (by omega)
        unfold bscan
        generalize hj : scan schB s (i + 1) = j at h1 h2 ⊢
        refine Tr.start (n := 110) (rs := [.tmp 4, .tmp 5, .tmp 6]) rfl rfl rfl rfl fun B => ?_
        (repeat' (first | refine zo (hL) ?_ | refine z7 ?_ | refine z6 ?_ | refine z2 ?_ | refine z1 ?_ | refine zb ?_ | refine zd ?_ | refine zh ?_ | refine z8 ?_ | refine za ?_ | refine zl ?_ | refine zab ?_ | refine zb0 ?_ | refine zk ?_ | refine zg ?_ | refine zi ?_ | refine zaq ?_))
        refine zac [(0, str s), (1, inat i), (7, inat (min j (i + 1 + 33)))] [] ?_ ?_
        · (repeat' (first | refine zf ?_))
          refine za6 (fun k : Nat => [(0, str s), (1, inat i), (7, inat k)]) (fun _ => []) (fun k => scan schB s k = j ∧ k ≤ s.length ∧ k ≤ i + 34 ∧ i + 1 ≤ k) (fun k => s.length - k) (i + 1) ⟨hj, by omega, by omega, by omega⟩ kB sA fun k hk => ?_
          obtain ⟨hk1, hk2, hk3, hk4⟩ := hk
          by_cases hlt : k < s.length
          · obtain ⟨e, he⟩ := get_some hlt
            have hD := isSchB_tr e
            cases hb1 : schB e with
            | true =>
              rw [hb1] at hD
              by_cases h63 : k ≤ i + 33
              · (repeat' (first | refine zo (hD) ?_ | refine Ops.pure _ (zap (a := k) (b := i + 1) (c := k - (i + 1)) (by rfl) (by rfl) (by omega) (by omega)) (by rfl) ?_ | refine z7 ?_ | refine z6 ?_ | refine z2 ?_ | refine z1 ?_ | refine zc ?_ | refine zf ?_ | refine zd ?_ | refine zu ?_ | refine zh ?_ | refine z8 ?_ | refine za ?_ | refine zl ?_ | refine zm ?_ | refine zb8 ?_ | refine zj ?_ | refine zg ?_ | refine zi ?_))
                exact ⟨k + 1, kB, sA, ⟨by rw [← hk1, scan_step he hb1], by omega, by omega, by omega⟩, by omega⟩
              · have hx : k = min j (i + 1 + 33) := by rw [← hk1]; have := scan_ge schB s k; omega
                rw [← hx]
                (repeat' (first | refine zo (hD) ?_ | refine Ops.pure _ (zap (a := k) (b := i + 1) (c := k - (i + 1)) (by rfl) (by rfl) (by omega) (by omega)) (by rfl) ?_ | refine z7 ?_ | refine z6 ?_ | refine z2 ?_ | refine z1 ?_ | refine zb ?_ | refine zw ?_ | refine zy ?_ | refine zz ?_ | refine zh ?_ | refine z8 ?_ | refine zl ?_ | refine zm ?_ | refine zbt ?_ | refine zj ?_ | refine zg ?_ | refine zi ?_))
                exact ⟨kA, sA⟩
            | false =>
              rw [hb1] at hD
              have hkj : k = j := by rw [← hk1, scan_stop he hb1]
              have hx : k = min j (i + 1 + 33) := by omega
              rw [← hx]
              (repeat' (first | refine zo (hD) ?_ | refine z7 ?_ | refine z6 ?_ | refine z2 ?_ | refine z1 ?_ | refine zb ?_ | refine zw ?_ | refine zy ?_ | refine zz ?_ | refine zh ?_ | refine za2 ?_ | refine z8 ?_ | refine zm ?_ | refine zj ?_ | refine zk ?_ | refine zg ?_ | refine zi ?_))
              exact ⟨kA, sA⟩
          · have hkj : k = j := by rw [← hk1, scan_end (by omega)]
            have hx : k = min j (i + 1 + 33) := by omega
            rw [← hx]
            (repeat' (first | refine z7 ?_ | refine z6 ?_ | refine z2 ?_ | refine z1 ?_ | refine zb ?_ | refine zw ?_ | refine zy ?_ | refine zz ?_ | refine za2 ?_ | refine z8 ?_ | refine za4 ?_ | refine zk ?_ | refine zg ?_))
            exact ⟨kA, sA⟩
        · have ha : ∃ a, a = min j (i + 1 + 33) := ⟨_, rfl⟩
          obtain ⟨a, ha⟩ := ha
          rw [← ha]
          have ha1 : i + 1 ≤ a ∧ a ≤ s.length := by omega
          clear ha
          by_cases hx1 : a < i + 3
          · rw [if_pos (.inl hx1)]
            (repeat' (first | refine Ops.pure _ (zap (a := a) (b := i + 1) (c := a - (i + 1)) (by rfl) (by rfl) (by omega) (by omega)) (by rfl) ?_ | refine z7 ?_ | refine z6 ?_ | refine z2 ?_ | refine z1 ?_ | refine zc ?_ | refine ze ?_ | refine zx ?_ | refine zaa ?_ | refine z8 ?_ | refine za ?_ | refine zl ?_ | refine zm ?_ | refine zj ?_))
            exact e_ret _ ⟨0, rfl, rfl⟩ sA
          by_cases hx2 : i + 33 < a
          · rw [if_pos (.inr hx2)]
            (repeat' (first | refine Ops.pure _ (zap (a := a) (b := i + 1) (c := a - (i + 1)) (by rfl) (by rfl) (by omega) (by omega)) (by rfl) ?_ | refine z7 ?_ | refine z6 ?_ | refine z2 ?_ | refine z1 ?_ | refine zc ?_ | refine ze ?_ | refine zx ?_ | refine zh ?_ | refine zaa ?_ | refine z8 ?_ | refine za ?_ | refine zl ?_ | refine za4 ?_ | refine zaz ?_ | refine zj ?_ | refine zk ?_))
            exact e_ret _ ⟨0, rfl, rfl⟩ sA
          rw [if_neg (by omega)]
          by_cases hal : a < s.length
          · obtain ⟨e, he⟩ := get_some hal
            rw [he]
            by_cases h58 : e.toNat = 58
            · have e58 : e = 58 := UInt8.toNat_inj.1 h58
              rw [e58, if_pos rfl]
              have h3 := scan_ge urlB s (a + 1)
              have h4 := scan_le (p := urlB) (s := s) (i := a + 1) (by omega)
              generalize hb2 : scan urlB s (a + 1) = b at h3 h4 ⊢
              (repeat' (first | refine Ops.pure _ (zap (a := a) (b := i + 1) (c := a - (i + 1)) (by rfl) (by rfl) (by omega) (by omega)) (by rfl) ?_ | refine z7 ?_ | refine z6 ?_ | refine z2 ?_ | refine z1 ?_ | refine zb ?_ | refine zd ?_ | refine zh ?_ | refine z8 ?_ | refine za ?_ | refine zl ?_ | refine za4 ?_ | refine zat ?_ | refine zab ?_ | refine zb0 ?_ | refine zk ?_ | refine zg ?_ | refine zi ?_))
              refine zac [(0, str s), (1, inat i), (7, inat b)] [] ?_ ?_
              · (repeat' (first | refine zf ?_))
                refine za6 (fun k : Nat => [(0, str s), (1, inat i), (7, inat k)]) (fun _ => []) (fun k => scan urlB s k = b ∧ k ≤ s.length) (fun k => s.length - k) (a + 1) ⟨hb2, by omega⟩ kB sA fun k hk => ?_
                obtain ⟨hk1, hk2⟩ := hk
                by_cases hlt : k < s.length
                · obtain ⟨f, hf⟩ := get_some hlt
                  have hU := isURLB_tr f
                  cases hb1 : urlB f with
                  | true =>
                    rw [hb1] at hU
                    (repeat' (first | refine zo (hU) ?_ | refine z7 ?_ | refine z6 ?_ | refine z2 ?_ | refine z1 ?_ | refine zc ?_ | refine zf ?_ | refine zd ?_ | refine zu ?_ | refine zh ?_ | refine z8 ?_ | refine za ?_ | refine zl ?_ | refine zm ?_ | refine zj ?_ | refine zg ?_ | refine zi ?_))
                    exact ⟨k + 1, kB, sA, ⟨by rw [← hk1, scan_step hf hb1], by omega⟩, by omega⟩
                  | false =>
                    rw [hb1] at hU
                    have : k = b := by rw [← hk1, scan_stop hf hb1]
                    subst this
                    (repeat' (first | refine zo (hU) ?_ | refine z7 ?_ | refine z6 ?_ | refine z2 ?_ | refine z1 ?_ | refine zb ?_ | refine zw ?_ | refine zy ?_ | refine zz ?_ | refine zh ?_ | refine z8 ?_ | refine zm ?_ | refine zj ?_ | refine zg ?_ | refine zi ?_))
                    exact ⟨kA, sA⟩
                · have : k = b := by rw [← hk1, scan_end (by omega)]
                  subst this
                  (repeat' (first | refine z7 ?_ | refine z6 ?_ | refine z2 ?_ | refine z1 ?_ | refine zb ?_ | refine zw ?_ | refine zy ?_ | refine zz ?_ | refine za2 ?_ | refine z8 ?_ | refine za4 ?_ | refine zk ?_ | refine zg ?_))
                  exact ⟨kA, sA⟩
              · by_cases hbl : b < s.length
                · obtain ⟨f, hf⟩ := get_some hbl
                  rw [hf]
                  by_cases h62 : f.toNat = 62
                  · have e62 : f = 62 := UInt8.toNat_inj.1 h62
                    rw [e62, if_pos rfl]
                    (repeat' (first | refine z7 ?_ | refine z6 ?_ | refine z2 ?_ | refine z1 ?_ | refine zb ?_ | refine zd ?_ | refine ze ?_ | refine zh ?_ | refine z8 ?_ | refine za ?_ | refine zl ?_ | refine zab ?_ | refine zb0 ?_ | refine zk ?_ | refine zg ?_ | refine zi ?_ | refine zav ?_ | refine zan ?_ | refine zao ?_ | refine zaf (fun _ => ?_)))
                    rename_i q
                    exact e_ret _ ⟨q, rfl, rfl⟩ sA
                  · rw [if_neg (fun h => by cases h; exact h62 rfl)]
                    (repeat' (first | refine z7 ?_ | refine z6 ?_ | refine z2 ?_ | refine z1 ?_ | refine zc ?_ | refine ze ?_ | refine zx ?_ | refine zh ?_ | refine z8 ?_ | refine za ?_ | refine zab ?_ | refine zb2 ?_ | refine zk ?_ | refine zg ?_ | refine zi ?_))
                    exact e_ret _ ⟨0, rfl, rfl⟩ sA
                · rw [List.getElem?_eq_none (by omega), if_neg (by simp)]
                  (repeat' (first | refine z7 ?_ | refine z6 ?_ | refine z2 ?_ | refine z1 ?_ | refine zc ?_ | refine ze ?_ | refine zx ?_ | refine zaa ?_ | refine z8 ?_ | refine za ?_ | refine zas ?_ | refine zj ?_ | refine zg ?_))
                  exact e_ret _ ⟨0, rfl, rfl⟩ sA
            · rw [if_neg (fun h => by cases h; exact h58 rfl)]
              (repeat' (first | refine Ops.pure _ (zap (a := a) (b := i + 1) (c := a - (i + 1)) (by rfl) (by rfl) (by omega) (by omega)) (by rfl) ?_ | refine z7 ?_ | refine z6 ?_ | refine z2 ?_ | refine z1 ?_ | refine zc ?_ | refine ze ?_ | refine zx ?_ | refine zh ?_ | refine z8 ?_ | refine za ?_ | refine zl ?_ | refine za4 ?_ | refine zat ?_ | refine zab ?_ | refine zb2 ?_ | refine zk ?_ | refine zg ?_ | refine zi ?_))
              exact e_ret _ ⟨0, rfl, rfl⟩ sA
          · rw [List.getElem?_eq_none (by omega), if_neg (by simp)]
            (repeat' (first | refine Ops.pure _ (zap (a := a) (b := i + 1) (c := a - (i + 1)) (by rfl) (by rfl) (by omega) (by omega)) (by rfl) ?_ | refine z7 ?_ | refine z6 ?_ | refine z2 ?_ | refine z1 ?_ | refine zc ?_ | refine ze ?_ | refine zx ?_ | refine zh ?_ | refine zaa ?_ | refine z8 ?_ | refine za ?_ | refine zl ?_ | refine za4 ?_ | refine zat ?_ | refine zas ?_ | refine zj ?_ | refine zk ?_ | refine zg ?_))
            exact e_ret _ ⟨0, rfl, rfl⟩ sA
    · rw [if_neg (by rintro ⟨h, _⟩; exact h60 h)]
      refine Tr.start (n := 110) (rs := [.tmp 4, .tmp 5, .tmp 6]) rfl rfl rfl rfl fun B => ?_
      (repeat' (first | refine z7 ?_ | refine z6 ?_ | refine z2 ?_ | refine z1 ?_ | refine zc ?_ | refine ze ?_ | refine zx ?_ | refine zh ?_ | refine zaa ?_ | refine z8 ?_ | refine za ?_ | refine zl ?_ | refine zab ?_ | refine zb2 ?_ | refine zj ?_ | refine zk ?_ | refine zg ?_ | refine zi ?_))
      exact e_ret _ ⟨0, rfl, rfl⟩ sA
  · rw [List.getElem?_eq_none (show s.length ≤ i + 1 by omega)]
    have e : ∀ (o : Option UInt8) (f : UInt8 → UInt8 → Option Nat), (match o, (none : Option UInt8) with
      | some c, some d => f c d
      | _, _ => none) = (none : Option Nat) := fun o f => by cases o <;> rfl
    rw [e]
    refine Tr.start (n := 110) (rs := [.tmp 4, .tmp 5, .tmp 6]) rfl rfl rfl rfl fun B => ?_
    (repeat' (first | refine z7 ?_ | refine z6 ?_ | refine z2 ?_ | refine z1 ?_ | refine zc ?_ | refine ze ?_ | refine zx ?_ | refine zaa ?_ | refine z8 ?_ | refine za ?_ | refine zl ?_ | refine zas ?_ | refine zj ?_ | refine zg ?_))
    exact e_ret _ ⟨0, rfl, rfl⟩ sA
end Go.Proofs


namespace Go.Proofs
open Go Go.Eng
set_option maxRecDepth 20000
set_option maxHeartbeats 4000000

/-- A letter or a digit of a word. -/
abbrev wch (c : Nat) : Prop := 48 ≤ c ∧ c ≤ 57 ∨ 97 ≤ c ∧ c ≤ 122

theorem wrap32_of {a : Int} (h1 : 0 ≤ a) (h2 : a < 256) : IntKind.i32.wrap a = a := by
  rw [IntKind.wrap_i32]; omega
theorem s_cv32 {B : Base} {n : Nat} {L : Eng.Loc} {H : Heap} {Q : Eng.Post} {all : Array Oper} {rest : List Oper} {d : Nat} {ty : TypeId} {pos : String} {after : Array Edge} {x : Operand} {s t : TypeId} {k0 k1 : IntKind} {a : Int} [hs : UInt Tryz.prog s k1] [ht : UInt Tryz.prog t .i32] (h : Ops Tryz.prog B n all rest ((d, .int .i32 a) :: L) H Q) (hx : ev L x = some (.int k0 a) := by rfl) (ha : 0 ≤ a ∧ a < 256 := by omega) (hd : Nat.blt d n = true := by rfl) : Ops Tryz.prog B n all (⟨some d, .convert s t x, ty, pos, after, none⟩ :: rest) L H Q := Ops.pure _ (zds hx (wrap32_of ha.1 ha.2)) hd h

theorem decLast_tr (l : List UInt8) (c : UInt8) (hl : l.length ≤ 140737488355328) (h0 : 0 < l.length) (hc : l[l.length - 1]? = some c) (h : c.toNat < 128) : TrP Tryz.prog 90 [str l] (.tuple #[.int .i32 c.toNat, .int .i64 1]) := by
  refine Tr.start (n := 51) (rs := [.tmp 2, .tmp 3]) rfl rfl rfl rfl fun B => ?_
  (repeat' (first | refine s_cv32 ?_ | refine z7 ?_ | refine z6 ?_ | refine z2 ?_ | refine z1 ?_ | refine zc ?_ | refine zb ?_ | refine zd ?_ | refine ze ?_ | refine zx ?_ | refine z8 ?_ | refine za ?_ | refine zc4 ?_ | refine zm ?_ | refine zr ?_ | refine zg ?_ | refine zi ?_))
  exact e_pure ⟨rfl, rfl⟩
theorem dec_tr (l : List UInt8) (c : UInt8) (hc : l[0]? = some c) (h : c.toNat < 128) : TrP Tryz.prog 91 [str l] (.tuple #[.int .i32 c.toNat, .int .i64 1]) := by
  have hne : ¬ l = [] := by intro e; subst e; simp at hc
  refine Tr.start (n := 19) (rs := [.tmp 2, .tmp 3]) rfl rfl rfl rfl fun B => ?_
  (repeat' (first | refine s_cv32 ?_ | refine z7 ?_ | refine z6 ?_ | refine z2 ?_ | refine z1 ?_ | refine zc ?_ | refine ze ?_ | refine zx ?_ | refine zh ?_ | refine z8 ?_ | refine za ?_ | refine zm ?_ | refine zj ?_ | refine zi ?_ | refine zcd ?_))
  exact e_pure ⟨rfl, rfl⟩
end Go.Proofs

namespace Go.Proofs
open Go Go.Eng
set_option maxRecDepth 20000
set_option maxHeartbeats 4000000

abbrev punct (c : UInt8) : Prop := 33 ≤ c.toNat ∧ c.toNat ≤ 47 ∨ 58 ≤ c.toNat ∧ c.toNat ≤ 64 ∨ 91 ≤ c.toNat ∧ c.toNat ≤ 96 ∨ 123 ≤ c.toNat ∧ c.toNat ≤ 126
end Go.Proofs

namespace Go.Proofs
open Go Go.Eng
set_option maxRecDepth 20000
set_option maxHeartbeats 4000000

/-- A literal byte, or one behind a backslash. -/
inductive Tok where
  | lit (c : UInt8)
  | esc (c : UInt8)
  | nl
def Tok.bytes : Tok → List UInt8
  | .lit c => [c]
  | .esc c => [92, c]
  | .nl => [10]
/-- A byte that begins no inline. -/
abbrev quiet (c : UInt8) : Prop := c.toNat ≠ 92 ∧ c.toNat ≠ 96 ∧ c.toNat ≠ 60 ∧ c.toNat ≠ 91 ∧ c.toNat ≠ 33 ∧ c.toNat ≠ 95 ∧ c.toNat ≠ 42 ∧ c.toNat ≠ 46 ∧ c.toNat ≠ 45 ∧ c.toNat ≠ 34 ∧ c.toNat ≠ 39 ∧ c.toNat ≠ 126 ∧ c.toNat ≠ 10 ∧ c.toNat ≠ 38 ∧ c.toNat ≠ 58 ∧ c.toNat ≠ 93
def Tok.ok : Tok → Prop
  | .lit c => quiet c
  | .esc c => punct c
  | .nl => True
/-- Inlines so far, and the text that is not yet an inline. -/
def Tok.step (st : List Itm × List UInt8) : Tok → List Itm × List UInt8
  | .lit c => (st.1, st.2 ++ [c])
  | .esc c => ((if st.2 = [] then st.1 else st.1 ++ [.plain st.2]) ++ [.esc [c]], [])
  | .nl => ((if st.2 = [] then st.1 else st.1 ++ [.plain st.2]) ++ [.brk], [])
def Itm.isPlain : Itm → Bool
  | .plain _ => true
  | .esc _ => false
  | .brk => false
/-- No two texts side by side. -/
def NoAdj (l : List Itm) : Prop := ∀ (j : Nat) (x y : Itm), l[j]? = some x → l[j + 1]? = some y → x.isPlain = true → y.isPlain = false
def LastEsc (l : List Itm) : Prop := ∀ x, l.getLast? = some x → x.isPlain = false
theorem NoAdj.other {l : List Itm} (h : NoAdj l) (z : Itm) (hz : z.isPlain = false) : NoAdj (l ++ [z]) := by
  intro j x y hx hy hp
  by_cases hlt : j + 1 < l.length
  · rw [List.getElem?_append_left (by omega)] at hx
    rw [List.getElem?_append_left hlt] at hy
    exact h j x y hx hy hp
  · rw [List.getElem?_append_right (by omega)] at hy
    cases hk : j + 1 - l.length with
    | zero => rw [hk] at hy; simp at hy; subst hy; exact hz
    | succ m => rw [hk] at hy; simp at hy
theorem NoAdj.plain {l : List Itm} (h : NoAdj l) (hl : LastEsc l) (t : List UInt8) : NoAdj (l ++ [.plain t]) := by
  intro j x y hx hy hp
  by_cases hlt : j + 1 < l.length
  · rw [List.getElem?_append_left (by omega)] at hx
    rw [List.getElem?_append_left hlt] at hy
    exact h j x y hx hy hp
  · rw [List.getElem?_append_right (by omega)] at hy
    cases hk : j + 1 - l.length with
    | zero =>
      rw [List.getElem?_append_left (by omega)] at hx
      have := hl x (by rw [List.getLast?_eq_getElem?]; rw [show l.length - 1 = j by omega]; exact hx)
      rw [this] at hp; cases hp
    | succ m => rw [hk] at hy; simp at hy
theorem LastEsc.other (l : List Itm) (z : Itm) (hz : z.isPlain = false) : LastEsc (l ++ [z]) := by
  intro x hx; simp at hx; subst hx; exact hz
end Go.Proofs

namespace Go.Proofs
open Go Go.Eng
set_option maxRecDepth 20000
set_option maxHeartbeats 8000000

end Go.Proofs

namespace Go.Proofs
open Go Go.Eng
set_option maxRecDepth 20000
set_option maxHeartbeats 4000000

end Go.Proofs

namespace Go.Proofs
open Go Go.Eng
set_option maxRecDepth 20000
set_option maxHeartbeats 4000000

theorem toPlain_yes (q : Nat) : TrP Tryz.prog 84 [.iface 161 (lp q)] (lp q) := by
  refine Tr.start (n := 23) (rs := [.tmp 2]) rfl rfl rfl rfl fun B => ?_
  (repeat' (first | refine z7 ?_ | refine z6 ?_ | refine z2 ?_ | refine z1 ?_ | refine zc ?_ | refine zf ?_ | refine ze ?_ | refine zx ?_ | refine zag ?_ | refine z8 ?_ | refine za ?_ | refine za0 ?_ | refine zcf ?_))
  exact e_pure ⟨rfl, rfl⟩
theorem toPlain_no (t : Nat) (u : Value) (h1 : Nat.beq t 161 = false) (h2 : Nat.beq t 202 = false) (h3 : Nat.beq t 166 = false) : TrP Tryz.prog 84 [.iface t u] (.pointer none) := by
  refine Tr.start (n := 23) (rs := [.tmp 2]) rfl rfl rfl rfl fun B => ?_
  (repeat' (first | refine zby (hne := h1) ?_ | refine zby (hne := h2) ?_ | refine zby (hne := h3) ?_ | refine z7 ?_ | refine z6 ?_ | refine z2 ?_ | refine z1 ?_ | refine zb ?_ | refine zf ?_ | refine zd ?_ | refine zu ?_ | refine ze ?_ | refine z8 ?_ | refine za ?_ | refine za0 ?_))
  exact e_pure ⟨rfl, rfl⟩
theorem autoLinkText_no (p pr : Nat) (o : PO) (s : PS) (v : Value) (h : o.auto = false) (hpar : s.par = lp pr) : TrD Tryz.prog 79 [lp p, v] [s.blk p, o.blk pr] v [s.blk p, o.blk pr] := by
  obtain ⟨par, root, links, lineno, stack, depth, corner, sv, em, list, lists, texts, bt⟩ := s
  obtain ⟨o1, o2, o3, o4, o5, o6, o7, o8, o9, o10⟩ := o
  subst h; subst hpar
  refine Tr.start (n := 98) (rs := [.tmp 4]) rfl rfl rfl rfl fun B => ?_
  (repeat' (first | refine z7 ?_ | refine z6 ?_ | refine z2 ?_ | refine z1 ?_ | refine zc ?_ | refine ze ?_ | refine zx ?_ | refine z8 ?_ | refine za ?_ | refine zn ?_ | refine zp ?_ | refine zq ?_ | refine zam ?_))
  exact e_ret _ ⟨rfl, rfl⟩ sA
end Go.Proofs

namespace Go.Proofs
open Go Go.Eng
set_option maxRecDepth 20000
set_option maxHeartbeats 4000000

theorem Items.length {its : List Itm} {vals : List Value} {Bk : Blk} (h : Items its vals Bk) : vals.length = its.length := by
  induction h with
  | nil => rfl
  | snoc x q _ ih => simp [ih]
/-- Each value is that of its item. -/
theorem Items.get {its : List Itm} {vals : List Value} {Bk : Blk} (h : Items its vals Bk) : ∀ (j : Nat) (x : Itm), its[j]? = some x → ∃ q, vals[j]? = some (Value.iface x.ty (lp q)) ∧ x.cell q ∈ Bk := by
  induction h with
  | nil => intro j x hj; simp at hj
  | @snoc its vals Bk y q h ih =>
    intro j x hj
    have hlen := h.length
    by_cases hlt : j < its.length
    · rw [List.getElem?_append_left hlt] at hj
      obtain ⟨q', h1, h2⟩ := ih j x hj
      exact ⟨q', by rw [List.getElem?_append_left (by omega)]; exact h1, List.mem_cons_of_mem _ h2⟩
    · rw [List.getElem?_append_right (by omega)] at hj
      have hj0 : j - its.length = 0 := by
        cases hq : j - its.length with
        | zero => rfl
        | succ m => rw [hq] at hj; simp at hj
      rw [hj0] at hj
      simp at hj
      subst hj
      exact ⟨q, by rw [List.getElem?_append_right (by omega), show j - vals.length = 0 by omega]; rfl, List.mem_cons_self⟩
end Go.Proofs

namespace Go.Proofs
open Go Go.Eng
set_option maxRecDepth 20000
set_option maxHeartbeats 8000000

/-- A literal byte, or a run that opens or closes. -/
inductive Tk where
  | lit (c : UInt8)
  | run (r : UInt8) (n : Nat) (o : Bool)
def Tk.bytes : Tk → List UInt8
  | .lit c => [c]
  | .run r n _ => List.replicate n r
/-- Inlines that are texts and runs. -/
inductive It where
  | plain (t : List UInt8)
  | emph (t : List UInt8) (o c : Bool) (n : Nat)
def It.ty : It → Nat
  | .plain _ => 161
  | .emph .. => 202
def It.sty : It → Nat
  | .plain _ => 158
  | .emph .. => 204
def It.cells : It → List Value
  | .plain t => [str t]
  | .emph t o c n => [str t, .bool o, .bool c, inat 0, inat n]
abbrev It.cell (x : It) (q : Nat) : Nat × Obj := (q, cellsOf x.cells x.sty)
inductive ItsT : List It → List Value → Blk → Prop
  | nil : ItsT [] [] []
  | snoc {its : List It} {vals : List Value} {Bk : Blk} (x : It) (q : Nat) : ItsT its vals Bk → ItsT (its ++ [x]) (vals ++ [.iface x.ty (lp q)]) (x.cell q :: Bk)
theorem ItsT.length {its : List It} {vals : List Value} {Bk : Blk} (h : ItsT its vals Bk) : vals.length = its.length := by
  induction h with
  | nil => rfl
  | snoc x q _ ih => simp [ih]

def Tk.step (st : List It × List UInt8) : Tk → List It × List UInt8
  | .lit c => (st.1, st.2 ++ [c])
  | .run r n o => ((if st.2 = [] then st.1 else st.1 ++ [.plain st.2]) ++ [.emph (List.replicate n r) o (!o) n], [])
/-- emit of what is not yet put out. -/
theorem emitP (p i e : Nat) (s : PS) (tx : List UInt8) (vals : List Value) (LB : Blk) (he : s.em = inat e) (hs : s.str = str tx) (h : e < i) (hi : i ≤ tx.length) (_hl : tx.length ≤ 140737488355328) (hv : Inls s.list vals LB) (hvl : vals.length ≤ 1000000) :
    Tr Tryz.prog 73 [lp p, inat i] [s.blk p, LB] fun u K => u = unit ∧ ∃ q v' LB', Inls v' (vals ++ [.iface 161 (lp q)]) LB' ∧
      K = [({ s with list := v', em := inat i } : PS).blk p, LB', [It.cell (.plain ((tx.take i).drop e)) q]] := by
  obtain ⟨par, root, links, lineno, stack, depth, corner, sv, em, list, lists, texts, bt⟩ := s
  subst he; subst hs
  refine Tr.start (n := 36) (rs := []) rfl rfl rfl rfl fun B => ?_
  (repeat' (first | refine z7 ?_ | refine z6 ?_ | refine z2 ?_ | refine z1 ?_ | refine zc ?_ | refine z8 ?_ | refine zn ?_ | refine zp ?_ | refine zq ?_ | refine zm ?_))
  refine Wp.draw_till (id := 1) [(⟨par, root, links, lineno, stack, depth, corner, str tx, inat e, list, lists, texts, bt⟩ : PS).blk p] 22 23 Mixed.out sA rfl ?_
  refine kF 0 ?_
  refine kF 1 ?_
  refine kF 2 ?_
  refine kF 3 ?_
  refine OpsK.firstL 4 [] _ (by rfl) (by kernel_rfl) (by kernel_rfl) rfl (by kernel_rfl) (by kernel_rfl) rfl (by first | exact zbr rfl | exact zbj rfl | exact zbe rfl rfl | exact zbp rfl | exact zbo rfl | exact zar rfl (by repeat (first | exact HMem.here | apply HMem.skip | apply HMem.there)) rfl | exact zbs rfl (by repeat (first | exact HMem.here | apply HMem.skip | apply HMem.there)) (by repeat constructor) | exact zbk rfl | exact zbm rfl | exact zbi rfl rfl (by omega) | exact zbb rfl rfl rfl (by omega) (by omega) | exact zbu rfl | exact zbv rfl | exact zbn rfl (by repeat' (first | exact BFill.nil | refine' BFill.one (by rfl) (by rfl) (by repeat constructor) ?_ | refine' BFill.agg (by rfl) (by rfl) (by repeat constructor) ?_))) ?_
  refine kF 5 ?_
  refine kF 6 ?_
  refine kF 7 ?_
  refine OpsK.firstL 8 [] _ (by rfl) (by kernel_rfl) (by kernel_rfl) rfl (by kernel_rfl) (by kernel_rfl) rfl (by first | exact zbr rfl | exact zbj rfl | exact zbe rfl rfl | exact zbp rfl | exact zbo rfl | exact zar rfl (by repeat (first | exact HMem.here | apply HMem.skip | apply HMem.there)) rfl | exact zbs rfl (by repeat (first | exact HMem.here | apply HMem.skip | apply HMem.there)) (by repeat constructor) | exact zbk rfl | exact zbm rfl | exact zbi rfl rfl (by omega) | exact zbb rfl rfl rfl (by omega) (by omega) | exact zbu rfl | exact zbv rfl | exact zbn rfl (by repeat' (first | exact BFill.nil | refine' BFill.one (by rfl) (by rfl) (by repeat constructor) ?_ | refine' BFill.agg (by rfl) (by rfl) (by repeat constructor) ?_))) ?_
  refine kF 9 ?_
  refine kF 10 ?_
  refine kF 11 ?_
  refine OpsK.firstL 12 [] _ (by rfl) (by kernel_rfl) (by kernel_rfl) rfl (by kernel_rfl) (by kernel_rfl) rfl (by first | exact zbr rfl | exact zbj rfl | exact zbe rfl rfl | exact zbp rfl | exact zbo rfl | exact zar rfl (by repeat (first | exact HMem.here | apply HMem.skip | apply HMem.there)) rfl | exact zbs rfl (by repeat (first | exact HMem.here | apply HMem.skip | apply HMem.there)) (by repeat constructor) | exact zbk rfl | exact zbm rfl | exact zbi rfl rfl (by omega) | exact zbb rfl rfl rfl (by omega) (by omega) | exact zbu rfl | exact zbv rfl | exact zbn rfl (by repeat' (first | exact BFill.nil | refine' BFill.one (by rfl) (by rfl) (by repeat constructor) ?_ | refine' BFill.agg (by rfl) (by rfl) (by repeat constructor) ?_))) ?_
  refine kF 13 ?_
  refine kF 14 ?_
  refine kF 15 ?_
  refine kO 16 ?_
  (repeat' (first | refine z2 ?_ | refine z1 ?_ | refine zaf (fun _ => ?_)))
  rename_i q
  refine ⟨fun _ => sA, ?_⟩
  refine kF 17 ?_
  refine kO 18 ?_
  (repeat' (first | refine z2 ?_ | refine z1 ?_ | refine zb7 (fun _ => ?_)))
  refine ⟨fun _ => sA, ?_⟩
  refine kO 19 ?_
  refine zbz hv (by omega) (fun v' LB' hL => ?_)
  obtain ⟨g2, cap2, cur2, rfl, rfl, k1, k2, k3, k4⟩ := hL.pos
  (repeat' (first | refine z2 ?_ | refine z1 ?_))
  refine ⟨fun _ => sA, ?_⟩
  refine kF 20 ?_
  refine kF 21 ?_
  refine kO 22 ?_
  (repeat' (first | refine z2 ?_ | refine z1 ?_ | refine za5 ?_))
  refine ⟨(fun h0 => Bool.noConfusion (show true = false from h0)), ?_⟩
  refine OpsK.nil (by kernel_rfl) ?_
  (repeat' (first | refine z6 ?_ | refine z2 ?_ | refine z8 ?_ | refine zp ?_ | refine zq ?_ | refine za5 ?_))
  have hL2 : Inls (.slice (some ⟨g2, 0, none⟩) (vals.length + 1) cap2) (vals ++ [.iface 161 (lp q)]) [(g2, cellsOf cur2 89)] := by simpa [Inls] using hL
  exact e_norm [_, _, [It.cell (.plain ((tx.take i).drop e)) q]] ⟨rfl, q, _, _, hL2, rfl⟩ sA

end Go.Proofs

namespace Go.Proofs
open Go Go.Eng
set_option maxRecDepth 20000
set_option maxHeartbeats 8000000

/-- An inline without inlines of its own: its type, the type of what it points to, its cells. -/
structure LIt where
  ty : Nat
  sty : Nat
  cells : List Value
abbrev LIt.cell (x : LIt) (q : Nat) : Nat × Obj := (q, cellsOf x.cells x.sty)
abbrev plainL (t : List UInt8) : LIt := ⟨161, 158, [str t]⟩
inductive ItsL : List LIt → List Value → Blk → Prop
  | nil : ItsL [] [] []
  | snoc {its : List LIt} {vals : List Value} {Bk : Blk} (x : LIt) (q : Nat) : ItsL its vals Bk → ItsL (its ++ [x]) (vals ++ [.iface x.ty (lp q)]) (x.cell q :: Bk)
theorem ItsL.length {its : List LIt} {vals : List Value} {Bk : Blk} (h : ItsL its vals Bk) : vals.length = its.length := by
  induction h with
  | nil => rfl
  | snoc x q _ ih => simp [ih]
theorem ItsL.get {its : List LIt} {vals : List Value} {Bk : Blk} (h : ItsL its vals Bk) : ∀ (j : Nat) (x : LIt), its[j]? = some x → ∃ q, vals[j]? = some (Value.iface x.ty (lp q)) ∧ x.cell q ∈ Bk := by
  induction h with
  | nil => intro j x h; simp at h
  | @snoc its vals Bk y q hI ih =>
    intro j x hx
    have hlen := hI.length
    by_cases hj : j < its.length
    · rw [List.getElem?_append_left hj] at hx
      obtain ⟨q', h1, h2⟩ := ih j x hx
      exact ⟨q', by rw [List.getElem?_append_left (by omega)]; exact h1, List.mem_cons_of_mem _ h2⟩
    · rw [List.getElem?_append_right (by omega)] at hx
      have hj0 : j - its.length = 0 := by
        have := (List.getElem?_eq_some_iff.1 hx).1
        simp at this; omega
      rw [hj0] at hx
      simp only [List.getElem?_cons_zero, Option.some.injEq] at hx
      subst hx
      exact ⟨q, by rw [List.getElem?_append_right (by omega), show j - vals.length = 0 by omega]; rfl, by simp⟩

/-- A literal byte, or bytes that are an inline of their own. -/
inductive LTk where
  | lit (c : UInt8)
  | leaf (bs : List UInt8) (x : LIt)
def LTk.bytes : LTk → List UInt8
  | .lit c => [c]
  | .leaf bs _ => bs
def outL (its : List LIt) (t : List UInt8) : List LIt := if t = [] then its else its ++ [plainL t]
def LTk.step (st : List LIt × List UInt8) : LTk → List LIt × List UInt8
  | .lit c => (st.1, st.2 ++ [c])
  | .leaf _ x => (outL st.1 st.2 ++ [x], [])
theorem Tr.fr {f : FuncId} {args : List Value} {Hc F H : Heap} {R : Value → Heap → Prop} (h : Tr Tryz.prog f args Hc R) (ht : HTakes H Hc F) : Tr Tryz.prog f args H (fun v K => ∃ K0, R v K0 ∧ K = K0 ++ F) :=
  ⟨fun _B _w hw => (h.calls ht hw).mono fun _ _ ⟨v, H', h1, h2, h3⟩ => ⟨v, H' ++ F, h1, ⟨H', h2, rfl⟩, h3⟩⟩
theorem Tr.ps {f : FuncId} {args : List Value} {H : Heap} {R R' : Value → Heap → Prop} (h : Tr Tryz.prog f args H R) (hr : ∀ v H', R v H' → ∃ H'', R' v H'' ∧ SubH H' H'') : Tr Tryz.prog f args H R' :=
  ⟨fun B w hw => (h.run B w hw).mono fun _ _ ⟨v, H', h1, h2, h3⟩ => by
    obtain ⟨H'', k1, k2⟩ := hr v H' h2
    exact ⟨v, H'', h1, k1, h3.sub k2⟩⟩

end Go.Proofs

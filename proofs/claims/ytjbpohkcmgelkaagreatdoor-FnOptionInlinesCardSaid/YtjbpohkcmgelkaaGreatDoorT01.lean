/- Contracts of the trimming of texts. Conditions: lengths below a bound. Contract of line.trimSpace without tabs. Conditions: no tab in the line, lengths below a bound. Contracts of the line's small methods. Conditions: no tab, lengths below a bound. newQuote, newATXHeading, newHR and newHTML answer no at lines that begin none. Conditions: how the line begins. The parse state's cells; para, nextB, curB; newSetextHeading and newPre answer no. Conditions: how the line begins. -/
import Derived.Test.YtjbpohkcmgelkaaGreatDoorFacts
import Derived.Test.YtjbpohkcmgelkaaGreatDoorEngB
namespace Go.Proofs
open Go Go.Eng
set_option maxRecDepth 20000
set_option maxHeartbeats 4000000

/-! Plain words: lists of bytes -/
def isBl (c : UInt8) : Bool := c.toNat == 32 || c.toNat == 9
def isSp (c : UInt8) : Bool := c.toNat == 32 || c.toNat == 9 || c.toNat == 10
def ltrim (l : List UInt8) : List UInt8 := l.dropWhile isBl
def rtrim (l : List UInt8) : List UInt8 := (l.reverse.dropWhile isBl).reverse
def btrim (l : List UInt8) : List UInt8 := rtrim (ltrim l)

theorem drop_at (p : UInt8 → Bool) : ∀ (l : List UInt8) (k : Nat), (∀ c ∈ l.take k, p c = true) → (∀ c, l[k]? = some c → p c = false) → l.drop k = l.dropWhile p
  | [], k, _, _ => by simp
  | c :: l, 0, _, h => by have := h c (by simp); simp [this]
  | c :: l, k + 1, h1, h2 => by
    have := h1 c (by simp)
    have ih := drop_at p l k (fun d hd => h1 d (by simp [hd])) (fun d hd => h2 d (by simpa using hd))
    simp [this, ih]

theorem take_snoc {l : List UInt8} {k : Nat} {c : UInt8} (h : l[k]? = some c) : l.take (k + 1) = l.take k ++ [c] := by
  obtain ⟨h1, h2⟩ := List.getElem?_eq_some_iff.1 h
  rw [List.take_succ_eq_append_getElem h1, h2]

theorem all_snoc {l : List UInt8} {k : Nat} {c : UInt8} {p : UInt8 → Prop} (h : l[k]? = some c) (h1 : ∀ d ∈ l.take k, p d) (h2 : p c) : ∀ d ∈ l.take (k + 1), p d := by
  rw [take_snoc h]; intro d hd
  rcases List.mem_append.1 hd with hd | hd
  · exact h1 d hd
  · simp at hd; subst hd; exact h2

theorem get_some {l : List UInt8} {k : Nat} (h : k < l.length) : ∃ c, l[k]? = some c := ⟨l[k], by simp [h]⟩
theorem get_none {l : List UInt8} {k : Nat} {c : UInt8} (h : l.length ≤ k) (hc : l[k]? = some c) : False := by rw [List.getElem?_eq_none h] at hc; cases hc

theorem rtrim_at {l : List UInt8} {k : Nat} (hk : k ≤ l.length) (h1 : ∀ c ∈ l.drop k, isBl c = true) (h2 : ∀ c, 0 < k → l[k - 1]? = some c → isBl c = false) : l.take k = rtrim l := by
  have e : l.reverse.dropWhile isBl = (l.take k).reverse := by
    have h := drop_at isBl l.reverse (l.length - k) (fun c hc => by
      rw [List.take_reverse] at hc
      rw [show l.length - (l.length - k) = k by omega] at hc
      exact h1 c (by simpa using hc)) (fun c hc => by
      by_cases h0 : 0 < k
      · have hlt : l.length - k < l.length := by omega
        rw [List.getElem?_reverse hlt] at hc
        exact h2 c h0 (by rw [show k - 1 = l.length - 1 - (l.length - k) by omega]; exact hc)
      · have : k = 0 := by omega
        subst this
        rw [List.getElem?_eq_none (by simp)] at hc; cases hc)
    rw [← h, List.drop_reverse]
    congr 2
    omega
  simp [rtrim, e]

theorem drop_pred {l : List UInt8} {k : Nat} {c : UInt8} (h0 : 0 < k) (h : l[k - 1]? = some c) {p : UInt8 → Prop} (h1 : ∀ d ∈ l.drop k, p d) (h2 : p c) : ∀ d ∈ l.drop (k - 1), p d := by
  obtain ⟨h3, h4⟩ := List.getElem?_eq_some_iff.1 h
  rw [List.drop_eq_getElem_cons h3, h4, show k - 1 + 1 = k by omega]
  intro d hd
  rcases List.mem_cons.1 hd with rfl | hd
  · exact h2
  · exact h1 d hd

theorem ltrim_tr (l : List UInt8) (hl : l.length ≤ 140737488355328) : TrP Tryz.prog 109 [str l] (str (ltrim l)) := by
  refine Tr.start (n := 25) (rs := [.tmp 2]) rfl rfl rfl rfl fun B => ?_
  (repeat' (first | refine z7 ?_ | refine z6 ?_ | refine z2 ?_ | refine z1 ?_ | refine zf ?_ | refine za ?_))
  refine za6 (fun k : Nat => [(0, str l), (3, .int .i64 k)]) (fun _ => []) (fun k => k ≤ l.length ∧ ∀ c ∈ l.take k, isBl c = true) (fun k => l.length - k) 0 ⟨by omega, by simp⟩ kB (SubH.nilR _) fun k ⟨hk, hb⟩ => ?_
  by_cases hlt : k < l.length
  · obtain ⟨c, hc⟩ := get_some hlt
    by_cases h1 : c.toNat = 32
    · (repeat' (first | refine z7 ?_ | refine z6 ?_ | refine z2 ?_ | refine z1 ?_ | refine zc ?_ | refine zf ?_ | refine zd ?_ | refine zu ?_ | refine zh ?_ | refine zaa ?_ | refine z8 ?_ | refine za ?_ | refine zl ?_ | refine zm ?_ | refine zt ?_ | refine zj ?_ | refine zg ?_ | refine zi ?_))
      exact ⟨k + 1, kB, SubH.refl _, ⟨by omega, all_snoc hc hb (by simp [isBl, h1])⟩, by omega⟩
    · by_cases h2 : c.toNat = 9
      · (repeat' (first | refine z7 ?_ | refine z6 ?_ | refine z2 ?_ | refine z1 ?_ | refine zc ?_ | refine zf ?_ | refine zd ?_ | refine zu ?_ | refine zh ?_ | refine z8 ?_ | refine za ?_ | refine zl ?_ | refine zm ?_ | refine zt ?_ | refine zr ?_ | refine zj ?_ | refine zk ?_ | refine zg ?_ | refine zi ?_))
        exact ⟨k + 1, kB, SubH.refl _, ⟨by omega, all_snoc hc hb (by simp [isBl, h2])⟩, by omega⟩
      · (repeat' (first | refine z7 ?_ | refine z6 ?_ | refine z2 ?_ | refine z1 ?_ | refine zb ?_ | refine zw ?_ | refine zy ?_ | refine zz ?_ | refine ze ?_ | refine zh ?_ | refine z8 ?_ | refine za ?_ | refine zm ?_ | refine zr ?_ | refine zj ?_ | refine zk ?_ | refine zg ?_ | refine zi ?_ | refine zba ?_))
        refine e_pure ⟨?_, rfl⟩
        simp only [oneOr]
        rw [drop_at isBl l k hb (fun d hd => by rw [hc] at hd; cases hd; simp [isBl, h1, h2])]; rfl
  · (repeat' (first | refine z7 ?_ | refine z6 ?_ | refine z2 ?_ | refine z1 ?_ | refine zb ?_ | refine zw ?_ | refine zy ?_ | refine zz ?_ | refine ze ?_ | refine za2 ?_ | refine zay ?_ | refine z8 ?_ | refine za ?_ | refine za4 ?_ | refine zk ?_ | refine zg ?_ | refine zba ?_))
    refine e_pure ⟨?_, rfl⟩
    simp only [oneOr]
    rw [drop_at isBl l k hb (fun d hd => (get_none (by omega) hd).elim)]; rfl

theorem btrim_tr (l : List UInt8) (hl : l.length ≤ 140737488355328) : TrP Tryz.prog 60 [str l] (str (btrim l)) := by
  refine Tr.start (n := 49) (rs := [.tmp 2]) rfl rfl rfl rfl fun B => ?_
  (repeat' (first | refine z7 ?_ | refine z6 ?_ | refine z2 ?_ | refine z1 ?_ | refine za ?_))
  have hd : (ltrim l).length ≤ l.length := (List.dropWhile_sublist _).length_le
  refine zac [(0, str l), (3, .int .i64 ((l.length - (ltrim l).length : Nat) : Int))] [] ?_ ?_
  · (repeat' (first | refine zf ?_))
    refine za6 (fun k : Nat => [(0, str l), (3, .int .i64 k)]) (fun _ => []) (fun k => k ≤ l.length ∧ ∀ c ∈ l.take k, isBl c = true) (fun k => l.length - k) 0 ⟨by omega, by simp⟩ kB (SubH.nilR _) fun k ⟨hk, hb⟩ => ?_
    have fin : (∀ c, l[k]? = some c → isBl c = false) → l.length - (ltrim l).length = k := fun h => by
      have := congrArg List.length (drop_at isBl l k hb h); simp only [List.length_drop] at this; unfold ltrim; omega
    by_cases hlt : k < l.length
    · obtain ⟨c, hc⟩ := get_some hlt
      by_cases h0 : c.toNat = 32
      · (repeat' (first | refine z7 ?_ | refine z6 ?_ | refine z2 ?_ | refine z1 ?_ | refine zc ?_ | refine zf ?_ | refine zd ?_ | refine zu ?_ | refine zh ?_ | refine zaa ?_ | refine z8 ?_ | refine za ?_ | refine zl ?_ | refine zm ?_ | refine zt ?_ | refine zj ?_ | refine zg ?_ | refine zi ?_))
        exact ⟨k + 1, kB, SubH.refl _, ⟨by omega, all_snoc hc hb (by simp [isBl, h0])⟩, by omega⟩
      · skip
        by_cases h1 : c.toNat = 9
        · (repeat' (first | refine z7 ?_ | refine z6 ?_ | refine z2 ?_ | refine z1 ?_ | refine zc ?_ | refine zf ?_ | refine zd ?_ | refine zu ?_ | refine zh ?_ | refine z8 ?_ | refine za ?_ | refine zl ?_ | refine zm ?_ | refine zt ?_ | refine zr ?_ | refine zj ?_ | refine zk ?_ | refine zg ?_ | refine zi ?_))
          exact ⟨k + 1, kB, SubH.refl _, ⟨by omega, all_snoc hc hb (by simp [isBl, h1])⟩, by omega⟩
        · skip
          (repeat' (first | refine z7 ?_ | refine z6 ?_ | refine z2 ?_ | refine z1 ?_ | refine zb ?_ | refine zw ?_ | refine zy ?_ | refine zz ?_ | refine zh ?_ | refine z8 ?_ | refine zm ?_ | refine zr ?_ | refine zj ?_ | refine zk ?_ | refine zg ?_ | refine zi ?_))
          rw [fin (fun d hd => by rw [hc] at hd; cases hd; simp [isBl, h0, h1])]
          exact ⟨kA, SubH.refl _⟩
    · (repeat' (first | refine z7 ?_ | refine z6 ?_ | refine z2 ?_ | refine z1 ?_ | refine zb ?_ | refine zw ?_ | refine zy ?_ | refine zz ?_ | refine za2 ?_ | refine zay ?_ | refine z8 ?_ | refine za4 ?_ | refine zk ?_ | refine zg ?_))
      rw [fin (fun d hd => (get_none (by omega) hd).elim)]
      exact ⟨kA, SubH.refl _⟩
  · (repeat' (first | refine z7 ?_ | refine z6 ?_ | refine z2 ?_ | refine z1 ?_ | refine zf ?_ | refine z8 ?_ | refine za ?_ | refine zg ?_ | refine zba ?_))
    have e : List.drop (l.length - (ltrim l).length) l = ltrim l := by
      have h1 : ltrim l <:+ l := List.dropWhile_suffix _
      obtain ⟨p, hp⟩ := h1
      have h2 : p.length = l.length - (ltrim l).length := by have := congrArg List.length hp; simp only [List.length_append] at this; omega
      rw [← h2]; conv => lhs; rw [← hp]
      exact List.drop_left
    rw [e, show btrim l = rtrim (ltrim l) from rfl]
    generalize ltrim l = m at *
    refine za6 (fun k : Nat => [(0, str m), (4, .int .i64 k)]) (fun _ => []) (fun k => k ≤ m.length ∧ ∀ c ∈ m.drop k, isBl c = true) (fun k => k) m.length ⟨by omega, by simp⟩ kB (SubH.nilR _) fun k ⟨hk, hb⟩ => ?_
    by_cases hlt : 0 < k
    · obtain ⟨c, hc⟩ := get_some (l := m) (k := k - 1) (by omega)
      by_cases h0 : c.toNat = 32
      · (repeat' (first | refine z7 ?_ | refine z6 ?_ | refine z2 ?_ | refine z1 ?_ | refine zc ?_ | refine zf ?_ | refine zd ?_ | refine zu ?_ | refine zh ?_ | refine zaa ?_ | refine z8 ?_ | refine za ?_ | refine zc4 ?_ | refine zaz ?_ | refine zt ?_ | refine zj ?_ | refine zi ?_))
        exact ⟨k - 1, kB, SubH.refl _, ⟨by omega, drop_pred hlt hc hb (by simp [isBl, h0])⟩, by omega⟩
      · skip
        by_cases h1 : c.toNat = 9
        · (repeat' (first | refine z7 ?_ | refine z6 ?_ | refine z2 ?_ | refine z1 ?_ | refine zc ?_ | refine zf ?_ | refine zd ?_ | refine zu ?_ | refine zh ?_ | refine z8 ?_ | refine za ?_ | refine zc4 ?_ | refine zaz ?_ | refine zt ?_ | refine zr ?_ | refine zj ?_ | refine zk ?_ | refine zi ?_))
          exact ⟨k - 1, kB, SubH.refl _, ⟨by omega, drop_pred hlt hc hb (by simp [isBl, h1])⟩, by omega⟩
        · skip
          (repeat' (first | refine z7 ?_ | refine z6 ?_ | refine z2 ?_ | refine z1 ?_ | refine zb ?_ | refine zw ?_ | refine zy ?_ | refine zz ?_ | refine ze ?_ | refine zh ?_ | refine z8 ?_ | refine za ?_ | refine zc4 ?_ | refine zaz ?_ | refine zr ?_ | refine zj ?_ | refine zk ?_ | refine zi ?_ | refine zcc ?_))
          refine e_pure ⟨?_, rfl⟩
          simp only [oneOr]
          rw [rtrim_at hk hb (fun d _ hd => by rw [hc] at hd; cases hd; simp [isBl, h0, h1])]
    · (repeat' (first | refine z7 ?_ | refine z6 ?_ | refine z2 ?_ | refine z1 ?_ | refine zb ?_ | refine zw ?_ | refine zy ?_ | refine zz ?_ | refine ze ?_ | refine za2 ?_ | refine zay ?_ | refine z8 ?_ | refine za ?_ | refine zat ?_ | refine zk ?_ | refine zcc ?_))
      refine e_pure ⟨?_, rfl⟩
      simp only [oneOr]
      rw [rtrim_at hk hb (fun d h _ => by omega)]

theorem btrim_tr2 (l : List UInt8) (hl : l.length ≤ 140737488355328) : TrP Tryz.prog 86 [str l] (str (btrim l)) := by
  refine Tr.start (n := 49) (rs := [.tmp 2]) rfl rfl rfl rfl fun B => ?_
  (repeat' (first | refine z7 ?_ | refine z6 ?_ | refine z2 ?_ | refine z1 ?_ | refine za ?_))
  have hd : (ltrim l).length ≤ l.length := (List.dropWhile_sublist _).length_le
  refine zac [(0, str l), (3, .int .i64 ((l.length - (ltrim l).length : Nat) : Int))] [] ?_ ?_
  · (repeat' (first | refine zf ?_))
    refine za6 (fun k : Nat => [(0, str l), (3, .int .i64 k)]) (fun _ => []) (fun k => k ≤ l.length ∧ ∀ c ∈ l.take k, isBl c = true) (fun k => l.length - k) 0 ⟨by omega, by simp⟩ kB (SubH.nilR _) fun k ⟨hk, hb⟩ => ?_
    have fin : (∀ c, l[k]? = some c → isBl c = false) → l.length - (ltrim l).length = k := fun h => by
      have := congrArg List.length (drop_at isBl l k hb h); simp only [List.length_drop] at this; unfold ltrim; omega
    by_cases hlt : k < l.length
    · obtain ⟨c, hc⟩ := get_some hlt
      by_cases h0 : c.toNat = 32
      · (repeat' (first | refine z7 ?_ | refine z6 ?_ | refine z2 ?_ | refine z1 ?_ | refine zc ?_ | refine zf ?_ | refine zd ?_ | refine zu ?_ | refine zh ?_ | refine zaa ?_ | refine z8 ?_ | refine za ?_ | refine zl ?_ | refine zm ?_ | refine zt ?_ | refine zj ?_ | refine zg ?_ | refine zi ?_))
        exact ⟨k + 1, kB, SubH.refl _, ⟨by omega, all_snoc hc hb (by simp [isBl, h0])⟩, by omega⟩
      · skip
        by_cases h1 : c.toNat = 9
        · (repeat' (first | refine z7 ?_ | refine z6 ?_ | refine z2 ?_ | refine z1 ?_ | refine zc ?_ | refine zf ?_ | refine zd ?_ | refine zu ?_ | refine zh ?_ | refine z8 ?_ | refine za ?_ | refine zl ?_ | refine zm ?_ | refine zt ?_ | refine zr ?_ | refine zj ?_ | refine zk ?_ | refine zg ?_ | refine zi ?_))
          exact ⟨k + 1, kB, SubH.refl _, ⟨by omega, all_snoc hc hb (by simp [isBl, h1])⟩, by omega⟩
        · skip
          (repeat' (first | refine z7 ?_ | refine z6 ?_ | refine z2 ?_ | refine z1 ?_ | refine zb ?_ | refine zw ?_ | refine zy ?_ | refine zz ?_ | refine zh ?_ | refine z8 ?_ | refine zm ?_ | refine zr ?_ | refine zj ?_ | refine zk ?_ | refine zg ?_ | refine zi ?_))
          rw [fin (fun d hd => by rw [hc] at hd; cases hd; simp [isBl, h0, h1])]
          exact ⟨kA, SubH.refl _⟩
    · (repeat' (first | refine z7 ?_ | refine z6 ?_ | refine z2 ?_ | refine z1 ?_ | refine zb ?_ | refine zw ?_ | refine zy ?_ | refine zz ?_ | refine za2 ?_ | refine zay ?_ | refine z8 ?_ | refine za4 ?_ | refine zk ?_ | refine zg ?_))
      rw [fin (fun d hd => (get_none (by omega) hd).elim)]
      exact ⟨kA, SubH.refl _⟩
  · (repeat' (first | refine z7 ?_ | refine z6 ?_ | refine z2 ?_ | refine z1 ?_ | refine zf ?_ | refine z8 ?_ | refine za ?_ | refine zg ?_ | refine zba ?_))
    have e : List.drop (l.length - (ltrim l).length) l = ltrim l := by
      have h1 : ltrim l <:+ l := List.dropWhile_suffix _
      obtain ⟨p, hp⟩ := h1
      have h2 : p.length = l.length - (ltrim l).length := by have := congrArg List.length hp; simp only [List.length_append] at this; omega
      rw [← h2]; conv => lhs; rw [← hp]
      exact List.drop_left
    rw [e, show btrim l = rtrim (ltrim l) from rfl]
    generalize ltrim l = m at *
    refine za6 (fun k : Nat => [(0, str m), (4, .int .i64 k)]) (fun _ => []) (fun k => k ≤ m.length ∧ ∀ c ∈ m.drop k, isBl c = true) (fun k => k) m.length ⟨by omega, by simp⟩ kB (SubH.nilR _) fun k ⟨hk, hb⟩ => ?_
    by_cases hlt : 0 < k
    · obtain ⟨c, hc⟩ := get_some (l := m) (k := k - 1) (by omega)
      by_cases h0 : c.toNat = 32
      · (repeat' (first | refine z7 ?_ | refine z6 ?_ | refine z2 ?_ | refine z1 ?_ | refine zc ?_ | refine zf ?_ | refine zd ?_ | refine zu ?_ | refine zh ?_ | refine zaa ?_ | refine z8 ?_ | refine za ?_ | refine zc4 ?_ | refine zaz ?_ | refine zt ?_ | refine zj ?_ | refine zi ?_))
        exact ⟨k - 1, kB, SubH.refl _, ⟨by omega, drop_pred hlt hc hb (by simp [isBl, h0])⟩, by omega⟩
      · skip
        by_cases h1 : c.toNat = 9
        · (repeat' (first | refine z7 ?_ | refine z6 ?_ | refine z2 ?_ | refine z1 ?_ | refine zc ?_ | refine zf ?_ | refine zd ?_ | refine zu ?_ | refine zh ?_ | refine z8 ?_ | refine za ?_ | refine zc4 ?_ | refine zaz ?_ | refine zt ?_ | refine zr ?_ | refine zj ?_ | refine zk ?_ | refine zi ?_))
          exact ⟨k - 1, kB, SubH.refl _, ⟨by omega, drop_pred hlt hc hb (by simp [isBl, h1])⟩, by omega⟩
        · skip
          (repeat' (first | refine z7 ?_ | refine z6 ?_ | refine z2 ?_ | refine z1 ?_ | refine zb ?_ | refine zw ?_ | refine zy ?_ | refine zz ?_ | refine ze ?_ | refine zh ?_ | refine z8 ?_ | refine za ?_ | refine zc4 ?_ | refine zaz ?_ | refine zr ?_ | refine zj ?_ | refine zk ?_ | refine zi ?_ | refine zcc ?_))
          refine e_pure ⟨?_, rfl⟩
          simp only [oneOr]
          rw [rtrim_at hk hb (fun d _ hd => by rw [hc] at hd; cases hd; simp [isBl, h0, h1])]
    · (repeat' (first | refine z7 ?_ | refine z6 ?_ | refine z2 ?_ | refine z1 ?_ | refine zb ?_ | refine zw ?_ | refine zy ?_ | refine zz ?_ | refine ze ?_ | refine za2 ?_ | refine zay ?_ | refine z8 ?_ | refine za ?_ | refine zat ?_ | refine zk ?_ | refine zcc ?_))
      refine e_pure ⟨?_, rfl⟩
      simp only [oneOr]
      rw [rtrim_at hk hb (fun d h _ => by omega)]

end Go.Proofs

namespace Go.Proofs
open Go Go.Eng
set_option maxRecDepth 20000
set_option maxHeartbeats 4000000

/-- The cells of a line that is read from place i on (no tabs: nothing is left of one). -/
abbrev lnc (i : Nat) (tx : List UInt8) (nl : Nat) : List Value := [.int .i64 0, .int .i64 i, .int .i64 0, str tx, .int .u8 nl]
abbrev lnb (q i : Nat) (tx : List UInt8) (nl : Nat) : Blk := [(q, cellsOf (lnc i tx nl) 122)]
def NoTab (l : List UInt8) : Prop := ∀ c ∈ l, c.toNat ≠ 9
/-- The spaces at the front. -/
def nsp : List UInt8 → Nat
  | [] => 0
  | c :: l => if c.toNat = 32 then nsp l + 1 else 0

theorem nsp_le : ∀ l : List UInt8, nsp l ≤ l.length
  | [] => by simp [nsp]
  | c :: l => by have := nsp_le l; simp only [nsp, List.length_cons]; split <;> omega
theorem nsp_lt : ∀ {l : List UInt8} {j : Nat}, j < nsp l → ∃ c, l[j]? = some c ∧ c.toNat = 32
  | [], j, h => by simp [nsp] at h
  | c :: l, j, h => by
    simp only [nsp] at h
    split at h
    · rename_i hc
      cases j with
      | zero => exact ⟨c, by simp, hc⟩
      | succ j => obtain ⟨d, h1, h2⟩ := nsp_lt (l := l) (j := j) (by omega); exact ⟨d, by simpa using h1, h2⟩
    · omega
theorem nsp_at : ∀ {l : List UInt8} {c : UInt8}, l[nsp l]? = some c → c.toNat ≠ 32
  | [], c, h => by simp at h
  | d :: l, c, h => by
    by_cases hd : d.toNat = 32
    · have e : nsp (d :: l) = nsp l + 1 := by simp [nsp, hd]
      rw [e] at h; exact nsp_at (l := l) (by simpa using h)
    · have e : nsp (d :: l) = 0 := by simp [nsp, hd]
      rw [e] at h; simp at h; subst h; exact hd

/-- What line.trimSpace answers, and where the line stands behind it. -/
def tsOK (i : Nat) (tx : List UInt8) (lo hi : Nat) (eol : Bool) : Bool := decide (lo ≤ min (nsp (tx.drop i)) hi) || (eol && decide (tx.length ≤ i + nsp (tx.drop i)))
def tsI (i : Nat) (tx : List UInt8) (lo hi : Nat) (eol : Bool) : Nat := if tsOK i tx lo hi eol then i + min (nsp (tx.drop i)) hi else i

theorem trimSpace_tr (q i : Nat) (tx : List UInt8) (nl lo hi : Nat) (eol : Bool) (hnt : NoTab tx) (hi' : i ≤ tx.length) (hl : tx.length ≤ 140737488355328) (hlh : lo ≤ hi) (hh : hi ≤ 1000) :
    TrD Tryz.prog 167 [.pointer (some ⟨q, 0, none⟩), .int .i64 lo, .int .i64 hi, .bool eol] [lnb q i tx nl]
      (.bool (tsOK i tx lo hi eol)) [lnb q (tsI i tx lo hi eol) tx nl] := by
  refine Tr.start (n := 76) (rs := [.tmp 8]) rfl rfl rfl rfl fun B => ?_
  (repeat' (first | refine z7 ?_ | refine z6 ?_ | refine z2 ?_ | refine z1 ?_ | refine z8 ?_ | refine za ?_ | refine zq ?_ | refine zak ?_))
  refine zai fun r => ?_
  (repeat' (first | refine z7 ?_ | refine z6 ?_ | refine z2 ?_ | refine z1 ?_ | refine za ?_ | refine zaj ?_))
  have hk := nsp_le (tx.drop i)
  simp only [List.length_drop] at hk
  have hlt := fun j (h : j < nsp (tx.drop i)) => nsp_lt h
  have hat := fun c (h : (tx.drop i)[nsp (tx.drop i)]? = some c) => nsp_at h
  simp only [List.getElem?_drop] at hlt hat
  unfold tsI tsOK
  generalize nsp (tx.drop i) = k at *
  -- the ways on which the loop ends well come to the same place
  refine zau (fun _ : Unit => [(0, .pointer (some ⟨q, 0, none⟩)), (9, .pointer (some ⟨r, 0, none⟩))]) (fun _ => [lnb r (i + min k hi) tx nl, lnb q i tx nl])
    (fun _ => (decide (lo ≤ min k hi) || (eol && decide (tx.length ≤ i + k))) = true) ?_ ?_
  · (repeat' (first | refine zf ?_))
    refine za6 (fun x : Nat × Nat => [(0, .pointer (some ⟨q, 0, none⟩)), (1, .int .i64 lo), (2, .int .i64 hi), (3, .bool eol), (9, .pointer (some ⟨r, 0, none⟩)), (10, .int .i64 x.1)])
      (fun x => [lnb r x.2 tx nl, lnb q i tx nl]) (fun x => x.1 ≤ hi ∧ x.2 = i + min x.1 k ∧ (x.1 ≤ k ∨ eol = true ∧ i + k = tx.length)) (fun x => hi - x.1) (0, i) ⟨by omega, by simp, by simp⟩ kB (SubH.refl _) ?_
    rintro ⟨m, j⟩ ⟨h1, h2, h3⟩
    simp only at h1 h2 h3
    by_cases hm : m < hi
    · by_cases hmk : m < k
      · obtain ⟨c, hc, hc2⟩ := hlt m hmk
        have hc' : tx[j]? = some c := by rw [h2, Nat.min_eq_left (by omega)]; exact hc
        have hj : j < tx.length := (List.getElem?_eq_some_iff.1 hc').1
        clear hc hlt hat h3
        cases eol <;> (repeat' (first | refine z7 ?_ | refine z6 ?_ | refine z2 ?_ | refine z1 ?_ | refine zc ?_ | refine zb ?_ | refine zf ?_ | refine zd ?_ | refine zw ?_ | refine zy ?_ | refine zz ?_ | refine zaw ?_ | refine za2 ?_ | refine z8 ?_ | refine za ?_ | refine zn ?_ | refine zp ?_ | refine zl ?_ | refine zm ?_ | refine zat ?_ | refine zab ?_ | refine zt ?_ | refine zr ?_ | refine zk ?_ | refine zg ?_ | refine zi ?_ | refine za5 ?_)) <;> exact ⟨(m + 1, j + 1), kB, SubH.refl _, ⟨by simp; omega, by simp; omega, by simp; omega⟩, by simp; omega⟩
      · by_cases hj : j < tx.length
        · have hjk : j = i + k := by omega
          obtain ⟨c, hc'⟩ := get_some hj
          have hc2 : ¬ c.toNat = 32 := hat c (by rw [← hjk]; exact hc')
          have hc3 : ¬ c.toNat = 9 := hnt c (List.mem_of_getElem? hc')
          have hmk' : m = k := by
            rcases h3 with h3 | h3
            · omega
            · omega
          subst hmk' hjk
          have hf0 : ¬ tx.length ≤ i + m := by omega
          have hf : (eol && decide (tx.length ≤ i + m)) = false := by simp; intro _; omega
          rw [hf, Nat.min_eq_left (by omega : m ≤ hi)]
          clear hlt hat h3
          by_cases hlo : lo ≤ m
          · cases eol <;> (repeat' (first | refine z7 ?_ | refine z6 ?_ | refine z2 ?_ | refine z1 ?_ | refine zc ?_ | refine zb ?_ | refine zf ?_ | refine zd ?_ | refine zu ?_ | refine zw ?_ | refine zy ?_ | refine zz ?_ | refine zaw ?_ | refine za2 ?_ | refine z8 ?_ | refine za ?_ | refine zn ?_ | refine zp ?_ | refine zm ?_ | refine zat ?_ | refine zas ?_ | refine zab ?_ | refine zr ?_ | refine zk ?_ | refine zg ?_ | refine zi ?_)) <;> exact ⟨(), kA, SubH.refl _, by simp [hlo]⟩
          · cases eol <;> (repeat' (first | refine z7 ?_ | refine z6 ?_ | refine z2 ?_ | refine z1 ?_ | refine zc ?_ | refine zb ?_ | refine zf ?_ | refine zd ?_ | refine zu ?_ | refine ze ?_ | refine zx ?_ | refine zag ?_ | refine za2 ?_ | refine z8 ?_ | refine za ?_ | refine zn ?_ | refine zp ?_ | refine zm ?_ | refine zat ?_ | refine zab ?_ | refine zr ?_ | refine zk ?_ | refine zg ?_ | refine zi ?_)) <;> refine e_ret [lnb q i tx nl] ?_ SubH.drop1 <;> simp [oneOr, hlo]
        · clear hlt hat
          cases eol
          · have hmk' : m = k := by
              rcases h3 with h3 | h3
              · omega
              · cases h3.1
            subst hmk'
            clear h3
            rw [Nat.min_eq_left (by omega : m ≤ hi)]
            by_cases hlo : lo ≤ m
            · (repeat' (first | refine z7 ?_ | refine z6 ?_ | refine z2 ?_ | refine z1 ?_ | refine zc ?_ | refine zb ?_ | refine zf ?_ | refine zd ?_ | refine zw ?_ | refine zy ?_ | refine zz ?_ | refine zaw ?_ | refine zh ?_ | refine z8 ?_ | refine zn ?_ | refine zp ?_ | refine zm ?_ | refine za4 ?_ | refine zat ?_ | refine zas ?_ | refine zj ?_ | refine zg ?_))
              exact ⟨(), kA, by rw [h2, Nat.min_self]; exact SubH.refl _, by simp [hlo]⟩
            · (repeat' (first | refine z7 ?_ | refine z6 ?_ | refine z2 ?_ | refine z1 ?_ | refine zc ?_ | refine zb ?_ | refine zf ?_ | refine zd ?_ | refine ze ?_ | refine zx ?_ | refine zag ?_ | refine zh ?_ | refine z8 ?_ | refine za ?_ | refine zn ?_ | refine zp ?_ | refine zm ?_ | refine za4 ?_ | refine zat ?_ | refine zas ?_ | refine zab ?_ | refine zj ?_ | refine zg ?_))
              refine e_ret [lnb q i tx nl] ?_ SubH.drop1; simp [oneOr, hlo]
          · clear h3
            (repeat' (first | refine z7 ?_ | refine z6 ?_ | refine z2 ?_ | refine z1 ?_ | refine zc ?_ | refine zb ?_ | refine zf ?_ | refine zd ?_ | refine zw ?_ | refine zy ?_ | refine zz ?_ | refine zh ?_ | refine z8 ?_ | refine za ?_ | refine zn ?_ | refine zp ?_ | refine zl ?_ | refine zm ?_ | refine zat ?_ | refine zas ?_ | refine zj ?_ | refine zg ?_))
            exact ⟨(m + 1, j), kB, SubH.refl _, ⟨by simp; omega, by simp; omega, by simp; omega⟩, by simp; omega⟩
    · clear hlt hat
      have : m = hi := by omega
      subst this
      (repeat' (first | refine z7 ?_ | refine z6 ?_ | refine z2 ?_ | refine z1 ?_ | refine zb ?_ | refine zw ?_ | refine zy ?_ | refine zz ?_ | refine z8 ?_ | refine za4 ?_))
      refine ⟨(), kA, by rw [h2, Nat.min_comm]; exact SubH.refl _, ?_⟩
      rcases h3 with h3 | h3
      · have : lo ≤ min k m := by omega
        simp [this]
      · simp [h3.1, h3.2]
  · intro _ hok
    rw [hok]
    simp only [if_true]
    (repeat' (first | refine z7 ?_ | refine z6 ?_ | refine z2 ?_ | refine z1 ?_ | refine ze ?_ | refine z8 ?_ | refine za ?_ | refine zq ?_ | refine zak ?_ | refine zaj ?_))
    exact e_ret _ ⟨rfl, rfl⟩ SubH.drop1
end Go.Proofs

namespace Go.Proofs
open Go Go.Eng
set_option maxRecDepth 20000
set_option maxHeartbeats 4000000

abbrev lp (q : Nat) : Value := .pointer (some ⟨q, 0, none⟩)

theorem trim_tr (q i : Nat) (tx : List UInt8) (nl c : Nat) (hl : tx.length ≤ 140737488355328) (hi : i ≤ tx.length) (b : Bool) (hb : b = decide (∃ d, tx[i]? = some d ∧ d.toNat = c)) :
    TrD Tryz.prog 184 [lp q, .int .u8 c] [lnb q i tx nl] (.bool b) [lnb q (if b then i + 1 else i) tx nl] := by
  refine Tr.start (n := 49) (rs := [.tmp 4]) rfl rfl rfl rfl fun B => ?_
  by_cases hlt : i < tx.length
  · obtain ⟨d, hd⟩ := get_some hlt
    by_cases hdc : d.toNat = c
    · have : b = true := by rw [hb]; exact decide_eq_true ⟨d, hd, hdc⟩
      subst this
      (repeat' (first | refine Wp.draw_all (id := 6) Mixed.out (by kernel_rfl) ?_ | refine z7 ?_ | refine z6 ?_ | refine z2 ?_ | refine z1 ?_ | refine zc ?_ | refine zb ?_ | refine zd ?_ | refine ze ?_ | refine zx ?_ | refine z8 ?_ | refine za ?_ | refine zn ?_ | refine zp ?_ | refine zq ?_ | refine zl ?_ | refine zat ?_ | refine za5 ?_ | refine za8 ?_ | refine zb4 ?_ | refine za7 ?_ | refine za3 ?_ | refine zae ?_ | refine zad ?_ | refine zcy ?_ | refine zbd ?_ | refine zb6 ?_ | refine zcj ?_ | refine zbh ?_))
      exact e_ret _ ⟨rfl, rfl⟩ (SubH.refl _)
    · have : b = false := by rw [hb]; exact decide_eq_false (fun ⟨e, h1, h2⟩ => by rw [hd] at h1; cases h1; exact hdc h2)
      subst this
      (repeat' (first | refine Wp.draw_all (id := 6) Mixed.out (by kernel_rfl) ?_ | refine z7 ?_ | refine z6 ?_ | refine z2 ?_ | refine z1 ?_ | refine zb ?_ | refine zd ?_ | refine ze ?_ | refine z8 ?_ | refine za ?_ | refine zn ?_ | refine zp ?_ | refine zq ?_ | refine zat ?_ | refine za8 ?_ | refine zb4 ?_ | refine za7 ?_ | refine za3 ?_ | refine zae ?_ | refine zad ?_ | refine zcy ?_ | refine zc1 ?_ | refine zb6 ?_ | refine zcj ?_ | refine zbh ?_))
      exact e_ret _ ⟨rfl, rfl⟩ (SubH.refl _)
  · have : b = false := by rw [hb]; exact decide_eq_false (fun ⟨e, h1, h2⟩ => get_none (by omega) h1)
    subst this
    (repeat' (first | refine Wp.draw_all (id := 6) Mixed.out (by kernel_rfl) ?_ | refine z7 ?_ | refine z6 ?_ | refine z2 ?_ | refine z1 ?_ | refine zb ?_ | refine zd ?_ | refine ze ?_ | refine z8 ?_ | refine za ?_ | refine zn ?_ | refine zp ?_ | refine zq ?_ | refine zat ?_ | refine za8 ?_ | refine zbx ?_ | refine za7 ?_ | refine za3 ?_ | refine zae ?_ | refine zad ?_ | refine zdm ?_ | refine zbc ?_ | refine zcj ?_))
    exact e_ret _ ⟨rfl, rfl⟩ (SubH.refl _)

/-- The byte at a place, 0 behind the end. -/
def at0 (tx : List UInt8) (i : Nat) : Nat := match tx[i]? with | some c => c.toNat | none => 0
theorem at0_some {tx : List UInt8} {i : Nat} {c : UInt8} (h : tx[i]? = some c) : at0 tx i = c.toNat := by simp [at0, h]
theorem at0_none {tx : List UInt8} {i : Nat} (h : tx.length ≤ i) : at0 tx i = 0 := by simp [at0, List.getElem?_eq_none h]
theorem peek_tr (q i : Nat) (tx : List UInt8) (nl : Nat) (_hl : tx.length ≤ 140737488355328) (hi : i ≤ tx.length) :
    TrD Tryz.prog 186 [lp q] [lnb q i tx nl] (.int .u8 (at0 tx i)) [lnb q i tx nl] := by
  refine Tr.start (n := 27) (rs := [.tmp 2]) rfl rfl rfl rfl fun B => ?_
  by_cases hlt : i < tx.length
  · obtain ⟨d, hd⟩ := get_some hlt
    rw [at0_some hd]
    (repeat' (first | refine Wp.draw_all (id := 3) Mixed.out (by kernel_rfl) ?_ | refine Wp.draw_all (id := 5) Mixed.out (by kernel_rfl) ?_ | refine z7 ?_ | refine z6 ?_ | refine z2 ?_ | refine z1 ?_ | refine zb ?_ | refine zd ?_ | refine ze ?_ | refine z8 ?_ | refine za ?_ | refine zn ?_ | refine zp ?_ | refine zq ?_ | refine zat ?_ | refine za8 ?_ | refine za7 ?_ | refine zbg ?_ | refine za3 ?_ | refine zae ?_ | refine zad ?_ | refine ze3 ?_ | refine zcj ?_ | refine zbh ?_))
    exact e_ret _ ⟨rfl, rfl⟩ (SubH.refl _)
  · rw [at0_none (by omega)]
    (repeat' (first | refine Wp.draw_all (id := 3) Mixed.out (by kernel_rfl) ?_ | refine z7 ?_ | refine z6 ?_ | refine z2 ?_ | refine z1 ?_ | refine zc ?_ | refine zb ?_ | refine zd ?_ | refine ze ?_ | refine zx ?_ | refine z8 ?_ | refine za ?_ | refine zn ?_ | refine zp ?_ | refine zq ?_ | refine zat ?_ | refine za8 ?_ | refine za7 ?_ | refine za3 ?_ | refine zae ?_ | refine zad ?_ | refine zej ?_ | refine zcj ?_))
    exact e_ret _ ⟨rfl, rfl⟩ (SubH.refl _)

theorem isBlank_tr (q i : Nat) (tx : List UInt8) (nl : Nat) (hl : tx.length ≤ 140737488355328) (hi : i ≤ tx.length) (b : Bool) (hb : b = decide (ltrim (tx.drop i) = [])) :
    TrD Tryz.prog 80 [lp q] [lnb q i tx nl] (.bool b) [lnb q i tx nl] := by
  refine Tr.start (n := 14) (rs := [.tmp 2]) rfl rfl rfl rfl fun B => ?_
  have hd : (tx.drop i).length ≤ 140737488355328 := by simp; omega
  subst hb
  (repeat' (first | refine Wp.draw_tail (id := 1) 8 Mixed.out (by kernel_rfl) ?_ | refine zo (ltrim_tr _ hd) ?_ | refine z7 ?_ | refine z6 ?_ | refine z2 ?_ | refine z1 ?_ | refine ze ?_ | refine za ?_ | refine zba ?_ | refine zdd ?_ | refine za8 ?_ | refine za7 ?_ | refine za3 ?_ | refine zae ?_ | refine zad ?_))
  exact e_ret _ ⟨rfl, rfl⟩ (SubH.refl _)

theorem trimSpaceString_tr (q i : Nat) (tx : List UInt8) (nl : Nat) (hl : tx.length ≤ 140737488355328) (hi : i ≤ tx.length) :
    TrD Tryz.prog 119 [lp q] [lnb q i tx nl] (str (ltrim (tx.drop i))) [lnb q i tx nl] := by
  refine Tr.start (n := 13) (rs := [.tmp 2]) rfl rfl rfl rfl fun B => ?_
  have hd : (tx.drop i).length ≤ 140737488355328 := by simp; omega
  (repeat' (first | refine Wp.draw_tail (id := 1) 8 Mixed.out (by kernel_rfl) ?_ | refine zo (ltrim_tr _ hd) ?_ | refine z7 ?_ | refine z6 ?_ | refine z2 ?_ | refine z1 ?_ | refine ze ?_ | refine za ?_ | refine zba ?_ | refine za8 ?_ | refine za7 ?_ | refine za3 ?_ | refine zae ?_ | refine zad ?_))
  exact e_ret _ ⟨rfl, rfl⟩ (SubH.refl _)

end Go.Proofs

namespace Go.Proofs
open Go Go.Eng
set_option maxRecDepth 20000
set_option maxHeartbeats 4000000

theorem tsOK_zero (i : Nat) (tx : List UInt8) (hi : Nat) (eol : Bool) : tsOK i tx 0 hi eol = true := by simp [tsOK]
theorem tsI_zero (i : Nat) (tx : List UInt8) (hi : Nat) (eol : Bool) : tsI i tx 0 hi eol = i + min (nsp (tx.drop i)) hi := by simp [tsI, tsOK_zero]
theorem nsp_drop : ∀ (l : List UInt8) (j : Nat), j ≤ nsp l → nsp (l.drop j) = nsp l - j
  | l, 0, _ => by simp
  | [], j + 1, h => by simp [nsp] at h
  | c :: l, j + 1, h => by
    simp only [nsp] at h ⊢
    split at h
    · rename_i hc
      simp only [List.drop_succ_cons, hc, if_true]
      rw [nsp_drop l j (by omega)]; omega
    · omega

abbrev lnv (i : Nat) (tx : List UInt8) (nl : Nat) : Value := .agg (lnc i tx nl).toArray

/-- The place behind up to three spaces. -/
def sp3 (i : Nat) (tx : List UInt8) : Nat := i + min (nsp (tx.drop i)) 3
theorem sp3_le {i : Nat} {tx : List UInt8} (h : i ≤ tx.length) : sp3 i tx ≤ tx.length := by
  have := nsp_le (tx.drop i); simp only [List.length_drop] at this; unfold sp3; omega
theorem at0_no {tx : List UInt8} {i c : Nat} (h : at0 tx i ≠ c) : false = decide (∃ d, tx[i]? = some d ∧ d.toNat = c) := by
  symm; refine decide_eq_false fun ⟨d, h1, h2⟩ => h ?_
  rw [at0_some h1]; exact h2
theorem trimQuote_no (i : Nat) (tx : List UInt8) (nl : Nat) (hnt : NoTab tx) (hl : tx.length ≤ 140737488355328) (hi : i ≤ tx.length) (hq : at0 tx (sp3 i tx) ≠ 62) :
    TrP Tryz.prog 149 [lnv i tx nl] (.tuple #[lnv i tx nl, .bool false]) := by
  refine Tr.start (n := 12) (rs := [.cell 2 122, .tmp 3]) rfl rfl rfl rfl fun B => ?_
  have hs := sp3_le hi
  have e : tsI i tx 0 3 false = sp3 i tx := tsI_zero _ _ _ _
  (repeat' (first | refine z7 ?_ | refine z6 ?_))
  refine zaf (fun r1 => ?_)
  refine zai (fun r2 => ?_)
  (repeat' (first | refine z7 ?_ | refine z6 ?_ | refine z2 ?_ | refine z1 ?_ | refine za ?_ | refine zak ?_))
  refine zai (fun r3 => ?_)
  (repeat' (first | refine za9 (trimSpace_tr r3 i tx nl 0 3 false hnt hi hl (by omega) (by omega)) ?_ | refine z7 ?_ | refine z6 ?_ | refine z2 ?_ | refine z1 ?_ | refine zaj ?_))
  rw [e, tsOK_zero]
  (repeat' (first | refine za9 (trim_tr r3 (sp3 i tx) tx nl 62 hl hs false (at0_no hq)) ?_ | refine z7 ?_ | refine z6 ?_ | refine z2 ?_ | refine z1 ?_ | refine zc ?_ | refine ze ?_ | refine zx ?_ | refine za ?_ | refine zam ?_ | refine zak ?_ | refine zaj ?_))
  exact e_pure ⟨rfl, rfl⟩

theorem newQuote_no (p : Value) (i : Nat) (tx : List UInt8) (nl : Nat) (hnt : NoTab tx) (hl : tx.length ≤ 140737488355328) (hi : i ≤ tx.length) (hq : at0 tx (sp3 i tx) ≠ 62) :
    TrP Tryz.prog 110 [p, lnv i tx nl] (.tuple #[lnv i tx nl, .bool false]) := by
  refine Tr.start (n := 20) (rs := [.cell 4 122, .tmp 5]) rfl rfl rfl rfl fun B => ?_
  (repeat' (first | refine z7 ?_ | refine z6 ?_))
  refine zaf (fun r1 => ?_)
  refine zai (fun r2 => ?_)
  (repeat' (first | refine zo (trimQuote_no i tx nl hnt hl hi hq) ?_ | refine z7 ?_ | refine z6 ?_ | refine z2 ?_ | refine z1 ?_ | refine z8 ?_ | refine za ?_ | refine za0 ?_ | refine zak ?_))
  refine zai (fun r3 => ?_)
  (repeat' (first | refine z7 ?_ | refine z6 ?_ | refine z2 ?_ | refine z1 ?_ | refine zb ?_ | refine zd ?_ | refine ze ?_ | refine z8 ?_ | refine za ?_ | refine zak ?_ | refine zaj ?_))
  exact e_pure ⟨rfl, rfl⟩

theorem trimHeading_no (q nq i : Nat) (nv : Value) (tx : List UInt8) (nl : Nat) (hnt : NoTab tx) (hl : tx.length ≤ 140737488355328) (hi : i ≤ tx.length) (hq : at0 tx (sp3 i tx) ≠ 35) :
    TrD Tryz.prog 150 [lp q, lp nq] [lnb q i tx nl, [(nq, cellsOf [nv] 3)]] (.bool false) [lnb q i tx nl, [(nq, cellsOf [nv] 3)]] := by
  refine Tr.start (n := 28) (rs := [.tmp 4]) rfl rfl rfl rfl fun B => ?_
  have hs := sp3_le hi
  have e : tsI i tx 0 3 false = sp3 i tx := tsI_zero _ _ _ _
  (repeat' (first | refine z7 ?_ | refine z6 ?_ | refine z2 ?_ | refine z1 ?_ | refine z8 ?_ | refine za ?_ | refine zq ?_ | refine zak ?_))
  refine zai (fun r => ?_)
  (repeat' (first | refine za9 (trimSpace_tr r i tx nl 0 3 false hnt hi hl (by omega) (by omega)) ?_ | refine z7 ?_ | refine z6 ?_ | refine z2 ?_ | refine z1 ?_ | refine zaj ?_))
  rw [e, tsOK_zero]
  (repeat' (first | refine za9 (trim_tr r (sp3 i tx) tx nl 35 hl hs false (at0_no hq)) ?_ | refine z7 ?_ | refine z6 ?_ | refine z2 ?_ | refine z1 ?_ | refine zc ?_ | refine ze ?_ | refine zx ?_ | refine za ?_ | refine zam ?_))
  exact e_ret _ ⟨rfl, rfl⟩ SubH.drop1

theorem newATX_no (p : Value) (i : Nat) (tx : List UInt8) (nl : Nat)
    (h : ∀ q nq nv, TrD Tryz.prog 150 [lp q, lp nq] [lnb q i tx nl, [(nq, cellsOf [nv] 3)]] (.bool false) [lnb q i tx nl, [(nq, cellsOf [nv] 3)]]) :
    TrP Tryz.prog 111 [p, lnv i tx nl] (.tuple #[lnv i tx nl, .bool false]) := by
  refine Tr.start (n := 82) (rs := [.cell 4 122, .tmp 5]) rfl rfl rfl rfl fun B => ?_
  (repeat' (first | refine z7 ?_ | refine z6 ?_))
  refine zaf (fun r1 => ?_)
  refine zai (fun r2 => ?_)
  (repeat' (first | refine z7 ?_ | refine z6 ?_ | refine z2 ?_ | refine z1 ?_ | refine za ?_ | refine zak ?_))
  refine zai (fun r3 => ?_)
  (repeat' (first | refine z7 ?_ | refine z6 ?_ | refine z2 ?_ | refine z1 ?_ | refine zaj ?_))
  refine zdf (fun r4 => ?_)
  (repeat' (first | refine za9 (h r3 r4 _) ?_ | refine z7 ?_ | refine z6 ?_ | refine z2 ?_ | refine z1 ?_ | refine zb ?_ | refine zd ?_ | refine ze ?_ | refine za ?_ | refine zak ?_ | refine zaj ?_))
  exact e_pure ⟨rfl, rfl⟩

theorem isHR_no (i : Nat) (tx : List UInt8) (nl : Nat) (hnt : NoTab tx) (hl : tx.length ≤ 140737488355328) (hi : i ≤ tx.length) (h1 : at0 tx (sp3 i tx) ≠ 45) (h2 : at0 tx (sp3 i tx) ≠ 95) (h3 : at0 tx (sp3 i tx) ≠ 42) :
    TrP Tryz.prog 162 [lnv i tx nl] (.bool false) := by
  refine Tr.start (n := 23) (rs := [.tmp 2]) rfl rfl rfl rfl fun B => ?_
  have hs := sp3_le hi
  have e : tsI i tx 0 3 false = sp3 i tx := tsI_zero _ _ _ _
  (repeat' (first | refine z7 ?_ | refine z6 ?_))
  refine zaf (fun r1 => ?_)
  (repeat' (first | refine z7 ?_ | refine z6 ?_ | refine z2 ?_ | refine z1 ?_ | refine za ?_ | refine zak ?_))
  refine zai (fun r2 => ?_)
  (repeat' (first | refine za9 (trimSpace_tr r2 i tx nl 0 3 false hnt hi hl (by omega) (by omega)) ?_ | refine z7 ?_ | refine z6 ?_ | refine z2 ?_ | refine z1 ?_ | refine zaj ?_))
  rw [e, tsOK_zero]
  (repeat' (first | refine za9 (peek_tr r2 (sp3 i tx) tx nl hl hs) ?_ | refine z7 ?_ | refine z6 ?_ | refine z2 ?_ | refine z1 ?_ | refine zb ?_ | refine zf ?_ | refine zd ?_ | refine zu ?_ | refine ze ?_ | refine z8 ?_ | refine za ?_ | refine zr ?_))
  exact e_pure ⟨rfl, rfl⟩

theorem newHR_no (p : Value) (i : Nat) (tx : List UInt8) (nl : Nat) (hnt : NoTab tx) (hl : tx.length ≤ 140737488355328) (hi : i ≤ tx.length) (h1 : at0 tx (sp3 i tx) ≠ 45) (h2 : at0 tx (sp3 i tx) ≠ 95) (h3 : at0 tx (sp3 i tx) ≠ 42) :
    TrP Tryz.prog 113 [p, lnv i tx nl] (.tuple #[lnv i tx nl, .bool false]) := by
  refine Tr.start (n := 25) (rs := [.cell 4 122, .tmp 5]) rfl rfl rfl rfl fun B => ?_
  (repeat' (first | refine z7 ?_ | refine z6 ?_))
  refine zaf (fun r1 => ?_)
  refine zai (fun r2 => ?_)
  (repeat' (first | refine zo (isHR_no i tx nl hnt hl hi h1 h2 h3) ?_ | refine z7 ?_ | refine z6 ?_ | refine z2 ?_ | refine z1 ?_ | refine zb ?_ | refine zd ?_ | refine ze ?_ | refine za ?_ | refine zak ?_ | refine zaj ?_))
  exact e_pure ⟨rfl, rfl⟩

theorem startHTML_no (p : Value) (q i : Nat) (tx : List UInt8) (nl : Nat) (hnt : NoTab tx) (hl : tx.length ≤ 140737488355328) (hi : i ≤ tx.length) (h1 : at0 tx (sp3 i tx) ≠ 60) :
    TrD Tryz.prog 165 [p, lp q] [lnb q i tx nl] (.bool false) [lnb q i tx nl] := by
  refine Tr.start (n := 368) (rs := [.tmp 4]) rfl rfl rfl rfl fun B => ?_
  have hs := sp3_le hi
  have e : tsI i tx 0 3 false = sp3 i tx := tsI_zero _ _ _ _
  (repeat' (first | refine z7 ?_ | refine z6 ?_ | refine z2 ?_ | refine z1 ?_ | refine zc9 ?_ | refine z8 ?_ | refine za ?_ | refine zq ?_ | refine zak ?_))
  refine zai (fun r2 => ?_)
  (repeat' (first | refine za9 (trimSpace_tr r2 i tx nl 0 3 false hnt hi hl (by omega) (by omega)) ?_ | refine z7 ?_ | refine z6 ?_ | refine z2 ?_ | refine z1 ?_ | refine zaj ?_))
  rw [e, tsOK_zero]
  (repeat' (first | refine za9 (peek_tr r2 (sp3 i tx) tx nl hl hs) ?_ | refine z7 ?_ | refine z6 ?_ | refine z2 ?_ | refine z1 ?_ | refine zc ?_ | refine ze ?_ | refine zx ?_ | refine zbq ?_ | refine za ?_ | refine zb2 ?_))
  exact e_ret _ ⟨rfl, rfl⟩ SubH.drop1

theorem newHTML_no (p : Value) (i : Nat) (tx : List UInt8) (nl : Nat) (hnt : NoTab tx) (hl : tx.length ≤ 140737488355328) (hi : i ≤ tx.length) (h1 : at0 tx (sp3 i tx) ≠ 60) :
    TrP Tryz.prog 115 [p, lnv i tx nl] (.tuple #[lnv i tx nl, .bool false]) := by
  refine Tr.start (n := 12) (rs := [.cell 4 122, .tmp 5]) rfl rfl rfl rfl fun B => ?_
  (repeat' (first | refine z7 ?_ | refine z6 ?_))
  refine zaf (fun r1 => ?_)
  refine zai (fun r2 => ?_)
  (repeat' (first | refine z7 ?_ | refine z6 ?_ | refine z2 ?_ | refine z1 ?_ | refine za ?_ | refine zak ?_))
  refine zai (fun r3 => ?_)
  (repeat' (first | refine za9 (startHTML_no _ r3 i tx nl hnt hl hi h1) ?_ | refine z7 ?_ | refine z6 ?_ | refine z2 ?_ | refine z1 ?_ | refine zb ?_ | refine zd ?_ | refine ze ?_ | refine z8 ?_ | refine za ?_ | refine zak ?_ | refine zaj ?_))
  exact e_pure ⟨rfl, rfl⟩
end Go.Proofs

namespace Go.Proofs
open Go Go.Eng
set_option maxRecDepth 20000
set_option maxHeartbeats 4000000

/-- What a state of the parser holds. -/
structure PS where
  par : Value
  root : Value
  links : Value
  lineno : Value
  stack : Value
  depth : Value
  corner : Value
  str : Value
  em : Value
  list : Value
  lists : Value
  texts : Value
  bt : List Value

abbrev PS.cells (s : PS) : List Value := s.par :: s.root :: s.links :: s.lineno :: s.stack :: s.depth :: s.corner :: s.str :: s.em :: s.list :: s.lists :: s.texts :: s.bt
abbrev PS.blk (s : PS) (p : Nat) : Blk := [(p, cellsOf s.cells 103)]
abbrev stk (g m cap : Nat) : Value := .slice (some ⟨g, 0, none⟩) m cap
abbrev stb (g : Nat) (cs : List Value) : Blk := [(g, cellsOf cs 178)]
abbrev inat (k : Nat) : Value := .int .i64 (k : Int)

theorem para_no (p g m cap : Nat) (s : PS) (cs : List Value) (t : Nat) (u : Value) (hm : 1 ≤ m) (hm2 : m ≤ 140737488355328) (hb : cs[0 + (m - 1) * 4 + 0]? = some (.iface t u)) (ht : Nat.beq t 223 = false) (hs : s.stack = stk g m cap) :
    TrD Tryz.prog 118 [lp p] [s.blk p, stb g cs] (.pointer none) [s.blk p, stb g cs] := by
  obtain ⟨par, root, links, lineno, stack, depth, corner, str, em, list, lists, texts, bt⟩ := s
  subst hs
  refine Tr.start (n := 24) (rs := [.tmp 2]) rfl rfl rfl rfl fun B => ?_
  (repeat' (first | refine Wp.draw_all (id := 1) Mixed.out (by kernel_rfl) ?_ | refine zfj (hne := ht) ?_ | refine za3 (hc := hb) ?_ | refine z7 ?_ | refine z6 ?_ | refine z2 ?_ | refine z1 ?_ | refine zb ?_ | refine zd ?_ | refine ze ?_ | refine z8 ?_ | refine za ?_ | refine za8 ?_ | refine za7 ?_ | refine zbg ?_ | refine za3 ?_ | refine zae ?_ | refine zad ?_ | refine zc7 ?_ | refine zb5 ?_ | refine zen ?_ | refine zb9 ?_))
  exact e_ret _ ⟨rfl, rfl⟩ (SubH.refl _)

theorem para_yes (p g m cap : Nat) (s : PS) (cs : List Value) (u : Value) (hm : 1 ≤ m) (hm2 : m ≤ 140737488355328) (hb : cs[0 + (m - 1) * 4 + 0]? = some (.iface 223 u)) (hs : s.stack = stk g m cap) :
    TrD Tryz.prog 118 [lp p] [s.blk p, stb g cs] u [s.blk p, stb g cs] := by
  obtain ⟨par, root, links, lineno, stack, depth, corner, str, em, list, lists, texts, bt⟩ := s
  subst hs
  refine Tr.start (n := 24) (rs := [.tmp 2]) rfl rfl rfl rfl fun B => ?_
  (repeat' (first | refine Wp.draw_all (id := 1) Mixed.out (by kernel_rfl) ?_ | refine za3 (hc := hb) ?_ | refine z7 ?_ | refine z6 ?_ | refine z2 ?_ | refine z1 ?_ | refine zc ?_ | refine ze ?_ | refine zx ?_ | refine z8 ?_ | refine za ?_ | refine za8 ?_ | refine za7 ?_ | refine zbg ?_ | refine za3 ?_ | refine zae ?_ | refine zad ?_ | refine zc7 ?_ | refine zb5 ?_ | refine zen ?_ | refine zb9 ?_ | refine zg1 ?_))
  exact e_ret _ ⟨rfl, rfl⟩ (SubH.refl _)

theorem nextB_no (p g m cap d : Nat) (s : PS) (cs : List Value) (hm : m ≤ d + 1) (hm2 : d ≤ 140737488355328) (hs : s.stack = stk g m cap) (hd : s.depth = inat d) :
    TrD Tryz.prog 158 [lp p] [s.blk p, stb g cs] .nilIface [s.blk p, stb g cs] := by
  obtain ⟨par, root, links, lineno, stack, depth, corner, str, em, list, lists, texts, bt⟩ := s
  subst hs; subst hd
  refine Tr.start (n := 26) (rs := [.tmp 2]) rfl rfl rfl rfl fun B => ?_
  (repeat' (first | refine Wp.draw_all (id := 1) Mixed.out (by kernel_rfl) ?_ | refine z7 ?_ | refine z6 ?_ | refine z2 ?_ | refine z1 ?_ | refine zb ?_ | refine zd ?_ | refine ze ?_ | refine za ?_ | refine za8 ?_ | refine za7 ?_ | refine za3 ?_ | refine zae ?_ | refine zad ?_ | refine zcg ?_ | refine zdm ?_ | refine zb5 ?_))
  exact e_ret _ ⟨rfl, rfl⟩ (SubH.refl _)

theorem nextB_yes (p g m cap d : Nat) (s : PS) (cs : List Value) (b : Value) (hm : d + 1 < m) (hm2 : m ≤ 140737488355328) (hb : cs[0 + (d + 1) * 4 + 0]? = some b) (hs : s.stack = stk g m cap) (hd : s.depth = inat d) :
    TrD Tryz.prog 158 [lp p] [s.blk p, stb g cs] b [s.blk p, stb g cs] := by
  obtain ⟨par, root, links, lineno, stack, depth, corner, str, em, list, lists, texts, bt⟩ := s
  subst hs; subst hd
  refine Tr.start (n := 26) (rs := [.tmp 2]) rfl rfl rfl rfl fun B => ?_
  (repeat' (first | refine Wp.draw_all (id := 1) Mixed.out (by kernel_rfl) ?_ | refine Wp.draw_all (id := 2) Mixed.out (by kernel_rfl) ?_ | refine za3 (hc := hb) ?_ | refine z7 ?_ | refine z6 ?_ | refine z2 ?_ | refine z1 ?_ | refine zc ?_ | refine ze ?_ | refine zx ?_ | refine za ?_ | refine za8 ?_ | refine za7 ?_ | refine zbg ?_ | refine za3 ?_ | refine zae ?_ | refine zad ?_ | refine zcg ?_ | refine zcy ?_ | refine zb5 ?_ | refine zb9 ?_))
  exact e_ret _ ⟨rfl, rfl⟩ (SubH.refl _)

theorem curB_yes (p g m cap d : Nat) (s : PS) (cs : List Value) (b : Value) (hm : d < m) (_hm2 : m ≤ 140737488355328) (hb : cs[0 + d * 4 + 0]? = some b) (hs : s.stack = stk g m cap) (hd : s.depth = inat d) :
    TrD Tryz.prog 163 [lp p] [s.blk p, stb g cs] b [s.blk p, stb g cs] := by
  obtain ⟨par, root, links, lineno, stack, depth, corner, str, em, list, lists, texts, bt⟩ := s
  subst hs; subst hd
  refine Tr.start (n := 24) (rs := [.tmp 2]) rfl rfl rfl rfl fun B => ?_
  (repeat' (first | refine Wp.draw_all (id := 1) Mixed.out (by kernel_rfl) ?_ | refine Wp.draw_all (id := 2) Mixed.out (by kernel_rfl) ?_ | refine za3 (hc := hb) ?_ | refine z7 ?_ | refine z6 ?_ | refine z2 ?_ | refine z1 ?_ | refine zc ?_ | refine ze ?_ | refine zx ?_ | refine za ?_ | refine za8 ?_ | refine za7 ?_ | refine zbg ?_ | refine za3 ?_ | refine zae ?_ | refine zad ?_ | refine zcy ?_ | refine zb5 ?_ | refine zb9 ?_))
  exact e_ret _ ⟨rfl, rfl⟩ (SubH.refl _)

theorem trimSpace0_tr (q i : Nat) (tx : List UInt8) (nl : Nat) (hnt : NoTab tx) (hl : tx.length ≤ 140737488355328) (hi : i ≤ tx.length) :
    TrD Tryz.prog 167 [lp q, .int .i64 0, .int .i64 3, .bool false] [lnb q i tx nl] (.bool true) [lnb q (sp3 i tx) tx nl] := by
  have e : tsI i tx 0 3 false = sp3 i tx := tsI_zero _ _ _ _
  have h := trimSpace_tr q i tx nl 0 3 false hnt hi hl (by omega) (by omega)
  rw [e, tsOK_zero] at h
  exact h

theorem trimSetext_no (q nq i : Nat) (nv : Value) (tx : List UInt8) (nl : Nat) (hnt : NoTab tx) (hl : tx.length ≤ 140737488355328) (hi : i ≤ tx.length) (h1 : at0 tx (sp3 i tx) ≠ 45) (h2 : at0 tx (sp3 i tx) ≠ 61) :
    TrD Tryz.prog 159 [lp q, lp nq] [lnb q i tx nl, [(nq, cellsOf [nv] 3)]] (.bool false) [lnb q i tx nl, [(nq, cellsOf [nv] 3)]] := by
  refine Tr.start (n := 28) (rs := [.tmp 4]) rfl rfl rfl rfl fun B => ?_
  have hs := sp3_le hi
  (repeat' (first | refine za9 (trimSpace0_tr _ i tx nl hnt hl hi) ?_ | refine za9 (peek_tr _ (sp3 i tx) tx nl hl hs) ?_ | refine z7 ?_ | refine z6 ?_ | refine z2 ?_ | refine z1 ?_ | refine zb ?_ | refine zd ?_ | refine ze ?_ | refine zh ?_ | refine z8 ?_ | refine za ?_ | refine zq ?_ | refine zr ?_ | refine zk ?_ | refine zak ?_ | refine zaj ?_ | refine zai (fun _ => ?_)))
  exact e_ret _ ⟨rfl, rfl⟩ SubH.drop1

theorem setext_no1 (p g m cap d : Nat) (s : PS) (cs : List Value) (t : Nat) (u : Value) (i : Nat) (tx : List UInt8) (nl : Nat) (hm : 1 ≤ m) (hmd : m ≤ d + 1) (hm2 : d ≤ 14073748835532) (hb : cs[0 + (m - 1) * 4 + 0]? = some (.iface t u)) (ht : Nat.beq t 223 = false) (hs : s.stack = stk g m cap) (hd : s.depth = inat d) :
    TrD Tryz.prog 112 [lp p, lnv i tx nl] [s.blk p, stb g cs] (.tuple #[lnv i tx nl, .bool false]) [s.blk p, stb g cs] := by
  refine Tr.start (n := 55) (rs := [.cell 4 122, .tmp 5]) rfl rfl rfl rfl fun B => ?_
  (repeat' (first | refine za9 (nextB_no p g m cap d s cs hmd (by omega) hs hd) ?_ | refine za9 (para_no p g m cap s cs t u hm (by omega) hb ht hs) ?_ | refine z7 ?_ | refine z6 ?_ | refine z2 ?_ | refine z1 ?_ | refine zb ?_ | refine zd ?_ | refine ze ?_ | refine za2 ?_ | refine z8 ?_ | refine za ?_ | refine zk ?_ | refine zan ?_ | refine zge ?_ | refine zak ?_ | refine zaj ?_ | refine zai (fun _ => ?_) | refine zdf (fun _ => ?_) | refine zaf (fun _ => ?_)))
  exact e_ret _ ⟨rfl, rfl⟩ sA

theorem setext_no2 (p g m cap d : Nat) (s : PS) (cs : List Value) (pb : Nat) (i : Nat) (tx : List UInt8) (nl : Nat) (hnt : NoTab tx) (hl : tx.length ≤ 140737488355328) (hi : i ≤ tx.length) (h1 : at0 tx (sp3 i tx) ≠ 45) (h2 : at0 tx (sp3 i tx) ≠ 61)
    (hmd : d + 1 < m) (hm2 : m ≤ 14073748835532) (hb : cs[0 + (m - 1) * 4 + 0]? = some (.iface 223 (lp pb))) (hb' : cs[0 + (d + 1) * 4 + 0]? = some (.iface 223 (lp pb))) (hs : s.stack = stk g m cap) (hd : s.depth = inat d) :
    TrD Tryz.prog 112 [lp p, lnv i tx nl] [s.blk p, stb g cs] (.tuple #[lnv i tx nl, .bool false]) [s.blk p, stb g cs] := by
  refine Tr.start (n := 55) (rs := [.cell 4 122, .tmp 5]) rfl rfl rfl rfl fun B => ?_
  (repeat' (first | refine za9 (nextB_yes p g m cap d s cs _ hmd (by omega) hb' hs hd) ?_ | refine za9 (para_yes p g m cap s cs _ (by omega) (by omega) hb hs) ?_ | refine za9 (trimSetext_no _ _ i _ tx nl hnt hl hi h1 h2) ?_ | refine z7 ?_ | refine z6 ?_ | refine z2 ?_ | refine z1 ?_ | refine zb ?_ | refine zd ?_ | refine ze ?_ | refine zh ?_ | refine z8 ?_ | refine za ?_ | refine zj ?_ | refine zan ?_ | refine zgd ?_ | refine zak ?_ | refine zaj ?_ | refine zai (fun _ => ?_) | refine zdf (fun _ => ?_) | refine zaf (fun _ => ?_)))
  exact e_ret _ ⟨rfl, rfl⟩ sA

theorem pre_no1 (p g m cap : Nat) (s : PS) (cs : List Value) (t : Nat) (u : Value) (i : Nat) (tx : List UInt8) (nl : Nat) (hm : 1 ≤ m) (hm2 : m ≤ 14073748835532) (hb : cs[0 + (m - 1) * 4 + 0]? = some (.iface t u)) (ht : Nat.beq t 223 = false) (hs : s.stack = stk g m cap)
    (hnt : NoTab tx) (hl : tx.length ≤ 140737488355328) (hi : i ≤ tx.length) (hsp : nsp (tx.drop i) < 4) :
    TrD Tryz.prog 117 [lp p, lnv i tx nl] [s.blk p, stb g cs] (.tuple #[lnv i tx nl, .bool false]) [s.blk p, stb g cs] := by
  have e1 : tsOK i tx 4 4 false = false := by simp [tsOK]; omega
  have e2 : tsI i tx 4 4 false = i := by simp [tsI, e1]
  have h := fun q => trimSpace_tr q i tx nl 4 4 false hnt hi hl (by omega) (by omega)
  rw [e1, e2] at h
  refine Tr.start (n := 49) (rs := [.cell 4 122, .tmp 5]) rfl rfl rfl rfl fun B => ?_
  (repeat' (first | refine za9 (para_no p g m cap s cs t u hm (by omega) hb ht hs) ?_ | refine za9 (h _) ?_ | refine z7 ?_ | refine z6 ?_ | refine z2 ?_ | refine z1 ?_ | refine zb ?_ | refine zd ?_ | refine ze ?_ | refine zh ?_ | refine za2 ?_ | refine z8 ?_ | refine za ?_ | refine zj ?_ | refine zk ?_ | refine zep ?_ | refine zak ?_ | refine zaj ?_ | refine zai (fun _ => ?_) | refine zaf (fun _ => ?_)))
  exact e_ret _ ⟨rfl, rfl⟩ sA

theorem pre_no2 (p g m cap : Nat) (s : PS) (cs : List Value) (pb : Nat) (i : Nat) (tx : List UInt8) (nl : Nat) (hm : 1 ≤ m) (hm2 : m ≤ 14073748835532) (hb : cs[0 + (m - 1) * 4 + 0]? = some (.iface 223 (lp pb))) (hs : s.stack = stk g m cap) :
    TrD Tryz.prog 117 [lp p, lnv i tx nl] [s.blk p, stb g cs] (.tuple #[lnv i tx nl, .bool false]) [s.blk p, stb g cs] := by
  refine Tr.start (n := 49) (rs := [.cell 4 122, .tmp 5]) rfl rfl rfl rfl fun B => ?_
  (repeat' (first | refine za9 (para_yes p g m cap s cs _ hm (by omega) hb hs) ?_ | refine z7 ?_ | refine z6 ?_ | refine z2 ?_ | refine z1 ?_ | refine zb ?_ | refine zd ?_ | refine ze ?_ | refine za2 ?_ | refine z8 ?_ | refine za ?_ | refine zk ?_ | refine zdc ?_ | refine zak ?_ | refine zaj ?_ | refine zai (fun _ => ?_) | refine zaf (fun _ => ?_)))
  trace_state
  exact e_ret _ ⟨rfl, rfl⟩ sA
end Go.Proofs

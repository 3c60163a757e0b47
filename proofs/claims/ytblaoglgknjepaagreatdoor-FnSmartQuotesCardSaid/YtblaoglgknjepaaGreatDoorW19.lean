/- Texts as literal and escaped characters, and the inlines that they make: plain facts on lists. -/
import Derived.Test.YtblaoglgknjepaaGreatDoorW18
import Derived.Test.YtblaoglgknjepaaGreatDoorEngB
namespace Go.Proofs
open Go Go.Eng
set_option maxRecDepth 20000
set_option maxHeartbeats 4000000

/-- A literal byte, or one behind a backslash. -/
inductive Tok where
  | lit (c : UInt8)
  | esc (c : UInt8)
  | nl
def Tok.bytes : Tok → List UInt8
  | .lit c => [c]
  | .esc c => [92, c]
  | .nl => [10]
abbrev bytesOf (l : List Tok) : List UInt8 := l.flatMap Tok.bytes
/-- A byte that begins no inline. -/
abbrev quiet (c : UInt8) : Prop := c.toNat ≠ 92 ∧ c.toNat ≠ 96 ∧ c.toNat ≠ 60 ∧ c.toNat ≠ 91 ∧ c.toNat ≠ 33 ∧ c.toNat ≠ 95 ∧ c.toNat ≠ 42 ∧ c.toNat ≠ 46 ∧ c.toNat ≠ 45 ∧ c.toNat ≠ 34 ∧ c.toNat ≠ 39 ∧ c.toNat ≠ 126 ∧ c.toNat ≠ 10 ∧ c.toNat ≠ 38 ∧ c.toNat ≠ 58 ∧ c.toNat ≠ 93
def Tok.ok : Tok → Prop
  | .lit c => quiet c
  | .esc c => punct c
  | .nl => True
/-- Inlines so far, and the text that is not yet an inline. -/
def Tok.step (st : List Itm × List UInt8) : Tok → List Itm × List UInt8
  | .lit c => (st.1, st.2 ++ [c])
  | .esc c => ((if st.2 = [] then st.1 else st.1 ++ [.plain st.2]) ++ [.esc [c]], [])
  | .nl => ((if st.2 = [] then st.1 else st.1 ++ [.plain st.2]) ++ [.brk], [])
abbrev stOf (l : List Tok) : List Itm × List UInt8 := l.foldl Tok.step ([], [])
theorem stOf_snoc (l : List Tok) (t : Tok) : stOf (l ++ [t]) = Tok.step (stOf l) t := by simp [stOf, Tok.step]
def itemsOf (l : List Tok) : List Itm := if (stOf l).2 = [] then (stOf l).1 else (stOf l).1 ++ [.plain (stOf l).2]

theorem at_lit (d r : List Tok) (c : UInt8) : (bytesOf (d ++ .lit c :: r))[(bytesOf d).length]? = some c := by
  simp [bytesOf, Tok.bytes]
theorem at_esc (d r : List Tok) (c : UInt8) : (bytesOf (d ++ .esc c :: r))[(bytesOf d).length]? = some 92 := by
  simp [bytesOf, Tok.bytes]
theorem at_nl (d r : List Tok) : (bytesOf (d ++ .nl :: r))[(bytesOf d).length]? = some 10 := by
  simp [bytesOf, Tok.bytes]
theorem at_esc1 (d r : List Tok) (c : UInt8) : (bytesOf (d ++ .esc c :: r))[(bytesOf d).length + 1]? = some c := by
  simp [bytesOf, Tok.bytes]

def Itm.isPlain : Itm → Bool
  | .plain _ => true
  | .esc _ => false
  | .brk => false
/-- No two texts side by side. -/
def NoAdj (l : List Itm) : Prop := ∀ (j : Nat) (x y : Itm), l[j]? = some x → l[j + 1]? = some y → x.isPlain = true → y.isPlain = false
def LastEsc (l : List Itm) : Prop := ∀ x, l.getLast? = some x → x.isPlain = false
theorem NoAdj.other {l : List Itm} (h : NoAdj l) (z : Itm) (hz : z.isPlain = false) : NoAdj (l ++ [z]) := by
  intro j x y hx hy hp
  by_cases hlt : j + 1 < l.length
  · rw [List.getElem?_append_left (by omega)] at hx
    rw [List.getElem?_append_left hlt] at hy
    exact h j x y hx hy hp
  · rw [List.getElem?_append_right (by omega)] at hy
    cases hk : j + 1 - l.length with
    | zero => rw [hk] at hy; simp at hy; subst hy; exact hz
    | succ m => rw [hk] at hy; simp at hy
theorem NoAdj.plain {l : List Itm} (h : NoAdj l) (hl : LastEsc l) (t : List UInt8) : NoAdj (l ++ [.plain t]) := by
  intro j x y hx hy hp
  by_cases hlt : j + 1 < l.length
  · rw [List.getElem?_append_left (by omega)] at hx
    rw [List.getElem?_append_left hlt] at hy
    exact h j x y hx hy hp
  · rw [List.getElem?_append_right (by omega)] at hy
    cases hk : j + 1 - l.length with
    | zero =>
      rw [List.getElem?_append_left (by omega)] at hx
      have := hl x (by rw [List.getLast?_eq_getElem?]; rw [show l.length - 1 = j by omega]; exact hx)
      rw [this] at hp; cases hp
    | succ m => rw [hk] at hy; simp at hy
theorem LastEsc.other (l : List Itm) (z : Itm) (hz : z.isPlain = false) : LastEsc (l ++ [z]) := by
  intro x hx; simp at hx; subst hx; exact hz
theorem st_ok (l : List Tok) : NoAdj (stOf l).1 ∧ LastEsc (stOf l).1 := by
  have key : ∀ (l : List Tok) (st : List Itm × List UInt8), NoAdj st.1 ∧ LastEsc st.1 → NoAdj (l.foldl Tok.step st).1 ∧ LastEsc (l.foldl Tok.step st).1 := by
    intro l
    induction l with
    | nil => intro st h; exact h
    | cons t l ih =>
      intro st h
      refine ih _ ?_
      cases t with
      | lit c => exact h
      | esc c =>
        simp only [Tok.step]
        refine ⟨?_, LastEsc.other _ _ rfl⟩
        split
        · exact h.1.other _ rfl
        · exact (h.1.plain h.2 _).other _ rfl
      | nl =>
        simp only [Tok.step]
        refine ⟨?_, LastEsc.other _ _ rfl⟩
        split
        · exact h.1.other _ rfl
        · exact (h.1.plain h.2 _).other _ rfl
  exact key l ([], []) ⟨fun j x y hx => by simp at hx, fun x hx => by simp at hx⟩
theorem items_ok (l : List Tok) : NoAdj (itemsOf l) := by
  have h := st_ok l
  unfold itemsOf
  split
  · exact h.1
  · exact h.1.plain h.2 _
theorem items_ne (l : List Tok) (hl : l ≠ []) : itemsOf l ≠ [] := by
  rcases List.eq_nil_or_concat l with h | ⟨d, t, h⟩
  · exact absurd h hl
  · subst h
    rw [List.concat_eq_append]
    unfold itemsOf
    rw [stOf_snoc]
    cases t with
    | lit c => simp [Tok.step]
    | esc c => simp [Tok.step]
    | nl => simp [Tok.step]
end Go.Proofs

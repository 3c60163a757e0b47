/- Texts of escaped characters and lines of them meet the conditions of a paragraph: plain facts on lists. -/
import Derived.Test.YtoponhlghkdbmaaGreatDoorL1
namespace Go.Proofs
open Go Go.Eng
set_option maxRecDepth 20000
set_option maxHeartbeats 4000000

theorem isBl_no {c : UInt8} (h : 33 ≤ c.toNat) : isBl c = false := by
  have h32 : ((32 : UInt8).toNat) = 32 := rfl
  have h9 : ((9 : UInt8).toNat) = 9 := rfl
  have h10 : ((10 : UInt8).toNat) = 10 := rfl
  cases hb : isBl c with
  | false => rfl
  | true =>
    exfalso
    simp [isBl] at hb
    omega

theorem at0_cons (c : UInt8) (l : List UInt8) : at0 (c :: l) 0 = c.toNat := rfl
theorem at0_mem {l : List UInt8} {j n : Nat} (h : at0 l j = n) (hn : n ≠ 0) : ∃ c, l[j]? = some c ∧ c.toNat = n := by
  unfold at0 at h
  split at h
  · rename_i c hc; exact ⟨c, hc, h⟩
  · omega

/-- A line of printable characters, of which neither the first nor the last one is a space, and that begins nothing. -/
theorem pl_of (l : List UInt8) (hlen : l.length ≤ 100000) (hA : ∀ c ∈ l, 32 ≤ c.toNat ∧ c.toNat ≤ 126)
    (a : UInt8) (r : List UInt8) (hc : l = a :: r) (ha : 33 ≤ a.toNat)
    (h1 : a.toNat ≠ 62) (h2 : a.toNat ≠ 45) (h3 : a.toNat ≠ 95) (h4 : a.toNat ≠ 42) (h5 : a.toNat ≠ 60) (h6 : a.toNat ≠ 96) (h7 : a.toNat ≠ 126) (h8 : a.toNat ≠ 61)
    (hx : ∀ nl q nq nv, TrD Tryz.prog 104 [lp q, lp nq] [lnb q 0 l nl, [(nq, cellsOf [nv] 3)]] (.bool false) [lnb q 0 l nl, [(nq, cellsOf [nv] 3)]])
    (hi : noItem l) : PL l := by
  have ea : at0 l 0 = a.toNat := by rw [hc]; rfl
  have en : nsp l = 0 := by rw [hc]; simp only [nsp]; rw [if_neg (by omega)]
  have es : sp3 0 l = 0 := by simp [sp3, en]
  have el : ltrim l = l := by
    rw [hc]; unfold ltrim; rw [List.dropWhile_cons_of_neg (by rw [isBl_no ha]; simp)]
  have n9 : ∀ c ∈ l, c.toNat ≠ 9 := fun c h => by have := hA c h; omega
  have hno : ∀ k : UInt8, k.toNat < 32 → ∀ d ∈ l, d ≠ k := fun k hk d hd e => by subst e; have := hA d hd; omega
  refine ⟨?_, el, fun d hd => ⟨hno 10 (by decide) d hd, hno 13 (by decide) d hd, hno 0 (by decide) d hd⟩⟩
  refine ⟨n9, by omega, Nat.zero_le _, ?_, ?_, ?_, hx, ?_, ?_, ?_, ?_, ?_, ?_, ?_, ?_⟩
  · rw [List.drop_zero, el, hc]; simp
  · rw [List.drop_zero, en]; omega
  all_goals first | (rw [es, ea]; omega) | (rw [es, List.drop_zero]; exact hi)
theorem rtrim_last (l : List UInt8) (b : UInt8) (hb : l.getLast? = some b) (h : 33 ≤ b.toNat) : rtrim l = l := by
  unfold rtrim
  have hr : l.reverse = b :: l.reverse.tail := by
    have : l.reverse.head? = some b := by rw [List.head?_reverse]; exact hb
    cases h : l.reverse with
    | nil => rw [h] at this; cases this
    | cons x y => rw [h] at this; simp at this; subst this; rfl
  rw [hr, List.dropWhile_cons_of_neg (by rw [isBl_no h]; simp), ← hr, List.reverse_reverse]

/-! Texts with a backslash ahead of each punctuation character. -/
abbrev tokB (c : UInt8) : Tok := if isP c then .esc c else .lit c
abbrev slashT (s : List UInt8) : List Tok := s.map tokB
theorem slashT_bytes (s : List UInt8) : bytesOf (slashT s) = slash s := by
  induction s with
  | nil => rfl
  | cons c s ih =>
    simp only [slashT, bytesOf, List.map_cons, List.flatMap_cons, slash] at ih ⊢
    rw [ih]
    congr 1
    unfold tokB slashB
    split <;> rfl
theorem slashT_char (s : List UInt8) : (slashT s).map Tok.char = s := by
  induction s with
  | nil => rfl
  | cons c s ih =>
    simp only [slashT, List.map_cons] at ih ⊢
    rw [ih]
    congr 1
    unfold tokB
    split <;> rfl
theorem isP_iff (c : UInt8) : isP c = true ↔ punct c := by simp [isP, punct]
theorem slashT_ok (s : List UInt8) (hA : ∀ c ∈ s, 32 ≤ c.toNat ∧ c.toNat ≤ 126) : ∀ t ∈ slashT s, t.ok := by
  intro t ht
  obtain ⟨c, hc, rfl⟩ := List.mem_map.1 ht
  have := hA c hc
  unfold tokB
  split
  · rename_i h; exact (isP_iff c).1 h
  · rename_i h
    have h' : ¬ punct c := fun hp => h ((isP_iff c).2 hp)
    unfold punct at h'
    show quiet c
    unfold quiet
    omega
theorem slash_ascii (s : List UInt8) (hA : ∀ c ∈ s, 32 ≤ c.toNat ∧ c.toNat ≤ 126) : ∀ c ∈ slash s, 32 ≤ c.toNat ∧ c.toNat ≤ 126 := by
  intro c hc
  obtain ⟨d, hd, h⟩ := List.mem_flatMap.1 hc
  have h92 : ((92 : UInt8).toNat) = 92 := rfl
  have := hA d hd
  unfold slashB at h
  split at h
  · simp at h
    rcases h with rfl | rfl
    · omega
    · exact this
  · simp at h; subst h; exact this
/-- The last byte is the last character. -/
theorem slash_last (s : List UInt8) (hne : s ≠ []) : (slash s).getLast? = s.getLast? := by
  obtain ⟨l, c, rfl⟩ : ∃ l c, s = l ++ [c] := ⟨_, _, (List.dropLast_concat_getLast hne).symm⟩
  have : slash (l ++ [c]) = slash l ++ slashB c := by simp [slash]
  rw [this]
  unfold slashB
  split <;> simp


/-! Lines of such texts. -/
def toksOf : List (List UInt8) → List Tok
  | [] => []
  | [a] => slashT a
  | a :: b :: r => slashT a ++ .nl :: toksOf (b :: r)
theorem toksOf_bytes : ∀ ss : List (List UInt8), bytesOf (toksOf ss) = jn (ss.map slash)
  | [] => rfl
  | [a] => by rw [toksOf, slashT_bytes]; exact (jn_one _).symm
  | a :: b :: r => by
    have ih := toksOf_bytes (b :: r)
    have e1 : bytesOf (slashT a ++ .nl :: toksOf (b :: r)) = bytesOf (slashT a) ++ 10 :: bytesOf (toksOf (b :: r)) := by
      simp only [bytesOf, List.flatMap_append, List.flatMap_cons]; rfl
    rw [toksOf, e1, slashT_bytes, ih]
    exact (jn_cons (slash a) (slash b) (r.map slash)).symm
theorem toksOf_char : ∀ ss : List (List UInt8), (toksOf ss).map Tok.char = jn ss
  | [] => rfl
  | [a] => by rw [toksOf, slashT_char]; exact (jn_one _).symm
  | a :: b :: r => by
    rw [toksOf, List.map_append, List.map_cons, slashT_char, toksOf_char (b :: r), jn_cons]; rfl
theorem toksOf_ok : ∀ ss : List (List UInt8), (∀ s ∈ ss, ∀ c ∈ s, 32 ≤ c.toNat ∧ c.toNat ≤ 126) → ∀ t ∈ toksOf ss, t.ok
  | [], _, t, ht => by cases ht
  | [a], h, t, ht => slashT_ok a (h a (by simp)) t ht
  | a :: b :: r, h, t, ht => by
    rcases List.mem_append.1 ht with ht | ht
    · exact slashT_ok a (h a (by simp)) t ht
    · rcases List.mem_cons.1 ht with rfl | ht
      · exact trivial
      · exact toksOf_ok (b :: r) (fun s hs => h s (List.mem_cons_of_mem _ hs)) t ht
theorem toksOf_len : ∀ (ss : List (List UInt8)), (∀ s ∈ ss, s.length ≤ 200) → (toksOf ss).length ≤ 201 * ss.length
  | [], _ => by simp [toksOf]
  | [a], h => by have := h a (by simp); simp [toksOf, slashT]; omega
  | a :: b :: r, h => by
    have ih := toksOf_len (b :: r) (fun s hs => h s (List.mem_cons_of_mem _ hs))
    have := h a (by simp)
    simp only [toksOf, List.length_append, List.length_cons, slashT, List.length_map] at ih ⊢
    omega

/-- What stands beside a line feed. -/
def Beside (T : List UInt8) : Prop := ∀ u w, T = u ++ 10 :: w → (∀ c, u.getLast? = some c → ¬ c.toNat = 32 ∧ ¬ c.toNat = 9) ∧ (∀ c, w.head? = some c → ¬ c.toNat = 32 ∧ ¬ c.toNat = 9)
/-- A line's ends. -/
structure Ends (l : List UInt8) : Prop where
  n10 : ∀ d ∈ l, d ≠ 10
  hd : ∃ c r, l = c :: r ∧ ¬ c.toNat = 32 ∧ ¬ c.toNat = 9
  lst : ∀ c, l.getLast? = some c → ¬ c.toNat = 32 ∧ ¬ c.toNat = 9
theorem jn_head (a : List UInt8) (r : List (List UInt8)) (c : UInt8) (t : List UInt8) (h : a = c :: t) : ∃ t', jn (a :: r) = c :: t' := by
  subst h
  cases r with
  | nil => exact ⟨t, jn_one _⟩
  | cons b r => rw [jn_cons]; exact ⟨_, rfl⟩
theorem beside_jn : ∀ (ls : List (List UInt8)), (∀ l ∈ ls, Ends l) → Beside (jn ls)
  | [], _, u, w, h => by simp [jn, Lib.join_nil] at h
  | [a], hE, u, w, h => by
    rw [jn_one] at h
    exact absurd rfl ((hE a (by simp)).n10 10 (by rw [h]; simp))
  | a :: b :: r, hE, u, w, h => by
    have ha := hE a (by simp)
    have hb := hE b (by simp)
    have ih := beside_jn (b :: r) (fun l hl => hE l (List.mem_cons_of_mem _ hl))
    obtain ⟨c0, t0, hb1, hb2, hb3⟩ := hb.hd
    obtain ⟨t', ht'⟩ := jn_head b r c0 t0 hb1
    rw [jn_cons] at h
    have hlast : ∀ c, (jn (b :: r)).head? = some c → ¬ c.toNat = 32 ∧ ¬ c.toNat = 9 := by
      intro c hc
      rw [ht'] at hc
      simp at hc
      subst hc
      exact ⟨hb2, hb3⟩
    rcases List.append_eq_append_iff.1 h with ⟨x, h1, h2⟩ | ⟨x, h1, h2⟩
    · -- u = a ++ x
      cases x with
      | nil =>
        simp at h1 h2
        subst h1
        rw [← h2]
        exact ⟨ha.lst, hlast⟩
      | cons y x =>
        simp only [List.cons_append, List.cons.injEq] at h2
        obtain ⟨rfl, h2⟩ := h2
        obtain ⟨i1, i2⟩ := ih x w h2
        refine ⟨fun c hc => ?_, i2⟩
        cases x with
        | nil =>
          rw [ht'] at h2
          simp at h2
          have := hb.n10 c0 (by rw [hb1]; simp)
          exact absurd h2.1 this
        | cons z x =>
          refine i1 c ?_
          rw [h1] at hc
          simp only [List.getLast?_append, List.getLast?_cons_cons] at hc
          have : ((z :: x).getLast?).isSome = true := by simp
          cases hg : (z :: x).getLast? with
          | none => rw [hg] at this; cases this
          | some q => rw [hg] at hc; simpa using hc
    · cases x with
      | nil =>
        simp at h1 h2
        subst h1
        rw [h2]
        exact ⟨ha.lst, hlast⟩
      | cons y x =>
        simp only [List.cons_append, List.cons.injEq] at h2
        obtain ⟨rfl, h2⟩ := h2
        exact absurd rfl (ha.n10 10 (by rw [h1]; simp))
end Go.Proofs

/- The line of seven # and more meets the conditions of a paragraph: plain facts on lists. -/
import Derived.Test.YtoponhlghkdbmaaGreatDoorL1
namespace Go.Proofs
open Go Go.Eng
set_option maxRecDepth 20000
set_option maxHeartbeats 4000000

theorem isBl_no {c : UInt8} (h : 33 ≤ c.toNat) : isBl c = false := by
  have h32 : ((32 : UInt8).toNat) = 32 := rfl
  have h9 : ((9 : UInt8).toNat) = 9 := rfl
  have h10 : ((10 : UInt8).toNat) = 10 := rfl
  cases hb : isBl c with
  | false => rfl
  | true =>
    exfalso
    simp [isBl] at hb
    omega

theorem at0_cons (c : UInt8) (l : List UInt8) : at0 (c :: l) 0 = c.toNat := rfl
theorem at0_mem {l : List UInt8} {j n : Nat} (h : at0 l j = n) (hn : n ≠ 0) : ∃ c, l[j]? = some c ∧ c.toNat = n := by
  unfold at0 at h
  split at h
  · rename_i c hc; exact ⟨c, hc, h⟩
  · omega

theorem fst1_no {c : UInt8} {l : List UInt8} (h : ∀ d ∈ l, d ≠ c) : ¬ fst1 c l < l.length := fun hlt =>
  h c (List.mem_of_getElem? (fst1_at hlt)) rfl

/-- A line of printable characters, of which neither the first nor the last one is a space, and that begins nothing. -/
theorem line1_of (toks : List Tok) (hok : ∀ t ∈ toks, t.ok) (hne : toks ≠ []) (hlen : toks.length ≤ 10000) (hA : ∀ c ∈ bytesOf toks, 32 ≤ c.toNat ∧ c.toNat ≤ 126)
    (a : UInt8) (r : List UInt8) (hc : bytesOf toks = a :: r) (ha : 33 ≤ a.toNat) (hz : ∀ c, (bytesOf toks)[(bytesOf toks).length - 1]? = some c → ¬ c.toNat = 32)
    (h1 : a.toNat ≠ 62) (h2 : a.toNat ≠ 45) (h3 : a.toNat ≠ 95) (h4 : a.toNat ≠ 42) (h5 : a.toNat ≠ 60) (h6 : a.toNat ≠ 96) (h7 : a.toNat ≠ 126) (h8 : a.toNat ≠ 61) (h9 : a.toNat ≠ 91)
    (hx : ∀ nl q nq nv, TrD Tryz.prog 104 [lp q, lp nq] [lnb q 0 (bytesOf toks) nl, [(nq, cellsOf [nv] 3)]] (.bool false) [lnb q 0 (bytesOf toks) nl, [(nq, cellsOf [nv] 3)]])
    (hi : noItem (bytesOf toks)) : Line1 toks := by
  have hbl := bytesOf_len toks
  have ea : at0 (bytesOf toks) 0 = a.toNat := by rw [hc]; rfl
  have en : nsp (bytesOf toks) = 0 := by rw [hc]; simp only [nsp]; rw [if_neg (by omega)]
  have es : sp3 0 (bytesOf toks) = 0 := by simp [sp3, en]
  have el : ltrim (bytesOf toks) = bytesOf toks := by
    rw [hc]; unfold ltrim; rw [List.dropWhile_cons_of_neg (by rw [isBl_no ha]; simp)]
  have er : rtrim (bytesOf toks) = bytesOf toks := by
    have hnb : bytesOf toks ≠ [] := by rw [hc]; simp
    obtain ⟨b, hb⟩ : ∃ b, (bytesOf toks).getLast? = some b := by
      cases h : (bytesOf toks).getLast? with
      | none => exact absurd (List.getLast?_eq_none_iff.1 h) hnb
      | some b => exact ⟨b, rfl⟩
    have hb2 := hb
    rw [List.getLast?_eq_getElem?] at hb2
    have hb3 := hz b hb2
    have hb4 := (hA b (List.mem_of_getElem? hb2)).1
    unfold rtrim
    have hr : (bytesOf toks).reverse = b :: (bytesOf toks).reverse.tail := by
      have : (bytesOf toks).reverse.head? = some b := by rw [List.head?_reverse]; exact hb
      cases h : (bytesOf toks).reverse with
      | nil => rw [h] at this; cases this
      | cons x y => rw [h] at this; simp at this; subst this; rfl
    rw [hr, List.dropWhile_cons_of_neg (by rw [isBl_no (by omega)]; simp), ← hr, List.reverse_reverse]
  have n9 : ∀ c ∈ bytesOf toks, c.toNat ≠ 9 := fun c h => by have := hA c h; omega
  have hno : ∀ k : UInt8, k.toNat < 32 → ∀ d ∈ bytesOf toks, d ≠ k := fun k hk d hd e => by subst e; have := hA d hd; omega
  refine ⟨hok, hne, hlen, by unfold btrim; rw [el, er], ?_, el, by omega, by omega, by omega, by omega, fst1_no (hno 0 (by decide)), fst1_no (hno 10 (by decide)), fst1_no (hno 13 (by decide))⟩
  refine ⟨n9, by omega, Nat.zero_le _, ?_, ?_, ?_, hx, ?_, ?_, ?_, ?_, ?_, ?_, ?_, ?_⟩
  · rw [List.drop_zero, el, hc]; simp
  · rw [List.drop_zero, en]; omega
  all_goals first | (rw [es, ea]; omega) | (rw [es, List.drop_zero]; exact hi)

/-! Texts with a backslash ahead of each punctuation character. -/
abbrev tokB (c : UInt8) : Tok := if isP c then .esc c else .lit c
abbrev slashT (s : List UInt8) : List Tok := s.map tokB
theorem slashT_bytes (s : List UInt8) : bytesOf (slashT s) = slash s := by
  induction s with
  | nil => rfl
  | cons c s ih =>
    simp only [slashT, bytesOf, List.map_cons, List.flatMap_cons, slash] at ih ⊢
    rw [ih]
    congr 1
    unfold tokB slashB
    split <;> rfl
theorem slashT_char (s : List UInt8) : (slashT s).map Tok.char = s := by
  induction s with
  | nil => rfl
  | cons c s ih =>
    simp only [slashT, List.map_cons] at ih ⊢
    rw [ih]
    congr 1
    unfold tokB
    split <;> rfl
theorem isP_iff (c : UInt8) : isP c = true ↔ punct c := by simp [isP, punct]
theorem slashT_ok (s : List UInt8) (hA : ∀ c ∈ s, 32 ≤ c.toNat ∧ c.toNat ≤ 126) : ∀ t ∈ slashT s, t.ok := by
  intro t ht
  obtain ⟨c, hc, rfl⟩ := List.mem_map.1 ht
  have := hA c hc
  unfold tokB
  split
  · rename_i h; exact (isP_iff c).1 h
  · rename_i h
    have h' : ¬ punct c := fun hp => h ((isP_iff c).2 hp)
    unfold punct at h'
    show quiet c
    unfold quiet
    omega
theorem slash_ascii (s : List UInt8) (hA : ∀ c ∈ s, 32 ≤ c.toNat ∧ c.toNat ≤ 126) : ∀ c ∈ slash s, 32 ≤ c.toNat ∧ c.toNat ≤ 126 := by
  intro c hc
  obtain ⟨d, hd, h⟩ := List.mem_flatMap.1 hc
  have h92 : ((92 : UInt8).toNat) = 92 := rfl
  have := hA d hd
  unfold slashB at h
  split at h
  · simp at h
    rcases h with rfl | rfl
    · omega
    · exact this
  · simp at h; subst h; exact this
/-- The last byte is the last character. -/
theorem slash_last (s : List UInt8) (hne : s ≠ []) : (slash s).getLast? = s.getLast? := by
  obtain ⟨l, c, rfl⟩ : ∃ l c, s = l ++ [c] := ⟨_, _, (List.dropLast_concat_getLast hne).symm⟩
  have : slash (l ++ [c]) = slash l ++ slashB c := by simp [slash]
  rw [this]
  unfold slashB
  split <;> simp

/-- Seven # and more, a space, and such a text. -/
abbrev sevenT (k : Nat) (s : List UInt8) : List Tok := List.replicate k (Tok.lit 35) ++ Tok.lit 32 :: slashT s
theorem seven_bytes (k : Nat) (s : List UInt8) : bytesOf (sevenT k s) = List.replicate k 35 ++ [32] ++ slash s := by
  have h0 : ∀ n, bytesOf (List.replicate n (Tok.lit 35)) = List.replicate n 35 := by
    intro n
    induction n with
    | zero => rfl
    | succ n ih =>
      simp only [List.replicate_succ, bytesOf, List.flatMap_cons] at ih ⊢
      rw [ih]; rfl
  have h1 : bytesOf (sevenT k s) = bytesOf (List.replicate k (Tok.lit 35)) ++ ([32] ++ bytesOf (slashT s)) := by
    simp only [sevenT, bytesOf, List.flatMap_append, List.flatMap_cons]; rfl
  rw [h1, h0, slashT_bytes, List.append_assoc]
theorem seven_char (k : Nat) (s : List UInt8) : (sevenT k s).map Tok.char = List.replicate k 35 ++ [32] ++ s := by
  simp only [sevenT, List.map_append, List.map_cons, slashT_char, List.map_replicate, List.append_assoc]; rfl

theorem seven_line (k : Nat) (hk : 7 ≤ k) (hk2 : k ≤ 100) (s : List UInt8) (hlen : s.length ≤ 2000) (hA : Ascii s) (hF : Filled s) : Line1 (sevenT k s) := by
  have hA' : ∀ c ∈ s, 32 ≤ c.toNat ∧ c.toNat ≤ 126 := fun c hc => by
    obtain ⟨j, hj⟩ := List.mem_iff_getElem?.1 hc
    exact hA j c hj
  have e1 := seven_bytes k s
  have hall : ∀ c ∈ List.replicate k 35 ++ [32] ++ slash s, 32 ≤ c.toNat ∧ c.toNat ≤ 126 := by
    intro c hc
    rcases List.mem_append.1 hc with hc | hc
    · rcases List.mem_append.1 hc with hc | hc
      · rw [List.eq_of_mem_replicate hc]; decide
      · simp at hc; subst hc; decide
    · exact slash_ascii s hA' c hc
  have hat : ∀ j, j < k → at0 (List.replicate k 35 ++ [32] ++ slash s) j = 35 := by
    intro j hj
    have : (List.replicate k 35 ++ [32] ++ slash s)[j]? = some 35 := by
      rw [List.append_assoc, List.getElem?_append_left (by simpa using hj), List.getElem?_replicate, if_pos hj]
    rw [at0_some this]; rfl
  have hsl := slash_len s
  refine line1_of (sevenT k s) ?_ (by simp [sevenT]) ?_ ?_ 35 (List.replicate (k - 1) 35 ++ [32] ++ slash s) ?_ (by decide) ?_ (by decide) (by decide) (by decide) (by decide) (by decide) (by decide) (by decide) (by decide) (by decide) ?_ ?_
  · intro t ht
    rcases List.mem_append.1 ht with ht | ht
    · rw [List.eq_of_mem_replicate ht]; show quiet 35; decide
    · rcases List.mem_cons.1 ht with rfl | ht
      · show quiet 32; decide
      · exact slashT_ok s hA' t ht
  · simp [sevenT]; omega
  · rw [e1]; exact hall
  · rw [e1]
    obtain ⟨n, rfl⟩ : ∃ n, k = n + 1 := ⟨k - 1, by omega⟩
    simp [List.replicate_succ]
  · rw [e1]
    intro c hc
    rw [← List.getLast?_eq_getElem?, List.getLast?_append, slash_last s hF.ne] at hc
    rw [List.getLast?_eq_getElem?] at hc
    have hp : s.length - 1 < s.length := by have := List.length_pos_iff.2 hF.ne; omega
    rw [List.getElem?_eq_getElem hp] at hc
    simp at hc
    exact hF.lst c (by rw [List.getElem?_eq_getElem hp, hc])
  · intro nl q nq nv
    rw [e1]
    refine trimHeading_seven q nq nv _ nl (fun c hc => by have := hall c hc; omega) ?_ (fun j hj => hat j (by omega))
    simp only [List.length_append, List.length_replicate, List.length_cons, List.length_nil]; omega
  · rw [e1]
    have e0 := hat 0 (by omega)
    refine ⟨by omega, by omega, by omega, fun j hj h0 => ?_⟩
    have := hj 0 h0
    omega
end Go.Proofs

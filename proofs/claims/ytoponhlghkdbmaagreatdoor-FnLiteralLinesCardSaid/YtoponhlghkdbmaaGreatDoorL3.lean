/- Lines of escaped characters meet the conditions of a paragraph: plain facts on lists. -/
import Derived.Test.YtoponhlghkdbmaaGreatDoorL2
namespace Go.Proofs
open Go Go.Eng
set_option maxRecDepth 20000
set_option maxHeartbeats 4000000

theorem at0_succ (c : UInt8) (l : List UInt8) (j : Nat) : at0 (c :: l) (j + 1) = at0 l j := by simp [at0]
/-- Ahead of a point or a parenthesis there is a backslash. -/
theorem slash_prev : ∀ (s : List UInt8) (j : Nat), (at0 (slash s) j = 46 ∨ at0 (slash s) j = 41) → 0 < j ∧ at0 (slash s) (j - 1) = 92
  | [], j, h => by simp [slash, at0] at h
  | c :: s, j, h => by
    have h92 : ((92 : UInt8).toNat) = 92 := rfl
    have e : slash (c :: s) = slashB c ++ slash s := by simp [slash]
    rw [e] at h ⊢
    by_cases hp : isP c = true
    · have e2 : slashB c ++ slash s = 92 :: c :: slash s := by simp [slashB, hp]
      rw [e2] at h ⊢
      match j with
      | 0 => rw [at0_cons] at h; omega
      | 1 => exact ⟨by omega, rfl⟩
      | k + 2 =>
        rw [at0_succ, at0_succ] at h
        obtain ⟨h1, h2⟩ := slash_prev s k h
        refine ⟨by omega, ?_⟩
        rw [show k + 2 - 1 = (k - 1) + 1 + 1 by omega, at0_succ, at0_succ]; exact h2
    · have e2 : slashB c ++ slash s = c :: slash s := by simp [slashB, hp]
      rw [e2] at h ⊢
      match j with
      | 0 =>
        rw [at0_cons] at h
        exfalso; apply hp; unfold isP; exact decide_eq_true (by omega)
      | k + 1 =>
        rw [at0_succ] at h
        obtain ⟨h1, h2⟩ := slash_prev s k h
        refine ⟨by omega, ?_⟩
        rw [show k + 1 - 1 = (k - 1) + 1 by omega, at0_succ]; exact h2

theorem Ascii.mem {s : List UInt8} (h : Ascii s) : ∀ c ∈ s, 32 ≤ c.toNat ∧ c.toNat ≤ 126 := fun c hc => by
  obtain ⟨j, hj⟩ := List.mem_iff_getElem?.1 hc
  exact h j c hj
theorem slash_first (s : List UInt8) (hA : Ascii s) (hF : Filled s) : ∃ (a : UInt8) (r : List UInt8), slash s = a :: r ∧ 33 ≤ a.toNat ∧ (a.toNat = 92 ∨ ¬ (33 ≤ a.toNat ∧ a.toNat ≤ 47 ∨ 58 ≤ a.toNat ∧ a.toNat ≤ 64 ∨ 91 ≤ a.toNat ∧ a.toNat ≤ 96 ∨ 123 ≤ a.toNat ∧ a.toNat ≤ 126)) := by
  have h92 : ((92 : UInt8).toNat) = 92 := rfl
  cases hs : s with
  | nil => exact absurd hs hF.ne
  | cons c s' =>
    have hc0 : ¬ c.toNat = 32 := hF.hd c (by rw [hs]; rfl)
    have hc1 := hA.mem c (by rw [hs]; simp)
    by_cases hp : isP c = true
    · exact ⟨92, c :: slash s', by simp [slash, slashB, hp], by omega, .inl rfl⟩
    · refine ⟨c, slash s', by simp [slash, slashB, hp], by omega, .inr (fun h => hp ?_)⟩
      unfold isP; exact decide_eq_true h
theorem slash_pl (s : List UInt8) (hlen : s.length ≤ 2000) (hA : Ascii s) (hF : Filled s) : PL (slash s) := by
  have hall := slash_ascii s hA.mem
  have hsl := slash_len s
  have h92 : ((92 : UInt8).toNat) = 92 := rfl
  obtain ⟨a, r, hc, h33, hq⟩ := slash_first s hA hF
  have ea : at0 (slash s) 0 = a.toNat := by rw [hc]; rfl
  refine pl_of (slash s) (by omega) hall a r hc h33 (by omega) (by omega) (by omega) (by omega) (by omega) (by omega) (by omega) (by omega) ?_ ?_
  · intro nl q nq nv
    refine trimHeading_no q nq 0 nv _ nl (fun c hc => by have := hall c hc; omega) (by omega) (Nat.zero_le _) ?_
    have en : nsp (slash s) = 0 := by rw [hc]; simp only [nsp]; rw [if_neg (by omega)]
    have es : sp3 0 (slash s) = 0 := by simp [sp3, en]
    rw [es, ea]; omega
  · refine ⟨by omega, by omega, by omega, fun j hj h0 => ?_⟩
    have hp := slash_prev s j
    refine ⟨fun h => ?_, fun h => ?_⟩
    · obtain ⟨h1, h2⟩ := hp (.inl h)
      have := hj (j - 1) (by omega)
      omega
    · obtain ⟨h1, h2⟩ := hp (.inr h)
      have := hj (j - 1) (by omega)
      omega
theorem filled_last {s : List UInt8} (hF : Filled s) : ∀ c, s.getLast? = some c → ¬ c.toNat = 32 := fun c hc => hF.lst c (by rw [← List.getLast?_eq_getElem?]; exact hc)
theorem slash_ends (s : List UInt8) (hA : Ascii s) (hF : Filled s) : Ends (slash s) := by
  have hall := slash_ascii s hA.mem
  obtain ⟨a, r, hc, h33, _⟩ := slash_first s hA hF
  refine ⟨fun d hd e => ?_, ⟨a, r, hc, by omega, by omega⟩, fun c hc => ?_⟩
  · subst e; have := hall 10 hd; exact absurd this.1 (by decide)
  · have h2 := hall c (List.mem_of_getLast? hc)
    rw [slash_last s hF.ne] at hc
    have := filled_last hF c hc
    omega

theorem jn_last : ∀ (ls : List (List UInt8)) (l : List UInt8) (c : UInt8), (ls ++ [l]).all (fun l => !l.isEmpty) = true → l.getLast? = some c → (jn (ls ++ [l])).getLast? = some c
  | [], l, c, _, h => by rw [List.nil_append, jn_one]; exact h
  | [a], l, c, _, h => by
    show (jn (a :: l :: [])).getLast? = some c
    rw [jn_cons, jn_one]
    simp [List.getLast?_append, List.getLast?_cons, h]
  | a :: b :: r, l, c, he, h => by
    have ih := jn_last (b :: r) l c (by simp at he ⊢; exact ⟨he.2.1, he.2.2⟩) h
    show (jn (a :: b :: (r ++ [l]))).getLast? = some c
    rw [jn_cons]
    have ih' : (jn (b :: (r ++ [l]))).getLast? = some c := ih
    simp [List.getLast?_append, List.getLast?_cons, ih']

theorem lit_lines (ss : List (List UInt8)) (hne : ss ≠ []) (hcnt : ss.length ≤ 50) (h : ∀ s ∈ ss, s.length ≤ 200 ∧ Ascii s ∧ Filled s) : Lines (ss.map slash) (toksOf ss) := by
  have eb := toksOf_bytes ss
  have hall : ∀ s ∈ ss, ∀ c ∈ s, 32 ≤ c.toNat ∧ c.toNat ≤ 126 := fun s hs => (h s hs).2.1.mem
  have hE : ∀ l ∈ ss.map slash, Ends l := fun l hl => by
    obtain ⟨s, hs, rfl⟩ := List.mem_map.1 hl
    exact slash_ends s (h s hs).2.1 (h s hs).2.2
  have hB := beside_jn _ hE
  have hlen := toksOf_len ss (fun s hs => (h s hs).1)
  -- the first byte
  obtain ⟨s0, r0, rfl⟩ : ∃ s0 r0, ss = s0 :: r0 := by cases ss with | nil => exact absurd rfl hne | cons a b => exact ⟨a, b, rfl⟩
  obtain ⟨a, t, hc, h33, hq⟩ := slash_first s0 (h s0 (by simp)).2.1 (h s0 (by simp)).2.2
  obtain ⟨t', ht'⟩ := jn_head (slash s0) (r0.map slash) a t hc
  have hb0 : bytesOf (toksOf (s0 :: r0)) = a :: t' := by rw [eb]; exact ht'
  have ea : at0 (bytesOf (toksOf (s0 :: r0))) 0 = a.toNat := by rw [hb0]; rfl
  -- the last byte
  have hl : ∃ c, (bytesOf (toksOf (s0 :: r0))).getLast? = some c ∧ 33 ≤ c.toNat := by
    obtain ⟨i, z, hz⟩ : ∃ i z, s0 :: r0 = i ++ [z] := ⟨_, _, (List.dropLast_concat_getLast (by simp)).symm⟩
    have hzm : z ∈ s0 :: r0 := by rw [hz]; simp
    obtain ⟨c, hc1⟩ : ∃ c, (slash z).getLast? = some c := by
      obtain ⟨a', r', h1, _⟩ := slash_first z (h z hzm).2.1 (h z hzm).2.2
      rw [h1]; exact ⟨_, List.getLast?_cons⟩
    refine ⟨c, ?_, ?_⟩
    · rw [eb, hz, List.map_append]
      refine jn_last (i.map slash) (slash z) c ?_ hc1
      rw [List.all_eq_true]
      intro l hl
      have : l ∈ (s0 :: r0).map slash := by rw [hz, List.map_append]; exact hl
      obtain ⟨c', r', h1, _⟩ := (hE l this).hd
      rw [h1]; rfl
    · have h2 := (hE (slash z) (List.mem_map.2 ⟨z, hzm, rfl⟩)).lst c hc1
      have h3 := slash_ascii z (hall z hzm) c (List.mem_of_getLast? hc1)
      omega
  obtain ⟨c, hc1, hc2⟩ := hl
  have elt : ltrim (bytesOf (toksOf (s0 :: r0))) = bytesOf (toksOf (s0 :: r0)) := by
    rw [hb0]; unfold ltrim; rw [List.dropWhile_cons_of_neg (by rw [isBl_no h33]; simp)]
  refine ⟨eb, toksOf_ok _ hall, by simp, by simp at hcnt ⊢; omega, by simp at hlen hcnt ⊢; omega, ?_, by unfold btrim; rw [elt]; exact rtrim_last _ c hc1 hc2, ?_, by omega, by omega, by omega, by omega, ?_⟩
  · intro e; rw [e] at hb0; simp at hb0
  · intro l hl
    obtain ⟨s, hs, rfl⟩ := List.mem_map.1 hl
    exact slash_pl s (by have := (h s hs).1; omega) (h s hs).2.1 (h s hs).2.2
  · intro d r hdr
    have e1 : bytesOf (toksOf (s0 :: r0)) = bytesOf d ++ 10 :: bytesOf r := by
      rw [hdr]; simp only [bytesOf, List.flatMap_append, List.flatMap_cons]; rfl
    obtain ⟨b1, b2⟩ := hB (bytesOf d) (bytesOf r) (by rw [← eb]; exact e1)
    rw [e1]
    refine ⟨fun c h0 hc => b1 c ?_, fun c hc => b2 c ?_⟩
    · rw [List.getLast?_eq_getElem?]
      rw [List.getElem?_append_left (by omega)] at hc
      exact hc
    · rw [List.getElem?_append_right (by omega)] at hc
      rw [show (bytesOf d).length + 1 - (bytesOf d).length = 1 by omega] at hc
      simp at hc
      rw [List.head?_eq_getElem?]
      exact hc
end Go.Proofs

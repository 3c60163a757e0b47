/- Lines of a text, runs of tildes, and texts between fences: plain facts on lists. No conditions beyond those that each states. -/
import Derived.Test.YtblaoglgknjepaaGreatDoorF1
namespace Go.Proofs
open Go Go.Eng
set_option maxRecDepth 20000
set_option maxHeartbeats 4000000

abbrev tildes (K : Nat) : List UInt8 := List.replicate K 126
theorem tildes_len (K : Nat) : (tildes K).length = K := List.length_replicate
theorem at0_tildes {K j : Nat} (h : j < K) : at0 (tildes K) j = 126 := by
  have : (tildes K)[j]? = some 126 := by simp [List.getElem?_replicate, h]
  rw [at0_some this]; rfl
theorem at0_cons {a c : UInt8} {l : List UInt8} : at0 (a :: l) 0 = a.toNat := rfl

/-- A line between the fences. -/
structure FLine (K : Nat) (tx : List UInt8) : Prop where
  nt : NoTab tx
  len : tx.length ≤ 10000
  few : ∃ j, j < K ∧ at0 tx (sp3 0 tx + j) ≠ 126
  c : ∀ d ∈ tx, d ≠ 10 ∧ d ≠ 13 ∧ d ≠ 0

/-- The text behind a fence of K tildes, and the lines of the code in it. -/
inductive Body (K : Nat) : List UInt8 → List (List UInt8) → Prop
  | nil : Body K [] []
  | close : Body K (tildes K ++ [10]) []
  | last (l : List UInt8) : FLine K l → l ≠ [] → Body K l [l]
  | cons (l t : List UInt8) (ls : List (List UInt8)) : FLine K l → Body K t ls → Body K (l ++ 10 :: t) (l :: ls)

/-! A text's lines. -/
def spl : List UInt8 → List (List UInt8)
  | [] => [[]]
  | c :: l => if c = 10 then [] :: spl l else match spl l with | a :: r => (c :: a) :: r | [] => [[c]]
abbrev lnd (ls : List (List UInt8)) : List UInt8 := ls.flatMap (fun l => l ++ [10])
theorem spl_ten (l : List UInt8) : spl (10 :: l) = [] :: spl l := by simp [spl]
theorem spl_ne : ∀ s, spl s ≠ []
  | [] => by simp [spl]
  | c :: l => by
    by_cases h : c = 10
    · subst h; simp [spl]
    · simp only [spl, if_neg h]; split <;> simp
theorem spl_cons {c : UInt8} {l a : List UInt8} {r : List (List UInt8)} (h : c ≠ 10) (hs : spl l = a :: r) : spl (c :: l) = (c :: a) :: r := by simp only [spl, if_neg h, hs]
theorem spl_some (s : List UInt8) : ∃ a r, spl s = a :: r := by
  cases h : spl s with
  | nil => exact absurd h (spl_ne s)
  | cons a r => exact ⟨a, r, rfl⟩
theorem spl_lnd : ∀ s, lnd (spl s) = s ++ [10]
  | [] => rfl
  | c :: l => by
    have ih := spl_lnd l
    by_cases h : c = 10
    · subst h; rw [spl_ten]; simp only [lnd, List.flatMap_cons, List.nil_append, List.cons_append] at ih ⊢; rw [ih]
    · obtain ⟨a, r, hs⟩ := spl_some l
      rw [spl_cons h hs]; rw [hs] at ih
      simp only [lnd, List.flatMap_cons, List.cons_append] at ih ⊢; rw [ih]
theorem spl_no : ∀ s, ∀ l ∈ spl s, ∀ d ∈ l, d ≠ 10
  | [], l, hl, d, hd => by simp [spl] at hl; subst hl; simp at hd
  | c :: s, l, hl, d, hd => by
    by_cases h : c = 10
    · subst h; rw [spl_ten] at hl
      rcases List.mem_cons.1 hl with rfl | hl
      · simp at hd
      · exact spl_no s l hl d hd
    · obtain ⟨a, r, hs⟩ := spl_some s
      rw [spl_cons h hs] at hl
      have ih := spl_no s
      rw [hs] at ih
      rcases List.mem_cons.1 hl with rfl | hl
      · rcases List.mem_cons.1 hd with rfl | hd
        · exact h
        · exact ih a (by simp) d hd
      · exact ih l (List.mem_cons_of_mem _ hl) d hd
theorem spl_head : ∀ (s a : List UInt8) (r : List (List UInt8)), spl s = a :: r → a <+: s
  | [], a, r, h => by simp [spl] at h; obtain ⟨rfl, _⟩ := h; exact List.prefix_refl _
  | c :: s, a, r, h => by
    by_cases hc : c = 10
    · subst hc; rw [spl_ten] at h; injection h with h1 h2; subst h1; exact List.nil_prefix
    · obtain ⟨a', r', hs⟩ := spl_some s
      rw [spl_cons hc hs] at h
      injection h with h1 h2
      subst h1
      exact (List.cons_prefix_cons).2 ⟨rfl, spl_head s a' r' hs⟩
theorem spl_infix : ∀ s, ∀ l ∈ spl s, l <:+: s
  | [], l, hl => by simp [spl] at hl; subst hl; exact List.infix_refl _
  | c :: s, l, hl => by
    obtain ⟨a, r, hs⟩ := spl_some s
    have ih := spl_infix s
    by_cases hc : c = 10
    · subst hc; rw [spl_ten] at hl
      rcases List.mem_cons.1 hl with rfl | hl
      · exact List.nil_infix
      · exact List.infix_cons (ih l hl)
    · have h0 := spl_cons hc hs
      rw [h0] at hl
      rcases List.mem_cons.1 hl with rfl | hl
      · exact (spl_head _ _ _ h0).isInfix
      · exact List.infix_cons (ih l (by rw [hs]; exact List.mem_cons_of_mem _ hl))

theorem body_lnd {K : Nat} {t : List UInt8} {ts : List (List UInt8)} (hb : Body K t ts) : ∀ ls : List (List UInt8), (∀ l ∈ ls, FLine K l) → Body K (lnd ls ++ t) (ls ++ ts)
  | [], _ => hb
  | l :: ls, h => by
    have := Body.cons l _ _ (h l (by simp)) (body_lnd hb ls (fun x hx => h x (List.mem_cons_of_mem _ hx)))
    simpa [lnd] using this
theorem body_last {K : Nat} {s : List UInt8} (hs : s ≠ []) (h10 : s[s.length - 1]? ≠ some 10) (h : ∀ l ∈ spl s, FLine K l) : Body K s (spl s) := by
  obtain ⟨ls, l, e⟩ : ∃ ls l, spl s = ls ++ [l] := ⟨(spl s).dropLast, (spl s).getLast (spl_ne s), (List.dropLast_concat_getLast (spl_ne s)).symm⟩
  have h1 := spl_lnd s
  rw [e] at h1
  have h2 : lnd ls ++ l = s := by
    have : (lnd ls ++ l) ++ [10] = s ++ [10] := by rw [← h1]; simp [lnd]
    exact List.append_cancel_right this
  have hl : l ≠ [] := by
    intro h0
    subst h0
    rw [List.append_nil] at h2
    have hls : ls ≠ [] := by intro h3; subst h3; exact hs h2.symm
    obtain ⟨ls', x, rfl⟩ : ∃ ls' x, ls = ls' ++ [x] := ⟨ls.dropLast, ls.getLast hls, (List.dropLast_concat_getLast hls).symm⟩
    apply h10
    rw [← h2]
    have e2 : lnd (ls' ++ [x]) = (lnd ls' ++ x) ++ [10] := by simp [lnd]
    rw [e2, List.length_append, List.length_singleton, Nat.add_sub_cancel, List.getElem?_append_right (Nat.le_refl _), Nat.sub_self]
    rfl
  have hb := body_lnd (Body.last l (h l (by rw [e]; simp)) hl) ls (fun x hx => h x (by rw [e]; simp [hx]))
  rw [h2, ← e] at hb
  exact hb

/-- A text whose lines stand between fences of K tildes. -/
structure FText (K : Nat) (s : List UInt8) : Prop where
  len : s.length ≤ 5000
  c : ∀ d ∈ s, d = 10 ∨ 32 ≤ d.toNat ∧ d.toNat ≤ 126
  few : ¬ tildes K <:+: s
theorem FText.line {K : Nat} {s : List UInt8} (h : FText K s) (l : List UInt8) (hl : l ∈ spl s) : FLine K l := by
  have h1 := spl_infix s l hl
  have h2 := spl_no s l hl
  have hm : ∀ d ∈ l, d = 10 ∨ 32 ≤ d.toNat ∧ d.toNat ≤ 126 := fun d hd => h.c d (h1.mem hd)
  have h3 : ∀ d ∈ l, 32 ≤ d.toNat ∧ d.toNat ≤ 126 := fun d hd => (hm d hd).resolve_left (h2 d hd)
  refine ⟨fun d hd => by have := h3 d hd; omega, by have := h1.length_le; have := h.len; omega, ?_, fun d hd => ⟨h2 d hd, ?_, ?_⟩⟩
  · refine Classical.byContradiction fun hn => h.few ?_
    have hn' : ∀ j, j < K → at0 l (sp3 0 l + j) = 126 := fun j hj => Classical.byContradiction fun h0 => hn ⟨j, hj, h0⟩
    have hpre : tildes K <+: l.drop (sp3 0 l) := by
      refine List.prefix_iff_getElem?.2 fun i hi => ?_
      rw [tildes_len] at hi
      have h4 := hn' i hi
      rw [List.getElem_replicate, List.getElem?_drop]
      unfold at0 at h4
      split at h4
      · rename_i c hc
        rw [hc]; congr 1; exact UInt8.toNat_inj.1 (h4.trans rfl)
      · cases h4
    exact (hpre.isInfix.trans (List.drop_suffix _ _).isInfix).trans h1
  · intro e; subst e; have := h3 13 hd; exact absurd this (by decide)
  · intro e; subst e; have := h3 0 hd; exact absurd this (by decide)

/-- The HTML of code. -/
abbrev codeOut (ls : List (List UInt8)) : List UInt8 := [60, 112, 114, 101, 62, 60, 99, 111, 100, 101, 62] ++ ls.flatMap (fun l => escH l ++ [10]) ++ [60, 47, 99, 111, 100, 101, 62, 60, 47, 112, 114, 101, 62, 10]
theorem esc_lnd : ∀ ls : List (List UInt8), ls.flatMap (fun l => escH l ++ [10]) = escH (lnd ls)
  | [] => rfl
  | l :: ls => by
    have ih := esc_lnd ls
    simp only [lnd, List.flatMap_cons] at ih ⊢
    rw [ih]
    simp only [escH, List.flatMap_append]
    rfl
theorem codeOut_spl (s : List UInt8) : codeOut (spl s) = [60, 112, 114, 101, 62, 60, 99, 111, 100, 101, 62] ++ escH s ++ [10, 60, 47, 99, 111, 100, 101, 62, 60, 47, 112, 114, 101, 62, 10] := by
  unfold codeOut
  rw [esc_lnd, spl_lnd]
  simp only [escH, List.flatMap_append, List.append_assoc]
  rfl

/-! The longest run of tildes. -/
def lngStep (x : Nat × Nat) (c : UInt8) : Nat × Nat := let n := if c.toNat = 126 then x.2 + 1 else 0; (max x.1 n, n)
abbrev lngF (s : List UInt8) : Nat × Nat := s.foldl lngStep (0, 0)
theorem lng_mono : ∀ (s : List UInt8) (x : Nat × Nat), x.1 ≤ (s.foldl lngStep x).1
  | [], x => Nat.le_refl _
  | c :: s, x => by
    have := lng_mono s (lngStep x c)
    have h : x.1 ≤ (lngStep x c).1 := Nat.le_max_left _ _
    exact Nat.le_trans h this
theorem lng_run : ∀ (k : Nat) (x : Nat × Nat), x.2 ≤ x.1 → x.2 + k ≤ ((tildes k).foldl lngStep x).1
  | 0, x, h => by simpa using h
  | k + 1, x, h => by
    have e : lngStep x 126 = (max x.1 (x.2 + 1), x.2 + 1) := rfl
    have h1 := lng_run k (lngStep x 126) (by rw [e]; exact Nat.le_max_right _ _)
    show x.2 + (k + 1) ≤ ((tildes k).foldl lngStep (lngStep x 126)).1
    have h2 : (lngStep x 126).2 = x.2 + 1 := rfl
    omega
theorem lng_le : ∀ (s : List UInt8) (x : Nat × Nat), x.2 ≤ x.1 → (s.foldl lngStep x).2 ≤ (s.foldl lngStep x).1
  | [], x, h => h
  | c :: s, x, h => lng_le s (lngStep x c) (Nat.le_max_right _ _)
theorem lng_infix {k : Nat} {s : List UInt8} (h : tildes k <:+: s) : k ≤ (lngF s).1 := by
  obtain ⟨p, q, rfl⟩ := h
  unfold lngF
  rw [List.foldl_append, List.foldl_append]
  have h1 := lng_run k (p.foldl lngStep (0, 0)) (lng_le p (0, 0) (Nat.le_refl _))
  have h2 := lng_mono q ((tildes k).foldl lngStep (p.foldl lngStep (0, 0)))
  omega
theorem lng_len : ∀ (s : List UInt8) (x : Nat × Nat), x.2 ≤ x.1 → (s.foldl lngStep x).1 ≤ x.1 + s.length
  | [], x, _ => Nat.le_refl _
  | c :: s, x, h => by
    have h1 := lng_len s (lngStep x c) (Nat.le_max_right _ _)
    have h2 : (lngStep x c).1 ≤ x.1 + 1 := by
      unfold lngStep; simp only; split <;> omega
    simp only [List.foldl_cons, List.length_cons]; omega
theorem lng_few {K : Nat} {s : List UInt8} (h : (lngF s).1 < K) : ¬ tildes K <:+: s := fun hi => by have := lng_infix hi; omega
theorem lngF_snoc {s : List UInt8} {j : Nat} {c : UInt8} (h : s[j]? = some c) : lngF (s.take (j + 1)) = lngStep (lngF (s.take j)) c := by
  obtain ⟨h1, h2⟩ := List.getElem?_eq_some_iff.1 h
  unfold lngF
  rw [List.take_succ_eq_append_getElem h1, h2, List.foldl_append]; rfl
theorem few_of_no {K : Nat} (hK : 1 ≤ K) {s : List UInt8} (h : ∀ d ∈ s, d ≠ 126) : ¬ tildes K <:+: s := fun hi => by
  have : (126 : UInt8) ∈ tildes K := by simp [tildes]; omega
  exact h 126 (hi.mem this) rfl
end Go.Proofs

/- Lines of a text, runs of tildes, and texts between fences: plain facts on lists. No conditions beyond those that each states. Contract of the unescaper's Replace: it gives some text, and nothing for nothing. Conditions: the table of entities, a bound on the length. Contract of line.trimFence: what it takes for a fence. Conditions: no tab in the line, bounds on the length. -/
import Derived.Test.YthmgajolaekpdaaGreatDoorT05
namespace Go.Proofs
open Go Go.Eng
set_option maxRecDepth 20000
set_option maxHeartbeats 4000000

abbrev tildes (K : Nat) : List UInt8 := List.replicate K 126
theorem tildes_len (K : Nat) : (tildes K).length = K := List.length_replicate
theorem at0_tildes {K j : Nat} (h : j < K) : at0 (tildes K) j = 126 := by
  have : (tildes K)[j]? = some 126 := by simp [h]
  rw [at0_some this]; rfl
theorem at0_cons {a _c : UInt8} {l : List UInt8} : at0 (a :: l) 0 = a.toNat := rfl

/-- A line between the fences. -/
structure FLine (K : Nat) (tx : List UInt8) : Prop where
  nt : NoTab tx
  len : tx.length ≤ 10000
  few : ∃ j, j < K ∧ at0 tx (sp3 0 tx + j) ≠ 126
  c : ∀ d ∈ tx, d ≠ 10 ∧ d ≠ 13 ∧ d ≠ 0

/-- The text behind a fence of K tildes, and the lines of the code in it. -/
inductive Body (K : Nat) : List UInt8 → List (List UInt8) → Prop
  | nil : Body K [] []
  | close : Body K (tildes K ++ [10]) []
  | last (l : List UInt8) : FLine K l → l ≠ [] → Body K l [l]
  | cons (l t : List UInt8) (ls : List (List UInt8)) : FLine K l → Body K t ls → Body K (l ++ 10 :: t) (l :: ls)

/-! A text's lines. -/
def spl : List UInt8 → List (List UInt8)
  | [] => [[]]
  | c :: l => if c = 10 then [] :: spl l else match spl l with | a :: r => (c :: a) :: r | [] => [[c]]
abbrev lnd (ls : List (List UInt8)) : List UInt8 := ls.flatMap (fun l => l ++ [10])
theorem spl_ten (l : List UInt8) : spl (10 :: l) = [] :: spl l := by simp [spl]
theorem spl_ne : ∀ s, spl s ≠ []
  | [] => by simp [spl]
  | c :: l => by
    by_cases h : c = 10
    · subst h; simp [spl]
    · simp only [spl, if_neg h]; split <;> simp
theorem spl_cons {c : UInt8} {l a : List UInt8} {r : List (List UInt8)} (h : c ≠ 10) (hs : spl l = a :: r) : spl (c :: l) = (c :: a) :: r := by simp only [spl, if_neg h, hs]
theorem spl_some (s : List UInt8) : ∃ a r, spl s = a :: r := by
  cases h : spl s with
  | nil => exact absurd h (spl_ne s)
  | cons a r => exact ⟨a, r, rfl⟩
theorem spl_lnd : ∀ s, lnd (spl s) = s ++ [10]
  | [] => rfl
  | c :: l => by
    have ih := spl_lnd l
    by_cases h : c = 10
    · subst h; rw [spl_ten]; simp only [lnd, List.flatMap_cons, List.nil_append, List.cons_append] at ih ⊢; rw [ih]
    · obtain ⟨a, r, hs⟩ := spl_some l
      rw [spl_cons h hs]; rw [hs] at ih
      simp only [lnd, List.flatMap_cons, List.cons_append] at ih ⊢; rw [ih]
theorem spl_no : ∀ s, ∀ l ∈ spl s, ∀ d ∈ l, d ≠ 10
  | [], l, hl, d, hd => by simp [spl] at hl; subst hl; simp at hd
  | c :: s, l, hl, d, hd => by
    by_cases h : c = 10
    · subst h; rw [spl_ten] at hl
      rcases List.mem_cons.1 hl with rfl | hl
      · simp at hd
      · exact spl_no s l hl d hd
    · obtain ⟨a, r, hs⟩ := spl_some s
      rw [spl_cons h hs] at hl
      have ih := spl_no s
      rw [hs] at ih
      rcases List.mem_cons.1 hl with rfl | hl
      · rcases List.mem_cons.1 hd with rfl | hd
        · exact h
        · exact ih a (by simp) d hd
      · exact ih l (List.mem_cons_of_mem _ hl) d hd
theorem spl_head : ∀ (s a : List UInt8) (r : List (List UInt8)), spl s = a :: r → a <+: s
  | [], a, r, h => by simp [spl] at h; obtain ⟨rfl, _⟩ := h; exact List.prefix_refl _
  | c :: s, a, r, h => by
    by_cases hc : c = 10
    · subst hc; rw [spl_ten] at h; injection h with h1 h2; subst h1; exact List.nil_prefix
    · obtain ⟨a', r', hs⟩ := spl_some s
      rw [spl_cons hc hs] at h
      injection h with h1 h2
      subst h1
      exact (List.cons_prefix_cons).2 ⟨rfl, spl_head s a' r' hs⟩
theorem spl_infix : ∀ s, ∀ l ∈ spl s, l <:+: s
  | [], l, hl => by simp [spl] at hl; subst hl; exact List.infix_refl _
  | c :: s, l, hl => by
    obtain ⟨a, r, hs⟩ := spl_some s
    have ih := spl_infix s
    by_cases hc : c = 10
    · subst hc; rw [spl_ten] at hl
      rcases List.mem_cons.1 hl with rfl | hl
      · exact List.nil_infix
      · exact List.infix_cons (ih l hl)
    · have h0 := spl_cons hc hs
      rw [h0] at hl
      rcases List.mem_cons.1 hl with rfl | hl
      · exact (spl_head _ _ _ h0).isInfix
      · exact List.infix_cons (ih l (by rw [hs]; exact List.mem_cons_of_mem _ hl))

theorem body_lnd {K : Nat} {t : List UInt8} {ts : List (List UInt8)} (hb : Body K t ts) : ∀ ls : List (List UInt8), (∀ l ∈ ls, FLine K l) → Body K (lnd ls ++ t) (ls ++ ts)
  | [], _ => hb
  | l :: ls, h => by
    have := Body.cons l _ _ (h l (by simp)) (body_lnd hb ls (fun x hx => h x (List.mem_cons_of_mem _ hx)))
    simpa [lnd] using this
theorem body_last {K : Nat} {s : List UInt8} (hs : s ≠ []) (h10 : s[s.length - 1]? ≠ some 10) (h : ∀ l ∈ spl s, FLine K l) : Body K s (spl s) := by
  obtain ⟨ls, l, e⟩ : ∃ ls l, spl s = ls ++ [l] := ⟨(spl s).dropLast, (spl s).getLast (spl_ne s), (List.dropLast_concat_getLast (spl_ne s)).symm⟩
  have h1 := spl_lnd s
  rw [e] at h1
  have h2 : lnd ls ++ l = s := by
    have : (lnd ls ++ l) ++ [10] = s ++ [10] := by rw [← h1]; simp [lnd]
    exact List.append_cancel_right this
  have hl : l ≠ [] := by
    intro h0
    subst h0
    rw [List.append_nil] at h2
    have hls : ls ≠ [] := by intro h3; subst h3; exact hs h2.symm
    obtain ⟨ls', x, rfl⟩ : ∃ ls' x, ls = ls' ++ [x] := ⟨ls.dropLast, ls.getLast hls, (List.dropLast_concat_getLast hls).symm⟩
    apply h10
    rw [← h2]
    have e2 : lnd (ls' ++ [x]) = (lnd ls' ++ x) ++ [10] := by simp [lnd]
    rw [e2, List.length_append, List.length_singleton, Nat.add_sub_cancel, List.getElem?_append_right (Nat.le_refl _), Nat.sub_self]
    rfl
  have hb := body_lnd (Body.last l (h l (by rw [e]; simp)) hl) ls (fun x hx => h x (by rw [e]; simp [hx]))
  rw [h2, ← e] at hb
  exact hb

/-- A text whose lines stand between fences of K tildes. -/
structure FText (K : Nat) (s : List UInt8) : Prop where
  len : s.length ≤ 5000
  c : ∀ d ∈ s, d = 10 ∨ 32 ≤ d.toNat ∧ d.toNat ≤ 126
  few : ¬ tildes K <:+: s
theorem FText.line {K : Nat} {s : List UInt8} (h : FText K s) (l : List UInt8) (hl : l ∈ spl s) : FLine K l := by
  have h1 := spl_infix s l hl
  have h2 := spl_no s l hl
  have hm : ∀ d ∈ l, d = 10 ∨ 32 ≤ d.toNat ∧ d.toNat ≤ 126 := fun d hd => h.c d (h1.mem hd)
  have h3 : ∀ d ∈ l, 32 ≤ d.toNat ∧ d.toNat ≤ 126 := fun d hd => (hm d hd).resolve_left (h2 d hd)
  refine ⟨fun d hd => by have := h3 d hd; omega, by have := h1.length_le; have := h.len; omega, ?_, fun d hd => ⟨h2 d hd, ?_, ?_⟩⟩
  · refine Classical.byContradiction fun hn => h.few ?_
    have hn' : ∀ j, j < K → at0 l (sp3 0 l + j) = 126 := fun j hj => Classical.byContradiction fun h0 => hn ⟨j, hj, h0⟩
    have hpre : tildes K <+: l.drop (sp3 0 l) := by
      refine List.prefix_iff_getElem?.2 fun i hi => ?_
      rw [tildes_len] at hi
      have h4 := hn' i hi
      rw [List.getElem_replicate, List.getElem?_drop]
      unfold at0 at h4
      split at h4
      · rename_i c hc
        rw [hc]; congr 1; exact UInt8.toNat_inj.1 (h4.trans rfl)
      · cases h4
    exact (hpre.isInfix.trans (List.drop_suffix _ _).isInfix).trans h1
  · intro e; subst e; have := h3 13 hd; exact absurd this (by decide)
  · intro e; subst e; have := h3 0 hd; exact absurd this (by decide)

/-- The HTML of code. -/
abbrev codeOut (ls : List (List UInt8)) : List UInt8 := [60, 112, 114, 101, 62, 60, 99, 111, 100, 101, 62] ++ ls.flatMap (fun l => escH l ++ [10]) ++ [60, 47, 99, 111, 100, 101, 62, 60, 47, 112, 114, 101, 62, 10]
theorem esc_lnd : ∀ ls : List (List UInt8), ls.flatMap (fun l => escH l ++ [10]) = escH (lnd ls)
  | [] => rfl
  | l :: ls => by
    have ih := esc_lnd ls
    simp only [lnd, List.flatMap_cons] at ih ⊢
    rw [ih]
    simp only [escH, List.flatMap_append]
    rfl
theorem codeOut_spl (s : List UInt8) : codeOut (spl s) = [60, 112, 114, 101, 62, 60, 99, 111, 100, 101, 62] ++ escH s ++ [10, 60, 47, 99, 111, 100, 101, 62, 60, 47, 112, 114, 101, 62, 10] := by
  unfold codeOut
  rw [esc_lnd, spl_lnd]
  simp only [escH, List.flatMap_append, List.append_assoc]
  rfl

/-! The longest run of tildes. -/
def lngStep (x : Nat × Nat) (c : UInt8) : Nat × Nat := let n := if c.toNat = 126 then x.2 + 1 else 0; (max x.1 n, n)
abbrev lngF (s : List UInt8) : Nat × Nat := s.foldl lngStep (0, 0)
theorem lng_mono : ∀ (s : List UInt8) (x : Nat × Nat), x.1 ≤ (s.foldl lngStep x).1
  | [], x => Nat.le_refl _
  | c :: s, x => by
    have := lng_mono s (lngStep x c)
    have h : x.1 ≤ (lngStep x c).1 := Nat.le_max_left _ _
    exact Nat.le_trans h this
theorem lng_run : ∀ (k : Nat) (x : Nat × Nat), x.2 ≤ x.1 → x.2 + k ≤ ((tildes k).foldl lngStep x).1
  | 0, x, h => by simpa using h
  | k + 1, x, h => by
    have e : lngStep x 126 = (max x.1 (x.2 + 1), x.2 + 1) := rfl
    have h1 := lng_run k (lngStep x 126) (by rw [e]; exact Nat.le_max_right _ _)
    show x.2 + (k + 1) ≤ ((tildes k).foldl lngStep (lngStep x 126)).1
    have h2 : (lngStep x 126).2 = x.2 + 1 := rfl
    omega
theorem lng_le : ∀ (s : List UInt8) (x : Nat × Nat), x.2 ≤ x.1 → (s.foldl lngStep x).2 ≤ (s.foldl lngStep x).1
  | [], _x, h => h
  | c :: s, x, _h => lng_le s (lngStep x c) (Nat.le_max_right _ _)
theorem lng_infix {k : Nat} {s : List UInt8} (h : tildes k <:+: s) : k ≤ (lngF s).1 := by
  obtain ⟨p, q, rfl⟩ := h
  unfold lngF
  rw [List.foldl_append, List.foldl_append]
  have h1 := lng_run k (p.foldl lngStep (0, 0)) (lng_le p (0, 0) (Nat.le_refl _))
  have h2 := lng_mono q ((tildes k).foldl lngStep (p.foldl lngStep (0, 0)))
  omega
theorem lng_len : ∀ (s : List UInt8) (x : Nat × Nat), x.2 ≤ x.1 → (s.foldl lngStep x).1 ≤ x.1 + s.length
  | [], x, _ => Nat.le_refl _
  | c :: s, x, h => by
    have h1 := lng_len s (lngStep x c) (Nat.le_max_right _ _)
    have h2 : (lngStep x c).1 ≤ x.1 + 1 := by
      unfold lngStep; simp only; split <;> omega
    simp only [List.foldl_cons, List.length_cons]; omega
theorem lng_few {K : Nat} {s : List UInt8} (h : (lngF s).1 < K) : ¬ tildes K <:+: s := fun hi => by have := lng_infix hi; omega
theorem lngF_snoc {s : List UInt8} {j : Nat} {c : UInt8} (h : s[j]? = some c) : lngF (s.take (j + 1)) = lngStep (lngF (s.take j)) c := by
  obtain ⟨h1, h2⟩ := List.getElem?_eq_some_iff.1 h
  unfold lngF
  rw [List.take_succ_eq_append_getElem h1, h2, List.foldl_append]; rfl
theorem few_of_no {K : Nat} (hK : 1 ≤ K) {s : List UInt8} (h : ∀ d ∈ s, d ≠ 126) : ¬ tildes K <:+: s := fun hi => by
  have : (126 : UInt8) ∈ tildes K := by simp [tildes]; omega
  exact h 126 (hi.mem this) rfl
end Go.Proofs

namespace Go.Proofs
open Go Go.Eng
set_option maxRecDepth 20000
set_option maxHeartbeats 4000000

theorem isPunctF (c : Nat) (hc : c < 256) : TrP Tryz.prog 93 [.int .u8 c] (.bool (decide (33 ≤ c ∧ c ≤ 47 ∨ 58 ≤ c ∧ c ≤ 64 ∨ 91 ≤ c ∧ c ≤ 96 ∨ 123 ≤ c ∧ c ≤ 126))) := by
  refine Tr.start (n := 33) (rs := [.tmp 2]) rfl rfl rfl rfl fun B => ?_
  (repeat' (first | refine k_seq ?_ | refine k_region ?_ | refine k_nil ?_ | refine k_then ?_ | refine k_ret ?_ | refine s_grun ?_ | refine s_gskipt ?_ | refine s_gskipf ?_ | refine s_gskipu ?_ | refine s_move ?_ | refine s_assign ?_ | refine s_leq_f ?_ | refine s_leq ?_ | refine s_pickt ?_ | refine s_pickf ?_ | refine Ops.split_run (fun hg => ?_) (fun hg => ?_) | refine Ops.split_skip (fun hg => ?_) (fun hg => ?_)))
  all_goals (refine e_pure ?_; refine ⟨?_, rfl⟩; simp only [oneOr, Value.bool.injEq]; first | (symm; exact decide_eq_true (by omega)) | (symm; exact decide_eq_false (by omega)) | (rw [decide_eq_decide]; omega))
abbrev punctF (c : UInt8) : Prop := 33 ≤ c.toNat ∧ c.toNat ≤ 47 ∨ 58 ≤ c.toNat ∧ c.toNat ≤ 64 ∨ 91 ≤ c.toNat ∧ c.toNat ≤ 96 ∨ 123 ≤ c.toNat ∧ c.toNat ≤ 126
theorem isPunctF_yes (c : UInt8) (h : punctF c) : TrP Tryz.prog 93 [.int .u8 c.toNat] (.bool true) := by
  have := isPunctF c.toNat c.toNat_lt
  rwa [decide_eq_true h] at this
theorem isPunctF_no (c : UInt8) (h : ¬ punctF c) : TrP Tryz.prog 93 [.int .u8 c.toNat] (.bool false) := by
  have := isPunctF c.toNat c.toNat_lt
  rwa [decide_eq_false h] at this

/-- What a builder holds: nothing yet, or some bytes. -/
def BOK (b : Nat) (x : UB) : Prop := (x.p = .pointer none ∨ x.p = lp b) ∧ Bys x.v x.o x.R ∧ ((x.o = [] ∧ x.v = .slice none 0 0 ∧ x.R = []) ∨ x.o ≠ [])

/-- Replace of any text: some text. -/
theorem replace_tr (T : Nat) (es : List Value) (hE : EntOK es) (l : List UInt8) (hl : l.length ≤ 1000000) :
    Tr Tryz.prog 160 [.agg #[], str l] [ent T es] fun u K => ∃ o, u = str o ∧ o.length ≤ 8 * l.length ∧ (l = [] → o = []) ∧ K = [ent T es] := by
  refine Tr.start (n := 86) (rs := [.tmp 4]) rfl rfl rfl rfl fun B => ?_
  (repeat' (first | refine k_seq ?_ | refine k_region ?_ | refine k_nil ?_ | refine k_then ?_ | refine s_assign ?_ | refine s_alloc (fun _ => ?_) | refine s_box (fun _ => ?_)))
  rename_i r b
  refine w_nilblk ?_
  refine k_midx (fun x : UB => [(5, lp b)]) (fun x => [bldb b x.p x.v, x.R, ent T es]) (fun x => BOK b x ∧ x.o.length ≤ 8 * l.length ∧ (l = [] → x.o = [])) ?_ ?_
  · (repeat' (first | refine k_blk ?_))
    refine k_loop (fun x : UB => [(1, str l), (5, lp b), (6, inat x.j)]) (fun x => [bldb b x.p x.v, x.R, ent T es]) (fun x => BOK b x ∧ x.j ≤ l.length ∧ x.o.length ≤ 8 * x.j) (fun x => l.length - x.j) ⟨0, .pointer none, .slice none 0 0, [], []⟩ ⟨⟨.inl rfl, Own.nil _ _, .inl ⟨rfl, rfl, rfl⟩⟩, by simp, by simp⟩ (Knows.spec (by repeat (first | exact trivial | refine ⟨rfl, ?_⟩))) (by repeat (first | exact SubH.nilR _ | refine SubH.pick (by repeat (first | exact HTake.here | apply HTake.there)) ?_)) fun x hx => ?_
    obtain ⟨j, p, v, R, o⟩ := x
    obtain ⟨⟨hp, hO, hN⟩, hj, ho⟩ := hx
    simp only at hp hO hN hj ho ⊢
    by_cases hlt : j < l.length
    · obtain ⟨c, hc⟩ := get_some hlt
      have def_ : ∀ (L0 : True), True := fun _ => trivial
      by_cases h92 : c.toNat = 92
      · by_cases hlt2 : j + 1 < l.length
        · obtain ⟨d, hd⟩ := get_some hlt2
          by_cases hpu : punctF d
          · (repeat' (first | refine s_pure (isPunctF_yes d hpu) ?_ | refine k_seq ?_ | refine k_region ?_ | refine k_nil ?_ | refine k_then ?_ | refine k_true ?_ | refine k_blk ?_ | refine k_skip ?_ | refine s_grun ?_ | refine s_move ?_ | refine s_assign ?_ | refine s_add1 ?_ | refine s_lss_t ?_ | refine s_eql_t ?_ | refine s_pickt ?_ | refine s_lens ?_ | refine s_index ?_))
            refine s_call (bldByte_tr b p v o R d hp hO (by omega)) (fun u K hR => ?_)
            obtain ⟨rfl, v2, R2, h2, rfl⟩ := hR
            (repeat' (first | refine k_region ?_ | refine k_nil ?_ | refine k_then ?_ | refine k_block ?_ | refine s_move ?_ | refine s_assign ?_ | refine s_add1 ?_))
            exact ⟨⟨j + 1 + 1, lp b, v2, R2, o ++ [d]⟩, (Knows.spec (by repeat (first | exact trivial | refine ⟨rfl, ?_⟩))), (by repeat (first | exact SubH.nilR _ | refine SubH.pick (by repeat (first | exact HTake.here | apply HTake.there)) ?_)), ⟨⟨.inr rfl, h2, .inr (by simp)⟩, by simp only; omega, by simp only [List.length_append, List.length_cons, List.length_nil]; omega⟩, by simp only; omega⟩
          · (repeat' (first | refine s_pure (isPunctF_no d hpu) ?_ | refine k_seq ?_ | refine k_region ?_ | refine k_nil ?_ | refine k_then ?_ | refine k_true ?_ | refine k_false ?_ | refine k_blk ?_ | refine k_skip ?_ | refine s_grun ?_ | refine s_move ?_ | refine s_assign ?_ | refine s_add1 ?_ | refine s_lss_t ?_ | refine s_eql_t ?_ | refine s_eql_f ?_ | refine s_pickt ?_ | refine s_lens ?_ | refine s_index ?_))
            refine s_call (bldByte_tr b p v o R c hp hO (by omega)) (fun u K hR => ?_)
            obtain ⟨rfl, v2, R2, h2, rfl⟩ := hR
            (repeat' (first | refine k_region ?_ | refine k_nil ?_ | refine k_then ?_ | refine k_block ?_ | refine s_move ?_ | refine s_assign ?_ | refine s_add1 ?_))
            exact ⟨⟨j + 1, lp b, v2, R2, o ++ [c]⟩, (Knows.spec (by repeat (first | exact trivial | refine ⟨rfl, ?_⟩))), (by repeat (first | exact SubH.nilR _ | refine SubH.pick (by repeat (first | exact HTake.here | apply HTake.there)) ?_)), ⟨⟨.inr rfl, h2, .inr (by simp)⟩, by simp only; omega, by simp only [List.length_append, List.length_cons, List.length_nil]; omega⟩, by simp only; omega⟩
        · (repeat' (first | refine k_seq ?_ | refine k_region ?_ | refine k_nil ?_ | refine k_then ?_ | refine k_true ?_ | refine k_false ?_ | refine k_blk ?_ | refine k_skip ?_ | refine s_grun ?_ | refine s_gskipt ?_ | refine s_move ?_ | refine s_assign ?_ | refine s_add1 ?_ | refine s_lss_t ?_ | refine s_lss_f ?_ | refine s_eql_t ?_ | refine s_eql_f ?_ | refine s_pickt ?_ | refine s_pickf ?_ | refine s_lens ?_ | refine s_index ?_))
          refine s_call (bldByte_tr b p v o R c hp hO (by omega)) (fun u K hR => ?_)
          obtain ⟨rfl, v2, R2, h2, rfl⟩ := hR
          (repeat' (first | refine k_region ?_ | refine k_nil ?_ | refine k_then ?_ | refine k_block ?_ | refine s_move ?_ | refine s_assign ?_ | refine s_add1 ?_))
          exact ⟨⟨j + 1, lp b, v2, R2, o ++ [c]⟩, (Knows.spec (by repeat (first | exact trivial | refine ⟨rfl, ?_⟩))), (by repeat (first | exact SubH.nilR _ | refine SubH.pick (by repeat (first | exact HTake.here | apply HTake.there)) ?_)), ⟨⟨.inr rfl, h2, .inr (by simp)⟩, by simp only; omega, by simp only [List.length_append, List.length_cons, List.length_nil]; omega⟩, by simp only; omega⟩
      · by_cases h38 : c.toNat = 38
        · (repeat' (first | refine k_seq ?_ | refine k_region ?_ | refine k_nil ?_ | refine k_then ?_ | refine k_true ?_ | refine k_skip ?_ | refine s_move ?_ | refine s_lss_t ?_ | refine s_lens ?_))
          refine k_blk ?_
          skip
          refine k_blk ?_
          (repeat' (first | refine k_seq ?_ | refine k_region ?_ | refine k_nil ?_ | refine k_then ?_ | refine k_true ?_ | refine k_false ?_ | refine s_gskipt ?_ | refine s_move ?_ | refine s_assign ?_ | refine s_add1 ?_ | refine s_eql_t ?_ | refine s_eql_f ?_ | refine s_pickf ?_ | refine s_index ?_))
          refine k_midx (fun k : Nat => [(1, str l), (5, lp b), (6, inat j), (7, inat k)]) (fun _ => [bldb b p v, R, ent T es]) (fun k => j + 1 ≤ k ∧ k ≤ l.length) ?_ ?_
          · (repeat' (first | refine k_blk ?_))
            refine k_loop (fun k : Nat => [(1, str l), (5, lp b), (6, inat j), (7, inat k)]) (fun _ => [bldb b p v, R, ent T es]) (fun k => j + 1 ≤ k ∧ k ≤ l.length) (fun k => l.length - k) (j + 1) ⟨Nat.le_refl _, by omega⟩ (Knows.spec (by repeat (first | exact trivial | refine ⟨rfl, ?_⟩))) (by repeat (first | exact SubH.nilR _ | refine SubH.pick (by repeat (first | exact HTake.here | apply HTake.there)) ?_)) fun k hk => ?_
            obtain ⟨hk1, hk2⟩ := hk
            by_cases hkl : k < l.length
            · obtain ⟨d, hd⟩ := get_some hkl
              by_cases h59 : d.toNat = 59
              · (repeat' (first | refine k_seq ?_ | refine k_region ?_ | refine k_nil ?_ | refine k_then ?_ | refine k_false ?_ | refine k_exit ?_ | refine k_exit_then ?_ | refine k_hit ?_ | refine s_grun ?_ | refine s_move ?_ | refine s_lss_t ?_ | refine s_neq_f ?_ | refine s_pickt ?_ | refine s_lens ?_ | refine s_index ?_))
                exact ⟨k, (by repeat (first | exact trivial | refine ⟨rfl, ?_⟩)), (by repeat (first | exact SubH.nilR _ | refine SubH.pick (by repeat (first | exact HTake.here | apply HTake.there)) ?_)), hk1, hk2⟩
              · (repeat' (first | refine k_seq ?_ | refine k_region ?_ | refine k_nil ?_ | refine k_then ?_ | refine k_true ?_ | refine k_blk ?_ | refine k_skip ?_ | refine k_block ?_ | refine s_grun ?_ | refine s_move ?_ | refine s_assign ?_ | refine s_add1 ?_ | refine s_lss_t ?_ | refine s_neq_t ?_ | refine s_pickt ?_ | refine s_lens ?_ | refine s_index ?_))
                exact ⟨k + 1, (Knows.spec (by repeat (first | exact trivial | refine ⟨rfl, ?_⟩))), (by repeat (first | exact SubH.nilR _ | refine SubH.pick (by repeat (first | exact HTake.here | apply HTake.there)) ?_)), by omega, by omega⟩
            · (repeat' (first | refine k_seq ?_ | refine k_region ?_ | refine k_nil ?_ | refine k_then ?_ | refine k_false ?_ | refine k_exit ?_ | refine k_exit_then ?_ | refine k_hit ?_ | refine s_gskipt ?_ | refine s_move ?_ | refine s_lss_f ?_ | refine s_pickf ?_ | refine s_lens ?_))
              exact ⟨k, (by repeat (first | exact trivial | refine ⟨rfl, ?_⟩)), (by repeat (first | exact SubH.nilR _ | refine SubH.pick (by repeat (first | exact HTake.here | apply HTake.there)) ?_)), hk1, hk2⟩
          · intro k ⟨hk1, hk2⟩
            by_cases hkl : k < l.length
            · (repeat' (first | refine k_seq ?_ | refine k_region ?_ | refine k_nil ?_ | refine k_then ?_ | refine k_true ?_ | refine s_move ?_ | refine s_add1 ?_ | refine s_lss_t ?_ | refine s_lens ?_ | refine s_slices ?_))
              refine s_call (htmlEntity_tr T es hE _) (fun u K hR => ?_)
              obtain ⟨⟨s, ok, rfl, hs8, hok⟩, rfl⟩ := hR
              cases ok with
              | true =>
                (repeat' (first | refine k_seq ?_ | refine k_region ?_ | refine k_nil ?_ | refine k_then ?_ | refine k_true ?_ | refine s_move ?_ | refine s_assign ?_ | refine s_ext ?_))
                refine s_call (bldStr_tr b p v o R s hp hO (hok rfl) (by omega)) (fun u K hR => ?_)
                obtain ⟨rfl, v2, R2, h2, rfl⟩ := hR
                (repeat' (first | refine k_seq ?_ | refine k_region ?_ | refine k_nil ?_ | refine k_then ?_ | refine k_exit ?_ | refine k_exit_then ?_ | refine k_hit ?_ | refine k_miss ?_ | refine s_move ?_ | refine s_assign ?_ | refine s_add1 ?_))
                exact ⟨⟨k + 1, lp b, v2, R2, o ++ s⟩, (Knows.spec (by repeat (first | exact trivial | refine ⟨rfl, ?_⟩))), (by repeat (first | exact SubH.nilR _ | refine SubH.pick (by repeat (first | exact HTake.here | apply HTake.there)) ?_)), ⟨⟨.inr rfl, h2, .inr (by simp [hok rfl])⟩, by simp only; omega, by simp only [List.length_append]; omega⟩, by simp only; omega⟩
              | false =>
                (repeat' (first | refine k_seq ?_ | refine k_region ?_ | refine k_nil ?_ | refine k_then ?_ | refine k_false ?_ | refine k_skip ?_ | refine s_move ?_ | refine s_assign ?_ | refine s_index ?_ | refine s_ext ?_))
                refine s_call (bldByte_tr b p v o R c hp hO (by omega)) (fun u K hR => ?_)
                obtain ⟨rfl, v2, R2, h2, rfl⟩ := hR
                (repeat' (first | refine k_region ?_ | refine k_nil ?_ | refine k_then ?_ | refine k_block ?_ | refine s_move ?_ | refine s_assign ?_ | refine s_add1 ?_))
                exact ⟨⟨j + 1, lp b, v2, R2, o ++ [c]⟩, (Knows.spec (by repeat (first | exact trivial | refine ⟨rfl, ?_⟩))), (by repeat (first | exact SubH.nilR _ | refine SubH.pick (by repeat (first | exact HTake.here | apply HTake.there)) ?_)), ⟨⟨.inr rfl, h2, .inr (by simp)⟩, by simp only; omega, by simp only [List.length_append, List.length_cons, List.length_nil]; omega⟩, by simp only; omega⟩
            · (repeat' (first | refine k_seq ?_ | refine k_region ?_ | refine k_nil ?_ | refine k_then ?_ | refine k_false ?_ | refine k_skip ?_ | refine s_move ?_ | refine s_lss_f ?_ | refine s_lens ?_ | refine s_index ?_))
              refine s_call (bldByte_tr b p v o R c hp hO (by omega)) (fun u K hR => ?_)
              obtain ⟨rfl, v2, R2, h2, rfl⟩ := hR
              (repeat' (first | refine k_region ?_ | refine k_nil ?_ | refine k_then ?_ | refine k_block ?_ | refine s_move ?_ | refine s_assign ?_ | refine s_add1 ?_))
              exact ⟨⟨j + 1, lp b, v2, R2, o ++ [c]⟩, (Knows.spec (by repeat (first | exact trivial | refine ⟨rfl, ?_⟩))), (by repeat (first | exact SubH.nilR _ | refine SubH.pick (by repeat (first | exact HTake.here | apply HTake.there)) ?_)), ⟨⟨.inr rfl, h2, .inr (by simp)⟩, by simp only; omega, by simp only [List.length_append, List.length_cons, List.length_nil]; omega⟩, by simp only; omega⟩
        · (repeat' (first | refine k_seq ?_ | refine k_region ?_ | refine k_nil ?_ | refine k_then ?_ | refine k_true ?_ | refine k_false ?_ | refine k_blk ?_ | refine k_skip ?_ | refine s_gskipt ?_ | refine s_move ?_ | refine s_assign ?_ | refine s_lss_t ?_ | refine s_eql_f ?_ | refine s_pickf ?_ | refine s_lens ?_ | refine s_index ?_))
          refine s_call (bldByte_tr b p v o R c hp hO (by omega)) (fun u K hR => ?_)
          obtain ⟨rfl, v2, R2, h2, rfl⟩ := hR
          (repeat' (first | refine k_region ?_ | refine k_nil ?_ | refine k_then ?_ | refine k_block ?_ | refine s_move ?_ | refine s_assign ?_ | refine s_add1 ?_))
          exact ⟨⟨j + 1, lp b, v2, R2, o ++ [c]⟩, (Knows.spec (by repeat (first | exact trivial | refine ⟨rfl, ?_⟩))), (by repeat (first | exact SubH.nilR _ | refine SubH.pick (by repeat (first | exact HTake.here | apply HTake.there)) ?_)), ⟨⟨.inr rfl, h2, .inr (by simp)⟩, by simp only; omega, by simp only [List.length_append, List.length_cons, List.length_nil]; omega⟩, by simp only; omega⟩
    · have : j = l.length := by omega
      subst this
      (repeat' (first | refine k_seq ?_ | refine k_region ?_ | refine k_nil ?_ | refine k_then ?_ | refine k_false ?_ | refine k_exit ?_ | refine k_exit_then ?_ | refine k_hit ?_ | refine s_move ?_ | refine s_lss_f ?_ | refine s_lens ?_))
      refine ⟨⟨l.length, p, v, R, o⟩, (by repeat (first | exact trivial | refine ⟨rfl, ?_⟩)), (by repeat (first | exact SubH.nilR _ | refine SubH.pick (by repeat (first | exact HTake.here | apply HTake.there)) ?_)), ⟨hp, hO, hN⟩, by simp only; omega, fun h => ?_⟩
      rw [h] at ho
      exact List.eq_nil_of_length_eq_zero (by simpa using ho)
  · intro x ⟨⟨hp, hO, hN⟩, ho, hn⟩
    obtain ⟨j, p, v, R, o⟩ := x
    simp only at hp hO hN ho hn ⊢
    rcases hN with ⟨rfl, rfl, rfl⟩ | hne
    · (repeat' (first | refine k_seq ?_ | refine k_region ?_))
      refine s_call (bldString_nil b p) (fun u K hR => ?_)
      obtain ⟨rfl, rfl⟩ := hR
      (repeat' (first | refine k_nil ?_ | refine k_then ?_ | refine k_ret ?_ | refine s_assign ?_))
      exact e_ret _ ⟨[], rfl, by simp, fun _ => rfl, rfl⟩ (by repeat (first | exact SubH.nilR _ | refine SubH.pick (by repeat (first | exact HTake.here | apply HTake.there)) ?_))
    · (repeat' (first | refine k_seq ?_ | refine k_region ?_))
      refine s_call (bldString_tr b p v o R hO hne (by omega)) (fun u K hR => ?_)
      obtain ⟨rfl, rfl⟩ := hR
      (repeat' (first | refine k_nil ?_ | refine k_then ?_ | refine k_ret ?_ | refine s_assign ?_))
      exact e_ret _ ⟨o, rfl, ho, hn, rfl⟩ (by repeat (first | exact SubH.nilR _ | refine SubH.pick (by repeat (first | exact HTake.here | apply HTake.there)) ?_))
end Go.Proofs

namespace Go.Proofs
open Go Go.Eng
set_option maxRecDepth 20000
set_option maxHeartbeats 4000000

theorem zzContains_yes (l : List UInt8) (c : UInt8) (hl : l.length ≤ 140737488355328) (hn : fst1 c l < l.length) :
    TrP Tryz.prog 44 [str l, str [c]] (.bool true) := by
  refine Tr.start (n := 9) (rs := [.tmp 4]) rfl rfl rfl rfl fun B => ?_
  (repeat' (first | refine s_pure (zzIndex_tr l c hl (fst1 c l) (by rw [if_pos hn])) ?_ | refine k_seq ?_ | refine k_region ?_ | refine k_nil ?_ | refine k_then ?_ | refine k_ret ?_ | refine s_move ?_ | refine s_assign ?_ | refine s_geq_t ?_))
  exact e_pure ⟨rfl, rfl⟩

theorem btrim_le (l : List UInt8) : (btrim l).length ≤ l.length := by
  have h1 : (ltrim l).length ≤ l.length := (List.dropWhile_sublist _).length_le
  have h2 : ((ltrim l).reverse.dropWhile isBl).length ≤ (ltrim l).reverse.length := (List.dropWhile_sublist _).length_le
  rw [List.length_reverse] at h2
  unfold btrim rtrim
  rw [List.length_reverse]; omega

abbrev scell (r : Nat) (v : Value) : Blk := [(r, cellsOf [v] 9)]
abbrev icell (r : Nat) (v : Value) : Blk := [(r, cellsOf [v] 3)]

/-- A fence's line: what it is, or that it is none. -/
theorem trimFence_tr (T : Nat) (es : List Value) (hE : EntOK es) (q f1 f2 n i : Nat) (v1 v2 v3 : Value) (tx : List UInt8) (nl : Nat) (hnt : NoTab tx) (hl : tx.length ≤ 100000) (hi : i ≤ tx.length) :
    Tr Tryz.prog 135 [lp q, lp f1, lp f2, lp n] [lnb q i tx nl, scell f1 v1, scell f2 v2, icell n v3, ent T es] fun u K =>
      (u = .bool false ∧ (at0 tx (sp3 i tx) = 126 → ∃ k, k < 3 ∧ at0 tx (sp3 i tx + k) ≠ 126) ∧ K = [scell f1 v1, scell f2 v2, ent T es]) ∨
      (u = .bool true ∧ ∃ k o, 3 ≤ k ∧ (at0 tx (sp3 i tx) = 96 ∨ at0 tx (sp3 i tx) = 126) ∧ (∀ j, j < k → at0 tx (sp3 i tx + j) = at0 tx (sp3 i tx)) ∧ at0 tx (sp3 i tx + k) ≠ at0 tx (sp3 i tx) ∧ sp3 i tx + k ≤ tx.length ∧ (btrim (tx.drop (sp3 i tx + k)) = [] → o = []) ∧
        K = [scell f1 (str ((tx.drop (sp3 i tx)).take k)), scell f2 (str (btrim o)), icell n (inat (sp3 i tx - i)), ent T es]) := by
  refine Tr.start (n := 69) (rs := [.tmp 8]) rfl rfl rfl rfl fun B => ?_
  have hs := sp3_le hi
  have hl0 : tx.length ≤ 140737488355328 := by omega
  (repeat' (first | refine k_seq ?_ | refine k_region ?_ | refine k_nil ?_ | refine k_then ?_ | refine s_move ?_ | refine s_assign ?_ | refine s_nilp ?_ | refine s_loada ?_ | refine s_store ?_ | refine s_storea ?_ | refine s_alloc (fun _ => ?_)))
  rename_i r
  have hsp : sp3 i tx = i + min (nsp (tx.drop i)) 3 := rfl
  refine k_mid [(0, lp q), (1, lp f1), (2, lp f2), (3, lp n), (9, lp r)] [lnb r (sp3 i tx) tx nl, lnb q i tx nl, scell f1 v1, scell f2 v2, icell n (inat (sp3 i tx - i)), ent T es] ?_ ?_
  · (repeat' (first | refine k_blk ?_))
    refine k_loop (fun k : Nat => [(0, lp q), (1, lp f1), (2, lp f2), (3, lp n), (9, lp r)]) (fun k => [lnb r (i + k) tx nl, lnb q i tx nl, scell f1 v1, scell f2 v2, icell n (inat k), ent T es]) (fun k => k ≤ min (nsp (tx.drop i)) 3) (fun k => 3 - k) 0 (by omega) (Knows.spec (by repeat (first | exact trivial | refine ⟨rfl, ?_⟩))) (by repeat (first | exact SubH.nilR _ | refine SubH.pick (by repeat (first | exact HTake.here | apply HTake.there)) ?_)) fun k hk => ?_
    have hd := nsp_drop (tx.drop i) k (by omega)
    rw [List.drop_drop] at hd
    by_cases hk3 : k < 3
    · by_cases hsp1 : 1 ≤ nsp (tx.drop (i + k))
      · (repeat' (first | refine s_callD (trimSpace1_tr r (i + k) tx nl hnt hl0 (by omega) true (by simp; omega)) ?_ | refine k_seq ?_ | refine k_region ?_ | refine k_nil ?_ | refine k_then ?_ | refine k_true ?_ | refine k_blk ?_ | refine k_skip ?_ | refine k_block ?_ | refine s_grun ?_ | refine s_move ?_ | refine s_load ?_ | refine s_nilp ?_ | refine s_add1 ?_ | refine s_lss_t ?_ | refine s_pickt ?_ | refine s_store ?_))
        exact ⟨k + 1, (Knows.spec (by repeat (first | exact trivial | refine ⟨rfl, ?_⟩))), (by repeat (first | exact SubH.nilR _ | refine SubH.pick (by repeat (first | exact HTake.here | apply HTake.there)) ?_)), by omega, by omega⟩
      · (repeat' (first | refine s_callD (trimSpace1_tr r (i + k) tx nl hnt hl0 (by omega) false (by simp; omega)) ?_ | refine k_seq ?_ | refine k_region ?_ | refine k_nil ?_ | refine k_then ?_ | refine k_false ?_ | refine k_exit ?_ | refine k_exit_then ?_ | refine k_hit ?_ | refine s_grun ?_ | refine s_move ?_ | refine s_load ?_ | refine s_nilp ?_ | refine s_lss_t ?_ | refine s_pickt ?_))
        have e1 : sp3 i tx = i + k := by omega
        have e2 : sp3 i tx - i = k := by omega
        rw [e2, e1]
        exact ⟨(by repeat (first | exact trivial | refine ⟨rfl, ?_⟩)), (by repeat (first | exact SubH.nilR _ | refine SubH.pick (by repeat (first | exact HTake.here | apply HTake.there)) ?_))⟩
    · (repeat' (first | refine k_seq ?_ | refine k_region ?_ | refine k_nil ?_ | refine k_then ?_ | refine k_false ?_ | refine k_exit ?_ | refine k_exit_then ?_ | refine k_hit ?_ | refine s_gskipt ?_ | refine s_move ?_ | refine s_load ?_ | refine s_nilp ?_ | refine s_lss_f ?_ | refine s_pickf ?_))
      have e1 : sp3 i tx = i + k := by omega
      have e2 : sp3 i tx - i = k := by omega
      rw [e2, e1]
      exact ⟨(by repeat (first | exact trivial | refine ⟨rfl, ?_⟩)), (by repeat (first | exact SubH.nilR _ | refine SubH.pick (by repeat (first | exact HTake.here | apply HTake.there)) ?_))⟩
  · generalize sp3 i tx = s0 at hs ⊢
    generalize hn0 : s0 - i = n0
    by_cases h96 : at0 tx s0 = 96
    · (repeat' (first | refine s_callD (peek_tr _ s0 tx nl hl0 hs) ?_ | refine k_seq ?_ | refine k_region ?_ | refine k_nil ?_ | refine k_then ?_ | refine s_move ?_ | refine s_assign ?_))
      refine k_blk ?_
      (repeat' (first | refine s_callD (string_tr _ s0 tx nl hl0 hs) ?_ | refine k_seq ?_ | refine k_region ?_ | refine k_nil ?_ | refine k_then ?_ | refine k_true ?_ | refine k_skip ?_ | refine s_assign ?_ | refine s_eql_t ?_))
      refine k_midx (fun k : Nat => [(0, lp q), (1, lp f1), (2, lp f2), (9, lp r), (10, .int .u8 ((at0 tx s0 : Nat) : Int)), (11, str (tx.drop s0)), (12, inat k)]) (fun k => [lnb r (s0 + k) tx nl, lnb q i tx nl, scell f1 v1, scell f2 v2, icell n (inat n0), ent T es]) (fun k => 3 ≤ k ∧ (∀ j, j < k → at0 tx (s0 + j) = 96) ∧ at0 tx (s0 + k) ≠ 96 ∧ s0 + k ≤ tx.length) ?_ ?_
      · (repeat' (first | refine k_blk ?_))
        refine k_loop (fun k : Nat => [(0, lp q), (1, lp f1), (2, lp f2), (9, lp r), (10, .int .u8 ((at0 tx s0 : Nat) : Int)), (11, str (tx.drop s0)), (12, inat k), (13, inat k)]) (fun k => [lnb r (s0 + k) tx nl, lnb q i tx nl, scell f1 v1, scell f2 v2, icell n (inat n0), ent T es]) (fun k => (∀ j, j < k → at0 tx (s0 + j) = 96) ∧ s0 + k ≤ tx.length) (fun k => tx.length - k) 0 ⟨fun j hj => by omega, by omega⟩ (Knows.spec (by repeat (first | exact trivial | refine ⟨rfl, ?_⟩))) (by repeat (first | exact SubH.nilR _ | refine SubH.pick (by repeat (first | exact HTake.here | apply HTake.there)) ?_)) fun k hk => ?_
        obtain ⟨hk1, hk2⟩ := hk
        by_cases hc : at0 tx (s0 + k) = 96
        · have hlt : s0 + k < tx.length := by
            by_cases hlt : s0 + k < tx.length
            · exact hlt
            · rw [at0_none (by omega)] at hc; omega
          (repeat' (first | refine s_callD (trim_tr r (s0 + k) tx nl (at0 tx s0) hl0 hk2 true (at0_yes (hc.trans h96.symm) (by omega))) ?_ | refine k_seq ?_ | refine k_region ?_ | refine k_nil ?_ | refine k_then ?_ | refine k_false ?_ | refine k_blk ?_ | refine k_skip ?_ | refine k_block ?_ | refine s_move ?_ | refine s_assign ?_ | refine s_add1 ?_ | refine s_nott ?_))
          refine ⟨k + 1, (Knows.spec (by repeat (first | exact trivial | refine ⟨rfl, ?_⟩))), (by repeat (first | exact SubH.nilR _ | refine SubH.pick (by repeat (first | exact HTake.here | apply HTake.there)) ?_)), ⟨fun j hj => ?_, by omega⟩, by omega⟩
          by_cases hjk : j < k
          · exact hk1 j hjk
          · have : j = k := by omega
            subst this; exact hc
        · by_cases hk3 : 3 ≤ k
          · (repeat' (first | refine s_callD (trim_tr r (s0 + k) tx nl (at0 tx s0) hl0 hk2 false (at0_no (fun h => hc (h.trans h96)))) ?_ | refine k_seq ?_ | refine k_region ?_ | refine k_nil ?_ | refine k_then ?_ | refine k_true ?_ | refine k_blk ?_ | refine k_exit ?_ | refine k_exit_then ?_ | refine k_hit ?_ | refine k_miss ?_ | refine s_move ?_ | refine s_geq_t ?_ | refine s_notf ?_))
            exact ⟨k, (by repeat (first | exact trivial | refine ⟨rfl, ?_⟩)), (by repeat (first | exact SubH.nilR _ | refine SubH.pick (by repeat (first | exact HTake.here | apply HTake.there)) ?_)), hk3, hk1, hc, hk2⟩
          · (repeat' (first | refine s_callD (trim_tr r (s0 + k) tx nl (at0 tx s0) hl0 hk2 false (at0_no (fun h => hc (h.trans h96)))) ?_ | refine k_seq ?_ | refine k_region ?_ | refine k_nil ?_ | refine k_then ?_ | refine k_true ?_ | refine k_false ?_ | refine k_blk ?_ | refine k_skip ?_ | refine k_ret ?_ | refine k_ret_then ?_ | refine k_ret_block ?_ | refine s_move ?_ | refine s_assign ?_ | refine s_geq_f ?_ | refine s_notf ?_))
            exact e_ret _ (.inl ⟨rfl, fun h => by omega, rfl⟩) (by repeat (first | exact SubH.nilR _ | refine SubH.pick (by repeat (first | exact HTake.here | apply HTake.there)) ?_))
      · intro k ⟨hk1, hk2, hk3, hk4⟩
        have hlen : (btrim (tx.drop (s0 + k))).length ≤ 1000000 := by
          have h1 : (btrim (tx.drop (s0 + k))).length ≤ (tx.drop (s0 + k)).length := btrim_le _
          rw [List.length_drop] at h1; omega
        have hfl : (tx.drop s0).length = tx.length - s0 := List.length_drop
        (repeat' (first | refine s_callD (trimString_tr _ (s0 + k) tx nl hl0 hk4) ?_ | refine k_seq ?_ | refine k_region ?_ | refine s_buildx ?_))
        refine s_call (replace_tr T es hE _ hlen) (fun u K hR => ?_)
        obtain ⟨o, rfl, ho1, ho2, rfl⟩ := hR
        have ho3 : o.length ≤ 140737488355328 := by omega
        by_cases hct : fst1 96 o < o.length
        · (repeat' (first | refine s_pure (zzContains_yes o 96 ho3 hct) ?_ | refine k_seq ?_ | refine k_region ?_ | refine k_nil ?_ | refine k_then ?_ | refine k_true ?_ | refine k_ret ?_ | refine k_ret_then ?_ | refine k_ret_block ?_ | refine s_grun ?_ | refine s_move ?_ | refine s_assign ?_ | refine s_eql_t ?_ | refine s_pickt ?_))
          exact e_ret _ (.inl ⟨rfl, fun h => by omega, rfl⟩) (by repeat (first | exact SubH.nilR _ | refine SubH.pick (by repeat (first | exact HTake.here | apply HTake.there)) ?_))
        · (repeat' (first | refine s_pure (zzContains_tr o 96 ho3 hct) ?_ | refine s_pure (btrim_tr o ho3) ?_ | refine k_seq ?_ | refine k_region ?_ | refine k_nil ?_ | refine k_then ?_ | refine k_false ?_ | refine k_skip ?_ | refine k_ret ?_ | refine k_ret_then ?_ | refine k_ret_block ?_ | refine s_grun ?_ | refine s_move ?_ | refine s_assign ?_ | refine s_nilp ?_ | refine s_eql_t ?_ | refine s_pickt ?_ | refine s_slicet ?_ | refine s_store ?_ | refine s_storea ?_ | refine s_buildx ?_))
          exact e_ret _ (.inr ⟨rfl, k, o, hk1, .inl h96, fun j hj => (hk2 j hj).trans h96.symm, fun h => hk3 (h.trans h96), hk4, ho2, rfl⟩) (by repeat (first | exact SubH.nilR _ | refine SubH.pick (by repeat (first | exact HTake.here | apply HTake.there)) ?_))
    · by_cases h126 : at0 tx s0 = 126
      · (repeat' (first | refine s_callD (peek_tr _ s0 tx nl hl0 hs) ?_ | refine k_seq ?_ | refine k_region ?_ | refine k_nil ?_ | refine k_then ?_ | refine s_move ?_ | refine s_assign ?_))
        refine k_blk ?_
        (repeat' (first | refine s_callD (string_tr _ s0 tx nl hl0 hs) ?_ | refine k_seq ?_ | refine k_region ?_ | refine k_nil ?_ | refine k_then ?_ | refine k_true ?_ | refine k_false ?_ | refine s_assign ?_ | refine s_eql_t ?_ | refine s_eql_f ?_))
        refine k_midx (fun k : Nat => [(0, lp q), (1, lp f1), (2, lp f2), (9, lp r), (10, .int .u8 ((at0 tx s0 : Nat) : Int)), (11, str (tx.drop s0)), (12, inat k)]) (fun k => [lnb r (s0 + k) tx nl, lnb q i tx nl, scell f1 v1, scell f2 v2, icell n (inat n0), ent T es]) (fun k => 3 ≤ k ∧ (∀ j, j < k → at0 tx (s0 + j) = 126) ∧ at0 tx (s0 + k) ≠ 126 ∧ s0 + k ≤ tx.length) ?_ ?_
        · (repeat' (first | refine k_blk ?_))
          refine k_loop (fun k : Nat => [(0, lp q), (1, lp f1), (2, lp f2), (9, lp r), (10, .int .u8 ((at0 tx s0 : Nat) : Int)), (11, str (tx.drop s0)), (12, inat k), (13, inat k)]) (fun k => [lnb r (s0 + k) tx nl, lnb q i tx nl, scell f1 v1, scell f2 v2, icell n (inat n0), ent T es]) (fun k => (∀ j, j < k → at0 tx (s0 + j) = 126) ∧ s0 + k ≤ tx.length) (fun k => tx.length - k) 0 ⟨fun j hj => by omega, by omega⟩ (Knows.spec (by repeat (first | exact trivial | refine ⟨rfl, ?_⟩))) (by repeat (first | exact SubH.nilR _ | refine SubH.pick (by repeat (first | exact HTake.here | apply HTake.there)) ?_)) fun k hk => ?_
          obtain ⟨hk1, hk2⟩ := hk
          by_cases hc : at0 tx (s0 + k) = 126
          · have hlt : s0 + k < tx.length := by
              by_cases hlt : s0 + k < tx.length
              · exact hlt
              · rw [at0_none (by omega)] at hc; omega
            (repeat' (first | refine s_callD (trim_tr r (s0 + k) tx nl (at0 tx s0) hl0 hk2 true (at0_yes (hc.trans h126.symm) (by omega))) ?_ | refine k_seq ?_ | refine k_region ?_ | refine k_nil ?_ | refine k_then ?_ | refine k_false ?_ | refine k_blk ?_ | refine k_skip ?_ | refine k_block ?_ | refine s_move ?_ | refine s_assign ?_ | refine s_add1 ?_ | refine s_nott ?_))
            refine ⟨k + 1, (Knows.spec (by repeat (first | exact trivial | refine ⟨rfl, ?_⟩))), (by repeat (first | exact SubH.nilR _ | refine SubH.pick (by repeat (first | exact HTake.here | apply HTake.there)) ?_)), ⟨fun j hj => ?_, by omega⟩, by omega⟩
            by_cases hjk : j < k
            · exact hk1 j hjk
            · have : j = k := by omega
              subst this; exact hc
          · by_cases hk3 : 3 ≤ k
            · (repeat' (first | refine s_callD (trim_tr r (s0 + k) tx nl (at0 tx s0) hl0 hk2 false (at0_no (fun h => hc (h.trans h126)))) ?_ | refine k_seq ?_ | refine k_region ?_ | refine k_nil ?_ | refine k_then ?_ | refine k_true ?_ | refine k_blk ?_ | refine k_exit ?_ | refine k_exit_then ?_ | refine k_hit ?_ | refine k_miss ?_ | refine s_move ?_ | refine s_geq_t ?_ | refine s_notf ?_))
              exact ⟨k, (by repeat (first | exact trivial | refine ⟨rfl, ?_⟩)), (by repeat (first | exact SubH.nilR _ | refine SubH.pick (by repeat (first | exact HTake.here | apply HTake.there)) ?_)), hk3, hk1, hc, hk2⟩
            · (repeat' (first | refine s_callD (trim_tr r (s0 + k) tx nl (at0 tx s0) hl0 hk2 false (at0_no (fun h => hc (h.trans h126)))) ?_ | refine k_seq ?_ | refine k_region ?_ | refine k_nil ?_ | refine k_then ?_ | refine k_true ?_ | refine k_false ?_ | refine k_blk ?_ | refine k_skip ?_ | refine k_ret ?_ | refine k_ret_then ?_ | refine k_ret_block ?_ | refine s_move ?_ | refine s_assign ?_ | refine s_geq_f ?_ | refine s_notf ?_))
              exact e_ret _ (.inl ⟨rfl, fun _ => ⟨k, by omega, hc⟩, rfl⟩) (by repeat (first | exact SubH.nilR _ | refine SubH.pick (by repeat (first | exact HTake.here | apply HTake.there)) ?_))
        · intro k ⟨hk1, hk2, hk3, hk4⟩
          have hlen : (btrim (tx.drop (s0 + k))).length ≤ 1000000 := by
            have h1 : (btrim (tx.drop (s0 + k))).length ≤ (tx.drop (s0 + k)).length := btrim_le _
            rw [List.length_drop] at h1; omega
          have hfl : (tx.drop s0).length = tx.length - s0 := List.length_drop
          (repeat' (first | refine s_callD (trimString_tr _ (s0 + k) tx nl hl0 hk4) ?_ | refine k_seq ?_ | refine k_region ?_ | refine s_buildx ?_))
          refine s_call (replace_tr T es hE _ hlen) (fun u K hR => ?_)
          obtain ⟨o, rfl, ho1, ho2, rfl⟩ := hR
          have ho3 : o.length ≤ 140737488355328 := by omega
          (repeat' (first | refine s_pure (btrim_tr o ho3) ?_ | refine k_seq ?_ | refine k_region ?_ | refine k_nil ?_ | refine k_then ?_ | refine k_false ?_ | refine k_skip ?_ | refine k_ret ?_ | refine k_ret_then ?_ | refine k_ret_block ?_ | refine s_gskipt ?_ | refine s_move ?_ | refine s_assign ?_ | refine s_nilp ?_ | refine s_eql_f ?_ | refine s_pickf ?_ | refine s_slicet ?_ | refine s_store ?_ | refine s_storea ?_ | refine s_buildx ?_))
          exact e_ret _ (.inr ⟨rfl, k, o, hk1, .inr h126, fun j hj => (hk2 j hj).trans h126.symm, fun h => hk3 (h.trans h126), hk4, ho2, rfl⟩) (by repeat (first | exact SubH.nilR _ | refine SubH.pick (by repeat (first | exact HTake.here | apply HTake.there)) ?_))
      · (repeat' (first | refine s_callD (peek_tr _ s0 tx nl hl0 hs) ?_ | refine k_seq ?_ | refine k_region ?_ | refine k_nil ?_ | refine k_then ?_ | refine k_false ?_ | refine k_blk ?_ | refine k_skip ?_ | refine k_block ?_ | refine k_ret ?_ | refine s_move ?_ | refine s_assign ?_ | refine s_eql_f ?_))
        exact e_ret _ (.inl ⟨rfl, fun h => absurd h h126, rfl⟩) (by repeat (first | exact SubH.nilR _ | refine SubH.pick (by repeat (first | exact HTake.here | apply HTake.there)) ?_))
end Go.Proofs

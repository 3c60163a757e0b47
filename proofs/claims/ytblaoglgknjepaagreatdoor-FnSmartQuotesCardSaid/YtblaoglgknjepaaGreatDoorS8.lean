/- The tokens of two words with a struck word between them, and of a text taken as it is: plain facts on lists. Conditions: Word. -/
import Derived.Test.YtblaoglgknjepaaGreatDoorS7
namespace Go.Proofs
open Go Go.Eng
set_option maxRecDepth 20000
set_option maxHeartbeats 4000000

abbrev lits (l : List UInt8) : List Tk := l.map .lit
theorem bytes_lits (l : List UInt8) : bytesT (lits l) = l := by
  induction l with
  | nil => rfl
  | cons c l ih => simp only [bytesT, lits, List.map_cons, List.flatMap_cons, Tk.bytes] at ih ⊢; rw [ih]; rfl
theorem stT_lits (l : List Tk) (m : List UInt8) : stT (l ++ lits m) = ((stT l).1, (stT l).2 ++ m) := by
  induction m generalizing l with
  | nil => simp [lits]
  | cons c m ih =>
    have e : l ++ lits (c :: m) = (l ++ [.lit c]) ++ lits m := by simp [lits]
    rw [e, ih, stT_snoc]; simp [Tk.step]
theorem lits_split : ∀ (l : List UInt8) (x : Tk) (R d rr : List Tk) (r : UInt8) (n : Nat) (ob : Bool), lits l ++ x :: R = d ++ Tk.run r n ob :: rr → (d = lits l ∧ x = .run r n ob ∧ R = rr) ∨ ∃ d', d = lits l ++ x :: d' ∧ R = d' ++ .run r n ob :: rr
  | [], x, R, [], rr, r, n, ob, h => by simp [lits] at h; exact .inl ⟨rfl, h.1, h.2⟩
  | [], x, R, y :: d, rr, r, n, ob, h => by simp [lits] at h; exact .inr ⟨d, by simp [lits, h.1], h.2⟩
  | c :: l, x, R, [], rr, r, n, ob, h => by simp [lits] at h
  | c :: l, x, R, y :: d, rr, r, n, ob, h => by
    simp only [lits, List.map_cons, List.cons_append, List.cons.injEq] at h
    obtain ⟨h1, h2⟩ := h
    rcases lits_split l x R d rr r n ob h2 with ⟨k1, k2, k3⟩ | ⟨d', k1, k2⟩
    · exact .inl ⟨by rw [k1, ← h1]; simp [lits], k2, k3⟩
    · exact .inr ⟨d', by rw [k1, ← h1]; simp [lits], k2⟩
theorem lits_norun : ∀ (l : List UInt8) (d rr : List Tk) (r : UInt8) (n : Nat) (ob : Bool), lits l ≠ d ++ Tk.run r n ob :: rr
  | [], d, rr, r, n, ob, h => by simp [lits] at h
  | c :: l, [], rr, r, n, ob, h => by simp [lits] at h
  | c :: l, y :: d, rr, r, n, ob, h => by
    simp only [lits, List.map_cons, List.cons_append, List.cons.injEq] at h
    exact lits_norun l d rr r n ob h.2

theorem runMk {P' S' : List UInt8} {bb aa r : UInt8} {n : Nat} (kind : r.toNat = 126 ∧ n = 1 ∨ r.toNat = 126 ∧ n = 2 ∨ r.toNat = 34 ∧ n = 1 ∨ r.toNat = 39 ∧ n = 1)
    (side : bb.toNat = 32 ∧ wch aa.toNat ∨ wch bb.toNat ∧ aa.toNat = 32 ∨ wch bb.toNat ∧ wch aa.toNat ∧ r.toNat ≠ 126) : Run ((P' ++ [bb]) ++ (List.replicate n r ++ aa :: S')) (P' ++ [bb]).length n r bb aa := by
  refine ⟨kind, fun k hk => ?_, by simp, ?_, ?_, side⟩
  · rw [List.getElem?_append_right (by omega), show (P' ++ [bb]).length + k - (P' ++ [bb]).length = k by omega, List.getElem?_append_left (by simpa using hk)]
    simp [List.getElem?_replicate, hk]
  · rw [List.getElem?_append_left (by simp)]
    simp
  · rw [List.getElem?_append_right (by omega), show (P' ++ [bb]).length + n - (P' ++ [bb]).length = n by omega, List.getElem?_append_right (by simp)]
    simp

/-- A word. -/
structure Word (l : List UInt8) : Prop where
  ne : l ≠ []
  len : l.length ≤ 20
  c : ∀ d ∈ l, wch d.toNat
theorem Word.snoc {l : List UInt8} (h : Word l) : ∃ p z, l = p ++ [z] ∧ wch z.toNat := by
  refine ⟨l.dropLast, l.getLast h.ne, (List.dropLast_concat_getLast h.ne).symm, h.c _ (List.getLast_mem h.ne)⟩
theorem Word.cons {l : List UInt8} (h : Word l) : ∃ z s, l = z :: s ∧ wch z.toNat := by
  cases hl : l with
  | nil => exact absurd hl h.ne
  | cons z s => exact ⟨z, s, rfl, h.c z (by rw [hl]; simp)⟩
theorem btrim_id {l s p : List UInt8} {c z : UInt8} (h1 : l = c :: s) (hc : wch c.toNat) (h2 : l = p ++ [z]) (hz : wch z.toNat) : btrim l = l := by
  have e1 : ltrim l = l := by
    rw [h1]; unfold ltrim
    rw [List.dropWhile_cons_of_neg]
    simp [isBl]; omega
  unfold btrim
  rw [e1, h2]
  unfold rtrim
  rw [List.reverse_append, List.reverse_singleton, List.singleton_append, List.dropWhile_cons_of_neg (by simp [isBl]; omega), List.reverse_cons, List.reverse_reverse]
theorem escH_id : ∀ (l : List UInt8), (∀ d ∈ l, wch d.toNat ∨ d.toNat = 32 ∨ d.toNat = 126) → escH l = l
  | [], _ => rfl
  | c :: l, h => by
    have hc := h c (by simp)
    have ih := escH_id l (fun d hd => h d (List.mem_cons_of_mem _ hd))
    have e1 : escB c = [c] := by
      unfold escB
      rw [if_neg (by omega), if_neg (by omega), if_neg (by omega), if_neg (by omega)]
    simp only [escH, List.flatMap_cons] at ih ⊢
    rw [e1, ih]; rfl

/-- Two words with a struck word between them: the tokens. -/
abbrev delToks (a b c : List UInt8) (n : Nat) : List Tk := lits (a ++ [32]) ++ .run 126 n true :: (lits b ++ .run 126 n false :: lits (32 :: c))
abbrev delText (a b c : List UInt8) (n : Nat) : List UInt8 := a ++ [32] ++ List.replicate n 126 ++ b ++ List.replicate n 126 ++ [32] ++ c
theorem del_bytes (a b c : List UInt8) (n : Nat) : bytesT (delToks a b c n) = delText a b c n := by
  unfold delToks delText
  simp only [bytesT, List.flatMap_append, List.flatMap_cons]
  have e1 := bytes_lits (a ++ [32])
  have e2 := bytes_lits b
  have e3 := bytes_lits (32 :: c)
  simp only [bytesT] at e1 e2 e3
  rw [e1, e2, e3]
  simp [Tk.bytes]
theorem del_items (a b c : List UInt8) (n : Nat) (hb : b ≠ []) : itemsT (delToks a b c n) = [.plain (a ++ [32]), .emph (List.replicate n 126) true false n, .plain b, .emph (List.replicate n 126) false true n, .plain (32 :: c)] := by
  have h1 : stT (lits (a ++ [32])) = ([], a ++ [32]) := by have := stT_lits [] (a ++ [32]); simpa [stT] using this
  have e : delToks a b c n = (((lits (a ++ [32]) ++ [.run 126 n true]) ++ lits b) ++ [.run 126 n false]) ++ lits (32 :: c) := by simp [delToks]
  unfold itemsT
  rw [e, stT_lits, stT_snoc, stT_lits, stT_snoc, h1]
  simp [Tk.step, hb]
theorem sch_lit (o : PO) {x : Nat} (h : wch x ∨ x = 32) : (x ≠ 92 ∧ x ≠ 96 ∧ x ≠ 60 ∧ x ≠ 91 ∧ x ≠ 33 ∧ x ≠ 95 ∧ x ≠ 42 ∧ x ≠ 46 ∧ x ≠ 45 ∧ x ≠ 34 ∧ x ≠ 39 ∧ x ≠ 10 ∧ x ≠ 38 ∧ x ≠ 58 ∧ x ≠ 93) ∧ (x = 126 → o.del = false) := ⟨by omega, fun h => by omega⟩

theorem del_ok {a b c : List UInt8} (ha : Word a) (hb : Word b) (hc : Word c) (n : Nat) (hn : n = 1 ∨ n = 2) : TkOK (poO true false) (delToks a b c n) := by
  obtain ⟨b0, bs, hb0, hbw⟩ := hb.cons
  obtain ⟨bp, bz, hbz, hbzw⟩ := hb.snoc
  obtain ⟨a0, ar, ha0, haw⟩ := ha.cons
  obtain ⟨cp, cz, hcz, hczw⟩ := hc.snoc
  have hkind : ((126 : UInt8).toNat = 126 ∧ n = 1 ∨ (126 : UInt8).toNat = 126 ∧ n = 2 ∨ (126 : UInt8).toNat = 34 ∧ n = 1 ∨ (126 : UInt8).toNat = 39 ∧ n = 1) := by
    rcases hn with h | h
    · exact .inl ⟨rfl, h⟩
    · exact .inr (.inl ⟨rfl, h⟩)
  refine ⟨fun x hx => ?_, fun d rr r m ob hd => ?_, ?_, ⟨lits (a ++ [32]) ++ .run 126 n true :: (lits b ++ .run 126 n false :: lits (32 :: cp)), cz, ?_⟩, ?_⟩
  · have hm : x ∈ a ++ [32] ∨ x ∈ b ∨ x ∈ 32 :: c := by
      simp only [delToks, lits, List.mem_append, List.mem_cons, List.mem_map, Tk.lit.injEq, exists_eq_right, reduceCtorEq, false_or] at hx ⊢
      simpa using hx
    refine sch_lit _ ?_
    rcases hm with h | h | h
    · rcases List.mem_append.1 h with h | h
      · exact .inl (ha.c x h)
      · simp at h; subst h; exact .inr rfl
    · exact .inl (hb.c x h)
    · rcases List.mem_cons.1 h with h | h
      · subst h; exact .inr rfl
      · exact .inl (hc.c x h)
  · have hcase : (d = lits (a ++ [32]) ∧ r = 126 ∧ m = n ∧ ob = true) ∨ (d = lits (a ++ [32]) ++ .run 126 n true :: lits b ∧ r = 126 ∧ m = n ∧ ob = false) := by
      rcases lits_split _ _ _ _ _ _ _ _ hd with ⟨h1, h2, _⟩ | ⟨d', h1, h2⟩
      · injection h2 with h2 h3 h4
        exact .inl ⟨h1, h2.symm, h3.symm, h4.symm⟩
      · rcases lits_split _ _ _ _ _ _ _ _ h2 with ⟨k1, k2, _⟩ | ⟨d'', k1, k2⟩
        · injection k2 with k2 k3 k4
          exact .inr ⟨by rw [h1, k1], k2.symm, k3.symm, k4.symm⟩
        · exact absurd k2 (lits_norun _ _ _ _ _ _)
    rw [del_bytes]
    rcases hcase with ⟨rfl, rfl, rfl, rfl⟩ | ⟨rfl, rfl, rfl, rfl⟩
    · refine ⟨?_, ⟨32, b0, ?_, rfl⟩, fun _ => rfl, fun h => absurd rfl h⟩
      · have := stT_lits [] (a ++ [32])
        rw [List.nil_append] at this
        rw [this]; simp
      · have e : delText a b c m = (a ++ [32]) ++ (List.replicate m 126 ++ b0 :: (bs ++ List.replicate m 126 ++ [32] ++ c)) := by unfold delText; rw [hb0]; simp
        rw [e, bytes_lits]
        exact runMk hkind (.inl ⟨rfl, hbw⟩)
    · refine ⟨?_, ⟨bz, 32, ?_, ?_⟩, fun _ => rfl, fun h => absurd rfl h⟩
      · have e : lits (a ++ [32]) ++ Tk.run 126 m true :: lits b = (lits (a ++ [32]) ++ [Tk.run 126 m true]) ++ lits b := by simp
        rw [e, stT_lits]; simp [hb.ne]
      · have e : delText a b c m = ((a ++ [32] ++ List.replicate m 126 ++ bp) ++ [bz]) ++ (List.replicate m 126 ++ 32 :: c) := by unfold delText; rw [hbz]; simp
        have e2 : bytesT (lits (a ++ [32]) ++ Tk.run 126 m true :: lits b) = (a ++ [32] ++ List.replicate m 126 ++ bp) ++ [bz] := by
          simp only [bytesT, List.flatMap_append, List.flatMap_cons]
          have e1 := bytes_lits (a ++ [32])
          have e2 := bytes_lits b
          simp only [bytesT] at e1 e2
          rw [e1, e2, hbz]; simp [Tk.bytes]
        rw [e, e2]
        exact runMk hkind (.inr (.inl ⟨hbzw, rfl⟩))
      · exact decide_eq_false (by omega)
  · rw [del_bytes]
    unfold delText
    have h1 := ha.len
    have h2 := hb.len
    have h3 := hc.len
    simp only [List.length_append, List.length_replicate, List.length_cons, List.length_nil]
    omega
  · unfold delToks; rw [hcz]; simp [lits]
  · rw [del_bytes]
    refine btrim_id (c := a0) (s := ar ++ [32] ++ List.replicate n 126 ++ b ++ List.replicate n 126 ++ [32] ++ c) (p := a ++ [32] ++ List.replicate n 126 ++ b ++ List.replicate n 126 ++ [32] ++ cp) (z := cz) ?_ haw ?_ hczw
    · unfold delText; rw [ha0]; simp
    · unfold delText; rw [hcz]; simp

/-- A text of words, spaces and tildes, taken as it is: the option is off. -/
theorem lit_ok {tx : List UInt8} {c z : UInt8} {s p : List UInt8} (h1 : tx = c :: s) (hc : wch c.toNat) (h2 : tx = p ++ [z]) (hz : wch z.toNat) (hall : ∀ d ∈ tx, wch d.toNat ∨ d.toNat = 32 ∨ d.toNat = 126) (hl : tx.length ≤ 10000) : TkOK (poO false false) (lits tx) := by
  refine ⟨fun x hx => ?_, fun d rr r m ob hd => absurd hd (lits_norun _ _ _ _ _ _), by rw [bytes_lits]; omega, ⟨lits p, z, by rw [h2]; simp [lits]⟩, by rw [bytes_lits]; exact btrim_id h1 hc h2 hz⟩
  have := hall x (by simpa [lits] using hx)
  exact ⟨by omega, fun _ => rfl⟩
theorem lit_items (tx : List UInt8) : itemsT (lits tx) = [.plain tx] := by
  have h1 : stT (lits tx) = ([], tx) := by have := stT_lits [] tx; simpa [stT] using this
  unfold itemsT; rw [h1]; rfl
end Go.Proofs

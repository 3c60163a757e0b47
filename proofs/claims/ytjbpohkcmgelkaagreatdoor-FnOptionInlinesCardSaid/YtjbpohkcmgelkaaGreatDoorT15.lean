/- Lines of letters, spaces, asterisks, tildes and backquotes: what the delimiters' pass makes of them, and how long their HTML is. Conditions: as each theorem says. -/
import Derived.Test.YtjbpohkcmgelkaaGreatDoorT14
import Derived.Test.YtjbpohkcmgelkaaGreatDoorT04
import Derived.Test.YtjbpohkcmgelkaaGreatDoorEngB
namespace Go.Proofs
open Go Go.Eng
set_option maxRecDepth 20000
set_option maxHeartbeats 1000000

theorem scan_mem {p : UInt8 → Bool} {s : List UInt8} : ∀ (n i k : Nat), s.length ≤ i + n → i ≤ k → k < scan p s i → ∃ c, s[k]? = some c ∧ p c = true
  | 0, i, k, h, h1, h2 => by rw [scan_end (by omega)] at h2; omega
  | n + 1, i, k, h, h1, h2 => by
    by_cases hlt : i < s.length
    · obtain ⟨d, hd⟩ := get_some hlt
      cases hb : p d with
      | true =>
        rw [scan_step hd hb] at h2
        by_cases hk : k = i
        · subst hk; exact ⟨d, hd, hb⟩
        · exact scan_mem n (i + 1) k (by omega) (by omega) h2
      | false => rw [scan_stop hd hb] at h2; omega
    · rw [scan_end (by omega)] at h2; omega
theorem slice_rep {s : List UInt8} {i j : Nat} {c : UInt8} (hij : i ≤ j) (hj : j ≤ s.length) (h : ∀ k, i ≤ k → k < j → s[k]? = some c) : (s.take j).drop i = List.replicate (j - i) c := by
  apply List.ext_getElem?
  intro k
  rw [List.getElem?_drop, List.getElem?_take, List.getElem?_replicate]
  by_cases hk : k < j - i
  · rw [if_pos (by omega), if_pos hk]; exact h _ (by omega) (by omega)
  · rw [if_neg (by omega), if_neg hk]
theorem slice_ne {s : List UInt8} {i j : Nat} (hij : i < j) (hj : j ≤ s.length) : (s.take j).drop i ≠ [] := by
  intro h
  have := congrArg List.length h
  rw [List.length_drop, List.length_take] at this
  simp only [List.length_nil] at this
  omega

/-- What holds of all that is read at a sign. -/
structure ParOK (s : List UInt8) (i : Nat) (c : UInt8) (y : In) (a b : Nat) : Prop where
  le : a ≤ i
  lt : i < b
  len : b ≤ s.length
  leaf : isLeaf y = true
  wf : EmWF y
  run : runOf y ≠ 0 → a = i ∧ runOf y = c.toNat ∧ ∀ d, s[b]? = some d → d.toNat ≠ c.toNat
  op : ∀ t k, y = .op t k → k ≤ b ∧ t ≠ []
theorem ParOK.simple {s : List UInt8} {i : Nat} {c : UInt8} {y : In} {a b : Nat} (h1 : a ≤ i) (h2 : i < b) (h3 : b ≤ s.length) (h4 : isLeaf y = true) (h5 : ∀ t o c n, y ≠ .em t o c n) (h6 : ∀ t k, y ≠ .op t k) : ParOK s i c y a b := by
  have hr : runOf y = 0 := by
    cases y <;> first | rfl | exact absurd rfl (h5 _ _ _ _)
  refine ⟨h1, h2, h3, h4, ?_, fun h => absurd hr h, fun t k e => absurd e (h6 t k)⟩
  cases y <;> first | trivial | exact absurd rfl (h5 _ _ _ _)
theorem escI_ok {s : List UInt8} {i : Nat} {c : UInt8} {y : In} {a b : Nat} (h : escI s i = some (y, a, b)) : ParOK s i c y a b := by
  unfold escI at h
  cases hc : s[i + 1]? with
  | none => rw [hc] at h; cases h
  | some d =>
    have hlt := (List.getElem?_eq_some_iff.1 hc).1
    rw [hc] at h
    dsimp only at h
    by_cases h1 : isPunB d = true
    · rw [if_pos h1] at h
      cases h
      exact .simple (Nat.le_refl _) (by omega) (by omega) rfl (by intros; intro e; cases e) (by intros; intro e; cases e)
    · rw [if_neg h1] at h
      by_cases h2 : d.toNat = 10
      · rw [if_pos h2] at h
        have hge := scan_ge isBl s (i + 2)
        have hle := scan_le (p := isBl) (s := s) (i := i + 2) (by omega)
        cases h
        exact .simple (Nat.le_refl _) (by omega) hle rfl (by intros; intro e; cases e) (by intros; intro e; cases e)
      · rw [if_neg h2] at h; cases h
theorem breakI_ok {s : List UInt8} {i : Nat} {c : UInt8} {y : In} {a b : Nat} (hi : i < s.length) (h : breakI s i = some (y, a, b)) : ParOK s i c y a b := by
  unfold breakI at h
  have hge := scan_ge isBl s (i + 1)
  have hle := scan_le (p := isBl) (s := s) (i := i + 1) (by omega)
  have hb := bcan_le s i
  by_cases h1 : 2 ≤ i ∧ s[i - 1]? = some 32 ∧ s[i - 2]? = some 32
  · rw [if_pos h1] at h
    cases h
    exact .simple hb (by omega) hle rfl (by intros; intro e; cases e) (by intros; intro e; cases e)
  · rw [if_neg h1] at h
    cases h
    exact .simple hb (by omega) hle rfl (by intros; intro e; cases e) (by intros; intro e; cases e)
theorem linkOpenI_ok {s : List UInt8} {i : Nat} {c : UInt8} {y : In} {a b : Nat} (hi : i < s.length) (h : linkOpenI s i = some (y, a, b)) : ParOK s i c y a b := by
  unfold linkOpenI at h
  cases h
  exact ⟨Nat.le_refl _, by omega, by omega, rfl, trivial, fun h => absurd rfl h, fun t k e => by cases e; exact ⟨Nat.le_refl _, slice_ne (by omega) (by omega)⟩⟩
theorem imageOpenI_ok {s : List UInt8} {i : Nat} {c : UInt8} {y : In} {a b : Nat} (h : imageOpenI s i = some (y, a, b)) : ParOK s i c y a b := by
  unfold imageOpenI at h
  by_cases h1 : s[i + 1]? = some 91
  · have hlt := (List.getElem?_eq_some_iff.1 h1).1
    rw [if_pos h1] at h
    cases h
    exact ⟨Nat.le_refl _, by omega, by omega, rfl, trivial, fun h => absurd rfl h, fun t k e => by cases e; exact ⟨Nat.le_refl _, slice_ne (by omega) (by omega)⟩⟩
  · rw [if_neg h1] at h; cases h
theorem angI_ok {s : List UInt8} {i : Nat} {c : UInt8} {y : In} {a b : Nat} (h : angI s i = some (y, a, b)) : ParOK s i c y a b := by
  unfold angI at h
  cases h1 : autoURIM s i with
  | some j =>
    have := autoURIM_lt h1
    rw [h1] at h
    cases h
    exact .simple (Nat.le_refl _) (by omega) (by omega) rfl (by intros; intro e; cases e) (by intros; intro e; cases e)
  | none =>
    rw [h1] at h
    dsimp only at h
    cases h2 : emailM s i with
    | some j =>
      have := emailM_lt h2
      rw [h2] at h
      cases h
      exact .simple (Nat.le_refl _) (by omega) (by omega) rfl (by intros; intro e; cases e) (by intros; intro e; cases e)
    | none =>
      rw [h2] at h
      dsimp only at h
      cases h3 : htmlTagM s i with
      | some j =>
        have := htmlTagM_lt h3
        rw [h3] at h
        cases h
        exact .simple (Nat.le_refl _) (by omega) (by omega) rfl (by intros; intro e; cases e) (by intros; intro e; cases e)
      | none => rw [h3] at h; cases h
theorem runsM_some {s : List UInt8} {n : Nat} {sc : Bool} : ∀ {f e : Nat} {last l' : List Nat} {a b : Nat}, runsM s n sc f e last = (some (a, b), l') → e ≤ a ∧ a < b ∧ b ≤ s.length
  | 0, e, last, l', a, b, h => by cases h
  | f + 1, e, last, l', a, b, h => by
    unfold runsM at h
    cases hc : s[e]? with
    | none => rw [hc] at h; cases h
    | some c =>
      have hlt := (List.getElem?_eq_some_iff.1 hc).1
      rw [hc] at h
      dsimp only at h
      by_cases ht : tickB c = true
      · rw [if_pos ht] at h
        have hg1 : e + 1 ≤ scan tickB s e := by rw [scan_step hc ht]; exact scan_ge _ _ _
        have hg2 := scan_le (p := tickB) (s := s) (i := e) (by omega)
        by_cases hn : scan tickB s e - e = n
        · rw [if_pos hn] at h
          cases h
          exact ⟨Nat.le_refl _, by omega, hg2⟩
        · rw [if_neg hn] at h
          have := runsM_some h
          omega
      · rw [if_neg ht] at h
        have := runsM_some h
        omega
theorem codeI_ok {s : List UInt8} {i : Nat} {c : UInt8} {b : BT} (hi : i < s.length) (hb : b.last.length = 80) : ParOK s i c (codeI s i b).1.1 (codeI s i b).1.2.1 (codeI s i b).1.2.2 ∧ (codeI s i b).2.last.length = 80 := by
  have hj1 := scan_ge tickB s (i + 1)
  have hj2 := scan_le (p := tickB) (s := s) (i := i + 1) (by omega)
  unfold codeI
  dsimp only
  by_cases h : 80 < scan tickB s (i + 1) - i ∨ b.sc = true ∧ b.last.getD (scan tickB s (i + 1) - i - 1) 0 < scan tickB s (i + 1)
  · rw [if_pos h]
    exact ⟨.simple (Nat.le_refl _) (by dsimp only; omega) hj2 rfl (by intros; intro e; cases e) (by intros; intro e; cases e), hb⟩
  · rw [if_neg h]
    have hl := runsM_len (s := s) (n := scan tickB s (i + 1) - i) (sc := b.sc) (f := s.length + 1) (e := scan tickB s (i + 1)) (last := b.last)
    split
    · rename_i e e' l' he
      rw [he] at hl
      have := runsM_some he
      exact ⟨.simple (Nat.le_refl _) (by dsimp only; omega) this.2.2 rfl (by intros; intro e; cases e) (by intros; intro e; cases e), by dsimp only at hl ⊢; omega⟩
    · rename_i l' he
      rw [he] at hl
      exact ⟨.simple (Nat.le_refl _) (by dsimp only; omega) hj2 rfl (by intros; intro e; cases e) (by intros; intro e; cases e), by dsimp only at hl ⊢; omega⟩
theorem emphEnd_ok {s : List UInt8} {i : Nat} {c : UInt8} (hc : s[i]? = some c) : i < emphEnd s i c ∧ emphEnd s i c ≤ s.length ∧ (s.take (emphEnd s i c)).drop i = List.replicate (emphEnd s i c - i) c ∧ (isRunC c → ∀ d, s[emphEnd s i c]? = some d → d.toNat ≠ c.toNat) ∧ (¬ isRunC c → emphEnd s i c = i + 1) := by
  have hi := (List.getElem?_eq_some_iff.1 hc).1
  unfold emphEnd
  by_cases h : c.toNat = 42 ∨ c.toNat = 126 ∨ c.toNat = 95
  · rw [if_pos h]
    have h1 := scan_ge (fun d => d == c) s (i + 1)
    have h2 := scan_le (p := fun d => d == c) (s := s) (i := i + 1) (by omega)
    refine ⟨by omega, h2, slice_rep (by omega) h2 fun k hk1 hk2 => ?_, fun _ d hd he => ?_, fun hn => absurd (by unfold isRunC; omega) hn⟩
    · by_cases hk : k = i
      · subst hk; exact hc
      · obtain ⟨d, hd, he⟩ := scan_mem s.length (i + 1) k (by omega) (by omega) hk2
        rw [hd, show d = c by simpa using he]
    · have := scan_at (n := s.length) (by omega) hd
      rw [UInt8.toNat_inj.1 he] at this
      simp at this
  · rw [if_neg h]
    refine ⟨by omega, by omega, slice_rep (by omega) (by omega) fun k hk1 hk2 => by rw [show k = i by omega]; exact hc, fun hr => absurd (by unfold isRunC at hr; omega) h, fun _ => rfl⟩
theorem emphI_ok {s : List UInt8} {i : Nat} {c : UInt8} {y : In} {a b : Nat} (hl : s.length ≤ 1000000) (hc : s[i]? = some c) (hk : isRunC c ∨ isQ c = true) (h : emphI s i c = some (y, a, b)) : ParOK s i c y a b := by
  obtain ⟨h1, h2, h3, h4, h5⟩ := emphEnd_ok hc
  unfold emphI at h
  dsimp only at h
  by_cases hb : c.toNat = 126 ∧ 2 < emphEnd s i c - i
  · rw [if_pos hb] at h
    cases h
    exact .simple (Nat.le_refl _) h1 h2 rfl (by intros; intro e; cases e) (by intros; intro e; cases e)
  · rw [if_neg hb] at h
    cases h
    refine ⟨Nat.le_refl _, h1, h2, rfl, ⟨by omega, ?_⟩, fun hr => ?_, fun t k e => by cases e⟩
    · rcases hk with hk | hk
      · exact .inl ⟨c, _, hk, h3, by omega, by omega⟩
      · have hnr : ¬ isRunC c := fun hr => by rw [isQ_run hr] at hk; cases hk
        refine .inr ⟨⟨c, hk, by rw [h3, h5 hnr, show i + 1 - i = 1 by omega]; rfl⟩, ?_⟩
        have hq : c.toNat = 39 ∨ c.toNat = 34 := by simp [isQ] at hk; omega
        unfold canOpenM canCloseM
        rw [if_pos hq, if_neg (show ¬ c.toNat = 95 by omega)]
        cases flankR (beforeM s i) (afterM s (emphEnd s i c)) <;> simp
    · rcases hk with hk | hk
      · rw [h3, runOf_rep (by omega) hk]
        exact ⟨rfl, rfl, h4 hk⟩
      · exfalso
        apply hr
        have hnr : ¬ isRunC c := fun hr => by rw [isQ_run hr] at hk; cases hk
        rw [h3, h5 hnr, show i + 1 - i = 1 by omega]
        unfold runOf
        dsimp only
        exact if_neg (by intro h; exact hnr h)
/-- What an entity may be. -/
def EntWF (o : IO) (s : List UInt8) : Prop := ∀ i t b, o.ent i = some (t, b) → s[i]? = some 38 → i < b ∧ b ≤ s.length
theorem parI_ok {o : IO} {s : List UInt8} {i : Nat} {c : UInt8} {bs : Bool} {bt : BT} (hl : s.length ≤ 1000000) (hE : EntWF o s) (hc : s[i]? = some c) (hb : bt.last.length = 80) :
    (∀ y a b, (parI o s i c bs bt).1 = some (y, a, b) → ParOK s i c y a b) ∧ (parI o s i c bs bt).2.2.last.length = 80 := by
  have hi := (List.getElem?_eq_some_iff.1 hc).1
  unfold parI
  by_cases h1 : c.toNat = 92
  · rw [if_pos h1]; exact ⟨fun y a b h => escI_ok h, hb⟩
  rw [if_neg h1]
  by_cases h2 : c.toNat = 96
  · rw [if_pos h2]
    have hb' : (if bs = true then bt else bt00).last.length = 80 := by split; exact hb; rfl
    obtain ⟨q1, q2⟩ := codeI_ok (c := c) hi hb'
    exact ⟨fun y a b h => (by have h' := Option.some.inj h; rw [h'] at q1; exact q1), q2⟩
  rw [if_neg h2]
  by_cases h3 : c.toNat = 60
  · rw [if_pos h3]; exact ⟨fun y a b h => angI_ok h, hb⟩
  rw [if_neg h3]
  by_cases h4 : c.toNat = 91
  · rw [if_pos h4]; exact ⟨fun y a b h => linkOpenI_ok hi h, hb⟩
  rw [if_neg h4]
  by_cases h5 : c.toNat = 33
  · rw [if_pos h5]; exact ⟨fun y a b h => imageOpenI_ok h, hb⟩
  rw [if_neg h5]
  by_cases h6 : c.toNat = 95 ∨ c.toNat = 42
  · rw [if_pos h6]; exact ⟨fun y a b h => emphI_ok hl hc (.inl (by unfold isRunC; omega)) h, hb⟩
  rw [if_neg h6]
  by_cases h7 : c.toNat = 34 ∨ c.toNat = 39
  · rw [if_pos h7]
    cases o.quotes with
    | true => exact ⟨fun y a b h => emphI_ok hl hc (.inr (by simp [isQ]; omega)) h, hb⟩
    | false => exact ⟨fun y a b h => (by cases h), hb⟩
  rw [if_neg h7]
  by_cases h8 : c.toNat = 126
  · rw [if_pos h8]
    cases o.del with
    | true => exact ⟨fun y a b h => emphI_ok hl hc (.inl (by unfold isRunC; omega)) h, hb⟩
    | false => exact ⟨fun y a b h => (by cases h), hb⟩
  rw [if_neg h8]
  by_cases h9 : c.toNat = 10
  · rw [if_pos h9]; exact ⟨fun y a b h => breakI_ok hi h, hb⟩
  rw [if_neg h9]
  by_cases h10 : c.toNat = 38
  · rw [if_pos h10]
    refine ⟨fun y a b h => ?_, hb⟩
    cases he : o.ent i with
    | none => rw [he] at h; cases h
    | some r =>
      obtain ⟨t, e⟩ := r
      rw [he] at h
      cases h
      obtain ⟨k1, k2⟩ := hE i t _ he (by rw [hc, show c = 38 from UInt8.toNat_inj.1 h10])
      exact .simple (Nat.le_refl _) k1 k2 rfl (by intros; intro e; cases e) (by intros; intro e; cases e)
  rw [if_neg h10]
  exact ⟨fun y a b h => (by cases h), hb⟩

theorem Apart.snoc {l : List In} {x : In} (h : Apart l) (hx : ∀ y, l.getLast? = some y → runOf y ≠ 0 → runOf y ≠ runOf x) : Apart (l ++ [x]) := by
  intro j a b ha hb h0
  by_cases hj : j + 1 < l.length
  · rw [List.getElem?_append_left (by omega)] at ha
    rw [List.getElem?_append_left (by omega)] at hb
    exact h j a b ha hb h0
  · have hb1 := (List.getElem?_eq_some_iff.1 hb).1
    rw [List.length_append, List.length_singleton] at hb1
    have hj2 : j + 1 = l.length := by omega
    rw [List.getElem?_append_left (by omega)] at ha
    rw [hj2, List.getElem?_append_right (Nat.le_refl _), Nat.sub_self] at hb
    cases hb
    exact hx a (by rw [List.getLast?_eq_getElem?, ← hj2]; exact ha) h0
theorem Apart.take {l : List In} (h : Apart l) (n : Nat) : Apart (l.take n) := by
  intro j a b ha hb h0
  rw [List.getElem?_take] at ha hb
  split at ha
  · split at hb
    · exact h j a b ha hb h0
    · cases hb
  · cases ha
theorem Apart.drop {l : List In} (h : Apart l) (n : Nat) : Apart (l.drop n) := by
  intro j a b ha hb h0
  rw [List.getElem?_drop] at ha hb
  exact h (n + j) a b ha hb h0

/-- What holds of the scan all along. -/
structure IInv (s : List UInt8) (x : IS) : Prop where
  ie : x.e ≤ x.i
  il : x.i ≤ s.length
  wf : ∀ y ∈ x.out, EmWF y
  ap : Apart x.out
  last : ∀ y, x.out.getLast? = some y → runOf y ≠ 0 → ∀ c, s[x.e]? = some c → c.toNat ≠ runOf y
  len : x.out.length ≤ x.e
  ops : ∀ oi ∈ x.ops, ∃ t k, x.out[oi]? = some (.op t k) ∧ k ≤ x.i ∧ t ≠ []
  inc : x.ops.Pairwise (· < ·)
  bt : x.bt.last.length = 80
theorem emitI_len {s : List UInt8} {e i : Nat} {out : List In} (h : out.length ≤ e) : (emitI s e i out).length ≤ max e i ∧ out.length ≤ (emitI s e i out).length ∧ ((emitI s e i out).length ≤ e ∨ e < i ∧ (emitI s e i out).length ≤ e + 1) := by
  unfold emitI
  split
  · simp only [List.length_append, List.length_singleton]; omega
  · omega
theorem emitI_get {s : List UInt8} {e i : Nat} {out : List In} {j : Nat} {y : In} (h : out[j]? = some y) : (emitI s e i out)[j]? = some y := by
  unfold emitI
  split
  · rw [List.getElem?_append_left (List.getElem?_eq_some_iff.1 h).1]; exact h
  · exact h
theorem emitI_wf {s : List UInt8} {e i : Nat} {out : List In} (h : ∀ y ∈ out, EmWF y) : ∀ y ∈ emitI s e i out, EmWF y := by
  unfold emitI
  split
  · intro y hy
    rcases List.mem_append.1 hy with hy | hy
    · exact h y hy
    · simp at hy; subst hy; trivial
  · exact h
theorem emitI_last {s : List UInt8} {e i : Nat} {out : List In} {y : In} (h : (emitI s e i out).getLast? = some y) (hr : runOf y ≠ 0) : ¬ e < i ∧ out.getLast? = some y := by
  unfold emitI at h
  split at h
  · rw [getLast?_snoc] at h; cases h; exact absurd rfl hr
  · exact ⟨by assumption, h⟩
theorem emitI_ap {s : List UInt8} {e i : Nat} {out : List In} (h : Apart out) : Apart (emitI s e i out) := by
  unfold emitI
  split
  · exact h.snoc fun y _ h0 => h0
  · exact h
theorem mem_top {ps : List Nat} (h : ps ≠ []) : ps.getD (ps.length - 1) 0 ∈ ps := by
  have : 0 < ps.length := List.length_pos_iff.2 h
  rw [List.getD, List.getElem?_eq_getElem (show ps.length - 1 < ps.length by omega)]; exact List.getElem_mem _
theorem top_max {ps : List Nat} (hi : ps.Pairwise (· < ·)) : ∀ p ∈ ps.take (ps.length - 1), p < ps.getD (ps.length - 1) 0 := by
  intro p hp
  obtain ⟨j, hj, rfl⟩ := List.mem_iff_getElem.1 hp
  rw [List.length_take] at hj
  rw [List.getElem_take, List.getD, List.getElem?_eq_getElem (show ps.length - 1 < ps.length by omega)]
  exact List.pairwise_iff_getElem.1 hi j (ps.length - 1) (by omega) (by omega) (by omega)
theorem nodeI_run (t : List UInt8) (d : LDat) (l : List In) : runOf (nodeI t d l) = 0 ∧ EmWF (nodeI t d l) := by
  unfold nodeI
  split <;> exact ⟨rfl, trivial⟩
theorem linkCloseM_lt {tab : Nat → List UInt8} {tb : LTab} {s : List UInt8} {i o k : Nat} {d : LDat} (hi : i < s.length) (h : linkCloseM tab tb s i o = some (d, k)) : i < k ∧ k ≤ s.length := by
  unfold linkCloseM at h
  have hcl : ∀ {x : Nat} {dd : LDat} {r : LDat × Nat}, closeAt s x dd = some r → i < x → i < r.2 ∧ r.2 ≤ s.length := by
    intro x dd r hr hx
    unfold closeAt at hr
    by_cases hx2 : s[x]? = some 41
    · rw [if_pos hx2] at hr
      have := (List.getElem?_eq_some_iff.1 hx2).1
      cases hr
      dsimp only
      omega
    · rw [if_neg hx2] at hr; cases hr
  have hIn : ∀ {r : LDat × Nat}, inlineLinkM tab s i = some r → i < r.2 ∧ r.2 ≤ s.length := by
    intro r hr
    unfold inlineLinkM at hr
    have ha1 := scan_ge isSp s (i + 2)
    dsimp only at hr
    split at hr
    · split at hr
      · cases hr
      · rename_i dest b hd
        have hb := linkDestM_le hd
        have hc1 := scan_ge isSp s b
        split at hr
        · split at hr
          · cases hr
          · rename_i tt w d2 ht
            have h2 := titleM_lt ht
            exact hcl hr (by have := scan_ge isSp s d2; omega)
        · exact hcl hr (by omega)
    · exact hcl hr (by omega)
  split at h
  · exact shortM_lt hi h
  · split at h
    · split at h
      · rename_i r hr
        cases h
        exact hIn hr
      · exact shortM_lt hi h
    · split at h
      · split at h
        · exact shortM_lt hi h
        · rename_i lab j hlab
          have hlb := labelM_lt hlab
          split at h
          · cases h
          · cases h
            omega
      · exact shortM_lt hi h
/-- A step keeps it, and goes on. -/
theorem stepI_ok {o : IO} {s : List UInt8} {x : IS} (hl : s.length ≤ 1000000) (hE : EntWF o s) (h : IInv s x) (hlt : x.i < s.length) : IInv s (stepI o s x) ∧ x.i < (stepI o s x).i := by
  obtain ⟨c, hc⟩ := get_some hlt
  unfold stepI
  rw [hc]
  dsimp only
  obtain ⟨hp1, hp2⟩ := parI_ok (bs := x.bs) hl hE hc h.bt
  generalize hpr : parI o s x.i c x.bs x.bt = r at hp1 hp2 ⊢
  obtain ⟨r, bs, bt⟩ := r
  dsimp only at hp1 hp2
  cases r with
  | some r =>
    obtain ⟨y, a, b⟩ := r
    have hk := hp1 y a b rfl
    have ha := hk.le
    have hbl := hk.lt
    have hle := h.ie
    dsimp only
    refine ⟨⟨Nat.le_refl _, hk.len, ?_, ?_, ?_, ?_, ?_, ?_, hp2⟩, hk.lt⟩
    · intro z hz
      rcases List.mem_append.1 hz with hz | hz
      · exact emitI_wf h.wf z hz
      · simp at hz; subst hz; exact hk.wf
    · refine (emitI_ap h.ap).snoc fun z hz h0 hzy => ?_
      obtain ⟨q1, q2⟩ := emitI_last hz h0
      obtain ⟨k1, k2, k3⟩ := hk.run (by rw [← hzy]; exact h0)
      have := h.last z q2 h0 c (by rw [show x.e = x.i by omega]; exact hc)
      rw [hzy, k2] at this
      exact this rfl
    · intro z hz h0 d hd
      rw [getLast?_snoc] at hz
      cases hz
      obtain ⟨k1, k2, k3⟩ := hk.run h0
      rw [k2]
      exact k3 d hd
    · have := emitI_len (s := s) (i := a) h.len
      simp only [List.length_append, List.length_singleton]
      omega
    · intro oi hoi
      have hold : ∀ oi ∈ x.ops, ∃ t k, (emitI s x.e a x.out ++ [y])[oi]? = some (.op t k) ∧ k ≤ b ∧ t ≠ [] := by
        intro oi hoi
        obtain ⟨t, k, e1, e2, e3⟩ := h.ops oi hoi
        have := emitI_get (s := s) (e := x.e) (i := a) e1
        exact ⟨t, k, by rw [List.getElem?_append_left (List.getElem?_eq_some_iff.1 this).1]; exact this, by omega, e3⟩
      cases hy : isOp y with
      | false => rw [hy] at hoi; exact hold oi (by simpa using hoi)
      | true =>
        rw [hy, if_pos rfl] at hoi
        rcases List.mem_append.1 hoi with hoi | hoi
        · exact hold oi hoi
        · simp at hoi
          subst hoi
          cases y with
          | op t k =>
            obtain ⟨e1, e2⟩ := hk.op t k rfl
            exact ⟨t, k, by simp, e1, e2⟩
          | _ => cases hy
    · cases hy : isOp y with
      | false => simpa using h.inc
      | true =>
        rw [if_pos rfl]
        refine List.pairwise_append.2 ⟨h.inc, by simp, fun p hp q hq => ?_⟩
        simp at hq
        subst hq
        obtain ⟨t, k, e1, _⟩ := h.ops p hp
        exact (List.getElem?_eq_some_iff.1 (emitI_get (s := s) (e := x.e) (i := a) e1)).1
  | none =>
    dsimp only
    have hpass : ∀ ops : List Nat, (∀ oi ∈ ops, oi ∈ x.ops) → ops.Pairwise (· < ·) → IInv s { x with i := x.i + 1, ops := ops, bs := bs, bt := bt } := by
      intro ops h1 h2
      refine ⟨by have := h.ie; dsimp only; omega, by dsimp only; omega, h.wf, h.ap, h.last, h.len, fun oi hoi => ?_, h2, hp2⟩
      obtain ⟨t, k, e1, e2, e3⟩ := h.ops oi (h1 oi hoi)
      exact ⟨t, k, e1, by dsimp only; omega, e3⟩
    split
    · rename_i hcc
      obtain ⟨_, hne⟩ := hcc
      have hsub : ∀ oi ∈ x.ops.take (x.ops.length - 1), oi ∈ x.ops := fun oi hoi => List.mem_of_mem_take hoi
      have hinc : (x.ops.take (x.ops.length - 1)).Pairwise (· < ·) := h.inc.sublist (List.take_sublist _ _)
      obtain ⟨t, k, e1, e2, e3⟩ := h.ops _ (mem_top hne)
      have hmax := top_max h.inc
      generalize x.ops.getD (x.ops.length - 1) 0 = oi at e1 hmax ⊢
      rw [e1]
      dsimp only
      split
      · cases hcl : linkCloseM o.tab o.tb s x.i k with
        | none => exact ⟨hpass _ hsub hinc, by dsimp only; omega⟩
        | some r =>
          obtain ⟨d, j⟩ := r
          have hj := linkCloseM_lt hlt hcl
          dsimp only
          have hol := (List.getElem?_eq_some_iff.1 e1).1
          have hlen := emitI_len (s := s) (i := x.i) h.len
          have hie := h.ie
          refine ⟨⟨Nat.le_refl _, hj.2, ?_, ?_, ?_, ?_, ?_, hinc, hp2⟩, hj.1⟩
          · intro z hz
            rcases List.mem_append.1 hz with hz | hz
            · exact emitI_wf h.wf z (List.mem_of_mem_take hz)
            · simp at hz; subst hz; exact (nodeI_run _ _ _).2
          · refine ((emitI_ap h.ap).take _).snoc fun z _ h0 => ?_
            rw [(nodeI_run _ _ _).1]; exact h0
          · intro z hz h0
            rw [getLast?_snoc] at hz
            cases hz
            exact absurd (nodeI_run _ _ _).1 h0
          · simp only [List.length_append, List.length_singleton, List.length_take]
            omega
          · intro p hp
            obtain ⟨t', k', f1, f2, f3⟩ := h.ops p (hsub p hp)
            have hpo := hmax p hp
            have f4 := emitI_get (s := s) (e := x.e) (i := x.i) f1
            refine ⟨t', k', ?_, (by have := hj.1; dsimp only at this ⊢; omega), f3⟩
            rw [List.getElem?_append_left (by rw [List.length_take]; omega), List.getElem?_take, if_pos hpo]
            exact f4
      · exact ⟨hpass _ hsub hinc, by dsimp only; omega⟩
    · exact ⟨hpass _ (fun _ h => h) h.inc, by dsimp only; omega⟩
theorem is0_ok (s : List UInt8) : IInv s is0 :=
  ⟨Nat.le_refl _, Nat.zero_le _, fun y hy => (by cases hy), fun j a b ha => (by simp [is0] at ha), fun y hy => (by cases hy), Nat.le_refl _, fun oi h => (by cases h), List.Pairwise.nil, rfl⟩
theorem runI_ok {o : IO} {s : List UInt8} (hl : s.length ≤ 1000000) (hE : EntWF o s) : ∀ (f : Nat) (x : IS), IInv s x → s.length < x.i + f → IInv s (runI o s f x) ∧ ¬ (runI o s f x).i < s.length
  | 0, x, h, hf => ⟨h, by have := h.il; omega⟩
  | f + 1, x, h, hf => by
    unfold runI
    split
    · rename_i hlt
      obtain ⟨h1, h2⟩ := stepI_ok hl hE h hlt
      exact runI_ok hl hE f _ h1 (by omega)
    · exact ⟨h, by assumption⟩
theorem scanM_ok {o : IO} {s : List UInt8} (hl : s.length ≤ 1000000) (hE : EntWF o s) : (∀ y ∈ scanM o s, EmWF y) ∧ Apart (scanM o s) ∧ (scanM o s).length ≤ s.length := by
  unfold scanM
  obtain ⟨h, h2⟩ := runI_ok hl hE (s.length + 1) is0 (is0_ok s) (by show s.length < 0 + (s.length + 1); omega)
  dsimp only
  refine ⟨emitI_wf h.wf, emitI_ap h.ap, ?_⟩
  have := emitI_len (s := s) (i := s.length) h.len
  have := h.ie
  have := h.il
  omega
end Go.Proofs

namespace Go.Proofs
open Go Go.Eng
set_option maxRecDepth 20000
set_option maxHeartbeats 1000000

/-! Lines of letters, spaces, asterisks, tildes and backquotes: what their inlines are, and how long. -/
mutual
/-- Plain texts, code, runs, and what is emphasised of these. -/
def Smp : In → Prop
  | .plain t => t ≠ []
  | .code _ => True
  | .em t _ _ _ => t ≠ [] ∧ isQ (t.headD 0) = false
  | .emph m l => m ≠ [] ∧ Smps l
  | .strong m l => m ≠ [] ∧ Smps l
  | .del m l => m ≠ [] ∧ Smps l
  | _ => False
def Smps : List In → Prop
  | [] => True
  | x :: l => Smp x ∧ Smps l
end
mutual
/-- How many signs of the text an inline takes. -/
def wtI : In → Nat
  | .plain t => t.length
  | .esc t => t.length + 1
  | .soft => 1
  | .hard => 1
  | .code t => t.length + 2
  | .auto t _ => t.length + 2
  | .tag t => t.length
  | .op t _ => t.length
  | .em t _ _ _ => t.length
  | .emph m l => 2 * m.length + wtIs l
  | .strong m l => 2 * m.length + wtIs l
  | .del m l => 2 * m.length + wtIs l
  | .link _ l => wtIs l
  | .image _ l => wtIs l
def wtIs : List In → Nat
  | [] => 0
  | x :: l => wtI x + wtIs l
end
theorem wtIs_append : ∀ a b : List In, wtIs (a ++ b) = wtIs a + wtIs b
  | [], b => by simp [wtIs]
  | x :: a, b => by simp only [List.cons_append, wtIs, wtIs_append a b]; omega
theorem Smps_append : ∀ {a b : List In}, Smps (a ++ b) ↔ Smps a ∧ Smps b
  | [], b => by simp [Smps]
  | x :: a, b => by simp only [List.cons_append, Smps, Smps_append (a := a), and_assoc]
theorem Smps_get : ∀ {l : List In} {k : Nat} {x : In}, Smps l → l[k]? = some x → Smp x
  | [], k, x, _, h => by simp at h
  | y :: l, 0, x, hs, h => by simp at h; subst h; exact hs.1
  | y :: l, k + 1, x, hs, h => Smps_get hs.2 (by simpa using h)
theorem split_at {l : List In} {k : Nat} {x : In} (h : l[k]? = some x) : l = l.take k ++ x :: l.drop (k + 1) := by
  obtain ⟨h1, h2⟩ := List.getElem?_eq_some_iff.1 h
  rw [← h2, List.getElem_cons_drop, List.take_append_drop]
theorem wtIs_at {l : List In} {k : Nat} {x : In} (h : l[k]? = some x) : wtIs l = wtIs (l.take k) + wtI x + wtIs (l.drop (k + 1)) := by
  rw [congrArg wtIs (split_at h), wtIs_append, wtIs]; omega
theorem Smps_at {l : List In} {k : Nat} {x : In} (h : l[k]? = some x) (hs : Smps l) : Smps (l.take k) ∧ Smp x ∧ Smps (l.drop (k + 1)) := by
  rw [split_at h] at hs
  obtain ⟨h1, h2⟩ := Smps_append.1 hs
  exact ⟨h1, h2.1, h2.2⟩
theorem wt_pos : ∀ x : In, Smp x → 1 ≤ wtI x
  | .plain t, h => List.length_pos_iff.2 h
  | .code t, _ => by simp only [wtI]; omega
  | .em t _ _ _, h => List.length_pos_iff.2 h.1
  | .emph m l, h => by have := List.length_pos_iff.2 h.1; simp only [wtI]; omega
  | .strong m l, h => by have := List.length_pos_iff.2 h.1; simp only [wtI]; omega
  | .del m l, h => by have := List.length_pos_iff.2 h.1; simp only [wtI]; omega
  | .esc _, h => h.elim
  | .soft, h => h.elim
  | .hard, h => h.elim
  | .auto _ _, h => h.elim
  | .tag _, h => h.elim
  | .op _ _, h => h.elim
  | .link _ _, h => h.elim
  | .image _ _, h => h.elim
theorem len_wt : ∀ l : List In, Smps l → l.length ≤ wtIs l
  | [], _ => Nat.le_refl _
  | x :: l, h => by
    have h1 := wt_pos x h.1
    have h2 := len_wt l h.2
    simp only [List.length_cons, wtIs]; omega
mutual
theorem html_wt : ∀ x : In, Smp x → (htmlI x).length ≤ 9 * wtI x
  | .plain t, _ => by have := escH_len t; simp only [htmlI, wtI]; omega
  | .code t, _ => by have := escH_len t; simp only [htmlI, wtI, List.length_append, List.length_cons, List.length_nil]; omega
  | .em t _ _ _, _ => by have := escH_len t; simp only [htmlI, wtI]; omega
  | .emph m l, h => by
    have := html_wts l h.2
    have h1 := List.length_pos_iff.2 h.1
    simp only [htmlI, wtI, List.length_append, List.length_cons, List.length_nil]; omega
  | .strong m l, h => by
    have := html_wts l h.2
    have h1 := List.length_pos_iff.2 h.1
    simp only [htmlI, wtI, List.length_append, List.length_cons, List.length_nil]; omega
  | .del m l, h => by
    have := html_wts l h.2
    have h1 := List.length_pos_iff.2 h.1
    simp only [htmlI, wtI, List.length_append, List.length_cons, List.length_nil]; omega
  | .esc _, h => h.elim
  | .soft, h => h.elim
  | .hard, h => h.elim
  | .auto _ _, h => h.elim
  | .tag _, h => h.elim
  | .op _ _, h => h.elim
  | .link _ _, h => h.elim
  | .image _ _, h => h.elim
theorem html_wts : ∀ l : List In, Smps l → (htmlIs l).flatten.length ≤ 9 * wtIs l
  | [], _ => by simp [htmlIs]
  | x :: l, h => by
    have h1 := html_wt x h.1
    have h2 := html_wts l h.2
    simp only [htmlIs, wtIs, List.flatten_cons, List.length_append]; omega
end
mutual
theorem sz_wt : ∀ x : In, Smp x → wtI x ≤ 10000 → SzI x
  | .plain t, _, h => h
  | .code t, _, h => by simp only [wtI] at h; show t.length ≤ 10000; omega
  | .em t _ _ _, _, h => h
  | .emph m l, hs, h => sz_wts l hs.2 (by simp only [wtI] at h; omega)
  | .strong m l, hs, h => sz_wts l hs.2 (by simp only [wtI] at h; omega)
  | .del m l, hs, h => sz_wts l hs.2 (by simp only [wtI] at h; omega)
  | .esc _, h, _ => h.elim
  | .soft, h, _ => h.elim
  | .hard, h, _ => h.elim
  | .auto _ _, h, _ => h.elim
  | .tag _, h, _ => h.elim
  | .op _ _, h, _ => h.elim
  | .link _ _, h, _ => h.elim
  | .image _ _, h, _ => h.elim
theorem sz_wts : ∀ l : List In, Smps l → wtIs l ≤ 10000 → SzIs l
  | [], _, _ => trivial
  | x :: l, hs, h => ⟨sz_wt x hs.1 (by simp only [wtIs] at h; omega), sz_wts l hs.2 (by simp only [wtIs] at h; omega)⟩
end

/-! The delimiters' pass. -/
theorem wt_node (c : UInt8) (d : Nat) (l : List In) : wtI (mkNode c d l) = 2 * d + wtIs l := by
  unfold mkNode
  repeat' split
  all_goals simp only [wtI, List.length_replicate]
theorem smp_node {c : UInt8} {d : Nat} {l : List In} (hd : 1 ≤ d) (h : Smps l) : Smp (mkNode c d l) := by
  have hne : List.replicate d c ≠ [] := by intro e; have := congrArg List.length e; simp at this; omega
  unfold mkNode
  repeat' split
  all_goals exact ⟨hne, h⟩
theorem repl_ne {m : Nat} {c : UInt8} (h : 1 ≤ m) : List.replicate m c ≠ [] := by
  intro e; have := congrArg List.length e; simp at this; omega
theorem isQ_rep {m : Nat} {c : UInt8} (h : isRunC c) : isQ ((List.replicate m c).headD 0) = false := by
  cases m with
  | zero => rfl
  | succ m => exact isQ_run h
theorem close_wt {S : EmS} {ch : UInt8} (hr : isRunC ch) {k m d : Nat} {so sc : Bool} {sn : Nat} (hk : S.dst[k]? = some (.em (List.replicate m ch) so sc sn)) (h1 : 1 ≤ d) (hd : d ≤ m) (hs : Smps S.dst) :
    wtIs (closeStep ch d k (List.replicate m ch) so sc sn S).dst = wtIs S.dst + d ∧ Smps (closeStep ch d k (List.replicate m ch) so sc sn S).dst := by
  obtain ⟨s1, s2, s3⟩ := Smps_at hk hs
  have hw := wtIs_at hk
  simp only [wtI, List.length_replicate] at hw
  unfold closeStep baseOf
  dsimp only
  by_cases hl : m ≤ d
  · rw [if_pos (by simpa using hl)]
    refine ⟨?_, Smps_append.2 ⟨s1, smp_node h1 s3, trivial⟩⟩
    rw [wtIs_append]
    simp only [wtIs, wt_node]
    omega
  · rw [if_neg (by simpa using hl)]
    have e : (List.replicate m ch).take ((List.replicate m ch).length - d) = List.replicate (m - d) ch := by
      rw [List.take_replicate, List.length_replicate]; congr 1; omega
    rw [e]
    refine ⟨?_, Smps_append.2 ⟨Smps_append.2 ⟨s1, ⟨repl_ne (by omega), isQ_rep hr⟩, trivial⟩, smp_node h1 s3, trivial⟩⟩
    rw [wtIs_append, wtIs_append]
    simp only [wtIs, wt_node, wtI, List.length_replicate]
    omega
theorem dOf_le2 {m m2 : Nat} (h : 1 ≤ m2) : dOf m m2 ≤ m2 := by unfold dOf; split <;> omega
theorem closeF_wt {ch : UInt8} (hr : isRunC ch) {x : In} (hx : runOf x = ch.toNat) {po pc : Bool} {pn i : Nat} : ∀ (f m : Nat) (S : EmS), EGood S i x → Smps S.dst →
    wtIs (closeF ch po pc pn f m S).2.dst + (closeF ch po pc pn f m S).1 = wtIs S.dst + m ∧ Smps (closeF ch po pc pn f m S).2.dst
  | 0, m, S, _, hs => ⟨rfl, hs⟩
  | f + 1, m, S, hg, hs => by
    unfold closeF
    by_cases h0 : m = 0
    · rw [if_pos h0]; subst h0; exact ⟨rfl, hs⟩
    · rw [if_neg h0]
      dsimp only
      cases hf : findTop (okM S.dst ch m po pc pn) (S.st.getD (emIdx ch) []) (S.st.getD (emIdx ch) []).length with
      | none => exact ⟨rfl, hs⟩
      | some j =>
        dsimp only
        obtain ⟨m2, sc, sn, h1, h2, h3, h4⟩ := hg.inv.find hr (findTop_lt hf).1
        rw [h1]
        dsimp only
        have hd := dOf_le (m := m) (m2 := (List.replicate m2 ch).length) (by omega)
        have hd2 := dOf_le2 (m := m) (m2 := (List.replicate m2 ch).length) (by simpa using h2)
        rw [List.length_replicate] at hd hd2 ⊢
        have hin := hg.last.inner hx hr h1 h2
        obtain ⟨w1, w2⟩ := close_wt hr h1 hd.1 hd2 hs
        obtain ⟨q1, q2⟩ := closeF_wt hr hx (po := po) (pc := pc) (pn := pn) f (m - dOf m m2) _ ⟨hg.inv.close hr h1 hd.1 h2, Nat.le_trans (closeStep_len hin) hg.le, closeStep_last _⟩ w2
        exact ⟨by omega, q2⟩
theorem rest_wt (k : Nat) (t : List UInt8) (o c : Bool) (n : Nat) (S : EmS) (hne : t ≠ []) (ht : isQ (t.headD 0) = false) (hs : Smps S.dst) : wtIs (restM k t o c n S).dst = wtIs S.dst + t.length ∧ Smps (restM k t o c n S).dst := by
  unfold restM
  split
  · exact ⟨by rw [wtIs_append]; simp [wtIs, wtI], Smps_append.2 ⟨hs, ⟨hne, ht⟩, trivial⟩⟩
  · exact ⟨by rw [wtIs_append]; simp [wtIs, wtI], Smps_append.2 ⟨hs, hne, trivial⟩⟩
theorem emStep_wt {S : EmS} {x : In} {i : Nat} (hw : EmWF x) (hx : Smp x) (h : EGood S i x) (hs : Smps S.dst) : wtIs (emStep S x).dst = wtIs S.dst + wtI x ∧ Smps (emStep S x).dst := by
  have push : ∀ y : In, Smp y → wtIs (S.dst ++ [y]) = wtIs S.dst + wtI y ∧ Smps (S.dst ++ [y]) := fun y hy => ⟨by rw [wtIs_append]; simp [wtIs], Smps_append.2 ⟨hs, hy, trivial⟩⟩
  cases x with
  | plain t => exact push _ hx
  | code t => exact push _ trivial
  | emph m l => exact push _ hx
  | strong m l => exact push _ hx
  | del m l => exact push _ hx
  | em t o c n =>
    obtain ⟨hn, hw⟩ := hw
    rcases hw with ⟨ch, m, hr, rfl, hm1, hm2⟩ | ⟨⟨ch, hq, rfl⟩, hoc⟩
    · unfold emStep
      dsimp only
      rw [replicate_headD hm1, isQ_run hr, List.length_replicate]
      simp only [Bool.false_eq_true, if_false]
      have hrun := runOf_rep (o := o) (c := c) (n := n) hm1 hr
      have key : ∀ r : Nat × EmS, wtIs r.2.dst + r.1 = wtIs S.dst + m → Smps r.2.dst → wtIs (if r.1 = 0 then r.2 else restM (emIdx ch) (List.replicate r.1 ch) o c n r.2).dst = wtIs S.dst + wtI (.em (List.replicate m ch) o c n) ∧ Smps (if r.1 = 0 then r.2 else restM (emIdx ch) (List.replicate r.1 ch) o c n r.2).dst := by
        intro r e1 e2
        simp only [wtI, List.length_replicate]
        split
        · exact ⟨by omega, e2⟩
        · obtain ⟨k1, k2⟩ := rest_wt (emIdx ch) (List.replicate r.1 ch) o c n r.2 (repl_ne (by omega)) (isQ_rep hr) e2
          rw [List.length_replicate] at k1
          exact ⟨by omega, k2⟩
      cases c with
      | false => exact key (m, S) rfl hs
      | true =>
        simp only [if_true]
        obtain ⟨q1, q2⟩ := closeF_wt hr hrun (po := o) (pc := true) (pn := n) m m S h hs
        exact key _ q1 q2
    · exact absurd hx.2 (by simp only [List.headD_cons]; rw [hq]; simp)
  | esc _ => exact hx.elim
  | soft => exact hx.elim
  | hard => exact hx.elim
  | auto _ _ => exact hx.elim
  | tag _ => exact hx.elim
  | op _ _ => exact hx.elim
  | link _ _ => exact hx.elim
  | image _ _ => exact hx.elim
theorem fold_wt {src : List In} (hw : ∀ x ∈ src, EmWF x) (ha : Apart src) (hx : Smps src) : ∀ i, i ≤ src.length → wtIs ((src.take i).foldl emStep emS0).dst = wtIs (src.take i) ∧ Smps ((src.take i).foldl emStep emS0).dst
  | 0, _ => ⟨rfl, trivial⟩
  | i + 1, hi => by
    obtain ⟨y, hy⟩ : ∃ y, src[i]? = some y := ⟨_, List.getElem?_eq_getElem (by omega)⟩
    obtain ⟨ih1, ih2⟩ := fold_wt hw ha hx i (by omega)
    obtain ⟨h1, h2⟩ := emStep_wt (hw y (List.mem_of_getElem? hy)) (Smps_get hx hy) (em_at hw ha i y hy) ih2
    rw [List.take_add_one, hy, List.foldl_append]
    simp only [Option.toList, List.foldl_cons, List.foldl_nil]
    refine ⟨?_, h2⟩
    rw [h1, ih1, wtIs_append]; simp [wtIs]
theorem emphM_wt {src : List In} (hw : ∀ x ∈ src, EmWF x) (ha : Apart src) (hx : Smps src) : wtIs (emphM src) = wtIs src ∧ Smps (emphM src) := by
  have h := fold_wt hw ha hx src.length (Nat.le_refl _)
  rw [List.take_length] at h
  exact h

/-! Plain texts put together. -/
theorem flat_ne {acc : List (List UInt8)} (h : acc ≠ []) (ha : ∀ t ∈ acc, t ≠ []) : acc.flatten ≠ [] := by
  cases acc with
  | nil => exact absurd rfl h
  | cons t acc =>
    have := ha t (by simp)
    simp [this]
theorem flush_wt (acc : List (List UInt8)) (ha : ∀ t ∈ acc, t ≠ []) : wtIs (flushM acc) = acc.flatten.length ∧ Smps (flushM acc) := by
  unfold flushM
  split
  · rename_i h; subst h; exact ⟨rfl, trivial⟩
  · rename_i h; exact ⟨by simp [wtIs, wtI], flat_ne h ha, trivial⟩
theorem merge_wt : ∀ (l : List In) (acc : List (List UInt8)), Smps l → (∀ t ∈ acc, t ≠ []) → wtIs (mergeF l acc) = wtIs l + acc.flatten.length ∧ Smps (mergeF l acc)
  | [], acc, _, ha => by
    obtain ⟨h1, h2⟩ := flush_wt acc ha
    exact ⟨by rw [mergeF, h1, wtIs]; omega, h2⟩
  | x :: l, acc, h, ha => by
    have hstep : ∀ t, t ≠ [] → wtI x = t.length → wtIs (mergeF l (acc ++ [t])) = wtIs (x :: l) + acc.flatten.length ∧ Smps (mergeF l (acc ++ [t])) := by
      intro t htn ht
      obtain ⟨h1, h2⟩ := merge_wt l (acc ++ [t]) h.2 (fun u hu => by
        rcases List.mem_append.1 hu with hu | hu
        · exact ha u hu
        · simp at hu; subst hu; exact htn)
      refine ⟨?_, h2⟩
      rw [h1, wtIs, ht]
      simp only [List.flatten_append, List.flatten_cons, List.flatten_nil, List.length_append, List.append_nil]
      omega
    have hput : Smp x → wtIs (flushM acc ++ x :: mergeF l []) = wtIs (x :: l) + acc.flatten.length ∧ Smps (flushM acc ++ x :: mergeF l []) := by
      intro hx
      obtain ⟨h1, h2⟩ := merge_wt l [] h.2 (fun _ h => by cases h)
      obtain ⟨f1, f2⟩ := flush_wt acc ha
      refine ⟨?_, Smps_append.2 ⟨f2, hx, h2⟩⟩
      rw [wtIs_append, wtIs, wtIs, h1, f1]
      simp only [List.flatten_nil, List.length_nil]
      omega
    cases x with
    | plain t => exact hstep t h.1 rfl
    | em t _ _ _ => exact hstep t h.1.1 rfl
    | op t _ => exact h.1.elim
    | code t => exact hput h.1
    | emph m l => exact hput h.1
    | strong m l => exact hput h.1
    | del m l => exact hput h.1
    | esc _ => exact h.1.elim
    | soft => exact h.1.elim
    | hard => exact h.1.elim
    | auto _ _ => exact h.1.elim
    | tag _ => exact h.1.elim
    | link _ _ => exact h.1.elim
    | image _ _ => exact h.1.elim
theorem mergeM_wt {l : List In} (h : Smps l) : wtIs (mergeM l) = wtIs l ∧ Smps (mergeM l) := by
  obtain ⟨h1, h2⟩ := merge_wt l [] h (fun _ h => by cases h)
  exact ⟨by unfold mergeM; rw [h1]; simp, h2⟩
end Go.Proofs

namespace Go.Proofs
open Go Go.Eng
set_option maxRecDepth 20000
set_option maxHeartbeats 1000000

instance arrOf5 : UArr Tryz.prog 217 5 216 := ⟨Tryz.underlying217⟩
abbrev arrb (r7 : Nat) (sv : List Value) : Blk := [(r7, cellsOf sv 217)]
abbrev dstv (r4 : Nat) (dv : Value) : Blk := [(r4, cellsOf [dv] 62)]
/-- Openers know their places. -/
def Places5 (st : List (List Nat)) (vals : List Value) (K : Blk) : Prop := ∀ ps ∈ st, ∀ p ∈ ps, p ≤ 1000000000 ∧ ∀ q, vals[p]? = some (vEm q) → ∃ t o c n, (q, cellsOf (emC t o c p n) 204) ∈ K
structure TG where
  i : Nat
  sv : List Value
  SB : Blk
theorem trim_next {f : List Nat → List Nat} {st : List (List Nat)} {i : Nat} {ps : List Nat} (h : st[i]? = some ps) : ((st.take i).map f ++ st.drop i).set i (f ps) = (st.take (i + 1)).map f ++ st.drop (i + 1) := by
  have hi := (List.getElem?_eq_some_iff.1 h).1
  have e : st.drop i = ps :: st.drop (i + 1) := by
    rw [List.drop_eq_getElem_cons hi]
    have := (List.getElem?_eq_some_iff.1 h).2
    rw [this]
  rw [e, List.set_append_right _ _ (by simp; omega), List.take_add_one, h]
  simp [show i - min i st.length = 0 by omega]
theorem trim_at {f : List Nat → List Nat} {st : List (List Nat)} {i : Nat} {ps : List Nat} (h : st[i]? = some ps) : ((st.take i).map f ++ st.drop i)[i]? = some ps := by
  have hi := (List.getElem?_eq_some_iff.1 h).1
  rw [List.getElem?_append_right (by simp; omega)]
  simp [show i - min i st.length = 0 by omega, List.getElem?_drop, h]
theorem ownShape {E sz : Nat} {v : Value} {m : Nat} {xs : List Value} {Bk : Blk} (h : Own E sz v m xs Bk) : ∃ a c, v = .slice a m c := by
  rcases h.2 with ⟨rfl, rfl, _⟩ | ⟨g, cap, cur, rfl, _⟩
  · exact ⟨_, _, rfl⟩
  · exact ⟨_, _, rfl⟩
theorem set_same {α : Type} {l : List α} {j : Nat} {v : α} (h : l[j]? = some v) : l.set j v = l := by
  obtain ⟨h1, h2⟩ := List.getElem?_eq_some_iff.1 h
  rw [← h2, List.set_getElem_self]
theorem tlen_at {n : Nat} {ps : List Nat} {k p : Nat} (hp : ps[k]? = some p) : tlen n ps (k + 1) = if n ≤ p then tlen n ps k else k + 1 := by
  rw [tlen, List.getD, hp]; rfl

theorem trimG_tr (r7 r4 dl : Nat) (st : List (List Nat)) (sv vals : List Value) (SB K : Blk) (da : Option Addr) (dc : Nat) (h5 : st.length = 5) (hS : StksR vals st sv SB) (hP : Places5 st vals K) (hdl : dl ≤ 1000000000) (hbig : ∀ ps ∈ st, ps.length ≤ 1000000000) :
    Tr Tryz.prog 106 [lp r7, lp r4] [arrb r7 sv, dstv r4 (.slice da dl dc), SB, K] fun u H => u = unit ∧ ∃ sv' SB', StksR vals (st.map (trimTop dl)) sv' SB' ∧ H = [arrb r7 sv', dstv r4 (.slice da dl dc), SB', K] := by
  refine Tr.start (n := 44) (rs := []) rfl rfl rfl rfl fun B => ?_
  ((repeat (refine z7 ?_)); refine z6 ?_; (repeat' (first | refine z8 ?_)); refine z2 ?_; refine z1 ?_)
  (repeat (refine z7 ?_))
  refine zf ?_
  refine za6 (fun x : TG => [(0, lp r7), (1, lp r4), (4, inat x.i)]) (fun x => [arrb r7 x.sv, dstv r4 (.slice da dl dc), x.SB, K]) (fun x => x.i ≤ 5 ∧ StksR vals ((st.take x.i).map (trimTop dl) ++ st.drop x.i) x.sv x.SB) (fun x => 5 - x.i) ⟨0, sv, SB⟩ ⟨by dsimp only; omega, by simpa using hS⟩ kB sA fun x hx => ?_
  obtain ⟨i, sv, SB⟩ := x
  obtain ⟨hi, hS⟩ := hx
  dsimp only at hi hS ⊢
  by_cases hlt : i < 5
  · obtain ⟨ps, hps⟩ : ∃ ps, st[i]? = some ps := ⟨_, List.getElem?_eq_getElem (by omega)⟩
    have hpm := List.mem_of_getElem? hps
    have hpl := hbig ps hpm
    obtain ⟨A, R, C, v, qs, rfl, hv, hk, hset⟩ := hS.at i (trim_at hps)
    have hsvl : i < sv.length := (List.getElem?_eq_some_iff.1 hv).1
    have hv' : sv[0 + i * 1]? = some v := by rw [Nat.zero_add, Nat.mul_one]; exact hv
    ((repeat (refine z7 ?_)); refine z6 ?_; (repeat' (first | refine zm ?_)); refine z2 ?_; refine z1 ?_)
    (repeat (refine z7 ?_))
    refine zc ?_
    refine zd ?_
    refine z1 ?_
    refine z7 ?_
    refine zf ?_
    ((repeat (refine z7 ?_)); refine z6 ?_; (repeat' (first | refine z8 ?_ | refine za ?_)); refine z2 ?_; refine z1 ?_)
    ((repeat (refine z7 ?_)); refine z6 ?_; (repeat' (first | refine zca ?_ | refine z8 ?_ | refine za ?_)); refine z2 ?_; refine z1 ?_)
    (repeat (refine z7 ?_))
    by_cases hne : ps = []
    · subst hne
      obtain ⟨a, c, hvv⟩ := ownShape hk.own
      rw [List.length_nil] at hvv
      subst hvv
      refine zf ?_
      refine za6 (fun _ : Unit => [(0, lp r7), (1, lp r4), (3, .pointer (some ⟨r7, 0 + i * 1, none⟩)), (4, inat i)]) (fun _ => [arrb r7 sv, dstv r4 (.slice da dl dc), A ++ (R ++ C), K]) (fun _ => True) (fun _ => 0) () trivial kB sA fun _ _ => ?_
      (repeat' (first | refine Wp.draw_all (id := 4) Mixed.out (by kernel_rfl) ?_ | refine za3 (hc := hv') ?_ | refine z7 ?_ | refine z6 ?_ | refine z2 ?_ | refine z1 ?_ | refine zb ?_ | refine zu ?_ | refine zw ?_ | refine zy ?_ | refine zz ?_ | refine z8 ?_ | refine zl ?_ | refine za8 ?_ | refine zbx ?_ | refine za7 ?_ | refine zad ?_ | refine zeq ?_ | refine zbc ?_ | refine zb5 ?_))
      have hS' := hset _ _ _ _ hk
      rw [set_same hv] at hS'
      exact ⟨⟨i + 1, sv, A ++ (R ++ C)⟩, kB, sA, ⟨by dsimp only; omega, by rw [← trim_next (f := trimTop dl) hps]; exact hS'⟩, by dsimp only; omega⟩
    · obtain ⟨g, cap, cur, rfl, rfl, g1, g2, g3, g4⟩ := hk.pos hne
      have hcur : ∀ X Y Z, HMem [X, Y, A ++ ([(g, cellsOf cur 202)] ++ C), Z] g (cellsOf cur 202) := fun X Y Z => .there (.there (HMem.of_chunk (by simp)))
      have hql := hk.len
      have hsame : sv.set (0 + i * 1) (.slice (some ⟨g, 0, none⟩) ps.length cap) = sv := by rw [Nat.zero_add, Nat.mul_one]; exact set_same hv
      refine zf ?_
      refine za6 (fun _ : Nat => [(0, lp r7), (1, lp r4), (3, .pointer (some ⟨r7, 0 + i * 1, none⟩)), (4, inat i)]) (fun m => [arrb r7 (sv.set (0 + i * 1) (.slice (some ⟨g, 0, none⟩) m cap)), dstv r4 (.slice da dl dc), A ++ ([(g, cellsOf cur 202)] ++ C), K]) (fun m => m ≤ ps.length ∧ tlen dl ps m = tlen dl ps ps.length) (fun m => m) ps.length ⟨Nat.le_refl _, rfl⟩ kB (by rw [hsame]; exact sA) fun m hm => ?_
      obtain ⟨hm1, hm2⟩ := hm
      have hsv : (sv.set (0 + i * 1) (.slice (some ⟨g, 0, none⟩) m cap))[0 + i * 1]? = some (.slice (some ⟨g, 0, none⟩) m cap) := List.getElem?_set_self (by omega)
      have hfin : m = tlen dl ps ps.length → StksR vals ((st.take (i + 1)).map (trimTop dl) ++ st.drop (i + 1)) (sv.set (0 + i * 1) (.slice (some ⟨g, 0, none⟩) m cap)) (A ++ ([(g, cellsOf cur 202)] ++ C)) := by
        intro e
        have h1 := hset _ _ _ _ (hk.take (k := m) rfl hm1)
        rw [← trim_next (f := trimTop dl) hps]
        unfold trimTop at h1 ⊢
        rw [← e, show 0 + i * 1 = i by omega]
        exact h1
      cases m with
      | zero =>
        (repeat' (first | refine Wp.draw_all (id := 4) Mixed.out (by kernel_rfl) ?_ | refine za3 (hc := hsv) ?_ | refine z7 ?_ | refine z6 ?_ | refine z2 ?_ | refine z1 ?_ | refine zb ?_ | refine zu ?_ | refine zw ?_ | refine zy ?_ | refine zz ?_ | refine z8 ?_ | refine zl ?_ | refine za8 ?_ | refine zbx ?_ | refine za7 ?_ | refine zad ?_ | refine zeq ?_ | refine zbc ?_ | refine zb5 ?_))
        exact ⟨⟨i + 1, _, _⟩, kB, sA, ⟨by dsimp only; omega, hfin hm2⟩, by dsimp only; omega⟩
      | succ j =>
        obtain ⟨p, hp⟩ : ∃ p, ps[j]? = some p := ⟨_, List.getElem?_eq_getElem (by omega)⟩
        obtain ⟨q, hq⟩ : ∃ q, qs[j]? = some q := ⟨_, List.getElem?_eq_getElem (by omega)⟩
        obtain ⟨hpb, hpK⟩ := hP ps hpm p (List.mem_of_getElem? hp)
        obtain ⟨t, o, c, nn, hmem⟩ := hpK q (hk.at_ j p q hp hq)
        have hKm : ∀ X Y Z, HMem [X, Y, Z, K] q (cellsOf (emC t o c p nn) 204) := fun X Y Z => .there (.there (.there (HMem.of_chunk hmem)))
        have hce : cur[0 + (j + 1 - 1) * 1]? = some (lp q) := by rw [show 0 + (j + 1 - 1) * 1 = j by omega]; exact g4 j q hq
        rw [tlen_at hp] at hm2
        by_cases hd : dl ≤ p
        · rw [if_pos hd] at hm2
          (repeat' (first | refine Wp.draw_all (id := 4) Mixed.out (by kernel_rfl) ?_ | refine Wp.draw_tail (id := 5) 10 Mixed.out (by kernel_rfl) ?_ | refine za3 (hc := hsv) ?_ | refine za3 (hm := hcur _ _ _) (hc := hce) ?_ | refine za3 (hm := hKm _ _ _) (hc := rfl) ?_ | refine zc5 ?_ | refine z7 ?_ | refine z2 ?_ | refine z1 ?_ | refine zc ?_ | refine zf ?_ | refine zd ?_ | refine zu ?_ | refine zq ?_ | refine za8 ?_ | refine zb4 ?_ | refine za7 ?_ | refine za3 ?_ | refine zae ?_ | refine zad ?_ | refine zc7 ?_ | refine ze2 ?_ | refine zej ?_ | refine zb6 ?_ | refine zb5 ?_ | refine zdo ?_ | refine zb9 ?_))
          rw [List.set_set]
          exact ⟨j, kB, sA, ⟨by omega, hm2⟩, by omega⟩
        · rw [if_neg hd] at hm2
          (repeat' (first | refine Wp.draw_all (id := 4) Mixed.out (by kernel_rfl) ?_ | refine za3 (hc := hsv) ?_ | refine za3 (hm := hcur _ _ _) (hc := hce) ?_ | refine za3 (hm := hKm _ _ _) (hc := rfl) ?_ | refine z7 ?_ | refine z6 ?_ | refine z2 ?_ | refine z1 ?_ | refine zb ?_ | refine zu ?_ | refine zw ?_ | refine zy ?_ | refine zz ?_ | refine z8 ?_ | refine zl ?_ | refine za8 ?_ | refine zb4 ?_ | refine za7 ?_ | refine za3 ?_ | refine zae ?_ | refine zad ?_ | refine zc7 ?_ | refine ze2 ?_ | refine ze3 ?_ | refine zb6 ?_ | refine zb5 ?_ | refine zb9 ?_))
          exact ⟨⟨i + 1, _, _⟩, kB, sA, ⟨by dsimp only; omega, hfin hm2⟩, by dsimp only; omega⟩
  · have : i = 5 := by omega
    subst this
    (repeat' (first | refine z7 ?_ | refine z6 ?_ | refine z2 ?_ | refine z1 ?_ | refine zb ?_ | refine zw ?_ | refine zy ?_ | refine zz ?_ | refine za4 ?_))
    rw [List.take_of_length_le (by omega), List.drop_eq_nil_of_le (by omega), List.append_nil] at hS
    exact e_norm _ ⟨rfl, sv, SB, hS, rfl⟩ sA
end Go.Proofs

/- Steps of the walk of the program and plain facts on what it computes. Conditions: as each theorem states them. -/
import Derived.Test.YtjbpohkcmgelkaaGreatDoorT13
namespace Go.Proofs
open Go Go.Eng
set_option maxRecDepth 20000
set_option maxHeartbeats 1000000

theorem replicate_headD {m : Nat} {c : UInt8} (h : 1 ≤ m) : (List.replicate m c).headD 0 = c := by
  cases m with
  | zero => omega
  | succ m => rfl
theorem runOf_rep {m : Nat} {ch : UInt8} {o c : Bool} {n : Nat} (h : 1 ≤ m) (hr : isRunC ch) : runOf (.em (List.replicate m ch) o c n) = ch.toNat := by
  unfold runOf
  dsimp only
  rw [replicate_headD h]
  exact if_pos hr
theorem mkNode_run (c : UInt8) (d : Nat) (l : List In) : runOf (mkNode c d l) = 0 := by
  unfold mkNode
  split
  · rfl
  · split <;> rfl
theorem getLast?_snoc {α : Type} (l : List α) (x : α) : (l ++ [x]).getLast? = some x := by simp
theorem emIdx_run {c : UInt8} (h : isRunC c) : emIdx c < 3 ∧ chrK (emIdx c) = c.toNat := by
  unfold emIdx
  rcases h with h | h | h <;> simp [h, chrK]
theorem emIdx_lt (c : UInt8) : emIdx c < 5 := by
  unfold emIdx
  repeat' split
  all_goals omega
theorem emIdx_q {c : UInt8} (h : isQ c = true) : 3 ≤ emIdx c := by
  unfold emIdx
  simp [isQ] at h
  rcases h with h | h <;> simp [h]
theorem isQ_run {c : UInt8} (h : isRunC c) : isQ c = false := by
  unfold isQ
  rcases h with h | h | h <;> simp [h]

theorem OpenAt.app {dst : List In} {k p : Nat} (l : List In) (h : OpenAt dst k p) : OpenAt (dst ++ l) k p := by
  obtain ⟨t, c, n, h1, h2⟩ := h
  exact ⟨t, c, n, by rw [List.getElem?_append_left (List.getElem?_eq_some_iff.1 h1).1]; exact h1, h2⟩
theorem EInv.push {S : EmS} (h : EInv S) (x : In) : EInv ⟨S.dst ++ [x], S.st⟩ :=
  ⟨h.five, fun k ps hk p hp => (h.open_ k ps hk p hp).app _, h.inc⟩
theorem EInv.lt {S : EmS} (h : EInv S) {k : Nat} {ps : List Nat} (hk : S.st[k]? = some ps) {p : Nat} (hp : p ∈ ps) : p < S.dst.length := by
  obtain ⟨t, c, n, h1, h2⟩ := h.open_ k ps hk p hp
  exact (List.getElem?_eq_some_iff.1 h1).1
theorem EInv.get {S : EmS} (h : EInv S) {k : Nat} (hk : k < 5) : S.st[k]? = some (S.st.getD k []) := by
  have := h.five
  rw [List.getD, List.getElem?_eq_getElem (by omega)]; rfl

/-- An opener is put out. -/
theorem EInv.rest {S : EmS} (h : EInv S) {k : Nat} (hk : k < 5) {t : List UInt8} {o c : Bool} {n : Nat} (hn : n ≤ 1000000)
    (h1 : k < 3 → ∃ ch m, ch.toNat = chrK k ∧ t = List.replicate m ch ∧ 1 ≤ m ∧ m ≤ 1000000) (h2 : 3 ≤ k → t.length = 3 ∧ runOf (.em t true c n) = 0) : EInv (restM k t o c n S) := by
  unfold restM
  cases o with
  | false => exact h.push _
  | true =>
    rw [if_pos rfl]
    have hk5 : k < S.st.length := by rw [h.five]; exact hk
    refine ⟨by simp [h.five], fun k' ps hk' p hp => ?_, fun k' ps hk' => ?_⟩
    · dsimp only at hk' ⊢
      rw [List.getElem?_set] at hk'
      split at hk'
      · rename_i e; subst e
        cases hk'
        rcases List.mem_append.1 hp with hp | hp
        · exact (h.open_ k _ (h.get hk) p hp).app _
        · simp at hp
          subst hp
          exact ⟨t, c, n, by simp, hn, h1, h2⟩
      · exact (h.open_ k' ps hk' p hp).app _
    · dsimp only at hk'
      rw [List.getElem?_set] at hk'
      split at hk'
      · rename_i e; subst e
        cases hk'
        refine List.pairwise_append.2 ⟨h.inc k _ (h.get hk), by simp, fun a ha b hb => ?_⟩
        simp at hb
        subst hb
        exact h.lt (h.get hk) ha
      · exact h.inc k' ps hk'

theorem baseOf_len {dst : List In} {k d : Nat} {t : List UInt8} {so sc : Bool} {sn : Nat} (hk : k < dst.length) : (baseOf dst k d t so sc sn).length = if t.length ≤ d then k else k + 1 := by
  unfold baseOf
  split <;> simp <;> omega
theorem baseOf_get {dst : List In} {k d p : Nat} {t : List UInt8} {so sc : Bool} {sn : Nat} (hk : k < dst.length) (hp : p < k) : (baseOf dst k d t so sc sn)[p]? = dst[p]? := by
  have h1 : (dst.take k)[p]? = dst[p]? := by rw [List.getElem?_take, if_pos hp]
  unfold baseOf
  split
  · exact h1
  · rw [List.getElem?_append_left (by rw [List.length_take]; omega)]; exact h1
theorem baseOf_at {dst : List In} {k d : Nat} {t : List UInt8} {so sc : Bool} {sn : Nat} (hk : k < dst.length) (hd : ¬ t.length ≤ d) : (baseOf dst k d t so sc sn)[k]? = some (.em (t.take (t.length - d)) so sc sn) := by
  unfold baseOf
  rw [if_neg hd, List.getElem?_append_right (by rw [List.length_take]; omega), List.length_take]
  simp [show k - min k dst.length = 0 by omega]

theorem EInv.close {S : EmS} (h : EInv S) {ch : UInt8} (_hch : isRunC ch) {d k : Nat} {m : Nat} {so sc : Bool} {sn : Nat} (hk : S.dst[k]? = some (.em (List.replicate m ch) so sc sn)) (_hd : 1 ≤ d) (hm : 1 ≤ m) : EInv (closeStep ch d k (List.replicate m ch) so sc sn S) := by
  have hkl := (List.getElem?_eq_some_iff.1 hk).1
  unfold closeStep
  dsimp only
  have key : ∀ (k' : Nat) (ps : List Nat), S.st[k']? = some ps → ∀ p ∈ trimTop (baseOf S.dst k d (List.replicate m ch) so sc sn).length ps, OpenAt (baseOf S.dst k d (List.replicate m ch) so sc sn ++ [mkNode ch d (S.dst.drop (k + 1))]) k' p := by
    intro k' ps hk' p hp
    refine OpenAt.app _ ?_
    have hlt : p < (baseOf S.dst k d (List.replicate m ch) so sc sn).length := tlen_lt (h.inc k' ps hk') ps.length (Nat.le_refl _) p hp
    have hlen := baseOf_len (d := d) (t := List.replicate m ch) (so := so) (sc := sc) (sn := sn) hkl
    obtain ⟨t, c, n, h1, h2, h3, h4⟩ := h.open_ k' ps hk' p (trimTop_sub hp)
    by_cases hpk : p < k
    · exact ⟨t, c, n, by rw [baseOf_get hkl hpk]; exact h1, h2, h3, h4⟩
    · by_cases hd2 : (List.replicate m ch).length ≤ d
      · rw [if_pos hd2] at hlen; omega
      · rw [if_neg hd2] at hlen
        have hpe : p = k := by omega
        subst hpe
        rw [hk] at h1
        have h1' := Option.some.inj h1
        injection h1' with e1 e2 e3 e4
        subst e1; subst e2; subst e3; subst e4
        rw [List.length_replicate] at hd2
        refine ⟨_, _, _, baseOf_at hkl (by rw [List.length_replicate]; exact hd2), h2, fun hk3 => ?_, fun hk3 => ?_⟩
        · obtain ⟨ch2, m2, q1, q2, q3, q4⟩ := h3 hk3
          have hmm : m = m2 := by simpa using congrArg List.length q2
          exact ⟨ch2, m - d, q1, by rw [q2]; simp [hmm], by omega, by omega⟩
        · obtain ⟨q1, q2⟩ := h4 hk3
          have := runOf_rep (o := true) (c := sc) (n := sn) hm _hch
          rw [this] at q2
          rcases _hch with e | e | e <;> omega
  refine ⟨by simp [h.five], fun k' ps hk' p hp => ?_, fun k' ps hk' => ?_⟩
  · dsimp only at hk' ⊢
    rw [List.getElem?_map] at hk'
    cases hs : S.st[k']? with
    | none => rw [hs] at hk'; cases hk'
    | some ps0 =>
      rw [hs] at hk'
      cases hk'
      exact key k' ps0 hs p hp
  · dsimp only at hk'
    rw [List.getElem?_map] at hk'
    cases hs : S.st[k']? with
    | none => rw [hs] at hk'; cases hk'
    | some ps0 =>
      rw [hs] at hk'
      cases hk'
      exact (h.inc k' ps0 hs).sublist (List.take_sublist _ _)

/-- The opener that a run of this sign finds. -/
theorem EInv.find {S : EmS} (h : EInv S) {ch : UInt8} (hch : isRunC ch) {j : Nat} (hj : j < (S.st.getD (emIdx ch) []).length) : ∃ m sc sn, S.dst[(S.st.getD (emIdx ch) []).getD j 0]? = some (.em (List.replicate m ch) true sc sn) ∧ 1 ≤ m ∧ m ≤ 1000000 ∧ sn ≤ 1000000 := by
  have hk := h.get (emIdx_lt ch)
  have hm : (S.st.getD (emIdx ch) []).getD j 0 ∈ S.st.getD (emIdx ch) [] := by
    generalize S.st.getD (emIdx ch) [] = ps at hj
    rw [List.getD, List.getElem?_eq_getElem hj]; exact List.getElem_mem _
  obtain ⟨t, c, n, h1, h2, h3, h4⟩ := h.open_ _ _ hk _ hm
  obtain ⟨q1, q2⟩ := emIdx_run hch
  obtain ⟨ch2, m, e1, e2, e3, e4⟩ := h3 q1
  have : ch2 = ch := UInt8.toNat_inj.1 (by rw [e1, q2])
  subst this
  exact ⟨m, c, n, by rw [← e2]; exact h1, e3, e4, h2⟩
/-- There is something between an opener and a run behind it. -/
theorem LastNot.inner {S : EmS} {x : In} {ch : UInt8} (h : LastNot S x) (hx : runOf x = ch.toNat) (hch : isRunC ch) {k m : Nat} {so sc : Bool} {sn : Nat} (hk : S.dst[k]? = some (.em (List.replicate m ch) so sc sn)) (hm : 1 ≤ m) : k + 1 < S.dst.length := by
  have hkl := (List.getElem?_eq_some_iff.1 hk).1
  by_cases he : k + 1 = S.dst.length
  · exfalso
    have h1 : S.dst.getLast? = some (.em (List.replicate m ch) so sc sn) := by
      rw [List.getLast?_eq_getElem?, show S.dst.length - 1 = k by omega]; exact hk
    have h2 := runOf_rep (o := so) (c := sc) (n := sn) hm hch
    refine h _ h1 ?_ (by rw [h2, hx])
    rw [h2]
    rcases hch with e | e | e <;> omega
  · omega
theorem closeStep_len {S : EmS} {ch : UInt8} {d k : Nat} {t : List UInt8} {so sc : Bool} {sn : Nat} (hk : k + 1 < S.dst.length) : (closeStep ch d k t so sc sn S).dst.length ≤ S.dst.length := by
  unfold closeStep
  dsimp only
  rw [List.length_append, baseOf_len (by omega)]
  split <;> simp <;> omega
theorem closeStep_last {S : EmS} {ch : UInt8} {d k : Nat} {t : List UInt8} {so sc : Bool} {sn : Nat} (x : In) : LastNot (closeStep ch d k t so sc sn S) x := by
  intro y hy hr
  unfold closeStep at hy
  dsimp only at hy
  rw [getLast?_snoc] at hy
  cases hy
  exact absurd (mkNode_run _ _ _) hr
theorem dOf_le {m m2 : Nat} (h : 1 ≤ m) : 1 ≤ dOf m m2 ∧ dOf m m2 ≤ m := by
  unfold dOf
  split <;> omega

/-- What a run leaves. -/
structure EGood (S : EmS) (i : Nat) (x : In) : Prop where
  inv : EInv S
  le : S.dst.length ≤ i
  last : LastNot S x
theorem closeF_good {ch : UInt8} (hch : isRunC ch) {x : In} (hx : runOf x = ch.toNat) {po pc : Bool} {pn i : Nat} : ∀ (f m : Nat) (S : EmS), EGood S i x → (closeF ch po pc pn f m S).1 ≤ m ∧ EGood (closeF ch po pc pn f m S).2 i x
  | 0, m, S, h => ⟨Nat.le_refl _, h⟩
  | f + 1, m, S, h => by
    unfold closeF
    by_cases hm : m = 0
    · rw [if_pos hm]; exact ⟨Nat.zero_le _, h⟩
    · rw [if_neg hm]
      dsimp only
      cases hf : findTop (okM S.dst ch m po pc pn) (S.st.getD (emIdx ch) []) (S.st.getD (emIdx ch) []).length with
      | none => exact ⟨Nat.le_refl _, h⟩
      | some j =>
        dsimp only
        obtain ⟨m2, sc, sn, h1, h2, h3, h4⟩ := h.inv.find hch (findTop_lt hf).1
        rw [h1]
        dsimp only
        have hd := dOf_le (m := m) (m2 := (List.replicate m2 ch).length) (by omega)
        have hin := h.last.inner hx hch h1 h2
        have := closeF_good hch hx (po := po) (pc := pc) (pn := pn) (i := i) f (m - dOf m (List.replicate m2 ch).length) (closeStep ch (dOf m (List.replicate m2 ch).length) _ (List.replicate m2 ch) true sc sn S)
          ⟨h.inv.close hch h1 hd.1 h2, Nat.le_trans (closeStep_len hin) h.le, closeStep_last x⟩
        exact ⟨by omega, this.2⟩
theorem closeF_zero (c : UInt8) (po pc : Bool) (pn : Nat) : ∀ (f : Nat) (S : EmS), closeF c po pc pn f 0 S = (0, S)
  | 0, _ => rfl
  | f + 1, S => by unfold closeF; rw [if_pos rfl]

theorem restM_len (k : Nat) (t : List UInt8) (o c : Bool) (n : Nat) (S : EmS) : (restM k t o c n S).dst.length = S.dst.length + 1 := by
  unfold restM
  split <;> simp
theorem restM_last (k : Nat) (t : List UInt8) (o c : Bool) (n : Nat) (S : EmS) (y : In) (hy : (restM k t o c n S).dst.getLast? = some y) : y = .em t o c n ∨ y = .plain t := by
  unfold restM at hy
  split at hy
  · rw [getLast?_snoc] at hy; cases hy; exact .inl rfl
  · rw [getLast?_snoc] at hy; cases hy; exact .inr rfl
theorem openQ_run (ch : UInt8) (o c : Bool) (n : Nat) : runOf (.em (openQ ch) o c n) = 0 ∧ (openQ ch).length = 3 := by
  unfold openQ
  split <;> exact ⟨rfl, rfl⟩
theorem closeQ_run (ch : UInt8) (o c : Bool) (n : Nat) : runOf (.em (closeQ ch) o c n) = 0 := by
  unfold closeQ
  split <;> rfl
theorem restQ_run (ch : UInt8) (cl o c : Bool) (n : Nat) : runOf (.em (restQ ch cl) o c n) = 0 ∧ (restQ ch cl).length = 3 := by
  unfold restQ
  repeat' split
  all_goals exact ⟨rfl, rfl⟩

theorem quote_top {S : EmS} (h : EInv S) {ch : UInt8} (hq : isQ ch = true) (hne : S.st.getD (emIdx ch) [] ≠ []) : ∃ t sc sn, S.dst[(S.st.getD (emIdx ch) []).getD ((S.st.getD (emIdx ch) []).length - 1) 0]? = some (.em t true sc sn) ∧ t.length = 3 ∧ sn ≤ 1000000 := by
  have hk := h.get (emIdx_lt ch)
  have hm : (S.st.getD (emIdx ch) []).getD ((S.st.getD (emIdx ch) []).length - 1) 0 ∈ S.st.getD (emIdx ch) [] := by
    generalize S.st.getD (emIdx ch) [] = ps at hne
    have : 0 < ps.length := List.length_pos_iff.2 hne
    rw [List.getD, List.getElem?_eq_getElem (show ps.length - 1 < ps.length by omega)]; exact List.getElem_mem _
  obtain ⟨t, c, n, h1, h2, h3, h4⟩ := h.open_ _ _ hk _ hm
  exact ⟨t, c, n, h1, (h4 (emIdx_q hq)).1, h2⟩
theorem EInv.quote {S : EmS} (h : EInv S) {ch : UInt8} (hq : isQ ch = true) {o c : Bool} {n : Nat} (hn : n ≤ 1000000) : EInv (quoteM ch o c n S) := by
  unfold quoteM
  dsimp only
  split
  · rename_i hc
    obtain ⟨t, sc, sn, h1, h2, h3⟩ := quote_top h hq hc.2
    rw [h1]
    dsimp only
    have hk := h.get (emIdx_lt ch)
    have hpos : 0 < (S.st.getD (emIdx ch) []).length := List.length_pos_iff.2 hc.2
    have hmem : (S.st.getD (emIdx ch) []).getD ((S.st.getD (emIdx ch) []).length - 1) 0 ∈ S.st.getD (emIdx ch) [] := by
      generalize S.st.getD (emIdx ch) [] = ps at hpos
      rw [List.getD, List.getElem?_eq_getElem (show ps.length - 1 < ps.length by omega)]; exact List.getElem_mem _
    generalize (S.st.getD (emIdx ch) []).getD ((S.st.getD (emIdx ch) []).length - 1) 0 = top at h1 hmem
    have hop : ∀ (k' : Nat) (ps : List Nat), S.st[k']? = some ps → ∀ p ∈ ps, OpenAt (S.dst.set top (.em (openQ ch) true sc sn) ++ [.em (closeQ ch) o c n]) k' p := by
      intro k' ps hk' p hp
      refine OpenAt.app _ ?_
      obtain ⟨t', c', n', e1, e2, e3, e4⟩ := h.open_ k' ps hk' p hp
      by_cases hpt : top = p
      · subst hpt
        rw [h1] at e1
        have e1' := Option.some.inj e1
        injection e1' with f1 f2 f3 f4
        subst f1; subst f3; subst f4
        refine ⟨openQ ch, sc, sn, by rw [List.getElem?_set_self (List.getElem?_eq_some_iff.1 h1).1], h3, fun hk3 => ?_, fun _ => ⟨(openQ_run ch true sc sn).2, (openQ_run ch true sc sn).1⟩⟩
        exfalso
        obtain ⟨t2, c2, n2, g1, g2, g3, g4⟩ := h.open_ _ _ hk _ hmem
        rw [h1] at g1
        have g1' := Option.some.inj g1
        injection g1' with q1 q2 q3 q4
        subst q1; subst q3; subst q4
        obtain ⟨ch2, m2, r1, r2, r3, r4⟩ := e3 hk3
        have hr := (g4 (emIdx_q hq)).2
        have hcr : isRunC ch2 := by
          unfold isRunC
          rw [r1]
          unfold chrK
          repeat' split
          all_goals omega
        have hrr := runOf_rep (o := true) (c := sc) (n := sn) r3 hcr
        rw [← r2, hr] at hrr
        rcases hcr with e | e | e <;> omega
      · exact ⟨t', c', n', by rw [List.getElem?_set_ne hpt]; exact e1, e2, e3, e4⟩
    refine ⟨by simp [h.five], fun k' ps hk' p hp => ?_, fun k' ps hk' => ?_⟩
    · dsimp only at hk' ⊢
      rw [List.getElem?_set] at hk'
      split at hk'
      · rename_i e; subst e
        split at hk'
        · cases hk'
          exact hop _ _ hk p (List.mem_of_mem_take hp)
        · cases hk'
      · exact hop k' ps hk' p hp
    · dsimp only at hk'
      rw [List.getElem?_set] at hk'
      split at hk'
      · rename_i e; subst e
        split at hk'
        · cases hk'
          exact (h.inc _ _ hk).sublist (List.take_sublist _ _)
        · cases hk'
      · exact h.inc k' ps hk'
  · exact h.rest (emIdx_lt ch) hn (fun h3 => by have := emIdx_q hq; omega) (fun _ => ⟨(restQ_run ch c true c n).2, (restQ_run ch c true c n).1⟩)
theorem quoteM_len {S : EmS} (h : EInv S) {ch : UInt8} (hq : isQ ch = true) {o c : Bool} {n : Nat} : (quoteM ch o c n S).dst.length = S.dst.length + 1 := by
  unfold quoteM
  dsimp only
  split
  · rename_i hc
    obtain ⟨t, sc, sn, h1, h2, h3⟩ := quote_top h hq hc.2
    rw [h1]
    simp
  · exact restM_len _ _ _ _ _ _
theorem quoteM_last {S : EmS} (h : EInv S) {ch : UInt8} (hq : isQ ch = true) {o c : Bool} {n : Nat} (y : In) (hy : (quoteM ch o c n S).dst.getLast? = some y) : runOf y = 0 := by
  unfold quoteM at hy
  dsimp only at hy
  split at hy
  · rename_i hc
    obtain ⟨t, sc, sn, h1, h2, h3⟩ := quote_top h hq hc.2
    rw [h1] at hy
    dsimp only at hy
    rw [getLast?_snoc] at hy
    cases hy
    exact closeQ_run _ _ _ _
  · rcases restM_last _ _ _ _ _ _ y hy with rfl | rfl
    · exact (restQ_run _ _ _ _ _).1
    · rfl

/-- A step: what holds goes on. -/
theorem emStep_inv {S : EmS} {x : In} {i : Nat} (hw : EmWF x) (h : EGood S i x) : EInv (emStep S x) ∧ (emStep S x).dst.length ≤ i + 1 ∧ ∀ y, (emStep S x).dst.getLast? = some y → runOf y ≠ 0 → runOf y = runOf x := by
  have hle := h.le
  cases x with
  | em t o c n =>
    obtain ⟨hn, hw⟩ := hw
    rcases hw with ⟨ch, m, hr, rfl, hm1, hm2⟩ | ⟨⟨ch, hq, rfl⟩, hoc⟩
    · unfold emStep
      dsimp only
      rw [replicate_headD hm1, isQ_run hr, List.length_replicate]
      have hrun := runOf_rep (o := o) (c := c) (n := n) hm1 hr
      have hlen : ∀ r : Nat × EmS, r.1 ≤ m → EGood r.2 i (.em (List.replicate m ch) o c n) → EInv (if r.1 = 0 then r.2 else restM (emIdx ch) (List.replicate r.1 ch) o c n r.2) ∧ (if r.1 = 0 then r.2 else restM (emIdx ch) (List.replicate r.1 ch) o c n r.2).dst.length ≤ i + 1 ∧ ∀ y, (if r.1 = 0 then r.2 else restM (emIdx ch) (List.replicate r.1 ch) o c n r.2).dst.getLast? = some y → runOf y ≠ 0 → runOf y = runOf (.em (List.replicate m ch) o c n) → runOf y = runOf (.em (List.replicate m ch) o c n) := by
        intro r hr1 hg
        have := hg.le
        split
        · exact ⟨hg.inv, by omega, fun y _ _ e => e⟩
        · obtain ⟨q1, q2⟩ := emIdx_run hr
          refine ⟨hg.inv.rest (by omega) hn (fun _ => ⟨ch, r.1, q2.symm, rfl, by omega, by omega⟩) (fun h3 => by omega), by rw [restM_len]; omega, fun y _ _ e => e⟩
      have hlast : ∀ r : Nat × EmS, (∀ y, r.2.dst.getLast? = some y → r.1 = 0 → runOf y = 0) → ∀ y, (if r.1 = 0 then r.2 else restM (emIdx ch) (List.replicate r.1 ch) o c n r.2).dst.getLast? = some y → runOf y ≠ 0 → runOf y = runOf (.em (List.replicate m ch) o c n) := by
        intro r hz y hy hy0
        split at hy
        · exact absurd (hz y hy (by assumption)) hy0
        · rcases restM_last _ _ _ _ _ _ y hy with rfl | rfl
          · rw [hrun, runOf_rep (by omega) hr]
          · exact absurd rfl hy0
      simp only [Bool.false_eq_true, if_false]
      cases c with
      | false =>
        simp only [Bool.false_eq_true, if_false]
        obtain ⟨a1, a2, _⟩ := hlen (m, S) (Nat.le_refl _) h
        exact ⟨a1, a2, hlast (m, S) (fun y _ e => by simp only at e; omega)⟩
      | true =>
        simp only [if_true]
        obtain ⟨b1, b2⟩ := closeF_good hr hrun (po := o) (pc := true) (pn := n) m m S h
        obtain ⟨a1, a2, _⟩ := hlen _ b1 b2
        refine ⟨a1, a2, hlast _ (fun y hy e => ?_)⟩
        -- all signs were matched: the last one is a node
        have key : ∀ (f k : Nat) (S : EmS), 1 ≤ k → EGood S i (.em (List.replicate m ch) o true n) → (closeF ch o true n f k S).1 = 0 → ∀ y, (closeF ch o true n f k S).2.dst.getLast? = some y → runOf y = 0 := by
          intro f
          induction f with
          | zero => intro k S hk _ h0; simp [closeF] at h0; omega
          | succ f ih =>
            intro k S hk hg h0 y hy
            unfold closeF at h0 hy
            rw [if_neg (show ¬ k = 0 by omega)] at h0 hy
            dsimp only at h0 hy
            cases hf : findTop (okM S.dst ch k o true n) (S.st.getD (emIdx ch) []) (S.st.getD (emIdx ch) []).length with
            | none => rw [hf] at h0; dsimp only at h0; omega
            | some j =>
              rw [hf] at h0 hy
              dsimp only at h0 hy
              obtain ⟨m2, sc, sn, h1, h2, h3, h4⟩ := hg.inv.find hr (findTop_lt hf).1
              rw [h1] at h0 hy
              dsimp only at h0 hy
              have hd := dOf_le (m := k) (m2 := (List.replicate m2 ch).length) hk
              have hin := hg.last.inner hrun hr h1 h2
              by_cases hz : k - dOf k (List.replicate m2 ch).length = 0
              · rw [hz, closeF_zero] at hy
                unfold closeStep at hy
                dsimp only at hy
                rw [getLast?_snoc] at hy
                cases hy
                exact mkNode_run _ _ _
              · exact ih _ _ (by omega) ⟨hg.inv.close hr h1 hd.1 h2, Nat.le_trans (closeStep_len hin) hg.le, closeStep_last _⟩ h0 y hy
        exact key m m S hm1 h e y hy
    · unfold emStep
      dsimp only
      rw [show List.headD [ch] 0 = ch from rfl, hq, if_pos rfl]
      exact ⟨h.inv.quote hq hn, by rw [quoteM_len h.inv hq]; omega, fun y hy hy0 => absurd (quoteM_last h.inv hq y hy) hy0⟩
  | op t k =>
    refine ⟨h.inv.push _, by simp [emStep, h.le], fun y hy hy0 => ?_⟩
    simp only [emStep, getLast?_snoc] at hy
    cases hy
    exact absurd rfl hy0
  | plain t => exact ⟨h.inv.push _, by simp [emStep, h.le], fun y hy hy0 => by simp only [emStep, getLast?_snoc] at hy; cases hy; exact absurd rfl hy0⟩
  | esc t => exact ⟨h.inv.push _, by simp [emStep, h.le], fun y hy hy0 => by simp only [emStep, getLast?_snoc] at hy; cases hy; exact absurd rfl hy0⟩
  | soft => exact ⟨h.inv.push _, by simp [emStep, h.le], fun y hy hy0 => by simp only [emStep, getLast?_snoc] at hy; cases hy; exact absurd rfl hy0⟩
  | hard => exact ⟨h.inv.push _, by simp [emStep, h.le], fun y hy hy0 => by simp only [emStep, getLast?_snoc] at hy; cases hy; exact absurd rfl hy0⟩
  | code t => exact ⟨h.inv.push _, by simp [emStep, h.le], fun y hy hy0 => by simp only [emStep, getLast?_snoc] at hy; cases hy; exact absurd rfl hy0⟩
  | auto t u => exact ⟨h.inv.push _, by simp [emStep, h.le], fun y hy hy0 => by simp only [emStep, getLast?_snoc] at hy; cases hy; exact absurd rfl hy0⟩
  | tag t => exact ⟨h.inv.push _, by simp [emStep, h.le], fun y hy hy0 => by simp only [emStep, getLast?_snoc] at hy; cases hy; exact absurd rfl hy0⟩
  | emph m l => exact ⟨h.inv.push _, by simp [emStep, h.le], fun y hy hy0 => by simp only [emStep, getLast?_snoc] at hy; cases hy; exact absurd rfl hy0⟩
  | strong m l => exact ⟨h.inv.push _, by simp [emStep, h.le], fun y hy hy0 => by simp only [emStep, getLast?_snoc] at hy; cases hy; exact absurd rfl hy0⟩
  | del m l => exact ⟨h.inv.push _, by simp [emStep, h.le], fun y hy hy0 => by simp only [emStep, getLast?_snoc] at hy; cases hy; exact absurd rfl hy0⟩
  | link d l => exact ⟨h.inv.push _, by simp [emStep, h.le], fun y hy hy0 => by simp only [emStep, getLast?_snoc] at hy; cases hy; exact absurd rfl hy0⟩
  | image d l => exact ⟨h.inv.push _, by simp [emStep, h.le], fun y hy hy0 => by simp only [emStep, getLast?_snoc] at hy; cases hy; exact absurd rfl hy0⟩
theorem emS0_inv : EInv emS0 := by
  refine ⟨rfl, fun k ps hk p hp => ?_, fun k ps hk => ?_⟩
  · unfold emS0 at hk
    dsimp only at hk
    match k with
    | 0 | 1 | 2 | 3 | 4 => simp at hk; subst hk; cases hp
    | k + 5 => simp at hk
  · unfold emS0 at hk
    dsimp only at hk
    match k with
    | 0 | 1 | 2 | 3 | 4 => simp at hk; subst hk; exact .nil
    | k + 5 => simp at hk
/-- What holds ahead of each part of the list. -/
theorem em_at {src : List In} (hw : ∀ x ∈ src, EmWF x) (ha : Apart src) : ∀ (i : Nat) (x : In), src[i]? = some x → EGood ((src.take i).foldl emStep emS0) i x
  | 0, x, _ => ⟨emS0_inv, Nat.le_refl _, fun y hy => by cases hy⟩
  | i + 1, x, hx => by
    have hlt := (List.getElem?_eq_some_iff.1 hx).1
    obtain ⟨y, hy⟩ : ∃ y, src[i]? = some y := ⟨_, List.getElem?_eq_getElem (by omega)⟩
    have ih := em_at hw ha i y hy
    obtain ⟨h1, h2, h3⟩ := emStep_inv (hw y (List.mem_of_getElem? hy)) ih
    rw [List.take_add_one, hy, List.foldl_append]
    simp only [Option.toList, List.foldl_cons, List.foldl_nil]
    refine ⟨h1, h2, fun z hz hz0 => ?_⟩
    have := h3 z hz hz0
    rw [this]
    exact ha i y x hy hx (by rw [← this]; exact hz0)
end Go.Proofs

namespace Go.Proofs
open Go Go.Eng
set_option maxRecDepth 20000
set_option maxHeartbeats 1000000

abbrev vEm (q : Nat) : Value := .iface 202 (lp q)
abbrev emC (t : List UInt8) (o c : Bool) (i n : Nat) : List Value := [str t, .bool o, .bool c, inat i, inat n]
/-- An inline of the list that is put out: an opener knows its place. -/
inductive InD : Nat → In → Value → Blk → Prop
  | opener {k n q : Nat} {t : List UInt8} {c : Bool} : InD k (.em t true c n) (vEm q) [(q, cellsOf (emC t true c k n) 204)]
  | other {k : Nat} {x : In} {v : Value} {G : Blk} (hx : ∀ t c n, x ≠ .em t true c n) (h : InR x v G) : InD k x v G
inductive DsR : Nat → List In → List Value → Blk → Prop
  | nil {k : Nat} : DsR k [] [] []
  | cons {k : Nat} {x : In} {l : List In} {v : Value} {vs : List Value} {G K : Blk} (h : InD k x v G) (hs : DsR (k + 1) l vs K) : DsR k (x :: l) (v :: vs) (G ++ K)
theorem InD.toR {k : Nat} {x : In} {v : Value} {G : Blk} (h : InD k x v G) : InR x v G := by
  cases h with
  | opener => exact .em
  | other _ h => exact h
theorem DsR.toR : ∀ {k : Nat} {l : List In} {vs : List Value} {K : Blk}, DsR k l vs K → InsR l vs K
  | _, _, _, _, .nil => .nil
  | _, _, _, _, .cons h hs => .cons h.toR hs.toR
theorem DsR.length : ∀ {k : Nat} {l : List In} {vs : List Value} {K : Blk}, DsR k l vs K → vs.length = l.length
  | _, _, _, _, .nil => rfl
  | _, _, _, _, .cons _ hs => by simp [hs.length]
theorem DsR.snoc : ∀ {k : Nat} {l : List In} {vs : List Value} {K G : Blk} {x : In} {v : Value}, DsR k l vs K → InD (k + l.length) x v G → DsR k (l ++ [x]) (vs ++ [v]) (K ++ G)
  | _, _, _, _, G, x, v, .nil, hx => by
    have := DsR.cons (by simpa using hx) DsR.nil
    simpa using this
  | k, _, _, _, G, x, v, .cons (l := l) h hs, hx => by
    have := DsR.cons h (hs.snoc (G := G) (x := x) (v := v) (by rw [show k + 1 + l.length = k + (l.length + 1) by omega]; exact hx))
    simpa using this
theorem DsR.at : ∀ {k : Nat} {l : List In} {vs : List Value} {K : Blk} (j : Nat) {x : In}, DsR k l vs K → l[j]? = some x →
    ∃ K1 G K2 v, K = K1 ++ (G ++ K2) ∧ vs[j]? = some v ∧ InD (k + j) x v G ∧ DsR k (l.take j) (vs.take j) K1 ∧ InsR (l.drop (j + 1)) (vs.drop (j + 1)) K2 ∧ ∀ x' G', InD (k + j) x' v G' → DsR k (l.set j x') vs (K1 ++ (G' ++ K2))
  | k, _, _, _, j, x, .nil, hx => by simp at hx
  | k, _, _, _, 0, x, .cons (G := G) (K := K) (v := v) h hs, hx => by
    simp at hx
    subst hx
    exact ⟨[], G, K, v, rfl, rfl, h, .nil, hs.toR, fun x' G' h' => (DsR.cons h' hs : DsR k (x' :: _) _ (G' ++ K))⟩
  | k, _, _, _, j + 1, x, .cons (G := G0) (K := K0) (v := v0) h hs, hx => by
    obtain ⟨K1, G, K2, v, h1, h2, h3, h4, h5, h6⟩ := hs.at j (by simpa using hx)
    rw [show k + 1 + j = k + (j + 1) by omega] at h3 h6
    refine ⟨G0 ++ K1, G, K2, v, by rw [h1]; simp, by simpa using h2, h3, DsR.cons h h4, by simpa using h5, fun x' G' h' => ?_⟩
    have := DsR.cons h (h6 x' G' h')
    simpa using this

/-- A stack of openers in memory. -/
structure StkR (vals : List Value) (v : Value) (R : Blk) (ps : List Nat) (qs : List Nat) : Prop where
  own : Own 202 1 v ps.length (qs.map lp) R
  len : qs.length = ps.length
  at_ : ∀ (j p q : Nat), ps[j]? = some p → qs[j]? = some q → vals[p]? = some (vEm q)
inductive StksR (vals : List Value) : List (List Nat) → List Value → Blk → Prop
  | nil : StksR vals [] [] []
  | cons {ps qs : List Nat} {st : List (List Nat)} {v : Value} {vs : List Value} {R K : Blk} (h : StkR vals v R ps qs) (hs : StksR vals st vs K) : StksR vals (ps :: st) (v :: vs) (R ++ K)
theorem StksR.length {vals : List Value} : ∀ {st : List (List Nat)} {vs : List Value} {K : Blk}, StksR vals st vs K → vs.length = st.length
  | _, _, _, .nil => rfl
  | _, _, _, .cons _ hs => by simp [hs.length]
theorem StksR.at {vals : List Value} : ∀ {st : List (List Nat)} {vs : List Value} {K : Blk} (j : Nat) {ps : List Nat}, StksR vals st vs K → st[j]? = some ps →
    ∃ A R C v qs, K = A ++ (R ++ C) ∧ vs[j]? = some v ∧ StkR vals v R ps qs ∧ ∀ v' R' ps' qs', StkR vals v' R' ps' qs' → StksR vals (st.set j ps') (vs.set j v') (A ++ (R' ++ C))
  | _, _, _, j, ps, .nil, hx => by simp at hx
  | _, _, _, 0, ps, .cons (R := R) (K := K) (v := v) (qs := qs) h hs, hx => by
    simp at hx
    subst hx
    exact ⟨[], R, K, v, qs, rfl, rfl, h, fun v' R' ps' qs' h' => (StksR.cons h' hs : StksR vals (ps' :: _) (v' :: _) (R' ++ K))⟩
  | _, _, _, j + 1, ps, .cons (R := R0) (K := K0) (v := v0) h hs, hx => by
    obtain ⟨A, R, C, v, qs, h1, h2, h3, h4⟩ := hs.at j (by simpa using hx)
    refine ⟨R0 ++ A, R, C, v, qs, by rw [h1]; simp, by simpa using h2, h3, fun v' R' ps' qs' h' => ?_⟩
    have := StksR.cons h (h4 v' R' ps' qs' h')
    simpa using this
theorem StkR.mono {vals vals' : List Value} {v : Value} {R : Blk} {ps qs : List Nat} (h : StkR vals v R ps qs) (hv : ∀ p ∈ ps, ∀ u, vals[p]? = some u → vals'[p]? = some u) : StkR vals' v R ps qs :=
  ⟨h.own, h.len, fun j p q h1 h2 => hv p (List.mem_of_getElem? h1) _ (h.at_ j p q h1 h2)⟩
theorem StksR.mono {vals vals' : List Value} : ∀ {st : List (List Nat)} {vs : List Value} {K : Blk}, StksR vals st vs K → (∀ ps ∈ st, ∀ p ∈ ps, ∀ u, vals[p]? = some u → vals'[p]? = some u) → StksR vals' st vs K
  | _, _, _, .nil, _ => .nil
  | _, _, _, .cons h hs, hv => .cons (h.mono (hv _ (by simp))) (hs.mono fun ps hps => hv ps (by simp [hps]))
/-- A stack is cut. -/
theorem StkR.take {vals : List Value} {v : Value} {R : Blk} {ps qs : List Nat} (h : StkR vals v R ps qs) {g m cap : Nat} (hv : v = .slice (some ⟨g, 0, none⟩) m cap) {k : Nat} (hk : k ≤ ps.length) : StkR vals (.slice (some ⟨g, 0, none⟩) k cap) R (ps.take k) (qs.take k) := by
  have hl := h.len
  refine ⟨⟨by rw [List.length_map, List.length_take, List.length_take]; omega, .inr ?_⟩, by rw [List.length_take, List.length_take]; omega, fun j p q h1 h2 => ?_⟩
  · rcases h.own.2 with ⟨e, _, _⟩ | ⟨g', cap', cur, e, rfl, h1, h2, h3, h4⟩
    · rw [hv] at e; cases e
    · rw [hv] at e
      cases e
      have hlt : (ps.take k).length = k := by rw [List.length_take]; omega
      refine ⟨g, cap, cur, by rw [hlt], rfl, by rw [hlt]; omega, h2, h3, ?_⟩
      rw [hlt, Nat.mul_one, List.map_take, ← h4, Nat.mul_one, List.take_take, Nat.min_eq_left hk]
  · rw [List.getElem?_take] at h1 h2
    split at h1
    · rename_i hjk
      rw [if_pos hjk] at h2
      exact h.at_ j p q h1 h2
    · cases h1
/-- One more is laid on it. -/
theorem StkR.push {vals : List Value} {v v' : Value} {R R' : Blk} {ps qs : List Nat} (h : StkR vals v R ps qs) {q p : Nat} (hO : Own 202 1 v' (ps.length + 1) (qs.map lp ++ [lp q]) R') (hp : vals[p]? = some (vEm q)) : StkR vals v' R' (ps ++ [p]) (qs ++ [q]) := by
  have hl := h.len
  refine ⟨by simpa using hO, by simp [hl], fun j p' q' h1 h2 => ?_⟩
  by_cases hj : j < ps.length
  · rw [List.getElem?_append_left hj] at h1
    rw [List.getElem?_append_left (by omega)] at h2
    exact h.at_ j p' q' h1 h2
  · rw [List.getElem?_append_right (by omega)] at h1
    rw [List.getElem?_append_right (by omega)] at h2
    have hz : j - ps.length = 0 := by
      have := (List.getElem?_eq_some_iff.1 h1).1
      simp at this; omega
    rw [hz] at h1
    rw [show j - qs.length = 0 by omega] at h2
    simp at h1 h2
    subst h1; subst h2
    exact hp
theorem StkR.pos {vals : List Value} {v : Value} {R : Blk} {ps qs : List Nat} (h : StkR vals v R ps qs) (hp : ps ≠ []) : ∃ g cap cur, v = .slice (some ⟨g, 0, none⟩) ps.length cap ∧ R = [(g, cellsOf cur 202)] ∧ cap ≤ 9223372036854775807 ∧ cur.length = cap ∧ ps.length ≤ cap ∧ ∀ (j q : Nat), qs[j]? = some q → cur[j]? = some (lp q) := by
  rcases h.own.2 with ⟨_, e, _⟩ | ⟨g, cap, cur, rfl, rfl, h1, h2, h3, h4⟩
  · exact absurd (List.eq_nil_of_length_eq_zero e) hp
  · refine ⟨g, cap, cur, rfl, rfl, h2, by omega, h1, fun j q hq => ?_⟩
    have h5 : (qs.map lp)[j]? = some (lp q) := by rw [List.getElem?_map, hq]; rfl
    rw [← h4, List.getElem?_take] at h5
    split at h5
    · exact h5
    · cases h5
end Go.Proofs

namespace Go.Proofs
open Go Go.Eng
set_option maxRecDepth 20000
set_option maxHeartbeats 1000000

/-! The scan for inlines. -/
abbrev PrsI := Option (In × Nat × Nat)
/-- An inline without inlines of its own, as it lies in memory. -/
def lf : In → LIt
  | .plain t => plainL t
  | .esc t => escL t
  | .soft => softL
  | .hard => hardL
  | .code t => codeL t
  | .auto t u => ⟨144, 146, [str t, str u]⟩
  | .tag t => ⟨149, 150, [str t]⟩
  | .op t i => openL t i
  | .em t o c n => emL t o c n
  | _ => plainL []
def isLeaf : In → Bool
  | .emph _ _ | .strong _ _ | .del _ _ | .link _ _ | .image _ _ => false
  | _ => true
theorem lf_R {x : In} (h : isLeaf x = true) (q : Nat) : InR x (.iface (lf x).ty (lp q)) [(lf x).cell q] := by
  cases x with
  | plain t => exact .plain
  | esc t => exact .esc
  | soft => exact .soft
  | hard => exact .hard
  | code t => exact .code
  | auto t u => exact .auto
  | tag t => exact .tag
  | op t i => exact .op
  | em t o c n => exact .em
  | emph m l => cases h
  | strong m l => cases h
  | del m l => cases h
  | link d l => cases h
  | image d l => cases h
def lfP : PrsI → Prs := Option.map fun r => (lf r.1, r.2)

def escI (s : List UInt8) (i : Nat) : PrsI := match s[i + 1]? with
  | none => none
  | some c => if isPunB c = true then some (.esc [c], i, i + 2) else if c.toNat = 10 then some (.hard, i, scan isBl s (i + 2)) else none
theorem esc_lf (s : List UInt8) (i : Nat) : escapeM s i = lfP (escI s i) := by
  unfold escapeM escI
  cases s[i + 1]? with
  | none => rfl
  | some c =>
    dsimp only
    by_cases h1 : isPunB c = true
    · rw [if_pos h1, if_pos h1]; rfl
    · rw [if_neg h1, if_neg h1]
      by_cases h2 : c.toNat = 10
      · rw [if_pos h2, if_pos h2]; rfl
      · rw [if_neg h2, if_neg h2]; rfl
def breakI (s : List UInt8) (i : Nat) : PrsI := some (if 2 ≤ i ∧ s[i - 1]? = some 32 ∧ s[i - 2]? = some 32 then .hard else .soft, bcan s i, scan isBl s (i + 1))
theorem break_lf (s : List UInt8) (i : Nat) : breakM s i = lfP (breakI s i) := by
  unfold breakM breakI
  by_cases h : 2 ≤ i ∧ s[i - 1]? = some 32 ∧ s[i - 2]? = some 32
  · rw [if_pos h, if_pos h]; rfl
  · rw [if_neg h, if_neg h]; rfl
def linkOpenI (s : List UInt8) (i : Nat) : PrsI := some (.op ((s.take (i + 1)).drop i) (i + 1), i, i + 1)
theorem linkOpen_lf (s : List UInt8) (i : Nat) : linkOpenM s i = lfP (linkOpenI s i) := rfl
def imageOpenI (s : List UInt8) (i : Nat) : PrsI := if s[i + 1]? = some 91 then some (.op ((s.take (i + 2)).drop i) (i + 2), i, i + 2) else none
theorem imageOpen_lf (s : List UInt8) (i : Nat) : imageOpenM s i = lfP (imageOpenI s i) := by
  unfold imageOpenM imageOpenI
  by_cases h : s[i + 1]? = some 91
  · rw [if_pos h, if_pos h]; rfl
  · rw [if_neg h, if_neg h]; rfl
def angI (s : List UInt8) (i : Nat) : PrsI := match autoURIM s i with
  | some j => some (.auto ((s.take j).drop (i + 1)) ((s.take j).drop (i + 1)), i, j + 1)
  | none => match emailM s i with
    | some j => some (.auto ((s.take j).drop (i + 1)) ([109, 97, 105, 108, 116, 111, 58] ++ (s.take j).drop (i + 1)), i, j + 1)
    | none => match htmlTagM s i with
      | some j => some (.tag ((s.take j).drop i), i, j)
      | none => none
theorem ang_lf (s : List UInt8) (i : Nat) : (angM s i).map (fun r => (r.1, i, r.2)) = lfP (angI s i) := by
  unfold angM angI
  cases autoURIM s i with
  | some j => rfl
  | none =>
    dsimp only
    cases emailM s i with
    | some j => rfl
    | none =>
      dsimp only
      cases htmlTagM s i with
      | some j => rfl
      | none => rfl
theorem inl_prs (q i : Nat) (x : Option (LIt × Nat)) : inlV q i x = prsV q (x.map fun r => (r.1, i, r.2)) ∧ inlK q x = prsK q (x.map fun r => (r.1, i, r.2)) := by
  cases x with
  | none => exact ⟨rfl, rfl⟩
  | some r => exact ⟨rfl, rfl⟩
def codeI (s : List UInt8) (i : Nat) (b : BT) : (In × Nat × Nat) × BT :=
  let j := scan tickB s (i + 1)
  if 80 < j - i ∨ b.sc = true ∧ b.last.getD (j - i - 1) 0 < j then ((.plain ((s.take j).drop i), i, j), b)
  else match runsM s (j - i) b.sc (s.length + 1) j b.last with
    | (some (e, e'), last') => ((.code (codeText ((s.take e).drop j)), i, e'), ⟨last', b.sc⟩)
    | (none, last') => ((.plain ((s.take j).drop i), i, j), ⟨last', true⟩)
theorem code_lf (s : List UInt8) (i : Nat) (b : BT) : some (codeSpanM s i b).1 = lfP (some (codeI s i b).1) ∧ (codeSpanM s i b).2 = (codeI s i b).2 := by
  unfold codeSpanM codeI
  dsimp only
  by_cases h : 80 < scan tickB s (i + 1) - i ∨ b.sc = true ∧ b.last.getD (scan tickB s (i + 1) - i - 1) 0 < scan tickB s (i + 1)
  · rw [if_pos h, if_pos h]; exact ⟨rfl, rfl⟩
  · rw [if_neg h, if_neg h]
    generalize runsM s (scan tickB s (i + 1) - i) b.sc (s.length + 1) (scan tickB s (i + 1)) b.last = r
    obtain ⟨_ | ⟨e, e'⟩, l⟩ := r
    · exact ⟨rfl, rfl⟩
    · exact ⟨rfl, rfl⟩
def emphI (s : List UInt8) (i : Nat) (c : UInt8) : PrsI :=
  let j := emphEnd s i c
  if c.toNat = 126 ∧ 2 < j - i then some (.plain ((s.take j).drop i), i, j)
  else some (.em ((s.take j).drop i) (canOpenM c (beforeM s i) (afterM s j)) (canCloseM c (beforeM s i) (afterM s j)) (j - i), i, j)
theorem emph_lf (s : List UInt8) (i : Nat) (c : UInt8) : parseEmphM s i c = lfP (emphI s i c) := by
  unfold parseEmphM emphI
  dsimp only
  by_cases h : c.toNat = 126 ∧ 2 < emphEnd s i c - i
  · rw [if_pos h, if_pos h]; rfl
  · rw [if_neg h, if_neg h]; rfl

/-- Which signs are read as inlines: the options, and what an entity is. -/
structure IO where
  quotes : Bool
  del : Bool
  ent : Nat → Option (List UInt8 × Nat)
  tab : Nat → List UInt8
  tb : LTab
/-- Where the scan stands. -/
structure IS where
  i : Nat
  out : List In
  e : Nat
  ops : List Nat
  llo : Nat
  bs : Bool
  bt : BT
def bt00 : BT := ⟨List.replicate 80 0, false⟩
/-- The sign at i, read: what it is, and what the parser of code spans has seen behind it. -/
def parI (o : IO) (s : List UInt8) (i : Nat) (c : UInt8) (bs : Bool) (bt : BT) : PrsI × Bool × BT :=
  if c.toNat = 92 then (escI s i, bs, bt)
  else if c.toNat = 96 then (let r := codeI s i (if bs then bt else bt00); (some r.1, true, r.2))
  else if c.toNat = 60 then (angI s i, bs, bt)
  else if c.toNat = 91 then (linkOpenI s i, bs, bt)
  else if c.toNat = 33 then (imageOpenI s i, bs, bt)
  else if c.toNat = 95 ∨ c.toNat = 42 then (emphI s i c, bs, bt)
  else if c.toNat = 34 ∨ c.toNat = 39 then (if o.quotes then (emphI s i c, bs, bt) else (none, bs, bt))
  else if c.toNat = 126 then (if o.del then (emphI s i c, bs, bt) else (none, bs, bt))
  else if c.toNat = 10 then (breakI s i, bs, bt)
  else if c.toNat = 38 then ((o.ent i).map (fun r => (.plain r.1, i, r.2)), bs, bt)
  else (none, bs, bt)
def emitI (s : List UInt8) (e i : Nat) (out : List In) : List In := if e < i then out ++ [.plain ((s.take i).drop e)] else out
def isOp : In → Bool
  | .op _ _ => true
  | _ => false
def isImg (t : List UInt8) : Bool := t.headD 0 == 33
def nodeI (t : List UInt8) (d : LDat) (l : List In) : In := if isImg t then .image d l else .link d l
/-- One step of the scan, at a byte. -/
def stepI (o : IO) (s : List UInt8) (x : IS) : IS := match s[x.i]? with
  | none => x
  | some c => match parI o s x.i c x.bs x.bt with
    | (some (y, a, b), bs, bt) =>
      let out := emitI s x.e a x.out
      ⟨b, out ++ [y], b, if isOp y then x.ops ++ [out.length] else x.ops, x.llo, bs, bt⟩
    | (none, bs, bt) =>
      if c.toNat = 93 ∧ x.ops ≠ [] then
        let oi := x.ops.getD (x.ops.length - 1) 0
        let ops := x.ops.take (x.ops.length - 1)
        match x.out[oi]? with
        | some (.op t k) =>
          if isImg t = true ∨ x.llo ≤ k then
            match linkCloseM o.tab o.tb s x.i k with
            | some (d, j) =>
              let out := emitI s x.e x.i x.out
              ⟨j, out.take oi ++ [nodeI t d (emphM (out.drop (oi + 1)))], j, ops, if isImg t then x.llo else k, bs, bt⟩
            | none => { x with i := x.i + 1, ops := ops, bs := bs, bt := bt }
          else { x with i := x.i + 1, ops := ops, bs := bs, bt := bt }
        | _ => x
      else { x with i := x.i + 1, bs := bs, bt := bt }
def runI (o : IO) (s : List UInt8) : Nat → IS → IS
  | 0, x => x
  | f + 1, x => if x.i < s.length then runI o s f (stepI o s x) else x
def is0 : IS := ⟨0, [], 0, [], 0, false, bt00⟩
def textOf : In → Option (List UInt8)
  | .plain t => some t
  | .op t _ => some t
  | .em t _ _ _ => some t
  | _ => none
def flushM (acc : List (List UInt8)) : List In := if acc = [] then [] else [.plain acc.flatten]
def mergeF : List In → List (List UInt8) → List In
  | [], acc => flushM acc
  | x :: l, acc => match textOf x with
    | some t => mergeF l (acc ++ [t])
    | none => flushM acc ++ x :: mergeF l []
def mergeM (l : List In) : List In := mergeF l []
/-- What the scan puts out, ahead of the delimiters' pass. -/
def scanM (o : IO) (s : List UInt8) : List In :=
  let x := runI o s (s.length + 1) is0
  emitI s x.e s.length x.out
def inlineM (o : IO) (s : List UInt8) : List In := mergeM (emphM (scanM o s))
end Go.Proofs

namespace Go.Proofs
open Go Go.Eng
set_option maxRecDepth 20000
set_option maxHeartbeats 1000000

mutual
/-- The HTML of an inline. -/
def htmlI : In → List UInt8
  | .plain t => escH t
  | .esc t => escH t
  | .soft => [10]
  | .hard => [60, 98, 114, 32, 47, 62, 10]
  | .code t => [60, 99, 111, 100, 101, 62] ++ escH t ++ [60, 47, 99, 111, 100, 101, 62]
  | .auto t u => [60, 97, 32, 104, 114, 101, 102, 61, 34] ++ pairH linkPairs u ++ [34, 62] ++ escH t ++ [60, 47, 97, 62]
  | .tag t => t
  | .op t _ => escH t
  | .em t _ _ _ => escH t
  | .emph _ l => [60, 101, 109, 62] ++ (htmlIs l).flatten ++ [60, 47, 101, 109, 62]
  | .strong _ l => [60, 115, 116, 114, 111, 110, 103, 62] ++ (htmlIs l).flatten ++ [60, 47, 115, 116, 114, 111, 110, 103, 62]
  | .del _ l => [60, 100, 101, 108, 62] ++ (htmlIs l).flatten ++ [60, 47, 100, 101, 108, 62]
  | .link d l => linkH d.url d.title (htmlIs l).flatten
  | .image d l => imageH d.url d.title (textIs l).flatten
def htmlIs : List In → List (List UInt8)
  | [] => []
  | x :: l => htmlI x :: htmlIs l
/-- The text of an inline, as an image's alternative text has it. -/
def textI : In → List UInt8
  | .plain t => escH t
  | .esc t => escH t
  | .soft => [10]
  | .hard => [10]
  | .code t => escH t
  | .auto t _ => escH t
  | .tag _ => []
  | .op t _ => escH t
  | .em t _ _ _ => escH t
  | .emph _ l => (textIs l).flatten
  | .strong _ l => (textIs l).flatten
  | .del _ l => (textIs l).flatten
  | .link _ l => (textIs l).flatten
  | .image _ l => (textIs l).flatten
def textIs : List In → List (List UInt8)
  | [] => []
  | x :: l => textI x :: textIs l
/-- No text is too long. -/
def SzI : In → Prop
  | .plain t => t.length ≤ 10000
  | .esc t => t.length ≤ 10000
  | .soft => True
  | .hard => True
  | .code t => t.length ≤ 10000
  | .auto t u => t = u ∧ t.length ≤ 1000
  | .tag t => t.length ≤ 10000
  | .op t _ => t.length ≤ 10000
  | .em t _ _ _ => t.length ≤ 10000
  | .emph _ l => SzIs l
  | .strong _ l => SzIs l
  | .del _ l => SzIs l
  | .link d l => d.url.length ≤ 10000 ∧ d.title.length ≤ 10000 ∧ SzIs l
  | .image d l => d.url.length ≤ 10000 ∧ d.title.length ≤ 10000 ∧ SzIs l
def SzIs : List In → Prop
  | [] => True
  | x :: l => SzI x ∧ SzIs l
end
theorem htmlIs_len : ∀ l : List In, (htmlIs l).length = l.length
  | [] => rfl
  | x :: l => by simp [htmlIs, htmlIs_len l]
end Go.Proofs

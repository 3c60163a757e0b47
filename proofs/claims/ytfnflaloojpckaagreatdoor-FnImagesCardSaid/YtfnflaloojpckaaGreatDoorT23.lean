/- Steps of the walk of the program and plain facts on what it computes. Conditions: as each theorem states them. -/
import Derived.Test.YtfnflaloojpckaaGreatDoorT22
import Derived.Test.YtfnflaloojpckaaGreatDoorT12
import Derived.Test.YtfnflaloojpckaaGreatDoorT05
import Derived.Test.YtfnflaloojpckaaGreatDoorT04
import Derived.Test.YtfnflaloojpckaaGreatDoorRows
import Derived.Lib.LaidU8
import Derived.MakeChecks
import Derived.ChangeReads
namespace Go.Proofs
open Go Go.Eng
set_option maxRecDepth 20000
set_option maxHeartbeats 1000000

/-! Images within images: what inline makes of them. -/
theorem unesc_id {tab : Nat → List UInt8} {l : List UInt8} (h : ∀ c ∈ l, c.toNat ≠ 92 ∧ c.toNat ≠ 38) : unescM tab l = l := by
  unfold unescM
  rw [if_neg]
  rintro (h1 | h1)
  · exact (h _ h1).1 rfl
  · exact (h _ h1).2 rfl
/-- Bytes of a destination. -/
abbrev dch (c : Nat) : Prop := wch c ∨ c = 47 ∨ c = 46
theorem at_dropI {s X : List UInt8} {i : Nat} {c : UInt8} (h : s.drop i = c :: X) : s[i]? = some c ∧ s.drop (i + 1) = X := by
  have h0 : (s.drop i)[0]? = some c := by rw [h]; rfl
  rw [List.getElem?_drop] at h0
  refine ⟨by simpa using h0, ?_⟩
  have h1 : (s.drop i).drop 1 = X := by rw [h]; rfl
  rw [List.drop_drop] at h1
  exact h1
theorem drop_addI {s X u : List UInt8} {i : Nat} (h : s.drop i = u ++ X) : s.drop (i + u.length) = X := by
  rw [← List.drop_drop, h, List.drop_left]
theorem plF_dest {s B : List UInt8} : ∀ (u : List UInt8) {i f : Nat}, s.drop i = u ++ 41 :: B → (∀ c ∈ u, dch c.toNat) → u.length < f → plF s f i 0 = some (i + u.length)
  | [], i, 0, _, _, hf => by simp at hf
  | [], i, f + 1, h, _, _ => by
    have h1 := (at_dropI (c := 41) (X := B) (by simpa using h)).1
    unfold plF
    rw [h1]
    simp
  | c :: u, i, 0, _, _, hf => by simp at hf
  | c :: u, i, f + 1, h, hu, hf => by
    obtain ⟨h1, h2⟩ := at_dropI (c := c) (X := u ++ 41 :: B) (by simpa using h)
    have hc := hu c (by simp)
    have ih := plF_dest u (f := f) h2 (fun d hd => hu d (by simp [hd])) (by simpa using hf)
    unfold plF
    rw [h1]
    dsimp only
    rw [if_neg (by omega), if_neg (by omega), if_neg (by omega), if_neg (by omega), ih]
    simp; omega
theorem linkClose_at {tab : Nat → List UInt8} {tb : LTab} {s u B : List UInt8} {i k : Nat} (h : s.drop i = 93 :: 40 :: (u ++ 41 :: B)) (hne : u ≠ []) (hu : ∀ c ∈ u, dch c.toNat) : linkCloseM tab tb s i k = some (⟨u, [], 0, false⟩, i + u.length + 3) := by
  obtain ⟨h0, h10⟩ := at_dropI h
  obtain ⟨h1, h2⟩ := at_dropI h10
  have h2' : s.drop (i + 2) = u ++ 41 :: B := h2
  obtain ⟨u0, ur, rfl⟩ : ∃ u0 ur, u = u0 :: ur := by cases u with | nil => exact absurd rfl hne | cons a b => exact ⟨a, b, rfl⟩
  have h3 := (at_dropI (c := u0) (X := ur ++ 41 :: B) (by simpa using h2')).1
  have hu0 := hu u0 (by simp)
  have h4 := drop_addI h2'
  have h5 := (at_dropI h4).1
  have hs1 : scan isSp s (i + 2) = i + 2 := scan_stop h3 (by simp [isSp]; omega)
  have hs2 : scan isSp s (i + 2 + (u0 :: ur).length) = i + 2 + (u0 :: ur).length := scan_stop h5 (by decide)
  have hlt := (List.getElem?_eq_some_iff.1 h3).1
  have hlen : (u0 :: ur).length < s.length + 1 := by have := (List.getElem?_eq_some_iff.1 h5).1; omega
  have hp := plF_dest (u0 :: ur) (f := s.length + 1) h2' hu hlen
  have h41 : s[i + 2]? ≠ some 41 := by rw [h3]; intro e; injection e with e; rw [e] at hu0; exact absurd hu0 (by decide)
  have hdest : linkDestM tab s (i + 2) = some (u0 :: ur, i + 2 + (u0 :: ur).length) := by
    unfold linkDestM
    rw [h3]
    dsimp only
    rw [if_neg (by omega), hp]
    have e : (s.take (i + 2 + (u0 :: ur).length)).drop (i + 2) = u0 :: ur := by
      rw [List.drop_take, h2', show i + 2 + (u0 :: ur).length - (i + 2) = (u0 :: ur).length by omega, List.take_left]
    show some (unescM tab _, _) = _
    rw [e, unesc_id (fun c hc => by have := hu c hc; omega)]
  unfold linkCloseM
  rw [h1]
  dsimp only
  rw [if_pos (by rfl)]
  unfold inlineLinkM
  dsimp only
  rw [hs1, if_pos ⟨hlt, h41⟩, hdest]
  dsimp only
  rw [hs2, if_neg (fun h => h.2 h5)]
  unfold closeAt
  rw [if_pos h5]
  dsimp only
  congr 2
  omega

/-! The scan's steps. -/
inductive Steps (o : IO) (s : List UInt8) : IS → IS → Prop
  | refl {x : IS} : Steps o s x x
  | step {x y : IS} (h : x.i < s.length) (h2 : x.i < (stepI o s x).i) (h3 : Steps o s (stepI o s x) y) : Steps o s x y
theorem Steps.trans {o : IO} {s : List UInt8} {x y z : IS} (h : Steps o s x y) (h2 : Steps o s y z) : Steps o s x z := by
  induction h with
  | refl => exact h2
  | step a b _ ih => exact .step a b (ih h2)
theorem Steps.run {o : IO} {s : List UInt8} {x y : IS} (h : Steps o s x y) : ∀ f, s.length < x.i + f → ∃ f', s.length < y.i + f' ∧ runI o s f x = runI o s f' y := by
  induction h with
  | refl => exact fun f hf => ⟨f, hf, rfl⟩
  | @step x y a b c ih =>
    intro f hf
    cases f with
    | zero => omega
    | succ f =>
      obtain ⟨f', k1, k2⟩ := ih f (by omega)
      exact ⟨f', k1, by rw [← k2]; conv => lhs; unfold runI
                        rw [if_pos a]⟩
theorem run_done {o : IO} {s : List UInt8} {y : IS} (h : s.length ≤ y.i) : ∀ f, runI o s f y = y
  | 0 => rfl
  | f + 1 => by unfold runI; rw [if_neg (by omega)]
theorem scanM_of {o : IO} {s : List UInt8} {y : IS} (h : Steps o s is0 y) (hy : s.length ≤ y.i) : scanM o s = emitI s y.e s.length y.out := by
  obtain ⟨f', _, k⟩ := h.run (s.length + 1) (by omega)
  unfold scanM
  rw [k, run_done hy]

theorem step_lit {o : IO} {s X : List UInt8} {x : IS} {c : UInt8} (h : s.drop x.i = c :: X) (hc : wch c.toNat) : stepI o s x = { x with i := x.i + 1 } := by
  have h1 := (at_dropI h).1
  unfold stepI
  rw [h1]
  dsimp only
  have hp : parI o s x.i c x.bs x.bt = (none, x.bs, x.bt) := by
    unfold parI
    rw [if_neg (by omega), if_neg (by omega), if_neg (by omega), if_neg (by omega), if_neg (by omega), if_neg (by omega), if_neg (by omega), if_neg (by omega), if_neg (by omega), if_neg (by omega)]
  rw [hp]
  dsimp only
  rw [if_neg (by omega)]
theorem lits_steps {o : IO} {s X : List UInt8} : ∀ (w : List UInt8) (x : IS), s.drop x.i = w ++ X → (∀ c ∈ w, wch c.toNat) → Steps o s x { x with i := x.i + w.length }
  | [], x, _, _ => .refl
  | c :: w, x, h, hw => by
    have h' : s.drop x.i = c :: (w ++ X) := by simpa using h
    obtain ⟨h1, h2⟩ := at_dropI h'
    have hst := step_lit (o := o) h' (hw c (by simp))
    refine .step (List.getElem?_eq_some_iff.1 h1).1 (by rw [hst]; show x.i < x.i + 1; omega) ?_
    rw [hst]
    have := lits_steps (o := o) w { x with i := x.i + 1 } h2 (fun d hd => hw d (by simp [hd]))
    rw [show x.i + (c :: w).length = x.i + 1 + w.length by simp; omega]
    exact this
theorem step_open {o : IO} {s X : List UInt8} {x : IS} (h : s.drop x.i = 33 :: 91 :: X) (he : x.e = x.i) : stepI o s x = ⟨x.i + 2, x.out ++ [.op [33, 91] (x.i + 2)], x.i + 2, x.ops ++ [x.out.length], x.llo, x.bs, x.bt⟩ := by
  obtain ⟨h1, h2⟩ := at_dropI h
  have h3 := (at_dropI h2).1
  unfold stepI
  rw [h1]
  dsimp only
  have e : (s.take (x.i + 2)).drop x.i = [33, 91] := by
    rw [List.drop_take, h, show x.i + 2 - x.i = 2 by omega]; rfl
  have hp : parI o s x.i 33 x.bs x.bt = (some (.op [33, 91] (x.i + 2), x.i, x.i + 2), x.bs, x.bt) := by
    unfold parI
    rw [if_neg (by decide), if_neg (by decide), if_neg (by decide), if_neg (by decide), if_pos (by decide)]
    unfold imageOpenI
    rw [if_pos h3, e]
  rw [hp]
  dsimp only
  unfold emitI
  rw [if_neg (by omega), if_pos (by rfl)]
theorem step_close {o : IO} {s u B : List UInt8} {x : IS} {oi k : Nat} {ops : List Nat} (h : s.drop x.i = 93 :: 40 :: (u ++ 41 :: B)) (hne : u ≠ []) (hu : ∀ c ∈ u, dch c.toNat) (hops : x.ops = ops ++ [oi]) (ho : x.out[oi]? = some (.op [33, 91] k)) :
    stepI o s x = ⟨x.i + u.length + 3, (emitI s x.e x.i x.out).take oi ++ [.image ⟨u, [], 0, false⟩ (emphM ((emitI s x.e x.i x.out).drop (oi + 1)))], x.i + u.length + 3, ops, x.llo, x.bs, x.bt⟩ := by
  have h1 := (at_dropI h).1
  unfold stepI
  rw [h1]
  dsimp only
  have hp : parI o s x.i 93 x.bs x.bt = (none, x.bs, x.bt) := by
    unfold parI
    rw [if_neg (by decide), if_neg (by decide), if_neg (by decide), if_neg (by decide), if_neg (by decide), if_neg (by decide), if_neg (by decide), if_neg (by decide), if_neg (by decide), if_neg (by decide)]
  rw [hp]
  dsimp only
  have e1 : x.ops.getD (x.ops.length - 1) 0 = oi := by rw [hops]; simp
  have e2 : x.ops.take (x.ops.length - 1) = ops := by rw [hops]; simp
  rw [if_pos ⟨by rfl, by rw [hops]; simp⟩, e1, e2, ho]
  dsimp only
  rw [if_pos (.inl (by rfl)), linkClose_at h hne hu]
  dsimp only
  rfl

/-! The text, from outside to inside. -/
def opensT (n : Nat) : List UInt8 := (List.replicate n [33, 91]).flatten
def closesT (us : List (List UInt8)) : List UInt8 := us.flatMap fun u => 93 :: 40 :: (u ++ [41])
abbrev imgT (us : List (List UInt8)) (a : List UInt8) : List UInt8 := opensT us.length ++ (a ++ closesT us)
def opsL (k : Nat) : List In := (List.range k).map fun j => .op [33, 91] (2 * (j + 1))
theorem opsL_succ (k : Nat) : opsL (k + 1) = opsL k ++ [.op [33, 91] (2 * (k + 1))] := by simp [opsL, List.range_succ]
theorem opsL_len (k : Nat) : (opsL k).length = k := by simp [opsL]
def wrapI (us : List (List UInt8)) (x : In) : In := us.foldl (fun x u => .image ⟨u, [], 0, false⟩ [x]) x
theorem opensT_succ (n : Nat) : opensT (n + 1) = 33 :: 91 :: opensT n := by simp [opensT, List.replicate_succ]

theorem opens_steps {o : IO} {s X : List UInt8} : ∀ (n k : Nat), s.drop (2 * k) = opensT n ++ X → Steps o s ⟨2 * k, opsL k, 2 * k, List.range k, 0, false, bt00⟩ ⟨2 * (k + n), opsL (k + n), 2 * (k + n), List.range (k + n), 0, false, bt00⟩
  | 0, k, _ => .refl
  | n + 1, k, h => by
    have h' : s.drop (⟨2 * k, opsL k, 2 * k, List.range k, 0, false, bt00⟩ : IS).i = 33 :: 91 :: (opensT n ++ X) := by rw [opensT_succ] at h; simpa using h
    obtain ⟨h1, h2⟩ := at_dropI h'
    obtain ⟨h3, h4⟩ := at_dropI h2
    have hst := step_open (o := o) h' rfl
    refine .step (List.getElem?_eq_some_iff.1 h1).1 (by rw [hst]; show 2 * k < 2 * k + 2; omega) ?_
    rw [hst]
    have ih := opens_steps (o := o) n (k + 1) (by rw [show 2 * (k + 1) = 2 * k + 1 + 1 by omega]; exact h4)
    rw [show k + (n + 1) = k + 1 + n by omega]
    have e : (⟨2 * k + 2, opsL k ++ [.op [33, 91] (2 * k + 2)], 2 * k + 2, List.range k ++ [(opsL k).length], 0, false, bt00⟩ : IS) = ⟨2 * (k + 1), opsL (k + 1), 2 * (k + 1), List.range (k + 1), 0, false, bt00⟩ := by
      rw [opsL_succ, opsL_len, List.range_succ, show 2 * (k + 1) = 2 * k + 2 by omega]
    show Steps o s ⟨2 * k + 2, opsL k ++ [.op [33, 91] (2 * k + 2)], 2 * k + 2, List.range k ++ [(opsL k).length], 0, false, bt00⟩ _
    rw [e]
    exact ih
theorem opsL_at {k j : Nat} (h : j < k) : (opsL k)[j]? = some (.op [33, 91] (2 * (j + 1))) := by
  unfold opsL
  rw [List.getElem?_map, List.getElem?_range h]; rfl
def PlainIm : In → Prop
  | .plain _ => True
  | .image _ _ => True
  | _ => False
theorem emph_one {x : In} (h : PlainIm x) : emphM [x] = [x] := by
  cases x <;> first | rfl | exact h.elim
theorem closes_steps {o : IO} {s : List UInt8} : ∀ (us : List (List UInt8)) (st : IS) (x : In), s.drop st.i = closesT us → st.i ≤ s.length → emitI s st.e st.i st.out = opsL us.length ++ [x] → st.ops = List.range us.length → (∀ j, j < us.length → st.out[j]? = some (.op [33, 91] (2 * (j + 1)))) → PlainIm x → (∀ u ∈ us, u ≠ [] ∧ ∀ c ∈ u, dch c.toNat) →
    ∃ y, Steps o s st y ∧ y.i = s.length ∧ emitI s y.e s.length y.out = [wrapI us x]
  | [], st, x, h, hle, he, _, _, _, _ => by
    have hi : s.length ≤ st.i := List.drop_eq_nil_iff.1 h
    have hi : st.i = s.length := by omega
    exact ⟨st, .refl, hi, by rw [hi] at he; rw [he]; simp [opsL, wrapI]⟩
  | u :: us, st, x, h, hle, he, hops, ho, hx, hu => by
    have h' : s.drop st.i = 93 :: 40 :: (u ++ 41 :: closesT us) := by rw [h]; simp [closesT]
    obtain ⟨hne, huc⟩ := hu u (by simp)
    have hst := step_close (o := o) h' hne huc (ops := List.range us.length) (oi := us.length) (by rw [hops, List.length_cons, List.range_succ]) (ho us.length (by simp))
    rw [he] at hst
    have e1 : (opsL (u :: us).length ++ [x]).take us.length = opsL us.length := by
      rw [List.length_cons, opsL_succ, List.append_assoc]
      have := List.take_left (l₁ := opsL us.length) (l₂ := [.op [33, 91] (2 * (us.length + 1))] ++ [x])
      rw [opsL_len] at this
      exact this
    have e2 : (opsL (u :: us).length ++ [x]).drop (us.length + 1) = [x] := by
      have := List.drop_left (l₁ := opsL (us.length + 1)) (l₂ := [x])
      rw [opsL_len] at this
      exact this
    rw [e1, e2, emph_one hx] at hst
    obtain ⟨h1, h2⟩ := at_dropI h'
    obtain ⟨_, h3⟩ := at_dropI h2
    have h4 := drop_addI h3
    obtain ⟨h5, h6⟩ := at_dropI h4
    have hl5 := (List.getElem?_eq_some_iff.1 h5).1
    have e3 : st.i + 1 + 1 + u.length + 1 = st.i + u.length + 3 := by omega
    rw [e3] at h6
    obtain ⟨y, k1, k2, k3⟩ := closes_steps (o := o) us ⟨st.i + u.length + 3, opsL us.length ++ [.image ⟨u, [], 0, false⟩ [x]], st.i + u.length + 3, List.range us.length, st.llo, st.bs, st.bt⟩ (.image ⟨u, [], 0, false⟩ [x]) h6 (by show st.i + u.length + 3 ≤ s.length; omega)
      (by show emitI s (st.i + u.length + 3) (st.i + u.length + 3) _ = _; unfold emitI; rw [if_neg (by omega)]) rfl (fun j hj => by
        show (opsL us.length ++ _)[j]? = _
        rw [List.getElem?_append_left (by rw [opsL_len]; exact hj)]; exact opsL_at hj) trivial (fun v hv => hu v (by simp [hv]))
    exact ⟨y, .step (List.getElem?_eq_some_iff.1 h1).1 (by rw [hst]; show st.i < st.i + u.length + 3; omega) (by rw [hst]; exact k1), k2, k3⟩

theorem img_scan {o : IO} (us : List (List UInt8)) (a : List UInt8) (ha : a ≠ []) (hw : ∀ c ∈ a, wch c.toNat) (hu : ∀ u ∈ us, u ≠ [] ∧ ∀ c ∈ u, dch c.toNat) : scanM o (imgT us a) = [wrapI us (.plain a)] := by
  have hol : (opensT us.length).length = 2 * us.length := by
    generalize us.length = n
    induction n with
    | zero => rfl
    | succ n ih => rw [opensT_succ]; simp [ih]; omega
  have s1 := opens_steps (o := o) (s := imgT us a) (X := a ++ closesT us) us.length 0 (by rfl)
  rw [Nat.zero_add] at s1
  have d1 : (imgT us a).drop (2 * us.length) = a ++ closesT us := by rw [← hol]; exact List.drop_left
  have s2 := lits_steps (o := o) (s := imgT us a) (X := closesT us) a ⟨2 * us.length, opsL us.length, 2 * us.length, List.range us.length, 0, false, bt00⟩ d1 hw
  have d2 : (imgT us a).drop (2 * us.length + a.length) = closesT us := drop_addI d1
  have hapos : 0 < a.length := by cases a with | nil => exact absurd rfl ha | cons _ _ => simp
  have e1 : emitI (imgT us a) (2 * us.length) (2 * us.length + a.length) (opsL us.length) = opsL us.length ++ [.plain a] := by
    unfold emitI
    rw [if_pos (by omega), List.drop_take, d1, show 2 * us.length + a.length - 2 * us.length = a.length by omega, List.take_left]
  obtain ⟨y, k1, k2, k3⟩ := closes_steps (o := o) (s := imgT us a) us ⟨2 * us.length + a.length, opsL us.length, 2 * us.length, List.range us.length, 0, false, bt00⟩ (.plain a) d2 (by simp only [List.length_append, hol]; omega) e1 rfl (fun j hj => opsL_at hj) trivial hu
  rw [scanM_of (s1.trans (s2.trans k1)) (by omega), k3]

theorem wrap_snoc (us : List (List UInt8)) (d : List UInt8) (x : In) : wrapI (us ++ [d]) x = .image ⟨d, [], 0, false⟩ [wrapI us x] := by simp [wrapI]
theorem wrap_text (a : List UInt8) (hw : ∀ c ∈ a, wch c.toNat) : ∀ (us : List (List UInt8)) (x : In), textI x = a → textI (wrapI us x) = a
  | [], x, h => h
  | u :: us, x, h => wrap_text a hw us _ (by simp [textI, textIs, h])
theorem wrap_sz (us : List (List UInt8)) : ∀ (x : In), SzI x → (∀ u ∈ us, u.length ≤ 10000) → SzI (wrapI us x) := by
  induction us with
  | nil => exact fun x h _ => h
  | cons u us ih => exact fun x h hu => ih _ ⟨hu u (by simp), by simp, h, trivial⟩ (fun v hv => hu v (by simp [hv]))
theorem img_inline {o : IO} (us : List (List UInt8)) (d a : List UInt8) (ha : a ≠ []) (hw : ∀ c ∈ a, wch c.toNat) (hu : ∀ u ∈ us ++ [d], u ≠ [] ∧ ∀ c ∈ u, dch c.toNat) :
    emphM (scanM o (imgT (us ++ [d]) a)) = [.image ⟨d, [], 0, false⟩ [wrapI us (.plain a)]] ∧ inlineM o (imgT (us ++ [d]) a) = [.image ⟨d, [], 0, false⟩ [wrapI us (.plain a)]] := by
  have h1 : emphM (scanM o (imgT (us ++ [d]) a)) = [.image ⟨d, [], 0, false⟩ [wrapI us (.plain a)]] := by
    rw [img_scan _ a ha hw hu, wrap_snoc]; rfl
  refine ⟨h1, ?_⟩
  unfold inlineM
  rw [h1]; rfl
theorem pairB_idI {c : UInt8} (h : dch c.toNat) : pairB linkPairs c = [c] := by
  have hall : ((List.range 256).all fun n => !(decide (dch n)) || (pairB linkPairs (UInt8.ofNat n) == [UInt8.ofNat n])) = true := by kernel_rfl
  have h1 := List.all_eq_true.1 hall c.toNat (List.mem_range.2 c.toNat_lt)
  simp only [UInt8.ofNat_toNat, Bool.or_eq_true, Bool.not_eq_true', decide_eq_false_iff_not, beq_iff_eq] at h1
  rcases h1 with h1 | h1
  · exact absurd h h1
  · exact h1
theorem pairH_idI : ∀ {l : List UInt8}, (∀ c ∈ l, dch c.toNat) → pairH linkPairs l = l
  | [], _ => rfl
  | c :: l, h => by
    have ih := pairH_idI (l := l) (fun d hd => h d (by simp [hd]))
    have := pairB_idI (h c (by simp))
    simp only [pairH, List.flatMap_cons] at ih ⊢
    rw [this, ih]; rfl
theorem nl_id {l : List UInt8} (h : ∀ c ∈ l, wch c.toNat) : l.map nlB = l := by
  conv => rhs; rw [← List.map_id l]
  refine List.map_congr_left fun c hc => ?_
  unfold nlB
  rw [if_neg (fun e => by have := h c hc; rw [e] at this; exact absurd this (by decide))]; rfl
/-- The HTML of images within images. -/
theorem img_html (us : List (List UInt8)) (d a : List UInt8) (hw : ∀ c ∈ a, wch c.toNat) (hd : ∀ c ∈ d, dch c.toNat) :
    (htmlIs [.image ⟨d, [], 0, false⟩ [wrapI us (.plain a)]]).flatten = [60, 105, 109, 103, 32, 115, 114, 99, 61, 34] ++ d ++ [34, 32, 97, 108, 116, 61, 34] ++ a ++ [34, 32, 47, 62] := by
  have ht : textI (wrapI us (.plain a)) = a := wrap_text a hw us _ (by simp [textI]; exact escH_id a fun c hc => .inl (hw c hc))
  simp [htmlIs, htmlI, textIs, ht, imageH, titH, pairH_idI hd, nl_id hw]
theorem link_url_le {tab : Nat → List UInt8} {s : List UInt8} {i k j : Nat} {d : LDat} (h : ∀ c ∈ s, c.toNat ≠ 92 ∧ c.toNat ≠ 38) (hk : linkCloseM tab [] s i k = some (d, j)) : d.url.length ≤ s.length := by
  have hsub : ∀ a b : Nat, (unescM tab ((s.take b).drop a)).length ≤ s.length := fun a b => by
    rw [unesc_id (fun c hc => h c (List.mem_of_mem_take (List.mem_of_mem_drop hc)))]
    simp only [List.length_drop, List.length_take]; omega
  have hdest : ∀ (a b : Nat) (u : List UInt8), linkDestM tab s a = some (u, b) → u.length ≤ s.length := fun a b u hd => by
    unfold linkDestM at hd
    split at hd
    · cases hd
    · split at hd
      · cases ha : angF s (s.length + 1) (a + 1) with
        | none => rw [ha] at hd; cases hd
        | some j => rw [ha] at hd; simp at hd; rw [← hd.1]; exact hsub _ _
      · cases ha : plF s (s.length + 1) a 0 with
        | none => rw [ha] at hd; cases hd
        | some j => rw [ha] at hd; simp at hd; rw [← hd.1]; exact hsub _ _
  have hclose : ∀ (x : Nat) (e : LDat) (r : LDat × Nat), e.url.length ≤ s.length → closeAt s x e = some r → r.1.url.length ≤ s.length := fun x e r he hr => by
    unfold closeAt at hr
    split at hr
    · cases hr; exact he
    · cases hr
  have hinl : ∀ r, inlineLinkM tab s i = some r → r.1.url.length ≤ s.length := fun r hr => by
    unfold inlineLinkM at hr
    dsimp only at hr
    split at hr
    · split at hr
      · cases hr
      · rename_i dest b hd
        split at hr
        · split at hr
          · cases hr
          · exact hclose _ _ _ (hdest _ _ _ hd) hr
        · exact hclose _ _ _ (hdest _ _ _ hd) hr
    · exact hclose _ ⟨[], [], 0, false⟩ _ (Nat.zero_le _) hr
  have hsh : shortM [] s i k = none := rfl
  unfold linkCloseM at hk
  split at hk
  · rw [hsh] at hk; cases hk
  · split at hk
    · cases hi : inlineLinkM tab s i with
      | none => rw [hi] at hk; dsimp only at hk; rw [hsh] at hk; cases hk
      | some r => rw [hi] at hk; dsimp only at hk; cases hk; exact hinl _ hi
    · split at hk
      · split at hk
        · rw [hsh] at hk; cases hk
        · exact absurd hk (by simp [tfind])
      · rw [hsh] at hk; cases hk
end Go.Proofs

namespace Go.Proofs
open Go Go.Eng
set_option maxRecDepth 20000
set_option maxHeartbeats 4000000

theorem word_tr (l : List UInt8) (hl : l.length ≤ 2147483647) : Tr Tryz.prog 6 [str l] [] fun u K => K = [] ∧ ∃ r, u = .bool r ∧ (r = true → Word l) := by
  by_cases hne : l = []
  · subst hne
    refine Tr.start (n := 9) (rs := [.tmp 2]) rfl rfl rfl rfl fun B => ?_
    (repeat' (first | refine za ?_ | refine z8 ?_ | refine z6 ?_ | refine z7 ?_ | refine zh ?_ | refine za6 ?_ | refine zb ?_ | refine zc ?_ | refine zn ?_ | refine zck ?_))
    exact e_ret [] ⟨rfl, false, rfl, fun h => Bool.noConfusion h⟩ sA
  refine Tr.start (n := 9) (rs := [.tmp 2]) rfl rfl rfl rfl fun B => ?_
  (repeat' (first | refine za ?_ | refine z8 ?_ | refine z6 ?_ | refine z7 ?_ | refine zj ?_ | refine zb ?_ | refine zc ?_ | refine zc3 ?_))
  refine za1 (only_tr l [97, 98, 122, 48, 49, 57] 20 hl) (fun u K hR => ?_)
  obtain ⟨rfl, r, rfl, hA⟩ := hR
  cases r with
  | false =>
    (repeat' (first | refine z6 ?_ | refine z7 ?_ | refine zh ?_ | refine zc ?_ | refine zk ?_))
    exact e_ret [] ⟨rfl, false, rfl, fun h => Bool.noConfusion h⟩ sA
  | true =>
    obtain ⟨h1, h2⟩ := hA rfl
    have hW : Word l := ⟨hne, h1, fun d hd => by
      have := h2 d hd
      simp only [List.mem_cons, List.not_mem_nil, or_false] at this
      rcases this with h | h | h | h | h | h <;> (subst h; decide)⟩
    (repeat' (first | refine z6 ?_ | refine z7 ?_ | refine zh ?_ | refine zc ?_ | refine zk ?_))
    exact e_ret [] ⟨rfl, true, rfl, fun _ => hW⟩ sA

end Go.Proofs

namespace Go.Proofs
open Go Go.Eng
set_option maxRecDepth 20000
set_option maxHeartbeats 1000000

/-- Bytes of the text of images within images. -/
abbrev ich (c : Nat) : Prop := wch c ∨ c = 33 ∨ c = 91 ∨ c = 93 ∨ c = 40 ∨ c = 41 ∨ c = 47 ∨ c = 46
theorem img_ch {us : List (List UInt8)} {a : List UInt8} (hw : ∀ c ∈ a, wch c.toNat) (hu : ∀ u ∈ us, u ≠ [] ∧ ∀ c ∈ u, dch c.toNat) : ∀ c ∈ imgT us a, ich c.toNat := by
  intro c hc
  rcases List.mem_append.1 hc with h | h
  · obtain ⟨x, hx, hcx⟩ := List.mem_flatten.1 h
    rw [List.eq_of_mem_replicate hx] at hcx
    simp only [List.mem_cons, List.not_mem_nil, or_false] at hcx
    rcases hcx with rfl | rfl <;> decide
  rcases List.mem_append.1 h with h | h
  · exact .inl (hw c h)
  · obtain ⟨u, hm, hcu⟩ := List.mem_flatMap.1 h
    simp only [List.mem_cons, List.mem_append, List.not_mem_nil, or_false] at hcu
    rcases hcu with rfl | rfl | hcu | rfl
    · decide
    · decide
    · have := (hu u hm).2 c hcu; omega
    · decide
theorem plImg {tx r : List UInt8} (e : tx = 33 :: r) (hall : ∀ d ∈ tx, ich d.toNat) (hl : tx.length ≤ 10000) : PL tx := by
  have h0 : at0 tx 0 = 33 := by rw [e]; rfl
  have hns : nsp tx = 0 := by rw [e]; simp [nsp]
  have hsp : sp3 0 tx = 0 := by unfold sp3; rw [List.drop_zero, hns, Nat.zero_min]
  have hlt : ltrim tx = tx := by
    rw [e]; unfold ltrim
    rw [List.dropWhile_cons_of_neg]
    simp [isBl]
  have hnt : NoTab tx := fun d hd => by have := hall d hd; omega
  have hq : ∀ k, k ≠ 33 → at0 tx (sp3 0 tx) ≠ k := fun k hk => by rw [hsp, h0]; exact fun h => hk h.symm
  refine ⟨⟨hnt, by omega, Nat.zero_le _, by rw [List.drop_zero, hlt, e]; simp, by rw [List.drop_zero, hns]; omega, hq _ (by omega), fun nl q nq nv => trimHeading_no q nq 0 nv tx nl hnt (by omega) (Nat.zero_le _) (hq 35 (by omega)), hq _ (by omega), hq _ (by omega), hq _ (by omega), hq _ (by omega), hq _ (by omega), hq _ (by omega), hq _ (by omega), ?_⟩, hlt, fun d hd => ?_⟩
  · rw [hsp, List.drop_zero]
    refine ⟨by omega, by omega, by omega, fun j hj hj0 => ?_⟩
    have := hj 0 hj0
    omega
  · have := hall d hd
    refine ⟨fun h => ?_, fun h => ?_, fun h => ?_⟩ <;> (subst h; exact absurd this (by decide))
theorem btrimImg {l r p : List UInt8} (h1 : l = 33 :: r) (h2 : l = p ++ [41]) : btrim l = l := by
  have e1 : ltrim l = l := by
    rw [h1]; unfold ltrim
    rw [List.dropWhile_cons_of_neg]
    simp [isBl]
  unfold btrim
  rw [e1, h2]
  unfold rtrim
  rw [List.reverse_append, List.reverse_singleton, List.singleton_append, List.dropWhile_cons_of_neg (by simp [isBl]), List.reverse_cons, List.reverse_reverse]
theorem closes_snoc (us : List (List UInt8)) (d : List UInt8) : closesT (us ++ [d]) = closesT us ++ (93 :: 40 :: (d ++ [41])) := by simp [closesT]

theorem imgHTML_tr (T : Nat) (es : List Value) (hE : EntOK es) (us : List (List UInt8)) (d a : List UInt8) (ha : Word a) (hu : ∀ u ∈ us ++ [d], u ≠ [] ∧ ∀ c ∈ u, dch c.toNat) (hul : ∀ u ∈ us ++ [d], u.length ≤ 100) (hlen : (imgT (us ++ [d]) a).length ≤ 5000) :
    TrD Tryz.prog 8 [optO false false, str (imgT (us ++ [d]) a)] [ent T es] (str (paraO ([60, 105, 109, 103, 32, 115, 114, 99, 61, 34] ++ d ++ [34, 32, 97, 108, 116, 61, 34] ++ a ++ [34, 32, 47, 62]))) [ent T es] := by
  have hch := img_ch ha.c hu
  obtain ⟨r, e1⟩ : ∃ r, imgT (us ++ [d]) a = 33 :: r := ⟨_, by unfold imgT; rw [List.length_append]; show opensT (us.length + 1) ++ _ = _; rw [opensT_succ]; rfl⟩
  obtain ⟨p, e2⟩ : ∃ p, imgT (us ++ [d]) a = p ++ [41] := ⟨opensT (us ++ [d]).length ++ a ++ closesT us ++ 93 :: 40 :: d, by unfold imgT; rw [closes_snoc]; simp⟩
  obtain ⟨k1, k2⟩ := img_inline (o := ⟨false, false, fun _ => none, tabOf es, []⟩) us d a ha.ne ha.c hu
  have h0 : at0 (imgT (us ++ [d]) a) 0 = 33 := by rw [e1]; rfl
  have hdl := hul d (by simp)
  have hal := ha.len
  have hL : LineOK ⟨false, false, fun _ => none, tabOf es, []⟩ es (imgT (us ++ [d]) a) :=
    ⟨by omega, plImg e1 hch (by omega), btrimImg e1 e2, fun c hc => by have := hch c hc; omega, fun c hc => by have := hch c hc; omega, rfl, rfl, rfl,
      fun i k e j hk => by have := link_url_le (fun c hc => by have := hch c hc; omega) hk; omega, by rw [k1]; exact Nat.zero_le _, by omega, by omega, by omega, by omega⟩
  have hz : SzIs (inlineM ⟨false, false, fun _ => none, tabOf es, []⟩ (imgT (us ++ [d]) a)) := by
    rw [k2]
    refine ⟨⟨?_, by simp, wrap_sz us _ ?_ (fun u hm => ?_), trivial⟩, trivial⟩
    · show d.length ≤ 10000; omega
    · show a.length ≤ 10000; omega
    · have := hul u (by simp [hm]); omega
  have h := htmlI_tr T es hE false false _ _ rfl rfl hL hz (by
    rw [k2, img_html us d a ha.c (hu d (by simp)).2]; simp only [List.length_append, List.length_cons, List.length_nil]; omega)
  rw [k2, img_html us d a ha.c (hu d (by simp)).2] at h
  exact h

abbrev imgs (k : Nat) : List (List UInt8) := List.replicate k [47, 105]
theorem imgT_succ (k : Nat) (a : List UInt8) : [33, 91] ++ imgT (imgs k) a ++ [93, 40, 47, 105, 41] = imgT (imgs (k + 1)) a := by
  show _ = imgT (List.replicate (k + 1) [47, 105]) a
  rw [List.replicate_succ']
  unfold imgT
  rw [closes_snoc, List.length_append]
  show _ = opensT (_ + 1) ++ _
  rw [opensT_succ]
  simp
theorem imgT_last (k : Nat) (a d : List UInt8) : [33, 91] ++ imgT (imgs k) a ++ [93, 40] ++ d ++ [41] = imgT (imgs k ++ [d]) a := by
  unfold imgT
  rw [closes_snoc, List.length_append]
  show _ = opensT (_ + 1) ++ _
  rw [opensT_succ]
  simp
theorem imgT_len : ∀ (k : Nat) (a : List UInt8), (imgT (imgs k) a).length = 7 * k + a.length
  | 0, a => by simp [imgT, opensT, closesT]
  | k + 1, a => by rw [← imgT_succ]; simp only [List.length_append, imgT_len k a, List.length_cons, List.length_nil]; omega

theorem fnImages_tr (T : Nat) (es : List Value) (hE : EntOK es) (a d : List UInt8) (n : Int) (hla : a.length ≤ 9223372036854775807) (hld : d.length ≤ 9223372036854775807) (_ : (Lit.int .i64 n).wf = true) :
    TrD Tryz.prog 3 [str a, str d, .int .i64 n] [ent T es] (.bool true) [ent T es] := by
  refine Tr.start (n := 60) (rs := [.tmp 6]) rfl rfl rfl rfl fun B => ?_
  by_cases ha0 : 2147483647 < a.length
  · (repeat' (first | refine za ?_ | refine z8 ?_ | refine z6 ?_ | refine z7 ?_ | refine ze ?_ | refine zh ?_ | refine za2 ?_ | refine zae ?_ | refine zb ?_ | refine zc ?_ | refine zay ?_ | refine zk ?_ | refine zi ?_))
    exact e_ret _ ⟨rfl, rfl⟩ sA
  by_cases hd0 : 2147483647 < d.length
  · (repeat' (first | refine za ?_ | refine z8 ?_ | refine z6 ?_ | refine z7 ?_ | refine ze ?_ | refine zh ?_ | refine za2 ?_ | refine zj ?_ | refine zb ?_ | refine zc ?_ | refine zay ?_ | refine zas ?_ | refine zn ?_ | refine zi ?_))
    exact e_ret _ ⟨rfl, rfl⟩ sA
  (repeat' (first | refine za ?_ | refine z8 ?_ | refine z6 ?_ | refine z7 ?_ | refine zd ?_ | refine zf ?_ | refine zj ?_ | refine zb ?_ | refine zc ?_ | refine zas ?_ | refine zn ?_ | refine zi ?_))
  refine za1 (word_tr a (by omega)) (fun u K hR => ?_)
  obtain ⟨rfl, r, rfl, hA⟩ := hR
  cases r with
  | false =>
    (repeat' (first | refine za ?_ | refine z8 ?_ | refine z6 ?_ | refine z7 ?_ | refine ze ?_ | refine zh ?_ | refine za2 ?_ | refine zae ?_ | refine zb ?_ | refine zc ?_ | refine zk ?_ | refine zan ?_))
    exact e_ret _ ⟨rfl, rfl⟩ sA
  | true =>
  have ha := hA rfl
  (repeat' (first | refine zj ?_ | refine zb ?_ | refine zap ?_))
  refine za1 (only_tr d [97, 98, 47, 46] 20 (by omega)) (fun u K hR => ?_)
  obtain ⟨rfl, r, rfl, hD⟩ := hR
  cases r with
  | false =>
    (repeat' (first | refine za ?_ | refine z8 ?_ | refine z6 ?_ | refine z7 ?_ | refine ze ?_ | refine zh ?_ | refine za2 ?_ | refine zj ?_ | refine zae ?_ | refine zb ?_ | refine zc ?_ | refine zk ?_ | refine zn ?_ | refine zan ?_))
    exact e_ret _ ⟨rfl, rfl⟩ sA
  | true =>
  obtain ⟨hdl, hdc⟩ := hD rfl
  by_cases hd1 : d = []
  · subst hd1
    (repeat' (first | refine za ?_ | refine z8 ?_ | refine z6 ?_ | refine z7 ?_ | refine ze ?_ | refine zh ?_ | refine za2 ?_ | refine zj ?_ | refine zae ?_ | refine zb ?_ | refine zc ?_ | refine zk ?_ | refine zn ?_ | refine zce ?_ | refine zap ?_))
    exact e_ret _ ⟨rfl, rfl⟩ sA
  by_cases hn1 : n < 1
  · (repeat' (first | refine za ?_ | refine z8 ?_ | refine z6 ?_ | refine z7 ?_ | refine ze ?_ | refine zh ?_ | refine za2 ?_ | refine zj ?_ | refine zae ?_ | refine zb ?_ | refine zc ?_ | refine zo ?_ | refine zk ?_ | refine zn ?_ | refine zc7 ?_ | refine zap ?_))
    exact e_ret _ ⟨rfl, rfl⟩ sA
  by_cases hn2 : 30 < n
  · (repeat' (first | refine za ?_ | refine z8 ?_ | refine z6 ?_ | refine z7 ?_ | refine ze ?_ | refine zh ?_ | refine za2 ?_ | refine zj ?_ | refine zb ?_ | refine zc ?_ | refine za4 ?_ | refine zay ?_ | refine zn ?_ | refine zc7 ?_ | refine zap ?_))
    exact e_ret _ ⟨rfl, rfl⟩ sA
  obtain ⟨m, rfl⟩ : ∃ m : Nat, n = (m : Int) := ⟨n.toNat, by omega⟩
  have hm1 : 1 ≤ m := by omega
  have hm2 : m ≤ 30 := by omega
  have hal := ha.len
  have hl0 : imgT (imgs 0) a = a := by simp [imgT, opensT, closesT]
  (repeat' (first | refine za ?_ | refine z8 ?_ | refine z6 ?_ | refine z7 ?_ | refine zd ?_ | refine zf ?_ | refine zj ?_ | refine zb ?_ | refine zc ?_ | refine zc5 ?_ | refine za4 ?_ | refine zas ?_ | refine zn ?_ | refine zc7 ?_ | refine zap ?_))
  refine zat (fun z : List UInt8 => [(0, str a), (1, str d), (7, str z)]) (fun _ => [ent T es]) (fun z => z = imgT (imgs (m - 1)) a) ?_ ?_
  · (repeat' (first | refine zg ?_))
    refine za7 (fun y : Nat × List UInt8 => [(0, str a), (1, str d), (7, str y.2), (38, inat (m - 1)), (39, inat y.1)]) (fun _ => [ent T es]) (fun y => y.1 ≤ m - 1 ∧ y.2 = imgT (imgs y.1) a) (fun y => m - 1 - y.1) (0, a) ⟨Nat.zero_le _, hl0.symm⟩ kB sA fun y hy => ?_
    obtain ⟨j, t⟩ := y
    obtain ⟨hj, ht⟩ := hy
    dsimp only at hj ht ⊢
    have hjl : t.length = 7 * j + a.length := by rw [ht]; exact imgT_len j a
    by_cases h : j < m - 1
    · (repeat' (first | refine zdq ?_ | refine za ?_ | refine z8 ?_ | refine z6 ?_ | refine z7 ?_ | refine ze ?_ | refine zg ?_ | refine zf ?_ | refine zu ?_ | refine zb ?_ | refine zc ?_ | refine zm ?_ | refine zo ?_))
      exact ⟨(j + 1, _), kB, sA, ⟨by dsimp only; omega, by rw [ht]; exact imgT_succ j a⟩, by dsimp only; omega⟩
    · have : j = m - 1 := by omega
      subst this
      (repeat' (first | refine za ?_ | refine z8 ?_ | refine z6 ?_ | refine z7 ?_ | refine zd ?_ | refine zy ?_ | refine zz ?_ | refine za0 ?_ | refine za4 ?_))
      exact ⟨t, ⟨by rfl, by rfl, by rfl, trivial⟩, sA, ht⟩
  · intro z hz
    have hjl : z.length = 7 * (m - 1) + a.length := by rw [hz]; exact imgT_len _ a
    have hu : ∀ u ∈ imgs (m - 1) ++ [d], u ≠ [] ∧ ∀ c ∈ u, dch c.toNat := by
      intro u hu
      rcases List.mem_append.1 hu with h | h
      · rw [List.eq_of_mem_replicate h]; exact ⟨by simp, by decide⟩
      · simp only [List.mem_cons, List.not_mem_nil, or_false] at h
        subst h
        refine ⟨hd1, fun c hc => ?_⟩
        have := hdc c hc
        simp only [List.mem_cons, List.not_mem_nil, or_false] at this
        rcases this with rfl | rfl | rfl | rfl <;> decide
    have hul : ∀ u ∈ imgs (m - 1) ++ [d], u.length ≤ 100 := by
      intro u hu
      rcases List.mem_append.1 hu with h | h
      · rw [List.eq_of_mem_replicate h]; simp
      · simp only [List.mem_cons, List.not_mem_nil, or_false] at h
        subst h; omega
    have hlen : (imgT (imgs (m - 1) ++ [d]) a).length ≤ 5000 := by
      rw [← imgT_last, ← hz]; simp only [List.length_append, hjl, List.length_cons, List.length_nil]; omega
    have t1 := imgHTML_tr T es hE (imgs (m - 1)) d a ha hu hul hlen
    rw [← imgT_last, ← hz] at t1
    have heq : paraO ([60, 105, 109, 103, 32, 115, 114, 99, 61, 34] ++ d ++ [34, 32, 97, 108, 116, 61, 34] ++ a ++ [34, 32, 47, 62]) = [60, 112, 62, 60, 105, 109, 103, 32, 115, 114, 99, 61, 34] ++ d ++ [34, 32, 97, 108, 116, 61, 34] ++ a ++ [34, 32, 47, 62, 60, 47, 112, 62, 10] := by simp [paraO]
    (repeat' (first | refine zdq ?_ | refine zad (t1) ?_ | refine zce (hr := heq) ?_ | refine za ?_ | refine z8 ?_ | refine z6 ?_ | refine z7 ?_ | refine zh ?_ | refine zb ?_ | refine zc ?_ | refine zaw ?_))
    exact e_ret _ ⟨rfl, rfl⟩ sA
end Go.Proofs

namespace Go.Proofs.YtfnflaloojpckaaGreatDoor
open Go
set_option maxRecDepth 20000
set_option maxHeartbeats 4000000

/-- A listed variable's reading, and that its cells are among the places that the condition speaks of. -/
theorem laidVars_row {P : Program} {w : World} : ∀ {l : List (String × DataW Unit)} {ps : List MemPlace}, DataW.LaidVars P w l ps → ∀ n d, (n, d) ∈ l →
    ∃ g t cs fuel p, P.globalNamed n = some g ∧ (P.globals[g]?).map (·.type) = some t ∧ w.var? P n = some cs ∧ DataW.trod (fun _ => ()) P w 0 (fun _ => true) false fuel t cs.toList = some (d, p) ∧ ∀ x ∈ MemPlace.row ⟨g, 0, none⟩ cs.size, x ∈ ps
  | [], _, _, _, _, hm => by cases hm
  | (n', d') :: r, ps, h, n, d, hm => by
    obtain ⟨g, t, cs, fuel, p, q, h1, h2, h3, h4, h5, h6⟩ := h
    rcases List.mem_cons.1 hm with e | e
    · cases e
      exact ⟨g, t, cs, fuel, p, h1, h2, h3, h4, fun x hx => by rw [h6]; simp [hx]⟩
    · obtain ⟨g', t', cs', fuel', p', k1, k2, k3, k4, k5⟩ := laidVars_row h5 n d e
      exact ⟨g', t', cs', fuel', p', k1, k2, k3, k4, fun x hx => by rw [h6]; have := k5 x hx; simp [this]⟩

theorem array_size {H : Type} {enc : TypeId × Value → H} {P : Program} {w : World} {base : Nat} {sp : Nat → Bool} {held : Bool} {fuel : Nat} {t e : TypeId} {n : Nat} {cs : List Value} {ds : List (DataW H)} {p : List MemPlace} (ht : P.underlying t = some (.array n e))
    (h : DataW.trod enc P w base sp held fuel t cs = some (.agg ds, p)) : cs.length = P.cellsOf t := by
  cases fuel with
  | zero => simp [DataW.trod] at h
  | succ fuel =>
    simp only [DataW.trod, ht] at h
    split at h
    · rename_i hc; exact hc
    · cases h

def entDs : List (DataW Unit) := match (Rows.laid_pub_paratext_pub_rscmarkdown_htmlEntities : DataW Unit) with | .agg l => l | _ => []
theorem entDs_eq : (Rows.laid_pub_paratext_pub_rscmarkdown_htmlEntities : DataW Unit) = .agg entDs := rfl
theorem entDs_get (i : Nat) (hi : i < 12) (d : DataW Unit) (h : entDs[i]? = some d) : ∃ a b : List UInt8, d = .agg [.lit (.string a), .lit (.string b)] ∧ (a ≠ [] ∧ a.length ≤ 8) ∧ (b ≠ [] ∧ b.length ≤ 8) := by
  rcases (by omega : i = 0 ∨ i = 1 ∨ i = 2 ∨ i = 3 ∨ i = 4 ∨ i = 5 ∨ i = 6 ∨ i = 7 ∨ i = 8 ∨ i = 9 ∨ i = 10 ∨ i = 11) with rfl | rfl | rfl | rfl | rfl | rfl | rfl | rfl | rfl | rfl | rfl | rfl
  all_goals (injection h with h; subst h; exact ⟨_, _, rfl, ⟨by simp, by simp⟩, ⟨by simp, by simp⟩⟩)

/-- The table of entities lies in memory when the call begins. -/
theorem ent_of_laid {W : World} {laid : List (String × DataW Unit)} (hp : (laid.all fun x => x.2.handleName?.isNone) = true)
    (hm : ("pub-paratext/pub/rscmarkdown.htmlEntities", (Rows.laid_pub_paratext_pub_rscmarkdown_htmlEntities : DataW Unit)) ∈ laid) (h : laidMetH Tryz.prog laid W) :
    ∃ T es, EntOK es ∧ W.heap[1]? = some (Eng.cellsOf es T) := by
  rw [MakeChecks.laidMetH_plain _ _ _ hp] at h
  obtain ⟨ps, hv, _, hcell⟩ := h
  obtain ⟨g, t, cs, fuel, p, hg, hty, hvar, hd, hrow⟩ := laidVars_row hv _ _ hm
  obtain rfl : 1 = g := Option.some.inj ((show Tryz.prog.globalNamed "pub-paratext/pub/rscmarkdown.htmlEntities" = some 1 by kernel_rfl).symm.trans hg)
  obtain rfl : 239 = t := Option.some.inj ((show (Tryz.prog.globals[1]?).map (·.type) = some 239 by kernel_rfl).symm.trans hty)
  rw [entDs_eq] at hd
  have hlen : cs.size = 24 := by
    have h1 := array_size Tryz.underlying239 hd
    have e : Tryz.prog.cellsOf 239 = 24 := by kernel_rfl
    rw [e] at h1; simpa using h1
  obtain ⟨⟨c, T, hh⟩, _⟩ := hcell 1 0 (hrow _ (MemPlace.mem_row.2 ⟨0, by omega, by simp⟩))
  have hcs : cs = c := by
    have hv2 := hvar
    unfold World.var? at hv2
    rw [hg] at hv2
    simp [hh] at hv2
    exact hv2.symm
  subst hcs
  refine ⟨T, cs.toList, fun k hk => ?_, by rw [hh]⟩
  have e2 : Tryz.prog.cellsOf 238 = 2 := by kernel_rfl
  have e1 : Tryz.prog.cellsOf 9 = 1 := by kernel_rfl
  obtain ⟨fuel1, d1, q1, hd1, ht1⟩ := Lib.array_elem Tryz.underlying239 hd (k / 2) (by omega)
  obtain ⟨a, b, rfl, ha, hb⟩ := entDs_get (k / 2) (by omega) d1 hd1
  rw [e2] at ht1
  obtain ⟨fuel2, d2, q2, hd2, ht2⟩ := Lib.array_elem Tryz.underlying238 ht1 (k % 2) (by omega)
  rw [e1] at ht2
  obtain ⟨s, hs1, hs2, _⟩ := DataW.trod_string Tryz.underlying9 ht2
  have hk : cs.toList[k]? = some (.string s) := by
    have h1 := congrArg (·[0]?) hs1
    have h2 : k / 2 * 2 + k % 2 = k := by omega
    have h3 : k % 2 < 2 := by omega
    simpa [List.getElem?_take, List.getElem?_drop, h2, h3] using h1
  refine ⟨s.data.toList, by rw [hk], ?_⟩
  injection hs2 with hs2 _
  rcases (by omega : k % 2 = 0 ∨ k % 2 = 1) with h0 | h0
  · rw [h0] at hd2
    injection hd2 with hd2
    rw [hs2] at hd2
    injection hd2 with hd2
    injection hd2 with hd2
    rw [← hd2]; exact ha
  · rw [h0] at hd2
    injection hd2 with hd2
    rw [hs2] at hd2
    injection hd2 with hd2
    injection hd2 with hd2
    rw [← hd2]; exact hb
#print axioms ent_of_laid
end Go.Proofs.YtfnflaloojpckaaGreatDoor

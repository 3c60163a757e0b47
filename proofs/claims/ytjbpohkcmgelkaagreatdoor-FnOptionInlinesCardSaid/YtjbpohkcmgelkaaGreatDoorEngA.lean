/- A program logic over the kit's Calls and weakest preconditions: slots, heap chunks, judgements, and the rules for code and single operations (first part). Rules for any program; no conditions beyond those that each states. -/
import Derived.WalkKit
import Derived.StillTail
import Derived.WalkSpells
import Derived.WalkLawsBesides
import Derived.IntWalk
namespace Go.Eng

abbrev Blk := List (Nat × Obj)
abbrev Heap := List Blk
abbrev Loc := List (Nat × Value)

def look : Loc → Nat → Option Value
  | [], _ => none
  | (i, v) :: l, k => bif Nat.beq i k then some v else look l k

def ev (L : Loc) : Operand → Option Value
  | .tmp t => look L t
  | .const v => some v
  | .global g => some (.pointer (some ⟨g, 0, none⟩))
  | .func f => some (.func (.func f) #[] #[])

def evs (L : Loc) : List Operand → Option (List Value)
  | [] => some []
  | x :: xs => match ev L x, evs L xs with
    | some v, some vs => some (v :: vs)
    | _, _ => none

structure Fits (n : Nat) (L : Loc) (a : Act) : Prop where
  defers : a.defers = []
  size : a.tmps.size = n
  slots : ∀ i v, look L i = some v → a.tmps[i]? = some v

theorem look_cons (i : Nat) (v : Value) (l : Loc) (k : Nat) : look ((i, v) :: l) k = if i = k then some v else look l k := by
  simp only [look]
  by_cases h : i = k
  · subst h; rw [Nat.beq_refl, if_pos rfl]; rfl
  · have : Nat.beq i k = false := by rw [← Bool.not_eq_true, Nat.beq_eq]; exact h
    rw [this, if_neg h]; rfl

theorem Fits.put {n : Nat} {L : Loc} {a : Act} (h : Fits n L a) {d : Nat} (hd : d < n) (v : Value) : Fits n ((d, v) :: L) (a.put (some d) v) := by
  refine ⟨h.defers, by simp [Act.put, h.size], fun i u hu => ?_⟩
  rw [look_cons] at hu
  simp only [Act.put]
  have hd' : d < a.tmps.size := by rw [h.size]; exact hd
  split at hu
  · rename_i e; subst e; cases hu
    simp [hd']
  · rename_i e
    rw [Array.getElem?_setIfInBounds_ne e]
    exact h.slots i u hu

theorem Fits.eval_of {n : Nat} {L : Loc} {a : Act} (h : Fits n L a) {x : Operand} {v : Value} (hx : ev L x = some v) : a.eval x = v := by
  cases x with
  | tmp t =>
    have := h.slots t v hx
    simp only [Act.eval, Array.getD_eq_getD_getElem?, this, Option.getD_some]
  | const c => simpa [Go.Eng.ev, Act.eval] using hx
  | global g => simpa [Go.Eng.ev, Act.eval] using hx
  | func f => simpa [Go.Eng.ev, Act.eval] using hx

theorem Fits.weak {n : Nat} {L L' : Loc} {a : Act} (h : Fits n L a) (hl : ∀ i v, look L' i = some v → look L i = some v) : Fits n L' a :=
  ⟨h.defers, h.size, fun i v hv => h.slots i v (hl i v hv)⟩

/-! ### The heap -/

def ids (H : Heap) : List Nat := H.flatten.map (·.1)

structure Base where
  w0 : World
  S : List Nat

def HasH (H : Heap) (w : World) : Prop := ∀ b o, (b, o) ∈ H.flatten → w.heap[b]? = some o

structure Inv (B : Base) (H : Heap) (w : World) : Prop where
  os : w.os = B.w0.os
  tape : w.tape = B.w0.tape
  output : w.output = B.w0.output
  size : B.w0.heap.size ≤ w.heap.size
  old : ∀ k, k < B.w0.heap.size → k ∉ B.S → w.heap[k]? = B.w0.heap[k]?
  nodup : (ids H).Nodup
  has : HasH H w
  fresh : ∀ b ∈ ids H, b ∈ B.S ∨ B.w0.heap.size ≤ b

theorem Inv.lt {B : Base} {H : Heap} {w : World} (h : Inv B H w) {b : Nat} (hb : b ∈ ids H) : b < w.heap.size := by
  obtain ⟨⟨b', o⟩, hm, rfl⟩ := List.mem_map.1 hb
  have := h.has _ _ hm
  exact (Array.getElem?_eq_some_iff.1 this).1

theorem Inv.drew {B : Base} {H : Heap} {w : World} (h : Inv B H w) (n : Nat) : Inv B H { w with drawn := n } :=
  ⟨h.os, h.tape, h.output, h.size, h.old, h.nodup, h.has, h.fresh⟩

/-- Sub-heaps: what is left when chunks are dropped or moved. -/
def SubH (H H' : Heap) : Prop := ∃ D : Heap, H.flatten.Perm (H'.flatten ++ D.flatten)

theorem SubH.refl (H : Heap) : SubH H H := ⟨[], by simp⟩

theorem SubH.trans {H H' H'' : Heap} (h : SubH H H') (h' : SubH H' H'') : SubH H H'' := by
  obtain ⟨D, hD⟩ := h
  obtain ⟨D', hD'⟩ := h'
  refine ⟨D' ++ D, hD.trans ?_⟩
  simp only [List.flatten_append, ← List.append_assoc]
  exact hD'.append_right _

theorem Inv.sub {B : Base} {H H' : Heap} {w : World} (h : Inv B H w) (hs : SubH H H') : Inv B H' w := by
  obtain ⟨D, hD⟩ := hs
  have hids : (ids H).Perm (ids H' ++ ids D) := by
    have := hD.map (·.1)
    simpa [ids] using this
  refine ⟨h.os, h.tape, h.output, h.size, h.old, ?_, fun b o hm => h.has b o (hD.mem_iff.2 (List.mem_append.2 (.inl hm))), fun b hb => h.fresh b (hids.mem_iff.2 (List.mem_append.2 (.inl hb)))⟩
  exact (List.nodup_append.1 (hids.nodup_iff.1 h.nodup)).1

/-! ### Judgements -/

abbrev Post := Exit → Loc → Heap → Prop

def postOf (B : Base) (n : Nat) (Q : Post) : Exit → Act → World → Prop :=
  fun e a w => ∃ L H, Fits n L a ∧ Inv B H w ∧ Q e L H

structure Wp (P : Program) (B : Base) (n : Nat) (c : Code) (L : Loc) (H : Heap) (Q : Post) : Prop where
  run : ∀ a w, Fits n L a → Inv B H w → c.wp P (postOf B n Q) a w

structure Ops (P : Program) (B : Base) (n : Nat) (all : Array Oper) (ops : List Oper) (L : Loc) (H : Heap) (Q : Post) : Prop where
  run : ∀ a w, Fits n L a → Inv B H w → wpList P all (postOf B n Q) ops a w

variable {P : Program} {B : Base} {n : Nat} {L : Loc} {H : Heap} {Q : Post}

theorem Wp.mono {c : Code} {Q' : Post} (h : Wp P B n c L H Q) (hq : ∀ e L H, Q e L H → Q' e L H) : Wp P B n c L H Q' :=
  ⟨fun a w ha hw => wp_mono (h.run a w ha hw) fun _ _ _ ⟨L', H', h1, h2, h3⟩ => ⟨L', H', h1, h2, hq _ _ _ h3⟩⟩

theorem Wp.weak {c : Code} (L' : Loc) (H' : Heap) (hl : ∀ i v, look L' i = some v → look L i = some v) (hh : SubH H H')
    (h : Wp P B n c L' H' Q) : Wp P B n c L H Q :=
  ⟨fun a w ha hw => h.run a w (ha.weak hl) (hw.sub hh)⟩

theorem Wp.skip (h : Q .normal L H) : Wp P B n .skip L H Q := ⟨fun _ _ ha hw => wp_skip ⟨L, H, ha, hw, h⟩⟩
theorem Wp.label {l : Nat} (h : Q .normal L H) : Wp P B n (.label l) L H Q := ⟨fun _ _ ha hw => wp_label ⟨L, H, ha, hw, h⟩⟩
theorem Wp.exit {id : Nat} (h : Q (.exit id) L H) : Wp P B n (.exit id) L H Q := ⟨fun _ _ ha hw => wp_exit ⟨L, H, ha, hw, h⟩⟩
theorem Wp.ret (h : Q .ret L H) : Wp P B n .ret L H Q := ⟨fun _ _ ha hw => wp_ret ⟨L, H, ha, hw, h⟩⟩

/-- What stands behind a first part that ended normally. -/
def andThen (K : Loc → Heap → Prop) (Q : Post) : Post
  | .normal, L, H => K L H
  | e, L, H => Q e L H

theorem Wp.seq {x y : Code} (h : Wp P B n x L H (andThen (fun L' H' => Wp P B n y L' H' Q) Q)) : Wp P B n (.seq x y) L H Q :=
  ⟨fun a w ha hw => wp_seq (wp_mono (h.run a w ha hw) fun e a' w' ⟨L', H', h1, h2, h3⟩ => by
    cases e with
    | normal => exact Wp.run h3 a' w' h1 h2
    | _ => exact ⟨L', H', h1, h2, h3⟩)⟩

theorem Wp.cond_true {c : Operand} {x y : Code} (hc : ev L c = some (.bool true)) (h : Wp P B n x L H Q) : Wp P B n (.cond c x y) L H Q :=
  ⟨fun a w ha hw => wp_cond_true (ha.eval_of hc) (h.run a w ha hw)⟩
theorem Wp.cond_false {c : Operand} {x y : Code} (hc : ev L c = some (.bool false)) (h : Wp P B n y L H Q) : Wp P B n (.cond c x y) L H Q :=
  ⟨fun a w ha hw => wp_cond_false (ha.eval_of hc) (h.run a w ha hw)⟩
theorem Wp.cond_split {c : Operand} {x y : Code} {t : Bool} (hc : ev L c = some (.bool t)) (ht : t = true → Wp P B n x L H Q) (hf : t = false → Wp P B n y L H Q) :
    Wp P B n (.cond c x y) L H Q :=
  ⟨fun a w ha hw => wp_cond_split (ha.eval_of hc) (fun h => (ht h).run a w ha hw) (fun h => (hf h).run a w ha hw)⟩

def atBlock (id : Nat) (Q : Post) : Post
  | .exit id', L, H => bif Nat.beq id' id then Q .normal L H else Q (.exit id') L H
  | e, L, H => Q e L H

theorem Wp.block {id : Nat} {c : Code} (h : Wp P B n c L H (atBlock id Q)) : Wp P B n (.block id c) L H Q :=
  ⟨fun a w ha hw => wp_block (wp_mono (h.run a w ha hw) fun e a' w' ⟨L', H', h1, h2, h3⟩ => by
    cases e with
    | exit id' =>
      simp only [Exit.inBlock]
      simp only [atBlock] at h3
      by_cases hid : id' = id
      · subst hid
        rw [Nat.beq_refl] at h3
        rw [if_pos rfl]; exact ⟨L', H', h1, h2, h3⟩
      · have : Nat.beq id' id = false := by rw [← Bool.not_eq_true, Nat.beq_eq]; exact hid
        rw [this] at h3
        rw [if_neg hid]; exact ⟨L', H', h1, h2, h3⟩
    | _ => exact ⟨L', H', h1, h2, h3⟩)⟩

/-- A loop: what holds at the head of each round, with a measure. -/
theorem Wp.loop {c : Code} (I : Loc → Heap → Nat → Prop) (m : Nat) (h0 : I L H m)
    (round : ∀ L H m, I L H m → Wp P B n c L H (andThen (fun L' H' => ∃ L'' H'' m', (∀ i v, look L'' i = some v → look L' i = some v) ∧ SubH H' H'' ∧ I L'' H'' m' ∧ m' < m) Q)) :
    Wp P B n (.loop c) L H Q := by
  refine ⟨?_⟩
  intro a w ha hw b k cs
  have key : ∀ m a w, (∃ L H, Fits n L a ∧ Inv B H w ∧ I L H m) →
      ∃ e a' w', postOf B n Q e a' w' ∧ Arrives P (lone (b.at a (.code c :: .inLoop c :: k)) cs w) b k cs e a' w' := by
    intro m
    induction m using Nat.strongRecOn with
    | _ m ih =>
      rintro a w ⟨L, H, ha, hw, hI⟩
      obtain ⟨e, a1, w1, hq, harr⟩ := (round L H m hI).run a w ha hw b (.inLoop c :: k) cs
      cases e with
      | normal =>
        obtain ⟨L', H', hf, hi, L'', H'', m', hl, hs, hI', hlt⟩ := hq
        obtain ⟨e2, a2, w2, hq2, harr2⟩ := ih m' hlt a1 w1 ⟨L'', H'', hf.weak hl, hi.sub hs, hI'⟩
        exact ⟨e2, a2, w2, hq2, .of_steps (Steps.trans harr (.one step_inLoop)) harr2⟩
      | exit id => exact ⟨_, a1, w1, hq, .pass (x := .inLoop c) rfl (fun _ _ => .inl (by simp)) harr⟩
      | goto l => exact ⟨_, a1, w1, hq, .pass (x := .inLoop c) rfl (fun _ _ => .inl (by simp)) harr⟩
      | ret => exact ⟨_, a1, w1, hq, .pass (x := .inLoop c) rfl (fun _ _ => .inl (by simp)) harr⟩
      | panic ch => exact ⟨_, a1, w1, hq, .pass (x := .inLoop c) rfl (fun _ _ => .inl (by simp)) harr⟩
      | outgrown => exact ⟨_, a1, w1, hq, .pass (x := .inLoop c) rfl (fun _ _ => .inl (by simp)) harr⟩
  obtain ⟨e, a', w', hq, harr⟩ := key m a w ⟨L, H, ha, hw, h0⟩
  exact ⟨e, a', w', hq, .of_steps (.one step_loop) harr⟩

end Go.Eng

namespace Go.Eng
variable {P : Program} {B : Base} {n : Nat} {L : Loc} {H : Heap} {Q : Post}

/-- What an operation that leaves memory alone hands back, whatever the frame and the world, as long as they hold what is known. -/
def Pure1 (P : Program) (L : Loc) (H : Heap) (op : Op) (ty : TypeId) (v : Value) : Prop :=
  ∀ (ρ : Operand → Value) (w : World) (o : Oper), (∀ x u, ev L x = some u → ρ x = u) → HasH H w → o.op = op → o.type = ty →
    (execOp ρ o).run P w = .ok (.value v) w

theorem Ops.nil {all : Array Oper} (h : Q .normal L H) : Ops P B n all [] L H Q :=
  ⟨fun _ _ ha hw => wpList_nil ⟨L, H, ha, hw, h⟩⟩

theorem Fits.rho {a : Act} (h : Fits n L a) : ∀ x u, ev L x = some u → a.eval x = u := fun _ _ hx => h.eval_of hx

theorem Ops.pure {all : Array Oper} {rest : List Oper} {d : Nat} {op : Op} {ty : TypeId} {pos : String} {after : Array Edge} (v : Value)
    (hp : Pure1 P L H op ty v) (hd : Nat.blt d n = true) (h : Ops P B n all rest ((d, v) :: L) H Q) :
    Ops P B n all (⟨some d, op, ty, pos, after, none⟩ :: rest) L H Q := by
  refine ⟨fun a w ha hw => ?_⟩
  refine wpList_plain rfl fun K' hK => ?_
  unfold Oper.wp
  rw [hp a.eval w _ ha.rho hw.has rfl rfl]
  exact hK _ _ (h.run _ _ (ha.put (by simpa using hd) v) hw)

/-- The slot that an operation of a region writes. -/
def dstOf (all : Array Oper) (j : Nat) : Option Nat := (all[j]?).bind (·.dst)

theorem yielded_of {all : Array Oper} {j t : Nat} {g : Bool} {a : Act} (hj : dstOf all j = some t) (hg : look L t = some (.bool g)) (ha : Fits n L a) :
    yielded all a.tmps j = some g := by
  have h1 := ha.slots t _ hg
  unfold yielded
  unfold dstOf at hj
  rw [hj]
  simp [h1]

theorem Ops.guard_run {all : Array Oper} {rest : List Oper} {dst : Option Nat} {op : Op} {ty : TypeId} {pos : String} {after : Array Edge} {j : Nat} {want : Bool}
    (t : Nat) (hj : dstOf all j = some t) (hg : look L t = some (.bool want))
    (h : Ops P B n all (⟨dst, op, ty, pos, after, none⟩ :: rest) L H Q) :
    Ops P B n all (⟨dst, op, ty, pos, after, some (j, want)⟩ :: rest) L H Q := by
  refine ⟨fun a w ha hw => ?_⟩
  have := h.run a w ha hw
  have hy := yielded_of hj hg ha
  simp only [wpList, Region.wanted, hy, beq_self_eq_true, if_true] at this ⊢
  exact this

theorem Ops.guard_skip {all : Array Oper} {rest : List Oper} {d : Nat} {op : Op} {ty : TypeId} {pos : String} {after : Array Edge} {j : Nat} {want : Bool}
    (t : Nat) (g : Bool) (hj : dstOf all j = some t) (hg : look L t = some (.bool g)) (hne : (g == want) = false) (hd : Nat.blt d n = true)
    (h : Ops P B n all rest ((d, undef) :: L) H Q) :
    Ops P B n all (⟨some d, op, ty, pos, after, some (j, want)⟩ :: rest) L H Q := by
  refine ⟨fun a w ha hw => ?_⟩
  have := h.run _ w (ha.put (d := d) (by simpa using hd) undef) hw
  have hy := yielded_of hj hg ha
  have hne' : (some g == some want) = false := by simpa using hne
  simp only [wpList, Region.wanted, hy, hne', Bool.false_eq_true, if_false]
  exact this

/-- A slot known to be one of two: what is known of it may be written ahead. -/
theorem Ops.know {all : Array Oper} {ops : List Oper} (t : Nat) (g g' : Bool) (hg : look L t = some (.bool g)) (e : g = g')
    (h : Ops P B n all ops ((t, .bool g') :: L) H Q) : Ops P B n all ops L H Q := by
  subst e
  refine ⟨fun a w ha hw => ?_⟩
  exact h.run a w ⟨ha.defers, ha.size, fun i v hv => by rw [look_cons] at hv; split at hv <;> first | (subst_vars; cases hv; exact ha.slots _ _ hg) | exact ha.slots i v hv⟩ hw

theorem Ops.guard_split {all : Array Oper} {rest : List Oper} {d : Nat} {op : Op} {ty : TypeId} {pos : String} {after : Array Edge} {j : Nat} {want : Bool}
    (t : Nat) (g : Bool) (hj : dstOf all j = some t) (hg : look L t = some (.bool g)) (hd : Nat.blt d n = true)
    (h1 : g = want → Ops P B n all (⟨some d, op, ty, pos, after, none⟩ :: rest) ((t, .bool want) :: L) H Q)
    (h2 : g = !want → Ops P B n all rest ((d, undef) :: (t, .bool !want) :: L) H Q) :
    Ops P B n all (⟨some d, op, ty, pos, after, some (j, want)⟩ :: rest) L H Q := by
  by_cases e : g = want
  · refine Ops.know t g want hg e (Ops.guard_run t hj (by rw [look_cons, if_pos rfl]) (h1 e))
  · have e' : g = !want := by cases g <;> cases want <;> simp_all
    refine Ops.know t g (!want) hg e' (Ops.guard_skip t (!want) hj (by rw [look_cons, if_pos rfl]) (by cases want <;> rfl) hd (h2 e'))

theorem Wp.region {id : Nat} {l : List Oper} (h : Ops P B n l.toArray l L H Q) : Wp P B n (.region id l.toArray false) L H Q :=
  ⟨fun a w ha hw => wp_region_lit (h.run a w ha hw)⟩

end Go.Eng

namespace Go.Eng
variable {P : Program} {L : Loc} {H : Heap}

theorem zbr {x : Operand} {ty : TypeId} {v : Value} (hx : ev L x = some v) : Pure1 P L H (.move x) ty v := by
  intro ρ w o hρ _ ho _
  simp only [execOp, ho, hρ _ _ hx]; rfl

theorem zbj {x : Operand} {ty : TypeId} {v : Value} (hx : ev L x = some v) : Pure1 P L H (.assign x) ty v := by
  intro ρ w o hρ _ ho _
  simp only [execOp, ho, hρ _ _ hx]; rfl

theorem ze9 {c a b : Operand} {ty : TypeId} {v : Value} (hc : ev L c = some (.bool true)) (hx : ev L a = some v) : Pure1 P L H (.pick c a b) ty v := by
  intro ρ w o hρ _ ho _
  simp [execOp, ho, hρ _ _ hc, hρ _ _ hx, asBool]

theorem zeo {c a b : Operand} {ty : TypeId} {v : Value} (hc : ev L c = some (.bool false)) (hx : ev L b = some v) : Pure1 P L H (.pick c a b) ty v := by
  intro ρ w o hρ _ ho _
  simp [execOp, ho, hρ _ _ hc, hρ _ _ hx, asBool]

/-! integers -/

theorem zbf {op : BinOp} {x y : Operand} {t ty yt : TypeId} {u v r : Value} (hx : ev L x = some u) (hy : ev L y = some v)
    (hr : ∀ w, (do eqGuard op t x y u v; binOp op t u v : Sem Value).run P w = .ok r w) : Pure1 P L H (.binOp op t x y yt) ty r := by
  intro ρ w o hρ _ ho _
  simp only [execOp, ho, hρ _ _ hx, hρ _ _ hy]
  rw [Sem.run_bind, hr]; rfl

theorem wrap_of {a : Int} (h1 : -9223372036854775808 ≤ a) (h2 : a ≤ 9223372036854775807) : IntKind.i64.wrap a = a := by
  rw [IntKind.wrap_i64]; omega

theorem wrap8_of {a : Int} (h1 : 0 ≤ a) (h2 : a < 256) : IntKind.u8.wrap a = a := by
  have h : a % 256 = a := Int.emod_eq_of_lt h1 h2
  simp [IntKind.wrap, IntKind.bits, IntKind.signed, h]

theorem beq_dec {α : Type} [BEq α] [LawfulBEq α] [DecidableEq α] (a b : α) : (a == b) = decide (a = b) := by
  by_cases h : a = b
  · subst h; simp
  · simp [h]

theorem zco {x y : Operand} {t ty yt : TypeId} {a b c : Nat} (hx : ev L x = some (.int .i64 a)) (hy : ev L y = some (.int .i64 b)) (hc : c = a + b) (hb : a + b ≤ 9223372036854775807) :
    Pure1 P L H (.binOp .add t x y yt) ty (.int .i64 c) :=
  zbf hx hy fun w => by
    subst hc
    simp only [eqGuard_add, binOp_add, Op.intArith, pure_bind]
    rw [wrap_of (by omega) (by omega)]; rfl

theorem zap {x y : Operand} {t ty yt : TypeId} {a b c : Nat} (hx : ev L x = some (.int .i64 a)) (hy : ev L y = some (.int .i64 b)) (hc : a = c + b) (hb : a ≤ 9223372036854775807) :
    Pure1 P L H (.binOp .sub t x y yt) ty (.int .i64 c) :=
  zbf hx hy fun w => by
    subst hc
    simp only [eqGuard_sub, binOp_sub, Op.intArith, pure_bind]
    rw [show ((c + b : Nat) : Int) - (b : Int) = c by omega, wrap_of (by omega) (by omega)]; rfl

/-- Sums and differences that may be less than 0. -/
theorem zg2 {x y : Operand} {t ty yt : TypeId} {a b : Int} (hx : ev L x = some (.int .i64 a)) (hy : ev L y = some (.int .i64 b)) (h1 : -9223372036854775808 ≤ a + b) (h2 : a + b ≤ 9223372036854775807) :
    Pure1 P L H (.binOp .add t x y yt) ty (.int .i64 (a + b)) :=
  zbf hx hy fun w => by
    simp only [eqGuard_add, binOp_add, Op.intArith, pure_bind]
    rw [wrap_of h1 h2]; rfl

theorem zes {x y : Operand} {t ty yt : TypeId} {a b : Int} (hx : ev L x = some (.int .i64 a)) (hy : ev L y = some (.int .i64 b)) (h1 : -9223372036854775808 ≤ a - b) (h2 : a - b ≤ 9223372036854775807) :
    Pure1 P L H (.binOp .sub t x y yt) ty (.int .i64 (a - b)) :=
  zbf hx hy fun w => by
    simp only [eqGuard_sub, binOp_sub, Op.intArith, pure_bind]
    rw [wrap_of h1 h2]; rfl

theorem zei {x y : Operand} {t ty yt : TypeId} {a b c : Nat} (hx : ev L x = some (.int .u8 a)) (hy : ev L y = some (.int .u8 b)) (hc : c = a + b) (hb : a + b < 256) :
    Pure1 P L H (.binOp .add t x y yt) ty (.int .u8 c) :=
  zbf hx hy fun w => by
    subst hc
    simp only [eqGuard_add, binOp_add, Op.intArith, pure_bind]
    rw [wrap8_of (by omega) (by omega)]; rfl

theorem zd0 {x y : Operand} {t ty yt : TypeId} {k : IntKind} {a b : Int} (hx : ev L x = some (.int k a)) (hy : ev L y = some (.int k b)) (r : Bool) (hr : decide (a < b) = r) :
    Pure1 P L H (.binOp .lss t x y yt) ty (.bool r) :=
  zbf hx hy fun w => by subst hr; simp only [eqGuard_lss, binOp_lss, pure_bind]; rfl
theorem zdt {x y : Operand} {t ty yt : TypeId} {k : IntKind} {a b : Int} (hx : ev L x = some (.int k a)) (hy : ev L y = some (.int k b)) (r : Bool) (hr : decide (a ≤ b) = r) :
    Pure1 P L H (.binOp .leq t x y yt) ty (.bool r) :=
  zbf hx hy fun w => by subst hr; simp only [eqGuard_leq, binOp_leq, pure_bind]; rfl
theorem zd7 {x y : Operand} {t ty yt : TypeId} {k : IntKind} {a b : Int} (hx : ev L x = some (.int k a)) (hy : ev L y = some (.int k b)) (r : Bool) (hr : decide (b < a) = r) :
    Pure1 P L H (.binOp .gtr t x y yt) ty (.bool r) :=
  zbf hx hy fun w => by subst hr; simp only [eqGuard_gtr, binOp_gtr, pure_bind]; rfl
theorem zd1 {x y : Operand} {t ty yt : TypeId} {k : IntKind} {a b : Int} (hx : ev L x = some (.int k a)) (hy : ev L y = some (.int k b)) (r : Bool) (hr : decide (b ≤ a) = r) :
    Pure1 P L H (.binOp .geq t x y yt) ty (.bool r) :=
  zbf hx hy fun w => by subst hr; simp only [eqGuard_geq, binOp_geq, pure_bind]; rfl
theorem zcv {x y : Operand} {t ty yt : TypeId} {k : IntKind} {a b : Int} (hx : ev L x = some (.int k a)) (hy : ev L y = some (.int k b)) (r : Bool) (hr : decide (a = b) = r) :
    Pure1 P L H (.binOp .eql t x y yt) ty (.bool r) :=
  zbf hx hy fun w => by subst hr; simp only [eqGuard_at_int, binOp_eql, pure_bind, beq_dec]; rfl
theorem zcz {x y : Operand} {t ty yt : TypeId} {k : IntKind} {a b : Int} (hx : ev L x = some (.int k a)) (hy : ev L y = some (.int k b)) (r : Bool) (hr : decide (¬ a = b) = r) :
    Pure1 P L H (.binOp .neq t x y yt) ty (.bool r) :=
  zbf hx hy fun w => by subst hr; simp only [eqGuard_at_int, binOp_neq, pure_bind, bne, beq_dec, decide_not]; rfl

theorem ze7 {x : Operand} {t ty : TypeId} {b : Bool} (hx : ev L x = some (.bool b)) (r : Bool) (hr : (!b) = r) : Pure1 P L H (.unOp .not t x) ty (.bool r) := by
  intro ρ w o hρ _ ho _
  subst hr
  simp [execOp, ho, hρ _ _ hx, Op.unary]

/-! strings: lists of bytes -/

abbrev str (l : List UInt8) : Value := .string ⟨l.toArray⟩

theorem zgi {x : Operand} {t ty : TypeId} {l : List UInt8} (ht : P.underlying t = some .string) (hx : ev L x = some (str l)) :
    Pure1 P L H (.call ⟨.builtin .len, #[x], #[t]⟩) ty (.int .i64 l.length) := by
  intro ρ w o hρ _ ho _
  simp [execOp, ho, hρ _ _ hx, resolve, invoke, builtin, Builtin.len_, underlying, ht, goInt]
  rfl

theorem zfa {x y : Operand} {t ty : TypeId} {l : List UInt8} {i : Nat} (c : UInt8) (ht : P.underlying t = some .string) (hx : ev L x = some (str l)) (hy : ev L y = some (.int .i64 i))
    (hc : l[i]? = some c) : Pure1 P L H (.index t x y) ty (.int .u8 c.toNat) := by
  intro ρ w o hρ _ ho _
  have hi : i < l.length := (List.getElem?_eq_some_iff.1 hc).1
  have h2 : (⟨l.toArray⟩ : ByteArray)[i]? = some c := by
    rw [getElem?_pos (⟨l.toArray⟩ : ByteArray) i (by simpa [ByteArray.size] using hi)]
    have h3 := (List.getElem?_eq_some_iff.1 hc).2
    exact congrArg some h3
  simp [execOp, ho, hρ _ _ hx, hρ _ _ hy, Instr.index, asIntOf, underlying, ht, h2]

theorem extract_str (l : List UInt8) (a b : Nat) : (⟨l.toArray⟩ : ByteArray).extract a b = ⟨((l.take b).drop a).toArray⟩ := by
  apply ByteArray.ext
  rw [ByteArray.data_extract]
  apply Array.ext'
  simp [List.extract_eq_take_drop, List.drop_take]

theorem zfx {x lo hi : Operand} {t ty : TypeId} {l l' : List UInt8} {a b : Nat} (ht : P.underlying t = some .string) (hx : ev L x = some (str l))
    (hlo : ev L lo = some (.int .i64 a)) (hhi : ev L hi = some (.int .i64 b)) (hab : a ≤ b) (hb : b ≤ l.length) (hl : l' = (l.take b).drop a) :
    Pure1 P L H (.slice t x (some lo) (some hi) none) ty (str l') := by
  intro ρ w o hρ _ ho _
  subst hl
  have hs : ByteArray.size ⟨l.toArray⟩ = l.length := by simp [ByteArray.size]
  simp [execOp, ho, hρ _ _ hx, hρ _ _ hlo, hρ _ _ hhi, Instr.sliceAt, Instr.slice, underlying, ht, Instr.sliceBounds, Instr.sliceBound, asIntOf, hs, hab, hb, extract_str]

theorem zfb {x lo : Operand} {t ty : TypeId} {l l' : List UInt8} {a : Nat} (ht : P.underlying t = some .string) (hx : ev L x = some (str l))
    (hlo : ev L lo = some (.int .i64 a)) (ha : a ≤ l.length) (hl : l' = l.drop a) : Pure1 P L H (.slice t x (some lo) none none) ty (str l') := by
  intro ρ w o hρ _ ho _
  subst hl
  have hs : ByteArray.size ⟨l.toArray⟩ = l.length := by simp [ByteArray.size]
  simp [execOp, ho, hρ _ _ hx, hρ _ _ hlo, Instr.sliceAt, Instr.slice, underlying, ht, Instr.sliceBounds, Instr.sliceBound, asIntOf, hs, ha, extract_str]

theorem zfy {x hi : Operand} {t ty : TypeId} {l l' : List UInt8} {b : Nat} (ht : P.underlying t = some .string) (hx : ev L x = some (str l))
    (hhi : ev L hi = some (.int .i64 b)) (hb : b ≤ l.length) (hl : l' = l.take b) : Pure1 P L H (.slice t x none (some hi) none) ty (str l') := by
  intro ρ w o hρ _ ho _
  subst hl
  have hs : ByteArray.size ⟨l.toArray⟩ = l.length := by simp [ByteArray.size]
  simp [execOp, ho, hρ _ _ hx, hρ _ _ hhi, Instr.sliceAt, Instr.slice, underlying, ht, Instr.sliceBounds, Instr.sliceBound, asIntOf, hs, hb, extract_str]

theorem str_toList (l : List UInt8) : (⟨l.toArray⟩ : ByteArray).toList = l := by
  rw [ByteArray.toList_eq]

theorem zdp {x y : Operand} {t ty yt : TypeId} {a b : List UInt8} (hx : ev L x = some (str a)) (hy : ev L y = some (str b)) (r : Bool) (hr : decide (a = b) = r) :
    Pure1 P L H (.binOp .eql t x y yt) ty (.bool r) :=
  zbf hx hy fun w => by subst hr; simp only [eqGuard_at_string, binOp, Op.stringOp, str_toList, pure_bind, beq_dec]; rfl
theorem ze5 {x y : Operand} {t ty yt : TypeId} {a b : List UInt8} (hx : ev L x = some (str a)) (hy : ev L y = some (str b)) (r : Bool) (hr : decide (¬ a = b) = r) :
    Pure1 P L H (.binOp .neq t x y yt) ty (.bool r) :=
  zbf hx hy fun w => by subst hr; simp only [eqGuard_at_string, binOp, Op.stringOp, str_toList, pure_bind, beq_dec, decide_not]; rfl
theorem zdq {x y : Operand} {t ty yt : TypeId} {a b c : List UInt8} (hx : ev L x = some (str a)) (hy : ev L y = some (str b)) (hc : c = a ++ b) (hn : a.length + b.length ≤ 9223372036854775807) :
    Pure1 P L H (.binOp .add t x y yt) ty (str c) :=
  zbf hx hy fun w => by
    subst hc
    have h1 : ¬ (((⟨a.toArray⟩ : ByteArray).size + (⟨b.toArray⟩ : ByteArray).size : Nat) : Int) > 9223372036854775807 := by simp [ByteArray.size]; omega
    simp only [eqGuard_at_string, binOp, Op.stringOp, pure_bind, IntKind.max_i64, if_neg h1]
    rfl

end Go.Eng

namespace Go.Eng
variable {P : Program} {B : Base} {n : Nat} {L : Loc} {H : Heap} {Q : Post}

/-- A row of cells of the call's own make, or one that came in: no cell of it is frozen. -/
abbrev cellsOf (cs : List Value) (T : TypeId) : Obj := .cells cs.toArray T (0, 0)

inductive HMem : Heap → Nat → Obj → Prop
  | here {b : Nat} {o : Obj} {c : Blk} {H : Heap} : HMem (((b, o) :: c) :: H) b o
  | skip {b : Nat} {o : Obj} {x : Nat × Obj} {c : Blk} {H : Heap} : HMem (c :: H) b o → HMem ((x :: c) :: H) b o
  | there {b : Nat} {o : Obj} {c : Blk} {H : Heap} : HMem H b o → HMem (c :: H) b o

theorem HMem.mem {H : Heap} {b : Nat} {o : Obj} (h : HMem H b o) : (b, o) ∈ H.flatten := by
  induction h with
  | here => simp
  | skip _ ih => simp at ih ⊢; rcases ih with h | h <;> simp [h]
  | there _ ih => simp at ih ⊢; exact .inr ih

inductive HUpd : Heap → Nat → Obj → Obj → Heap → Prop
  | here {b : Nat} {o o' : Obj} {c : Blk} {H : Heap} : HUpd (((b, o) :: c) :: H) b o o' (((b, o') :: c) :: H)
  | skip {b : Nat} {o o' : Obj} {x : Nat × Obj} {c c' : Blk} {H H' : Heap} : HUpd (c :: H) b o o' (c' :: H') → HUpd ((x :: c) :: H) b o o' ((x :: c') :: H')
  | there {b : Nat} {o o' : Obj} {c : Blk} {H H' : Heap} : HUpd H b o o' H' → HUpd (c :: H) b o o' (c :: H')

theorem HUpd.split {H H' : Heap} {b : Nat} {o o' : Obj} (h : HUpd H b o o' H') : ∃ p q, H.flatten = p ++ (b, o) :: q ∧ H'.flatten = p ++ (b, o') :: q := by
  induction h with
  | @here b o o' c H => exact ⟨[], c ++ H.flatten, by simp, by simp⟩
  | @skip b o o' x c c' H H' _ ih => obtain ⟨p, q, h1, h2⟩ := ih; exact ⟨x :: p, q, by simp at h1 ⊢; exact h1, by simp at h2 ⊢; exact h2⟩
  | @there b o o' c H H' _ ih => obtain ⟨p, q, h1, h2⟩ := ih; exact ⟨c ++ p, q, by simp [h1], by simp [h2]⟩

theorem HUpd.mem {H H' : Heap} {b : Nat} {o o' : Obj} (h : HUpd H b o o' H') : (b, o) ∈ H.flatten := by
  obtain ⟨p, q, h1, _⟩ := h.split; rw [h1]; simp

theorem Inv.upd {H H' : Heap} {w w' : World} {b : Nat} {o o' : Obj} (h : Inv B H w) (hu : HUpd H b o o' H')
    (h1 : w'.os = w.os) (h2 : w'.tape = w.tape) (h3 : w'.output = w.output) (h4 : w'.heap.size = w.heap.size)
    (hb : w'.heap[b]? = some o') (ho : ∀ k, k ≠ b → w'.heap[k]? = w.heap[k]?) : Inv B H' w' := by
  obtain ⟨p, q, e1, e2⟩ := hu.split
  have hids : ids H' = ids H := by simp [ids, e1, e2]
  have hnd := h.nodup
  have hbm : b ∈ ids H := by simp [ids, e1]
  refine ⟨h1.trans h.os, h2.trans h.tape, h3.trans h.output, by rw [h4]; exact h.size, fun k hk hn => ?_, hids ▸ h.nodup, fun c x hm => ?_, hids ▸ h.fresh⟩
  · have hkb : k ≠ b := by
      intro e; subst e
      rcases h.fresh k hbm with h | h
      · exact hn h
      · omega
    rw [ho k hkb]; exact h.old k hk hn
  · rw [e2] at hm
    by_cases hcb : c = b
    · subst hcb
      have : x = o' := by
        simp only [ids, e1, List.map_append, List.map_cons] at hnd
        have hd := List.nodup_append.1 hnd
        rcases List.mem_append.1 hm with hm | hm
        · exact absurd rfl (hd.2.2 c (List.mem_map.2 ⟨_, hm, rfl⟩) c (by simp))
        · rcases List.mem_cons.1 hm with hm | hm
          · cases hm; rfl
          · exact absurd (List.mem_map.2 ⟨_, hm, rfl⟩) (List.nodup_cons.1 hd.2.1).1
      subst this; exact hb
    · rw [ho c hcb]
      refine h.has c x ?_
      rw [e1]
      rcases List.mem_append.1 hm with hm | hm
      · exact List.mem_append.2 (.inl hm)
      · rcases List.mem_cons.1 hm with hm | hm
        · cases hm; exact absurd rfl hcb
        · exact List.mem_append.2 (.inr (List.mem_cons.2 (.inr hm)))

theorem Inv.alloc {H : Heap} {w : World} (h : Inv B H w) (o : Obj) : Inv B ([(w.heap.size, o)] :: H) (w.alloc o) := by
  have hlt : ∀ b ∈ ids H, b < w.heap.size := fun b hb => h.lt hb
  refine ⟨h.os, h.tape, h.output, by simp; exact Nat.le_succ_of_le h.size, fun k hk hn => ?_, ?_, fun b x hm => ?_, fun b hb => ?_⟩
  · have := h.size
    rw [Go.RowKit.Below.heap_alloc _ _ _ (by omega)]; exact h.old k hk hn
  · simp only [ids, List.flatten_cons, List.map_cons, List.cons_append, List.nil_append]
    exact List.nodup_cons.2 ⟨fun hm => absurd (hlt _ hm) (Nat.lt_irrefl _), h.nodup⟩
  · simp only [List.flatten_cons, List.cons_append, List.nil_append, List.mem_cons] at hm
    rcases hm with hm | hm
    · cases hm; show (w.heap.push o)[w.heap.size]? = some o; simp
    · have hb : b < w.heap.size := hlt b (List.mem_map.2 ⟨_, hm, rfl⟩)
      rw [Go.RowKit.Below.heap_alloc _ _ _ hb]; exact h.has b x hm
  · simp only [ids, List.flatten_cons, List.map_cons, List.cons_append, List.nil_append, List.mem_cons] at hb
    rcases hb with hb | hb
    · subst hb; exact .inr h.size
    · exact h.fresh b hb

theorem cell_of {w : World} {b off : Nat} {cs : List Value} {T : TypeId} {v : Value} (hb : w.heap[b]? = some (cellsOf cs T)) (hc : cs[off]? = some v) :
    w.cell? ⟨b, off, none⟩ = some v := by
  simp [World.cell?, hb, hc]

theorem cell_add {w : World} {b off j : Nat} {cs : List Value} {T : TypeId} {v : Value} (hb : w.heap[b]? = some (cellsOf cs T)) (hc : cs[off + j]? = some v) :
    w.cell? (Addr.add ⟨b, off, none⟩ j) = some v := by
  rw [Addr.add_lit]; exact cell_of hb hc

theorem frozen_of {w : World} {b off : Nat} {cs : List Value} {T : TypeId} (hb : w.heap[b]? = some (cellsOf cs T)) : w.frozen? ⟨b, off, none⟩ = false := by
  simp [World.frozen?, hb]

/-! ### What is read -/

def descAgg : TypeDesc → Bool
  | .struct _ | .array _ _ => true
  | _ => false

theorem run_isAgg {t : TypeId} {d : TypeDesc} (hu : P.underlying t = some d) (w : World) : (isAgg t).run P w = .ok (descAgg d) w := by
  simp only [isAgg, underlying, Sem.run_bind, run_program, Result.andThen_ok, hu]
  cases d <;> rfl

/-- The cells of a row from a place on. -/
inductive Seg : List Value → Nat → Nat → List Value → Prop
  | stop {cs : List Value} : Seg cs 0 0 []
  | take {c : Value} {cs vs : List Value} {k : Nat} : Seg cs 0 k vs → Seg (c :: cs) 0 (k + 1) (c :: vs)
  | drop {c : Value} {cs vs : List Value} {o k : Nat} : Seg cs o k vs → Seg (c :: cs) (o + 1) k vs

theorem Seg.length {cs vs : List Value} {o k : Nat} (h : Seg cs o k vs) : vs.length = k := by
  induction h with
  | stop => rfl
  | take _ ih => simp [ih]
  | drop _ ih => exact ih

theorem Seg.get {cs vs : List Value} {o k : Nat} (h : Seg cs o k vs) : ∀ (j : Nat) (v : Value), vs[j]? = some v → cs[o + j]? = some v := by
  induction h with
  | stop => intro j v h; simp at h
  | @take c cs vs k _ ih =>
    intro j v h
    cases j with
    | zero => simpa using h
    | succ j => have := ih j v (by simpa using h); simp only [Nat.zero_add] at this; simpa using this
  | @drop c cs vs o k _ ih =>
    intro j v h
    have := ih j v h
    rw [show o + 1 + j = (o + j) + 1 by omega]; simpa using this

theorem zf7 {x : Operand} {t ty : TypeId} {d : TypeDesc} {b off : Nat} {cs : List Value} {T : TypeId} {v : Value} (hu : P.underlying t = some d) (hd : descAgg d = false)
    (hx : ev L x = some (.pointer (some ⟨b, off, none⟩))) (hm : HMem H b (cellsOf cs T)) (hc : cs[off]? = some v) : Pure1 P L H (.load t x) ty v := by
  intro ρ w o hρ hw ho _
  have hcell := cell_of (hw _ _ hm.mem) hc
  simp [execOp, ho, hρ _ _ hx, Instr.loadAt, Instr.sureAddr, loadVar, run_isAgg hu, hd, hcell]

theorem zga {x : Operand} {t ty : TypeId} {d : TypeDesc} {b off k : Nat} {cs vs : List Value} {T : TypeId} (hu : P.underlying t = some d) (hd : descAgg d = true)
    (hs : ∀ w, (sizeOf t).run P w = .ok k w) (hx : ev L x = some (.pointer (some ⟨b, off, none⟩))) (hm : HMem H b (cellsOf cs T)) (hc : Seg cs off k vs) :
    Pure1 P L H (.load t x) ty (.agg vs.toArray) := by
  intro ρ w o hρ hw ho _
  have hb := hw _ _ hm.mem
  have h1 := run_loadCells_list (P := P) w ⟨b, off, none⟩ vs fun j v hv => cell_add hb (hc.get j v hv)
  rw [hc.length] at h1
  simp [execOp, ho, hρ _ _ hx, Instr.loadAt, Instr.sureAddr, loadVar, run_isAgg hu, hd, hs, h1]

/-- The place of a field. -/
def FieldAt (P : Program) (s i k : Nat) : Prop := ∀ a w, (Instr.fieldAt s (.pointer (some a)) i).run P w = .ok (.pointer (some (a.add k))) w

theorem FieldAt.mk {s i k sz : Nat} {fs : Array Field} {f : Field} (hu : P.underlying s = some (.struct fs)) (hf : fs[i]? = some f) (hk : f.offset = k)
    (hs : ∀ w, (sizeOf f.type).run P w = .ok sz w) (hz : Nat.beq sz 0 = false) : FieldAt P s i k := by
  intro a w
  have hz' : ¬ sz = 0 := fun e => by subst e; cases hz
  subst hk
  simp [Instr.fieldAt, underlying, hu, hf, Instr.sureAddr, fieldPlace, hs, hz']

theorem zfs {x : Operand} {s i ty : TypeId} {b off k : Nat} (hf : FieldAt P s i k) (hx : ev L x = some (.pointer (some ⟨b, off, none⟩))) :
    Pure1 P L H (.fieldAddr s x i) ty (.pointer (some ⟨b, off + k, none⟩)) := by
  intro ρ w o hρ _ ho _
  simp only [execOp, ho, hρ _ _ hx, Sem.run_bind, hf ⟨b, off, none⟩ w, Addr.add_lit]; rfl

theorem zbo {x : Operand} {ty : TypeId} {a : Addr} (hx : ev L x = some (.pointer (some a))) : Pure1 P L H (.nilCheck x) ty (.pointer (some a)) := by
  intro ρ w o hρ _ ho _
  simp [execOp, ho, hρ _ _ hx]
theorem zg6 {x : Operand} {t ty e : TypeId} {a : Option Addr} {m c : Nat} (ht : P.underlying t = some (.slice e)) (hx : ev L x = some (.slice a m c)) :
    Pure1 P L H (.call ⟨.builtin .len, #[x], #[t]⟩) ty (.int .i64 m) := by
  intro ρ w o hρ _ ho _
  simp [execOp, ho, hρ _ _ hx, resolve, invoke, builtin, Builtin.len_, underlying, ht, goInt]

theorem zfl {x y : Operand} {t ty e : TypeId} {r off m c i sz : Nat} (ht : P.underlying t = some (.slice e)) (hs : ∀ w, (sizeOf e).run P w = .ok sz w)
    (hx : ev L x = some (.slice (some ⟨r, off, none⟩) m c)) (hy : ev L y = some (.int .i64 i)) (hi : i < m) :
    Pure1 P L H (.indexAddr t x y) ty (.pointer (some ⟨r, off + i * sz, none⟩)) := by
  intro ρ w o hρ _ ho _
  simp [execOp, ho, hρ _ _ hx, hρ _ _ hy, Instr.indexAt, asIntOf, underlying, ht, hs, hi, Addr.add_lit]

/-- 's[:hi]' -/
theorem zd4 {x : Operand} {t ty e : TypeId} {base : Option Addr} {m c sz b : Nat} {hi : Operand} (ht : P.underlying t = some (.slice e)) (hs : ∀ w, (sizeOf e).run P w = .ok sz w)
    (hx : ev L x = some (.slice base m c)) (hhi : ev L hi = some (.int .i64 b)) (hb : b ≤ c) :
    Pure1 P L H (.slice t x none (some hi) none) ty (.slice base b c) := by
  intro ρ w o hρ _ ho _
  have hz : base.map (·.add (0 * sz)) = base := by cases base <;> simp [Addr.add]
  simp [execOp, ho, hρ _ _ hx, hρ _ _ hhi, Instr.sliceAt, Instr.slice, underlying, ht, Instr.sliceBounds, Instr.sliceBound, asIntOf, hs, hb]
  intro _
  cases base <;> simp [Addr.add]

/-- 's[lo:]' -/
theorem zdw {x : Operand} {t ty e : TypeId} {r off m c sz a : Nat} {lo : Operand} (ht : P.underlying t = some (.slice e)) (hs : ∀ w, (sizeOf e).run P w = .ok sz w)
    (hx : ev L x = some (.slice (some ⟨r, off, none⟩) m c)) (hlo : ev L lo = some (.int .i64 a)) (ha : a ≤ m) (hac : a < c) :
    Pure1 P L H (.slice t x (some lo) none none) ty (.slice (some ⟨r, off + a * sz, none⟩) (m - a) (c - a)) := by
  intro ρ w o hρ _ ho _
  have : ¬ c = a := by omega
  simp [execOp, ho, hρ _ _ hx, hρ _ _ hlo, Instr.sliceAt, Instr.slice, underlying, ht, Instr.sliceBounds, Instr.sliceBound, asIntOf, hs, ha, this, Addr.add_lit]

/-! ### Interfaces, function values, structs as values -/

def descIface : TypeDesc → Bool
  | .interface _ => true
  | _ => false

theorem zgb {x : Operand} {t ty : TypeId} {d : TypeDesc} {v : Value} (hu : P.underlying t = some d) (hd : descIface d = false) (hx : ev L x = some v) :
    Pure1 P L H (.makeInterface t x) ty (.iface t v) := by
  intro ρ w o hρ _ ho _
  simp only [execOp, ho, hρ _ _ hx, Instr.makeInterface, underlying, Sem.run_bind, run_program, Result.andThen_ok, hu]
  cases d <;> first | (cases hd; done) | rfl

theorem zg0 {f : FuncId} {ty : TypeId} {x : Operand} {v : Value} (hx : ev L x = some v) : Pure1 P L H (.makeFunc (.func f) #[x] #[]) ty (.func (.func f) #[v] #[]) := by
  intro ρ w o hρ _ ho _
  simp [execOp, ho, Instr.makeFunc, hρ _ _ hx]
theorem zfo {f : FuncId} {ty : TypeId} {xs : List Operand} {vs : List Value} (hx : evs L xs = some vs) : Pure1 P L H (.makeFunc (.func f) #[] xs.toArray) ty (.func (.func f) #[] vs.toArray) := by
  intro ρ w o hρ _ ho _
  have : ∀ (xs : List Operand) (vs : List Value), evs L xs = some vs → xs.map ρ = vs := by
    intro xs
    induction xs with
    | nil => intro vs h; simp [evs] at h; simp [h]
    | cons x xs ih =>
      intro vs h
      simp only [evs] at h
      split at h
      · rename_i v vs' h1 h2
        cases h
        simp [hρ _ _ h1, ih _ h2]
      · cases h
  simp [execOp, ho, Instr.makeFunc, this xs vs hx]

theorem zbe {x : Operand} {ty : TypeId} {i : Nat} {vs : List Value} {v : Value} (hx : ev L x = some (.tuple vs.toArray)) (hv : vs[i]? = some v) : Pure1 P L H (.extract x i) ty v := by
  intro ρ w o hρ _ ho _
  simp [execOp, ho, hρ _ _ hx, Instr.extract, hv]

theorem zf0 {x : Operand} {xt t ty : TypeId} {d : TypeDesc} {v : Value} (hu : P.underlying t = some d) (hd : descIface d = false) (hx : ev L x = some (.iface t v)) :
    Pure1 P L H (.typeAssert x xt t true) ty (.tuple [v, .bool true].toArray) := by
  intro ρ w o hρ _ ho _
  simp only [execOp, ho, hρ _ _ hx, Instr.typeAssert, underlying, Sem.run_bind, run_program, Result.andThen_ok, hu]
  cases d <;> first | (cases hd; done) | simp
theorem zgj {x : Operand} {xt t ty : TypeId} {d : TypeDesc} {v : Value} (hu : P.underlying t = some d) (hd : descIface d = false) (hx : ev L x = some (.iface t v)) :
    Pure1 P L H (.typeAssert x xt t false) ty v := by
  intro ρ w o hρ _ ho _
  simp only [execOp, ho, hρ _ _ hx, Instr.typeAssert, underlying, Sem.run_bind, run_program, Result.andThen_ok, hu]
  cases d <;> first | (cases hd; done) | simp
theorem zgn {x : Operand} {xt t t' ty : TypeId} {d : TypeDesc} {v z : Value} (hu : P.underlying t = some d) (hd : descIface d = false) (hz : ∀ w, (zeroValue t).run P w = .ok z w)
    (hx : ev L x = some (.iface t' v)) (hne : Nat.beq t' t = false) : Pure1 P L H (.typeAssert x xt t true) ty (.tuple [z, .bool false].toArray) := by
  intro ρ w o hρ _ ho _
  have hne' : ¬ t' = t := fun e => by subst e; rw [Nat.beq_refl] at hne; cases hne
  simp only [execOp, ho, hρ _ _ hx, Instr.typeAssert, underlying, Sem.run_bind, run_program, Result.andThen_ok, hu]
  cases d <;> first | (cases hd; done) | simp [hne', hz]
/-! ### Comparisons of what is no number -/

theorem zcs {x y : Operand} {t ty yt : TypeId} {u v : Value} {r : Bool} (hx : ev L x = some u) (hy : ev L y = some v)
    (hg : eqGuard .eql t x y u v = pure ()) (he : ∀ w, (binOp .eql t u v).run P w = .ok (.bool r) w) : Pure1 P L H (.binOp .eql t x y yt) ty (.bool r) :=
  zbf hx hy fun w => by rw [hg, pure_bind]; exact he w
theorem zdg {x y : Operand} {t ty yt : TypeId} {u v : Value} {r : Bool} (hx : ev L x = some u) (hy : ev L y = some v)
    (hg : eqGuard .neq t x y u v = pure ()) (he : ∀ w, (binOp .neq t u v).run P w = .ok (.bool r) w) : Pure1 P L H (.binOp .neq t x y yt) ty (.bool r) :=
  zbf hx hy fun w => by rw [hg, pure_bind]; exact he w

theorem run_equal_step {t : TypeId} {u v : Value} {r : Bool} (h : ∀ w, (Op.equalIn (9999 + 1) t u v).run P w = .ok r w) (hb : binOp .eql t u v = (do pure (.bool (← Op.equal t u v)))) (w : World) :
    (binOp .eql t u v).run P w = .ok (.bool r) w := by rw [hb, show Op.equal t u v = Op.equalIn (9999 + 1) t u v from rfl]; simp only [Sem.run_bind, h]; rfl
theorem run_nequal_step {t : TypeId} {u v : Value} {r : Bool} (h : ∀ w, (Op.equalIn (9999 + 1) t u v).run P w = .ok r w) (hb : binOp .neq t u v = (do pure (.bool (!(← Op.equal t u v))))) (w : World) :
    (binOp .neq t u v).run P w = .ok (.bool (!r)) w := by rw [hb, show Op.equal t u v = Op.equalIn (9999 + 1) t u v from rfl]; simp only [Sem.run_bind, h]; rfl

theorem eq_ptr_nil (d0 : Nat) {t e : TypeId} (a : Option Addr) (hu : P.underlying t = some (.pointer e)) (w : World) : (Op.equalIn (d0 + 1) t (.pointer a) (.pointer none)).run P w = .ok a.isNone w := by
  cases a <;> simp [Op.equalIn, underlying, hu]
theorem eq_slice_nil (d0 : Nat) {t e : TypeId} (a : Option Addr) (m c : Nat) (hu : P.underlying t = some (.slice e)) (w : World) : (Op.equalIn (d0 + 1) t (.slice a m c) (.slice none 0 0)).run P w = .ok a.isNone w := by
  cases a <;> simp [Op.equalIn, underlying, hu]
theorem eq_func_nil (d0 : Nat) {t : TypeId} {ps rs : Array TypeId} {va : Bool} (f : Fn) (a c : Array Value) (hu : P.underlying t = some (.func ps rs va)) (w : World) : (Op.equalIn (d0 + 1) t (.func f a c) .nilFunc).run P w = .ok false w := by
  simp [Op.equalIn, underlying, hu]
theorem eq_nilFunc (d0 : Nat) {t : TypeId} {ps rs : Array TypeId} {va : Bool} (hu : P.underlying t = some (.func ps rs va)) (w : World) : (Op.equalIn (d0 + 1) t .nilFunc .nilFunc).run P w = .ok true w := by
  simp [Op.equalIn, underlying, hu]
theorem eq_iface_nil (d0 : Nat) {t : TypeId} {ms : Array (String × TypeId)} (d : TypeId) (v : Value) (hu : P.underlying t = some (.interface ms)) (w : World) : (Op.equalIn (d0 + 1) t (.iface d v) .nilIface).run P w = .ok false w := by
  simp [Op.equalIn, underlying, hu]
theorem eq_nil_iface (d0 : Nat) {t : TypeId} {ms : Array (String × TypeId)} (d : TypeId) (v : Value) (hu : P.underlying t = some (.interface ms)) (w : World) : (Op.equalIn (d0 + 1) t .nilIface (.iface d v)).run P w = .ok false w := by
  simp [Op.equalIn, underlying, hu]
end Go.Eng

namespace Go.Eng
variable {P : Program} {B : Base} {n : Nat} {L : Loc} {H : Heap} {Q : Post}

/-! ### New blocks -/

theorem Ops.step_value {all : Array Oper} {rest : List Oper} {o : Oper} (hg : o.guard = none)
    (h : ∀ a w, Fits n L a → Inv B H w → ∃ v w' L' H', (execOp a.eval o).run P w = .ok (.value v) w' ∧ Fits n L' (a.put o.dst v) ∧ Inv B H' w' ∧ Ops P B n all rest L' H' Q) :
    Ops P B n all (o :: rest) L H Q := by
  refine ⟨fun a w ha hw => ?_⟩
  obtain ⟨v, w', L', H', h1, h2, h3, h4⟩ := h a w ha hw
  refine wpList_plain hg fun K' hK => ?_
  unfold Oper.wp
  rw [h1]
  exact hK _ _ (h4.run _ _ h2 h3)

theorem Ops.step_skip {all : Array Oper} {rest : List Oper} {o : Oper} (hg : o.guard = none) (hd : o.dst = none)
    (h : ∀ a w, Fits n L a → Inv B H w → ∃ w' H', (execOp a.eval o).run P w = .ok .skip w' ∧ Inv B H' w' ∧ Ops P B n all rest L H' Q) :
    Ops P B n all (o :: rest) L H Q := by
  refine ⟨fun a w ha hw => ?_⟩
  obtain ⟨w', H', h1, h3, h4⟩ := h a w ha hw
  refine wpList_plain hg fun K' hK => ?_
  unfold Oper.wp
  rw [h1]
  simp only [Oper.upon, hd, Act.put]
  exact hK _ _ (h4.run _ _ ha h3)

theorem Ops.alloc {all : Array Oper} {rest : List Oper} {d : Nat} {t ty : TypeId} {pos : String} {after : Array Edge} {zv : Value} (zs : List Value)
    (hz : ∀ w, (zeroValue t).run P w = .ok zv w) (hzs : zv.cells = zs.toArray) (hd : Nat.blt d n = true)
    (h : ∀ r, Ops P B n all rest ((d, .pointer (some ⟨r, 0, none⟩)) :: L) ([(r, cellsOf zs t)] :: H) Q) :
    Ops P B n all (⟨some d, .alloc t, ty, pos, after, none⟩ :: rest) L H Q :=
  Ops.step_value rfl fun a w ha hw => ⟨_, _, _, _, by
      simp [execOp, Instr.alloc, hz, newVar, newRow, hzs], ha.put (by simpa using hd) _, hw.alloc _, h _⟩

theorem Ops.box {all : Array Oper} {rest : List Oper} {d : Nat} {t ty : TypeId} {x : Operand} {pos : String} {after : Array Edge} {v : Value} (vs : List Value)
    (hx : ev L x = some v) (hvs : v.cells = vs.toArray) (hd : Nat.blt d n = true)
    (h : ∀ r, Ops P B n all rest ((d, .pointer (some ⟨r, 0, none⟩)) :: L) ([(r, cellsOf vs t)] :: H) Q) :
    Ops P B n all (⟨some d, .box t x, ty, pos, after, none⟩ :: rest) L H Q :=
  Ops.step_value rfl fun a w ha hw => ⟨_, _, _, _, by
      simp [execOp, Instr.box, ha.rho _ _ hx, newVar, newRow, hvs], ha.put (by simpa using hd) _, hw.alloc _, h _⟩

/-! ### Stores -/

theorem heap_setCell_same {w : World} {b off : Nat} {cs : List Value} {T : TypeId} {v : Value} (hb : w.heap[b]? = some (cellsOf cs T)) :
    (w.setCell ⟨b, off, none⟩ v).heap[b]? = some (cellsOf (cs.set off v) T) := by
  simp [World.setCell, Array.getElem?_modify, hb]

theorem heap_setCell_other {w : World} {b off k : Nat} {v : Value} (hk : k ≠ b) : (w.setCell ⟨b, off, none⟩ v).heap[k]? = w.heap[k]? :=
  Go.RowKit.Below.heap_setCell _ _ _ _ hk

def oneCell : Value → Bool
  | .agg _ | .tuple _ => false
  | _ => true

theorem run_store1 {w : World} {b off : Nat} {cs : List Value} {T : TypeId} {v : Value} (hb : w.heap[b]? = some (cellsOf cs T)) (ho : off < cs.length) (hv : oneCell v = true) :
    (store ⟨b, off, none⟩ v).run P w = .ok () (w.setCell ⟨b, off, none⟩ v) := by
  have hv' : v.oneCell' = true := by cases v <;> first | rfl | cases hv
  rw [run_store P w _ v _ hv']
  have hc : w.cell? ⟨b, off, none⟩ = some cs[off] := cell_of hb (by simp [ho])
  simp [hc, frozen_of hb]

theorem cells_one {v : Value} (hv : oneCell v = true) : v.cells = #[v] := by cases v <;> first | rfl | cases hv

theorem Ops.store {all : Array Oper} {rest : List Oper} {t ty : TypeId} {x y : Operand} {pos : String} {after : Array Edge} {b off : Nat} {cs : List Value} {T : TypeId} {v : Value} (cs' : List Value) (H' : Heap)
    (hs : ∀ w, (sizeOf t).run P w = .ok 1 w)
    (hx : ev L x = some (.pointer (some ⟨b, off, none⟩))) (hy : ev L y = some v) (hv : oneCell v = true)
    (hu : HUpd H b (cellsOf cs T) (cellsOf cs' T) H') (hc : cs.set off v = cs') (ho : Nat.blt off cs.length = true)
    (h : Ops P B n all rest L H' Q) : Ops P B n all (⟨none, .store t x y, ty, pos, after, none⟩ :: rest) L H Q := by
  subst hc
  have ho' : off < cs.length := by simpa using ho
  refine Ops.step_skip rfl rfl fun a w ha hw => ?_
  have hb := hw.has _ _ hu.mem
  refine ⟨_, _, ?_, hw.upd hu (w' := w.setCell ⟨b, off, none⟩ v) rfl rfl rfl (by simp) (heap_setCell_same hb) (fun k hk => heap_setCell_other hk), h⟩
  simp only [execOp, ha.rho _ _ hx, ha.rho _ _ hy, Instr.storeAt, Instr.sureAddr, storeVar, cells_one hv, Sem.run_bind, Sem.run_pure, Result.andThen_ok, hs]
  simp [storeCells, run_store1 hb ho' hv, Addr.add_zero']

/-- A segment of a row written. -/
def setSeg (cs : List Value) (off : Nat) : List Value → List Value
  | [] => cs
  | v :: vs => setSeg (cs.set off v) (off + 1) vs

theorem run_storeCells {b : Nat} {T : TypeId} (off : Nat) : ∀ (vs : List Value) (i : Nat) (w : World) (cs : List Value), w.heap[b]? = some (cellsOf cs T) → off + i + vs.length ≤ cs.length →
    vs.all oneCell = true → ∃ w', (storeCells ⟨b, off, none⟩ vs i).run P w = .ok () w' ∧ w'.os = w.os ∧ w'.tape = w.tape ∧ w'.output = w.output ∧ w'.heap.size = w.heap.size ∧
      w'.heap[b]? = some (cellsOf (setSeg cs (off + i) vs) T) ∧ ∀ k, k ≠ b → w'.heap[k]? = w.heap[k]?
  | [], i, w, cs, hb, _, _ => ⟨w, by simp [storeCells], rfl, rfl, rfl, rfl, hb, fun _ _ => rfl⟩
  | v :: vs, i, w, cs, hb, hl, hv => by
    simp only [List.all_cons, Bool.and_eq_true] at hv
    simp only [List.length_cons] at hl
    obtain ⟨w', h1, h2, h3, h4, h5, h6, h7⟩ := run_storeCells off vs (i + 1) (w.setCell ⟨b, off + i, none⟩ v) (cs.set (off + i) v) (heap_setCell_same hb) (by simp; omega) hv.2
    refine ⟨w', ?_, h2, h3, h4, by rw [h5]; simp, ?_, fun k hk => by rw [h7 k hk, heap_setCell_other hk]⟩
    · simp only [storeCells, Addr.add_lit, Sem.run_bind, run_store1 hb (show off + i < cs.length by omega) hv.1, Result.andThen_ok, h1]
    · rw [h6]; simp [setSeg, Nat.add_assoc]

theorem Ops.store_agg {all : Array Oper} {rest : List Oper} {t ty : TypeId} {x y : Operand} {pos : String} {after : Array Edge} {b off k : Nat} {cs vs : List Value} {T : TypeId} (cs' : List Value) (H' : Heap)
    (hs : ∀ w, (sizeOf t).run P w = .ok k w)
    (hx : ev L x = some (.pointer (some ⟨b, off, none⟩))) (hy : ev L y = some (.agg vs.toArray)) (hk : Nat.beq vs.length k = true) (hv : vs.all oneCell = true)
    (hu : HUpd H b (cellsOf cs T) (cellsOf cs' T) H') (hc : setSeg cs off vs = cs') (ho : Nat.ble (off + k) cs.length = true)
    (h : Ops P B n all rest L H' Q) : Ops P B n all (⟨none, .store t x y, ty, pos, after, none⟩ :: rest) L H Q := by
  subst hc
  have hk' : vs.length = k := Nat.eq_of_beq_eq_true hk
  have ho' : off + k ≤ cs.length := Nat.le_of_ble_eq_true ho
  refine Ops.step_skip rfl rfl fun a w ha hw => ?_
  have hb := hw.has _ _ hu.mem
  obtain ⟨w', h1, h2, h3, h4, h5, h6, h7⟩ := run_storeCells (P := P) off vs 0 w cs hb (by omega) hv
  refine ⟨w', _, ?_, hw.upd hu h2 h3 h4 h5 h6 h7, h⟩
  simp only [execOp, ha.rho _ _ hx, ha.rho _ _ hy, Instr.storeAt, Instr.sureAddr, storeVar, Value.cells, Sem.run_bind, Sem.run_pure, Result.andThen_ok, hs]
  simp [hk', h1]

/-! ### Slices that the program makes -/

/-- The cells of a slice literal: part i lies at i times the element's size. -/
theorem Ops.buildSlice1 {all : Array Oper} {rest : List Oper} {d : Nat} {t e ty : TypeId} {x : Operand} {pos : String} {after : Array Edge} {v zv : Value} (vs : List Value) {sz : Nat}
    (ht : P.underlying t = some (.slice e)) (hs : ∀ w, (sizeOf e).run P w = .ok sz w) (hz : ∀ w, (zeroValue e).run P w = .ok zv w) (hzs : zv.cells.size = sz)
    (hx : ev L x = some v) (hvs : v.cells = vs.toArray) (hl : vs.length = sz) (hsz : Nat.ble sz 16777216 = true) (hsz0 : Nat.beq sz 0 = false) (hd : Nat.blt d n = true)
    (h : ∀ r, Ops P B n all rest ((d, .slice (some ⟨r, 0, none⟩) 1 1) :: L) ([(r, cellsOf vs e)] :: H) Q) :
    Ops P B n all (⟨some d, .buildSlice t 1 #[(0, x)], ty, pos, after, none⟩ :: rest) L H Q := by
  refine Ops.step_value rfl fun a w ha hw => ⟨_, _, _, _, ?_, ha.put (by simpa using hd) _, hw.alloc (cellsOf vs e), h _⟩
  have h0 : ¬ sz = 0 := fun e => by subst e; cases hsz0
  have h1 : ¬ 16777216 < sz := by have := Nat.le_of_ble_eq_true hsz; omega
  have hfold : ∀ (vs : List Value) (k : Nat) (pre post : List Value), pre.length = k → post.length = vs.length →
      (vs.zipIdx k).foldl (fun (cs : Array Value) x => cs.setIfInBounds x.2 x.1) (pre ++ post).toArray = (pre ++ vs).toArray := by
    intro vs
    induction vs with
    | nil => intro k pre post _ hp; simp at hp; simp [hp]
    | cons v vs ih =>
      intro k pre post hk hp
      cases post with
      | nil => simp at hp
      | cons p post =>
        have := ih (k + 1) (pre ++ [v]) post (by simp [hk]) (by simpa using hp)
        simp only [List.zipIdx_cons, List.foldl_cons]
        subst hk
        simp only [List.append_assoc, List.cons_append, List.nil_append] at this
        simpa using this
  have hf := hfold vs 0 [] (((List.range sz).map fun i => zv.cells[i % zv.cells.size]!)) rfl (by simp [hl])
  simp only [List.nil_append] at hf
  simp [execOp, Instr.buildSlice, ha.rho _ _ hx, underlying, ht, hs, hz, h0, h1, Instr.fill, hvs, hl, newRow]
  rw [show (Array.map (fun x => zv.cells[x % zv.cells.size]!) (Array.range sz)) = ((List.range sz).map fun i => zv.cells[i % zv.cells.size]!).toArray by
    apply Array.ext'; simp]
  rw [hf]


/-! ### Rows that a slice owns -/

/-- The slice 'v' has 'm' elements of 'sz' cells each, whose cells are 'xs'; the chunk 'Bk' is the row that it lies in (nothing, where it is nil). -/
def Own (E sz : Nat) (v : Value) (m : Nat) (xs : List Value) (Bk : Blk) : Prop :=
  xs.length = m * sz ∧ ((v = .slice none 0 0 ∧ m = 0 ∧ Bk = []) ∨
    ∃ g cap cur, v = .slice (some ⟨g, 0, none⟩) m cap ∧ Bk = [(g, cellsOf cur E)] ∧ m ≤ cap ∧ cap ≤ 9223372036854775807 ∧ cur.length = cap * sz ∧ cur.take (m * sz) = xs)

theorem Own.nil (E sz : Nat) : Own E sz (.slice none 0 0) 0 [] [] := ⟨by simp, .inl ⟨rfl, rfl, rfl⟩⟩

inductive HTake : Heap → Blk → Heap → Prop
  | here {c : Blk} {H : Heap} : HTake (c :: H) c H
  | there {c x : Blk} {H H' : Heap} : HTake H c H' → HTake (x :: H) c (x :: H')

theorem HTake.perm {H H' : Heap} {c : Blk} (h : HTake H c H') : H.flatten.Perm (c ++ H'.flatten) := by
  induction h with
  | here => simp
  | @there c x H H' _ ih =>
    simp only [List.flatten_cons]
    exact (ih.append_left x).trans (by rw [← List.append_assoc, ← List.append_assoc]; exact (List.perm_append_comm).append_right _)

theorem HTake.sub {H H' : Heap} {c : Blk} (h : HTake H c H') : SubH H (c :: H') := ⟨[], by simpa using h.perm⟩
theorem HTake.drop {H H' : Heap} {c : Blk} (h : HTake H c H') : SubH H H' := ⟨[c], by simpa using h.perm.trans List.perm_append_comm⟩

theorem Inv.row {H : Heap} {w w' : World} {g : Nat} {o o' : Obj} (h : Inv B ([(g, o)] :: H) w)
    (h1 : w'.os = w.os) (h2 : w'.tape = w.tape) (h3 : w'.output = w.output) (h4 : w'.heap.size = w.heap.size)
    (hb : w'.heap[g]? = some o') (ho : ∀ k, k ≠ g → w'.heap[k]? = w.heap[k]?) : Inv B ([(g, o')] :: H) w' :=
  h.upd .here h1 h2 h3 h4 hb ho

theorem oneCell' {v : Value} (h : oneCell v = true) : v.oneCell' = true := by cases v <;> first | rfl | cases h

/-- append(v, x) of one element, whose cells lie in a row of the call's own make. -/
theorem run_append1 {H H1 : Heap} {w : World} {t ty e sz : Nat} {i : TypeInfo} {z v : Value} {m r c by_ : Nat} {xs ys cs : List Value} {Bk : Blk}
    (ht : P.underlying t = some (.slice e)) (hi : P.info? e = some i) (hz : i.zero = some z) (hsz : i.size = sz) (hby : i.bytes = by_) (hzs : z.cells.size = sz) (hs0 : 0 < sz)
    (hO : Own e sz v m xs Bk) (hT : HTake H Bk H1) (hr : HMem H r (cellsOf cs e)) (hys : cs.take sz = ys) (hyl : ys.length = sz) (hy1 : ys.all oneCell = true)
    (hm : (m + 1) * by_ ≤ 140737488355328) (hm2 : m + 1 ≤ 9223372036854775807) (hw : Inv B H w) :
    ∃ v' Bk' w', (Builtin.append_ #[t, t] ty #[v, .slice (some ⟨r, 0, none⟩) 1 c]).run P w = .ok v' w' ∧ Own e sz v' (m + 1) (xs ++ ys) Bk' ∧ Inv B (Bk' :: H1) w' := by
  subst hsz hby
  have hrb := hw.has _ _ hr.mem
  have hnews : ∀ j u, ys[j]? = some u → w.cell? ((⟨r, 0, none⟩ : Addr).add j) = some u := by
    intro j u hu
    refine cell_add hrb ?_
    rw [← hys, List.getElem?_take] at hu
    split at hu
    · simpa using hu
    · cases hu
  have hy1' : ∀ u ∈ ys, u.oneCell' = true := fun u hu => oneCell' (List.all_eq_true.1 hy1 u hu)
  have hlen : (xs ++ ys).length = (m + 1) * i.size := by rw [List.length_append, hO.1, hyl, Nat.add_mul, Nat.one_mul]
  have hw1 : Inv B (Bk :: H1) w := hw.sub hT.sub
  rcases hO.2 with ⟨rfl, rfl, rfl⟩ | ⟨g, cap, cur, rfl, rfl, hmc, hcm, hcl, htk⟩
  · have hx : xs = [] := List.eq_nil_of_length_eq_zero (by simpa using hO.1)
    subst hx
    have hrun := run_append_nil (P := P) w t ty e i z ht hi hz ⟨r, 0, none⟩ 1 c ys (by simpa using hyl) hnews (by omega) (by omega) (by omega)
    have hge := grownCap_ge w 1 0 e
    refine ⟨_, [(w.heap.size, cellsOf (ys ++ (Builtin.zeroCells z.cells (grownCap w 1 0 e - 1)).toList) e)], _, hrun, ⟨by simpa using hyl, .inr ⟨_, _, _, rfl, rfl, by omega, grownCap_le_maxLen w 1 0 e (by decide), ?_, ?_⟩⟩, ?_⟩
    · simp only [List.length_append, Array.length_toList, size_zeroCells, hzs, hyl]
      rw [show grownCap w 1 0 e * i.size = (1 + (grownCap w 1 0 e - 1)) * i.size by congr 1; omega, Nat.add_mul, Nat.one_mul]
    · simp only [Nat.zero_add, Nat.one_mul, List.nil_append]
      rw [← hyl]; exact List.take_left
    · have := (hw1.drew (w.drawn + 1)).alloc (cellsOf (ys ++ (Builtin.zeroCells z.cells (grownCap w 1 0 e - 1)).toList) e)
      have e1 : (cellsOf (ys ++ (Builtin.zeroCells z.cells (grownCap w 1 0 e - 1)).toList) e) = Obj.cells (ys.toArray ++ Builtin.zeroCells z.cells (grownCap w 1 0 e - 1)) e (0, 0) := by
        simp only [cellsOf]; congr 1; apply Array.ext'; simp
      rw [e1] at this ⊢
      exact this.sub ⟨[], by simp⟩
  · have hg := hw1.has g _ (by simp : (g, cellsOf cur e) ∈ (([(g, cellsOf cur e)] : Blk) :: H1).flatten)
    by_cases hroom : m + 1 ≤ cap
    · have hfit : m * i.size + ys.length ≤ (cur.toArray).size := by
        simp only [List.size_toArray]; rw [hyl, hcl, ← Nat.succ_mul]; exact Nat.mul_le_mul_right _ hroom
      have hrun := run_append_room (P := P) w t ty e i ht hi g m cap cur.toArray hg ⟨r, 0, none⟩ 1 c ys (by simpa using hyl) hnews hy1' hroom hfit
      refine ⟨_, [(g, cellsOf (cur.take (m * i.size) ++ ys ++ cur.drop (m * i.size + ys.length)) e)], _, hrun, ⟨hlen, .inr ⟨_, _, _, rfl, rfl, hroom, hcm, ?_, ?_⟩⟩, ?_⟩
      · simp only [List.size_toArray] at hfit
        simp only [List.length_append, List.length_take, List.length_drop]; omega
      · rw [htk, ← hlen, List.append_assoc]
        rw [← List.append_assoc]; exact List.take_left
      · exact hw1.row (w' := w.setRow g _) rfl rfl rfl (by simp) (setRow_heap w g _ _ _ _ hg) (fun k hk => setRow_other w g k _ hk)
    · have holds : ∀ j u, xs[j]? = some u → w.cell? ((⟨g, 0, none⟩ : Addr).add j) = some u := by
        intro j u hu
        refine cell_add hg ?_
        rw [← htk, List.getElem?_take] at hu
        split at hu
        · simpa using hu
        · cases hu
      have hrun := run_append_grow (P := P) w t ty e i z ht hi hz ⟨g, 0, none⟩ m cap xs hO.1 holds ⟨r, 0, none⟩ 1 c ys (by simpa using hyl) hnews (by omega) (by omega) (growslice_fits (by omega) hm)
      have hge := grownCap_ge w (m + 1) cap e
      refine ⟨_, [(w.heap.size, cellsOf (xs ++ ys ++ (Builtin.zeroCells z.cells (grownCap w (m + 1) cap e - (m + 1))).toList) e)], _, hrun, ⟨hlen, .inr ⟨_, _, _, rfl, rfl, hge, grownCap_le_maxLen w _ _ e hm2, ?_, ?_⟩⟩, ?_⟩
      · rw [List.length_append, hlen, Array.length_toList, size_zeroCells, hzs, ← Nat.add_mul]; congr 1; omega
      · rw [← hlen]; exact List.take_left
      · have h2 : Inv B H1 w := hw.sub hT.drop
        have := (h2.drew (w.drawn + 1)).alloc (cellsOf (xs ++ ys ++ (Builtin.zeroCells z.cells (grownCap w (m + 1) cap e - (m + 1))).toList) e)
        have e1 : (cellsOf (xs ++ ys ++ (Builtin.zeroCells z.cells (grownCap w (m + 1) cap e - (m + 1))).toList) e) = Obj.cells (xs.toArray ++ ys.toArray ++ Builtin.zeroCells z.cells (grownCap w (m + 1) cap e - (m + 1))) e (0, 0) := by
          simp only [cellsOf]; congr 1; apply Array.ext'; simp
        rw [e1] at this ⊢
        exact this

/-- The table's row of an element type. -/
structure ElemIs (P : Program) (t e sz by_ : Nat) (i : TypeInfo) (z : Value) : Prop where
  ht : P.underlying t = some (.slice e)
  hi : P.info? e = some i
  hz : i.zero = some z
  hsz : i.size = sz
  hby : i.bytes = by_
  hzs : z.cells.size = sz
  hs0 : 0 < sz

theorem Ops.append1 {all : Array Oper} {rest : List Oper} {d : Nat} {t e ty sz by_ : Nat} {i : TypeInfo} {z : Value} {x y : Operand} {pos : String} {after : Array Edge} {v : Value} {m r c : Nat} {xs cs : List Value} {Bk : Blk} (ys : List Value) (H1 : Heap)
    (hE : ElemIs P t e sz by_ i z) (hx : ev L x = some v) (hy : ev L y = some (.slice (some ⟨r, 0, none⟩) 1 c))
    (hO : Own e sz v m xs Bk) (hT : HTake H Bk H1) (hr : HMem H r (cellsOf cs e)) (hys : cs.take sz = ys) (hyl : Nat.beq ys.length sz = true) (hy1 : ys.all oneCell = true)
    (hm : (m + 1) * by_ ≤ 140737488355328) (hm2 : m + 1 ≤ 9223372036854775807) (hd : Nat.blt d n = true)
    (h : ∀ v' Bk', Own e sz v' (m + 1) (xs ++ ys) Bk' → Ops P B n all rest ((d, v') :: L) (Bk' :: H1) Q) :
    Ops P B n all (⟨some d, .call ⟨.builtin .append, #[x, y], #[t, t]⟩, ty, pos, after, none⟩ :: rest) L H Q :=
  Ops.step_value rfl fun a w ha hw => by
    obtain ⟨v', Bk', w', h1, h2, h3⟩ := run_append1 (P := P) (ty := ty) (c := c) hE.ht hE.hi hE.hz hE.hsz hE.hby hE.hzs hE.hs0 hO hT hr hys (Nat.eq_of_beq_eq_true hyl) hy1 hm hm2 hw
    refine ⟨v', w', _, _, ?_, ha.put (by simpa using hd) _, h3, h v' Bk' h2⟩
    simp only [execOp, resolve, invoke, builtin, Sem.run_bind, Sem.run_pure, Result.andThen_ok, List.map_toArray, List.map_cons, List.map_nil, ha.rho _ _ hx, ha.rho _ _ hy, h1]

end Go.Eng

namespace Go.Eng
variable {P : Program} {B : Base} {n : Nat} {L : Loc} {H : Heap} {Q : Post}

/-! ### Contracts -/

/-- Called where the heap has the chunks 'H', whatever else is there: the function returns v and leaves the chunks H', with 'R v H'', and all else as it was. -/
structure Tr (P : Program) (f : FuncId) (args : List Value) (H : Heap) (R : Value → Heap → Prop) : Prop where
  run : ∀ B w, Inv B H w → Calls P f args.toArray w fun e w' => ∃ v H', e = .returned v ∧ R v H' ∧ Inv B H' w'

theorem Tr.mono {f : FuncId} {args : List Value} {R R' : Value → Heap → Prop} (h : Tr P f args H R) (hr : ∀ v H', R v H' → R' v H') : Tr P f args H R' :=
  ⟨fun B w hw => (h.run B w hw).mono fun _ _ ⟨v, H', h1, h2, h3⟩ => ⟨v, H', h1, hr _ _ h2, h3⟩⟩

theorem Inv.here {w : World} {B : Base} (h : Inv B H w) : Inv ⟨w, ids H⟩ H w :=
  ⟨rfl, rfl, rfl, Nat.le_refl _, fun _ _ _ => rfl, h.nodup, h.has, fun _ hb => .inl hb⟩

theorem ids_append (H F : Heap) : ids (H ++ F) = ids H ++ ids F := by simp [ids]

theorem Inv.frame {H H' F : Heap} {w w' : World} (h : Inv B (H ++ F) w) (h' : Inv ⟨w, ids H⟩ H' w') : Inv B (H' ++ F) w' := by
  have hnd := h.nodup
  rw [ids_append] at hnd
  have hd := List.nodup_append.1 hnd
  have hF : ∀ b ∈ ids F, b < w.heap.size ∧ b ∉ ids H := fun b hb =>
    ⟨h.lt (by rw [ids_append]; exact List.mem_append.2 (.inr hb)), fun hm => hd.2.2 b hm b hb rfl⟩
  have hs1 := h.size
  have hs2 : w.heap.size ≤ w'.heap.size := h'.size
  have hold : ∀ k, k < w.heap.size → k ∉ ids H → w'.heap[k]? = w.heap[k]? := h'.old
  have hfr : ∀ b ∈ ids H', b ∈ ids H ∨ w.heap.size ≤ b := h'.fresh
  refine ⟨h'.os.trans h.os, h'.tape.trans h.tape, h'.output.trans h.output, by omega, fun k hk hn => ?_, ?_, fun b o hm => ?_, fun b hb => ?_⟩
  · have hkH : k ∉ ids H := fun hm => by
      rcases h.fresh k (by rw [ids_append]; exact List.mem_append.2 (.inl hm)) with h1 | h1
      · exact hn h1
      · omega
    rw [hold k (by omega) hkH]; exact h.old k hk hn
  · rw [ids_append]
    refine List.nodup_append.2 ⟨h'.nodup, hd.2.1, fun a ha b hb e => ?_⟩
    subst e
    obtain ⟨h1, h2⟩ := hF a hb
    rcases hfr a ha with h3 | h3
    · exact h2 h3
    · omega
  · rw [List.flatten_append] at hm
    rcases List.mem_append.1 hm with hm | hm
    · exact h'.has b o hm
    · obtain ⟨h1, h2⟩ := hF b (List.mem_map.2 ⟨_, hm, rfl⟩)
      rw [hold b h1 h2]
      exact h.has b o (by rw [List.flatten_append]; exact List.mem_append.2 (.inr hm))
  · rw [ids_append] at hb
    rcases List.mem_append.1 hb with hb | hb
    · rcases hfr b hb with h1 | h1
      · exact h.fresh b (by rw [ids_append]; exact List.mem_append.2 (.inl h1))
      · exact .inr (by omega)
    · exact h.fresh b (by rw [ids_append]; exact List.mem_append.2 (.inr hb))

inductive HTakes : Heap → Heap → Heap → Prop
  | nil {H : Heap} : HTakes H [] H
  | cons {H H1 F cs : Heap} {c : Blk} : HTake H c H1 → HTakes H1 cs F → HTakes H (c :: cs) F

theorem HTakes.sub {H cs F : Heap} (h : HTakes H cs F) : SubH H (cs ++ F) := by
  suffices h' : H.flatten.Perm ((cs ++ F).flatten) from ⟨[], by simpa using h'⟩
  induction h with
  | nil => simp
  | @cons H H1 F cs c h1 _ ih =>
    refine h1.perm.trans ?_
    simpa using ih.append_left c

/-- A call under a contract, from a heap that holds what the contract asks. -/
theorem Tr.calls {f : FuncId} {args : List Value} {Hc F : Heap} {R : Value → Heap → Prop} (h : Tr P f args Hc R) (ht : HTakes H Hc F) {w : World} (hw : Inv B H w) :
    Calls P f args.toArray w fun e w' => ∃ v H', e = .returned v ∧ R v H' ∧ Inv B (H' ++ F) w' := by
  have hw' : Inv B (Hc ++ F) w := hw.sub ht.sub
  have h1 : Inv ⟨w, ids Hc⟩ Hc w := (hw'.sub (H' := Hc) ⟨F, by simp⟩).here
  exact (h.run _ w h1).mono fun _ w' ⟨v, H', e1, e2, e3⟩ => ⟨v, H', e1, e2, hw'.frame e3⟩

/-- A function that has a body is entered. -/
def Callable (P : Program) (f : FuncId) : Prop := ∀ args w, (callFunc f args).run P w = .ok (.enter f args) w

theorem Callable.mk {f : FuncId} {fn : Func} (hf : P.funcs[f]? = some fn) (h1 : (fn.name == "runtime.NumGoroutine") = false) (h2 : fn.body.isNone = false) : Callable P f := by
  intro args w
  have h3 : ¬ fn.name = "runtime.NumGoroutine" := by simpa using h1
  have h4 : ¬ fn.body = none := fun e => by rw [e] at h2; cases h2
  simp [callFunc, hf, h3, h4]

theorem evs_map {L : Loc} {ρ : Operand → Value} (hρ : ∀ x u, ev L x = some u → ρ x = u) : ∀ (xs : List Operand) (vs : List Value), evs L xs = some vs → xs.map ρ = vs := by
  intro xs
  induction xs with
  | nil => intro vs h; simp [evs] at h; simp [h]
  | cons x xs ih =>
    intro vs h
    simp only [evs] at h
    split at h
    · rename_i v vs' h1 h2
      cases h
      simp [hρ _ _ h1, ih _ h2]
    · cases h

theorem Ops.step_enter {all : Array Oper} {rest : List Oper} {o : Oper} {f : FuncId} {args : List Value} {Hc F : Heap} {R : Value → Heap → Prop} (hg : o.guard = none)
    (hrun : ∀ a w, Fits n L a → Inv B H w → (execOp a.eval o).run P w = .ok (.enter f args.toArray) w)
    (hT : Tr P f args Hc R) (ht : HTakes H Hc F)
    (h : ∀ v H', R v H' → ∀ a, Fits n L a → ∃ L', Fits n L' (a.put o.dst v) ∧ Ops P B n all rest L' (H' ++ F) Q) :
    Ops P B n all (o :: rest) L H Q := by
  refine ⟨fun a w ha hw => ?_⟩
  refine wpList_plain hg fun K' hK => ?_
  unfold Oper.wp
  rw [hrun a w ha hw]
  simp only [Oper.upon]
  refine (hT.calls ht hw).mono fun e w' ⟨v, H', e1, e2, e3⟩ => ?_
  subst e1
  obtain ⟨L', h1, h2⟩ := h v H' e2 a ha
  exact hK _ _ (h2.run _ _ h1 e3)

theorem Ops.call {all : Array Oper} {rest : List Oper} {d : Nat} {f : FuncId} {xs : List Operand} {tys : Array TypeId} {ty : TypeId} {pos : String} {after : Array Edge} {args : List Value} {Hc F : Heap} {R : Value → Heap → Prop}
    (hf : Callable P f) (hx : evs L xs = some args) (hT : Tr P f args Hc R) (ht : HTakes H Hc F) (hd : Nat.blt d n = true)
    (h : ∀ v H', R v H' → Ops P B n all rest ((d, v) :: L) (H' ++ F) Q) :
    Ops P B n all (⟨some d, .call ⟨.value (.func f), xs.toArray, tys⟩, ty, pos, after, none⟩ :: rest) L H Q :=
  Ops.step_enter rfl (fun a w ha hw => by
      have := evs_map ha.rho xs args hx
      simp [execOp, resolve, Act.eval, Deferred.ofValue, invoke, this, hf _ w]) hT ht
    fun v H' hr a ha => ⟨_, ha.put (by simpa using hd) v, h v H' hr⟩

theorem Ops.call_val {all : Array Oper} {rest : List Oper} {d : Nat} {f : FuncId} {x : Operand} {xs : List Operand} {tys : Array TypeId} {ty : TypeId} {pos : String} {after : Array Edge} {fst caps args : List Value} {Hc F : Heap} {R : Value → Heap → Prop}
    (hf : Callable P f) (hv : ev L x = some (.func (.func f) fst.toArray caps.toArray)) (hx : evs L xs = some args) (hT : Tr P f (fst ++ args ++ caps) Hc R) (ht : HTakes H Hc F) (hd : Nat.blt d n = true)
    (h : ∀ v H', R v H' → Ops P B n all rest ((d, v) :: L) (H' ++ F) Q) :
    Ops P B n all (⟨some d, .call ⟨.value x, xs.toArray, tys⟩, ty, pos, after, none⟩ :: rest) L H Q :=
  Ops.step_enter rfl (fun a w ha hw => by
      have := evs_map ha.rho xs args hx
      simp [execOp, resolve, ha.rho _ _ hv, Deferred.ofValue, invoke, this, hf _ w]) hT ht
    fun v H' hr a ha => ⟨_, ha.put (by simpa using hd) v, h v H' hr⟩

/-- The method of a name that a value of a dynamic type has: the function, and its receiver. -/
def MethodIs (P : Program) (t : TypeId) (v : Value) (name : String) (f : FuncId) (rv : Value) : Prop :=
  ∀ w, (method (P.types.size + Made.depth) t v name).run P w = .ok (f, rv) w

theorem Ops.invoke {all : Array Oper} {rest : List Oper} {d : Nat} {f : FuncId} {x : Operand} {name : String} {xs : List Operand} {tys : Array TypeId} {ty : TypeId} {pos : String} {after : Array Edge} {t : TypeId} {u rv : Value} {args : List Value} {Hc F : Heap} {R : Value → Heap → Prop}
    (hf : Callable P f) (hv : ev L x = some (.iface t u)) (hm : MethodIs P t u name f rv) (hx : evs L xs = some args) (hT : Tr P f (rv :: args) Hc R) (ht : HTakes H Hc F) (hd : Nat.blt d n = true)
    (h : ∀ v H', R v H' → Ops P B n all rest ((d, v) :: L) (H' ++ F) Q) :
    Ops P B n all (⟨some d, .call ⟨.invoke x name, xs.toArray, tys⟩, ty, pos, after, none⟩ :: rest) L H Q :=
  Ops.step_enter rfl (fun a w ha hw => by
      have h1 := evs_map ha.rho xs args hx
      simp only [execOp, resolve, Sem.run_bind, Sem.run_pure, Result.andThen_ok, Go.invoke, ha.rho _ _ hv, List.map_toArray, h1]
      have h2 : (#[Value.iface t u] ++ args.toArray)[0]? = some (Value.iface t u) := by simp
      have h3 : (#[Value.iface t u] ++ args.toArray).extract 1 (#[Value.iface t u] ++ args.toArray).size = args.toArray := by
        apply Array.ext'; simp
      simp only [h2, h3, callMethod, Sem.run_bind, run_program, Result.andThen_ok, hm w]
      simp [hf _ w]) hT ht
    fun v H' hr a ha => ⟨_, ha.put (by simpa using hd) v, h v H' hr⟩

/-! ### A function's end -/

inductive ResV (P : Program) (L : Loc) (H : Heap) : ResultVar → Value → Prop
  | tmp {t : Nat} {v : Value} : look L t = some v → ResV P L H (.tmp t) v
  | cell {a ty b off k : Nat} {d : TypeDesc} {cs vs : List Value} {T : TypeId} : look L a = some (.pointer (some ⟨b, off, none⟩)) → P.underlying ty = some d → descAgg d = true →
      (∀ w, (sizeOf ty).run P w = .ok k w) → HMem H b (cellsOf cs T) → Seg cs off k vs → ResV P L H (.cell a ty) (.agg vs.toArray)
  | cell1 {a ty b off : Nat} {d : TypeDesc} {cs : List Value} {v : Value} {T : TypeId} : look L a = some (.pointer (some ⟨b, off, none⟩)) → P.underlying ty = some d → descAgg d = false →
      HMem H b (cellsOf cs T) → cs[off]? = some v → ResV P L H (.cell a ty) v

inductive ResL (P : Program) (L : Loc) (H : Heap) : List ResultVar → List Value → Prop
  | nil : ResL P L H [] []
  | cons {r : ResultVar} {rs : List ResultVar} {v : Value} {vs : List Value} : ResV P L H r v → ResL P L H rs vs → ResL P L H (r :: rs) (v :: vs)

def oneOr : List Value → Value
  | [v] => v
  | vs => .tuple vs.toArray

def resOne (tmps : Array Value) : ResultVar → Sem Value
  | .tmp t => pure (tmps.getD t undef)
  | .cell a t => do loadVar t (← asAddr (tmps.getD a undef))

theorem run_resOne {a : Act} {w : World} (ha : Fits n L a) (hw : HasH H w) {r : ResultVar} {v : Value} (h : ResV P L H r v) : (resOne a.tmps r).run P w = .ok v w := by
  cases h with
  | tmp h => simp [resOne, Array.getD_eq_getD_getElem?, ha.slots _ _ h]
  | cell hq hu hd hs hm hc =>
    have hb := hw _ _ hm.mem
    have h1 := run_loadCells_list (P := P) w ⟨_, _, none⟩ _ fun j v hv => cell_add hb (hc.get j v hv)
    rw [hc.length] at h1
    simp [resOne, Array.getD_eq_getD_getElem?, ha.slots _ _ hq, asAddr, loadVar, run_isAgg hu, hd, hs, h1]
  | cell1 hq hu hd hm hc =>
    have hcell := cell_of (hw _ _ hm.mem) hc
    simp [resOne, Array.getD_eq_getD_getElem?, ha.slots _ _ hq, asAddr, loadVar, run_isAgg hu, hd, hcell]

theorem run_resList {a : Act} {w : World} (ha : Fits n L a) (hw : HasH H w) {rs : List ResultVar} {vs : List Value} (h : ResL P L H rs vs) : (rs.mapM (resOne a.tmps)).run P w = .ok vs w := by
  induction h with
  | nil => simp
  | cons h1 _ ih => rw [List.mapM_cons, Sem.run_bind, run_resOne ha hw h1]; simp only [Result.andThen_ok, Sem.run_bind, ih, Sem.run_pure]

theorem run_results {fn : Func} {rs : List ResultVar} {vs : List Value} {a : Act} {w : World} (hr : fn.results = rs.toArray) (ha : Fits n L a) (hw : HasH H w) (h : ResL P L H rs vs) :
    (results fn a.tmps).run P w = .ok (oneOr vs) w := by
  have h0 : results fn a.tmps = (do let vs ← fn.results.mapM (resOne a.tmps); pure (if h : vs.size = 1 then vs[0] else .tuple vs)) := rfl
  rw [h0, hr, List.mapM_toArray, Sem.run_bind, Sem.run_map, run_resList ha hw h]
  simp only [Result.andThen_ok, Sem.run_pure, List.size_toArray]
  congr 1
  match vs with
  | [] => rfl
  | [v] => rfl
  | v :: u :: vs => simp [oneOr]

/-- What a function's body must come to. -/
def endPost (P : Program) (rs : List ResultVar) (R : Value → Heap → Prop) : Post :=
  fun e L H => (e = .ret ∨ e = .normal) ∧ ∃ vs H', ResL P L H rs vs ∧ SubH H H' ∧ R (oneOr vs) H'

def initL (args : List Value) : Loc := args.zipIdx.map fun (v, i) => (i, v)

theorem look_initL_from (args : List Value) : ∀ (k i : Nat) (v : Value), look ((args.zipIdx k).map fun (v, i) => (i, v)) i = some v → k ≤ i ∧ args[i - k]? = some v := by
  induction args with
  | nil => intro k i v h; simp [look] at h
  | cons a args ih =>
    intro k i v h
    simp only [List.zipIdx_cons, List.map_cons, look_cons] at h
    split at h
    · rename_i e; subst e; cases h; simp
    · rename_i e
      obtain ⟨h1, h2⟩ := ih (k + 1) i v h
      refine ⟨by omega, ?_⟩
      rw [show i - k = (i - (k + 1)) + 1 by omega]; simpa using h2

theorem Tr.of {f : FuncId} {fn : Func} {c : Code} {args : List Value} {R : Value → Heap → Prop} {rs : List ResultVar} (hf : P.funcs[f]? = some fn) (hb : fn.body = some c) (hn : fn.ntmps = n) (hr : fn.results = rs.toArray)
    (hl : Nat.ble args.length n = true) (h : ∀ B, Wp P B n c (initL args) H (endPost P rs R)) : Tr P f args H R := by
  refine ⟨fun B w hw => ?_⟩
  refine calls_of_wp hf hb ?_
  have hl' : args.length ≤ n := Nat.le_of_ble_eq_true hl
  have ha : Fits n (initL args) { tmps := args.toArray ++ Array.replicate (fn.ntmps - args.toArray.size) undef, defers := [] } := by
    refine ⟨rfl, by simp [hn]; omega, fun i v hv => ?_⟩
    have := (look_initL_from args 0 i v hv).2
    simp only [Nat.sub_zero] at this
    have hi : i < args.length := (List.getElem?_eq_some_iff.1 this).1
    rw [Array.getElem?_append_left (by simpa using hi)]
    simpa using this
  refine wp_mono ((h B).run _ w ha hw) fun e a' w' ⟨L', H', h1, h2, h3, vs, H'', h4, h5, h6⟩ => ?_
  have hres := run_results hr h1 h2.has h4
  rcases h3 with rfl | rfl
  · exact ⟨h1.defers, _, hres, _, _, rfl, h6, h2.sub h5⟩
  · exact ⟨h1.defers, _, hres, _, _, rfl, h6, h2.sub h5⟩

end Go.Eng

namespace Go.Eng
variable {P : Program} {B : Base} {n : Nat} {L : Loc} {H : Heap} {Q : Post}

/-! ### Regions that draw their order -/

structure OpsS (P : Program) (B : Base) (n : Nat) (all : Array Oper) (tail ops : List Oper) (L : Loc) (H : Heap) (Q : Post) : Prop where
  run : ∀ a w, Fits n L a → Inv B H w → wpStill P all w (fun a' => wpList P all (postOf B n Q) tail a' w) ops a

theorem OpsS.nil {all : Array Oper} {tail : List Oper} (h : Ops P B n all tail L H Q) : OpsS P B n all tail [] L H Q :=
  ⟨fun _ _ ha hw => wpStill_nil (h.run _ _ ha hw)⟩

theorem OpsS.pure {all : Array Oper} {tail rest : List Oper} {d : Nat} {op : Op} {ty : TypeId} {pos : String} {after : Array Edge} (v : Value)
    (hp : Pure1 P L H op ty v) (hd : Nat.blt d n = true) (h : OpsS P B n all tail rest ((d, v) :: L) H Q) :
    OpsS P B n all tail (⟨some d, op, ty, pos, after, none⟩ :: rest) L H Q := by
  refine ⟨fun a w ha hw => ?_⟩
  refine wpStill_step fun K' hK => ?_
  simp only [Region.wanted, if_true]
  unfold Oper.still
  rw [hp a.eval w _ ha.rho hw.has rfl rfl, Oper.stillUpon_value]
  exact hK _ (h.run _ _ (ha.put (by simpa using hd) v) hw)

theorem OpsS.guard_run {all : Array Oper} {tail rest : List Oper} {dst : Option Nat} {op : Op} {ty : TypeId} {pos : String} {after : Array Edge} {j : Nat} {want : Bool}
    (t : Nat) (hj : dstOf all j = some t) (hg : look L t = some (.bool want))
    (h : OpsS P B n all tail (⟨dst, op, ty, pos, after, none⟩ :: rest) L H Q) :
    OpsS P B n all tail (⟨dst, op, ty, pos, after, some (j, want)⟩ :: rest) L H Q := by
  refine ⟨fun a w ha hw => ?_⟩
  have := h.run a w ha hw
  have hy := yielded_of hj hg ha
  simp only [wpStill, Region.wanted, hy, beq_self_eq_true, if_true] at this ⊢
  exact this

theorem OpsS.guard_skip {all : Array Oper} {tail rest : List Oper} {d : Nat} {op : Op} {ty : TypeId} {pos : String} {after : Array Edge} {j : Nat} {want : Bool}
    (t : Nat) (g : Bool) (hj : dstOf all j = some t) (hg : look L t = some (.bool g)) (hne : (g == want) = false) (hd : Nat.blt d n = true)
    (h : OpsS P B n all tail rest ((d, undef) :: L) H Q) :
    OpsS P B n all tail (⟨some d, op, ty, pos, after, some (j, want)⟩ :: rest) L H Q := by
  refine ⟨fun a w ha hw => ?_⟩
  have := h.run _ w (ha.put (d := d) (by simpa using hd) undef) hw
  have hy := yielded_of hj hg ha
  have hne' : (some g == some want) = false := by simpa using hne
  simp only [wpStill, Region.wanted, hy, hne', Bool.false_eq_true, if_false]
  exact this

theorem Wp.draw_tail {id : Nat} {l : List Oper} (k : Nat) (hm : P.follows .mixedOrders = true) (hB : Region.lexTailB .any l.toArray k = true)
    (h : OpsS P B n l.toArray (l.drop k) (l.take k) L H Q) : Wp P B n (.region id l.toArray true) L H Q :=
  ⟨fun a w ha hw => wp_region_still_tail k hm hB (h.run a { w with drawn := w.drawn + 1 } ha (hw.drew _))⟩

theorem Wp.draw_all {id : Nat} {l : List Oper} (hm : P.follows .mixedOrders = true) (hB : Region.lexB .any l.toArray = true)
    (h : OpsS P B n l.toArray [] l L H Q) : Wp P B n (.region id l.toArray true) L H Q :=
  ⟨fun a w ha hw => wp_region_still_lit hm hB (by simpa [wpList] using h.run a { w with drawn := w.drawn + 1 } ha (hw.drew _))⟩

end Go.Eng

namespace Go.Eng

/-! ### The facts of a program's tables, found by their numbers -/

class UStr (P : Program) (t : Nat) : Prop where out : P.underlying t = some .string
class USlice (P : Program) (t : Nat) (e : outParam Nat) : Prop where out : P.underlying t = some (.slice e)
class UPtr (P : Program) (t : Nat) (e : outParam Nat) : Prop where out : P.underlying t = some (.pointer e)
class UIface (P : Program) (t : Nat) : Prop where out : ∃ ms, P.underlying t = some (.interface ms)
class UFunc (P : Program) (t : Nat) : Prop where out : ∃ ps rs v, P.underlying t = some (.func ps rs v)
/-- Not a struct, not an array: a value of one cell. -/
class Flat (P : Program) (t : Nat) : Prop where out : ∃ d, P.underlying t = some d ∧ descAgg d = false
class Aggr (P : Program) (t : Nat) : Prop where out : ∃ d, P.underlying t = some d ∧ descAgg d = true
/-- Not an interface type. -/
class Conc (P : Program) (t : Nat) : Prop where out : ∃ d, P.underlying t = some d ∧ descIface d = false
class Siz (P : Program) (t : Nat) (k : outParam Nat) : Prop where out : ∀ w, (sizeOf t).run P w = .ok k w
class Zer (P : Program) (t : Nat) (zv : outParam Value) : Prop where out : ∀ w, (zeroValue t).run P w = .ok zv w
class FAt (P : Program) (s i : Nat) (k : outParam Nat) : Prop where out : FieldAt P s i k
class Cal (P : Program) (f : Nat) : Prop where out : Callable P f
/-- The method of a name of a dynamic type whose receiver is the value itself. -/
class Meth (P : Program) (t : Nat) (name : String) (f : outParam Nat) : Prop where out : ∀ v w, (method (P.types.size + Made.depth) t v name).run P w = .ok (f, v) w
class ElemI (P : Program) (t : Nat) (e sz by_ : outParam Nat) (i : outParam TypeInfo) (z : outParam Value) : Prop where out : ElemIs P t e sz by_ i z
class Fun (P : Program) (f : Nat) (fn : outParam Func) : Prop where out : P.funcs[f]? = some fn

variable {P : Program} {B : Base} {n : Nat} {L : Loc} {H : Heap} {Q : Post}

theorem zbm {x : Operand} {t ty : TypeId} {l : List UInt8} [ht : UStr P t] (hx : ev L x = some (str l)) : Pure1 P L H (.call ⟨.builtin .len, #[x], #[t]⟩) ty (.int .i64 l.length) := zgi ht.out hx
theorem zc0 {x y : Operand} {t ty : TypeId} {l : List UInt8} {i : Nat} (c : UInt8) [ht : UStr P t] (hx : ev L x = some (str l)) (hy : ev L y = some (.int .i64 i)) (hc : l[i]? = some c) : Pure1 P L H (.index t x y) ty (.int .u8 c.toNat) := zfa c ht.out hx hy hc
theorem zbb {x lo hi : Operand} {t ty : TypeId} {l : List UInt8} {a b : Nat} [ht : UStr P t] (hx : ev L x = some (str l)) (hlo : ev L lo = some (.int .i64 a)) (hhi : ev L hi = some (.int .i64 b)) (hab : a ≤ b) (hb : b ≤ l.length) :
    Pure1 P L H (.slice t x (some lo) (some hi) none) ty (str ((l.take b).drop a)) := zfx ht.out hx hlo hhi hab hb rfl
theorem zev {x lo : Operand} {t ty : TypeId} {l : List UInt8} {a : Nat} [ht : UStr P t] (hx : ev L x = some (str l)) (hlo : ev L lo = some (.int .i64 a)) (ha : a ≤ l.length) : Pure1 P L H (.slice t x (some lo) none none) ty (str (l.drop a)) := zfb ht.out hx hlo ha rfl
theorem zdb {x hi : Operand} {t ty : TypeId} {l : List UInt8} {b : Nat} [ht : UStr P t] (hx : ev L x = some (str l)) (hhi : ev L hi = some (.int .i64 b)) (hb : b ≤ l.length) : Pure1 P L H (.slice t x none (some hi) none) ty (str (l.take b)) := zfy ht.out hx hhi hb rfl
theorem zar {x : Operand} {t ty : TypeId} {b off : Nat} {cs : List Value} {T : TypeId} {v : Value} [hu : Flat P t] (hx : ev L x = some (.pointer (some ⟨b, off, none⟩))) (hm : HMem H b (cellsOf cs T)) (hc : cs[off]? = some v) : Pure1 P L H (.load t x) ty v := by obtain ⟨d, h1, h2⟩ := hu.out; exact zf7 h1 h2 hx hm hc
theorem zbs {x : Operand} {t ty : TypeId} {b off k : Nat} {cs vs : List Value} {T : TypeId} [hu : Aggr P t] [hs : Siz P t k] (hx : ev L x = some (.pointer (some ⟨b, off, none⟩))) (hm : HMem H b (cellsOf cs T)) (hc : Seg cs off k vs) :
    Pure1 P L H (.load t x) ty (.agg vs.toArray) := by obtain ⟨d, h1, h2⟩ := hu.out; exact zga h1 h2 hs.out hx hm hc
theorem zbp {x : Operand} {s i ty : TypeId} {b off k : Nat} [hf : FAt P s i k] (hx : ev L x = some (.pointer (some ⟨b, off, none⟩))) : Pure1 P L H (.fieldAddr s x i) ty (.pointer (some ⟨b, off + k, none⟩)) := zfs hf.out hx
theorem zbk {x : Operand} {t ty e : TypeId} {a : Option Addr} {m c : Nat} [ht : USlice P t e] (hx : ev L x = some (.slice a m c)) : Pure1 P L H (.call ⟨.builtin .len, #[x], #[t]⟩) ty (.int .i64 m) := zg6 ht.out hx
theorem zbi {x y : Operand} {t ty e : TypeId} {r off m c i sz : Nat} [ht : USlice P t e] [hs : Siz P e sz] (hx : ev L x = some (.slice (some ⟨r, off, none⟩) m c)) (hy : ev L y = some (.int .i64 i)) (hi : i < m) :
    Pure1 P L H (.indexAddr t x y) ty (.pointer (some ⟨r, off + i * sz, none⟩)) := zfl ht.out hs.out hx hy hi
theorem zee {x : Operand} {t ty e : TypeId} {base : Option Addr} {m c sz b : Nat} {hi : Operand} [ht : USlice P t e] [hs : Siz P e sz] (hx : ev L x = some (.slice base m c)) (hhi : ev L hi = some (.int .i64 b)) (hb : b ≤ c) :
    Pure1 P L H (.slice t x none (some hi) none) ty (.slice base b c) := zd4 ht.out hs.out hx hhi hb
theorem zec {x : Operand} {t ty e : TypeId} {r off m c sz a : Nat} {lo : Operand} [ht : USlice P t e] [hs : Siz P e sz] (hx : ev L x = some (.slice (some ⟨r, off, none⟩) m c)) (hlo : ev L lo = some (.int .i64 a)) (ha : a ≤ m) (hac : a < c) :
    Pure1 P L H (.slice t x (some lo) none none) ty (.slice (some ⟨r, off + a * sz, none⟩) (m - a) (c - a)) := zdw ht.out hs.out hx hlo ha hac
theorem zbu {x : Operand} {t ty : TypeId} {v : Value} [hu : Conc P t] (hx : ev L x = some v) : Pure1 P L H (.makeInterface t x) ty (.iface t v) := by obtain ⟨d, h1, h2⟩ := hu.out; exact zgb h1 h2 hx
theorem zeh {x : Operand} {xt t ty : TypeId} {v : Value} [hu : Conc P t] (hx : ev L x = some (.iface t v)) : Pure1 P L H (.typeAssert x xt t true) ty (.tuple [v, .bool true].toArray) := by obtain ⟨d, h1, h2⟩ := hu.out; exact zf0 h1 h2 hx
theorem zbv {x : Operand} {xt t ty : TypeId} {v : Value} [hu : Conc P t] (hx : ev L x = some (.iface t v)) : Pure1 P L H (.typeAssert x xt t false) ty v := by obtain ⟨d, h1, h2⟩ := hu.out; exact zgj h1 h2 hx
theorem zeu {x : Operand} {xt t t' ty : TypeId} {v z : Value} [hu : Conc P t] [hz : Zer P t z] (hx : ev L x = some (.iface t' v)) (hne : Nat.beq t' t = false) : Pure1 P L H (.typeAssert x xt t true) ty (.tuple [z, .bool false].toArray) := by obtain ⟨d, h1, h2⟩ := hu.out; exact zgn h1 h2 hz.out hx hne
/-! comparisons with nil -/
theorem zef {x : Operand} {t ty yt e : TypeId} {a : Option Addr} [hu : UPtr P t e] (hx : ev L x = some (.pointer a)) (r : Bool) (hr : a.isNone = r) : Pure1 P L H (.binOp .eql t x (.const (.pointer none)) yt) ty (.bool r) :=
  zcs hx rfl (by simp [eqGuard_at_pointer]) fun w => by subst hr; exact run_equal_step (fun w => eq_ptr_nil 9999 a hu.out w) rfl w
theorem ze1 {x : Operand} {t ty yt e : TypeId} {a : Option Addr} [hu : UPtr P t e] (hx : ev L x = some (.pointer a)) (r : Bool) (hr : (!a.isNone) = r) : Pure1 P L H (.binOp .neq t x (.const (.pointer none)) yt) ty (.bool r) :=
  zdg hx rfl (by simp [eqGuard_at_pointer]) fun w => by subst hr; exact run_nequal_step (fun w => eq_ptr_nil 9999 a hu.out w) rfl w
theorem zfw {x : Operand} {t ty yt d : TypeId} {v : Value} [hu : UIface P t] (hx : ev L x = some (.iface d v)) : Pure1 P L H (.binOp .eql t x (.const .nilIface) yt) ty (.bool false) := by
  obtain ⟨ms, hu⟩ := hu.out
  exact zcs hx rfl (by simp [eqGuard_at_iface]) fun w => run_equal_step (fun w => eq_iface_nil 9999 d v hu w) rfl w
theorem zfn {x : Operand} {t ty yt : TypeId} {f : Fn} {a c : Array Value} [hu : UFunc P t] (hx : ev L x = some (.func f a c)) : Pure1 P L H (.binOp .neq t x (.const .nilFunc) yt) ty (.bool true) := by
  obtain ⟨ps, rs, va, hu⟩ := hu.out
  exact zdg hx rfl (by simp [eqGuard_at_func]) fun w => run_nequal_step (fun w => eq_func_nil 9999 f a c hu w) rfl w
theorem zfv {x : Operand} {t ty yt : TypeId} [hu : UFunc P t] (hx : ev L x = some .nilFunc) : Pure1 P L H (.binOp .neq t x (.const .nilFunc) yt) ty (.bool false) := by
  obtain ⟨ps, rs, va, hu⟩ := hu.out
  exact zdg hx rfl (by simp [eqGuard_at_nilFunc]) fun w => run_nequal_step (fun w => eq_nilFunc 9999 hu w) rfl w
theorem zfi {x : Operand} {t ty yt e : TypeId} {a : Option Addr} {m c : Nat} [hu : USlice P t e] (hx : ev L x = some (.slice a m c)) (r : Bool) (hr : a.isNone = r) : Pure1 P L H (.binOp .eql t x (.const (.slice none 0 0)) yt) ty (.bool r) :=
  zcs hx rfl (by simp [eqGuard_at_slice]) fun w => by subst hr; exact run_equal_step (fun w => eq_slice_nil 9999 a m c hu.out w) rfl w
theorem zgc {x y : Operand} {t ty yt d : TypeId} {v : Value} [hu : UIface P t] (hx : ev L x = some .nilIface) (hy : ev L y = some (.iface d v)) : Pure1 P L H (.binOp .eql t x y yt) ty (.bool false) := by
  obtain ⟨ms, hu⟩ := hu.out
  exact zcs hx hy (eqGuard_nil_iface _ _ _ _ _ _) fun w => run_equal_step (fun w => eq_nil_iface 9999 d v hu w) rfl w
theorem zfe {all : Array Oper} {rest : List Oper} {d : Nat} {t ty : TypeId} {pos : String} {after : Array Edge} {zs : List Value} [hz : Zer P t (.agg zs.toArray)] (hd : Nat.blt d n = true)
    (h : ∀ r, Ops P B n all rest ((d, .pointer (some ⟨r, 0, none⟩)) :: L) ([(r, cellsOf zs t)] :: H) Q) :
    Ops P B n all (⟨some d, .alloc t, ty, pos, after, none⟩ :: rest) L H Q := Ops.alloc zs hz.out rfl hd h
theorem zgo {all : Array Oper} {rest : List Oper} {d : Nat} {t ty : TypeId} {pos : String} {after : Array Edge} {z : Value} [hz : Zer P t z] (hz1 : oneCell z = true) (hd : Nat.blt d n = true)
    (h : ∀ r, Ops P B n all rest ((d, .pointer (some ⟨r, 0, none⟩)) :: L) ([(r, cellsOf [z] t)] :: H) Q) :
    Ops P B n all (⟨some d, .alloc t, ty, pos, after, none⟩ :: rest) L H Q := Ops.alloc [z] hz.out (cells_one hz1) hd h
theorem zey {all : Array Oper} {rest : List Oper} {d : Nat} {t ty : TypeId} {x : Operand} {pos : String} {after : Array Edge} {v : Value} (hx : ev L x = some v) (hv : oneCell v = true) (hd : Nat.blt d n = true)
    (h : ∀ r, Ops P B n all rest ((d, .pointer (some ⟨r, 0, none⟩)) :: L) ([(r, cellsOf [v] t)] :: H) Q) :
    Ops P B n all (⟨some d, .box t x, ty, pos, after, none⟩ :: rest) L H Q := Ops.box [v] hx (cells_one hv) hd h
theorem zgl {all : Array Oper} {rest : List Oper} {d : Nat} {t ty : TypeId} {x : Operand} {pos : String} {after : Array Edge} {vs : List Value} (hx : ev L x = some (.agg vs.toArray)) (hd : Nat.blt d n = true)
    (h : ∀ r, Ops P B n all rest ((d, .pointer (some ⟨r, 0, none⟩)) :: L) ([(r, cellsOf vs t)] :: H) Q) :
    Ops P B n all (⟨some d, .box t x, ty, pos, after, none⟩ :: rest) L H Q := Ops.box vs hx rfl hd h
theorem zg3 {all : Array Oper} {rest : List Oper} {t ty : TypeId} {x y : Operand} {pos : String} {after : Array Edge} {b off : Nat} {cs cs' : List Value} {T : TypeId} {v : Value} {H' : Heap} [hs : Siz P t 1]
    (hx : ev L x = some (.pointer (some ⟨b, off, none⟩))) (hy : ev L y = some v) (hv : oneCell v = true)
    (hu : HUpd H b (cellsOf cs T) (cellsOf cs' T) H') (hc : cs.set off v = cs') (ho : Nat.blt off cs.length = true)
    (h : Ops P B n all rest L H' Q) : Ops P B n all (⟨none, .store t x y, ty, pos, after, none⟩ :: rest) L H Q := Ops.store cs' H' hs.out hx hy hv hu hc ho h

theorem Tr.start {f : FuncId} {fn : Func} [hf : Fun P f fn] {c : Code} {args : List Value} {R : Value → Heap → Prop} {rs : List ResultVar} (hb : fn.body = some c) (hn : fn.ntmps = n) (hr : fn.results = rs.toArray)
    (hl : Nat.ble args.length n = true) (h : ∀ B, Wp P B n c (initL args) H (endPost P rs R)) : Tr P f args H R := Tr.of hf.out hb hn hr hl h

end Go.Eng

namespace Go.Eng
variable {P : Program} {B : Base} {n : Nat} {L : Loc} {H : Heap} {Q : Post} {K : Loc → Heap → Prop}

/-! ### Where a piece of code ends: 'Fin e L H Q': it has ended so -/

structure Fin (e : Exit) (L : Loc) (H : Heap) (Q : Post) : Prop where
  out : Q e L H

theorem z2 {all : Array Oper} (h : Fin .normal L H Q) : Ops P B n all [] L H Q := Ops.nil h.out
theorem zd (h : Fin .normal L H Q) : Wp P B n .skip L H Q := Wp.skip h.out
theorem zw {id : Nat} (h : Fin (.exit id) L H Q) : Wp P B n (.exit id) L H Q := Wp.exit h.out
theorem ze (h : Fin .ret L H Q) : Wp P B n .ret L H Q := Wp.ret h.out
theorem z1 (h : K L H) : Fin .normal L H (andThen K Q) := ⟨h⟩
theorem zy {id : Nat} (h : Fin (.exit id) L H Q) : Fin (.exit id) L H (andThen K Q) := ⟨h.out⟩
theorem zx (h : Fin .ret L H Q) : Fin .ret L H (andThen K Q) := ⟨h.out⟩
theorem zu {id : Nat} (h : Fin .normal L H Q) : Fin .normal L H (atBlock id Q) := ⟨h.out⟩
theorem zag {id : Nat} (h : Fin .ret L H Q) : Fin .ret L H (atBlock id Q) := ⟨h.out⟩
theorem zz {id : Nat} (h : Fin .normal L H Q) : Fin (.exit id) L H (atBlock id Q) := by
  refine ⟨?_⟩
  show (bif Nat.beq id id then Q .normal L H else Q (.exit id) L H); rw [Nat.beq_refl]; exact h.out
theorem zaw {id id' : Nat} (h : Fin (.exit id') L H Q) (hne : Nat.beq id' id = false := by rfl) : Fin (.exit id') L H (atBlock id Q) := by
  refine ⟨?_⟩
  show (bif Nat.beq id' id then Q .normal L H else Q (.exit id') L H); rw [hne]; exact h.out
theorem z7 {x y : Code} (h : Wp P B n x L H (andThen (fun L' H' => Wp P B n y L' H' Q) Q)) : Wp P B n (.seq x y) L H Q := Wp.seq h
theorem zf {id : Nat} {c : Code} (h : Wp P B n c L H (atBlock id Q)) : Wp P B n (.block id c) L H Q := Wp.block h
theorem z6 {id : Nat} {l : List Oper} (h : Ops P B n l.toArray l L H Q) : Wp P B n (.region id l.toArray false) L H Q := Wp.region h
theorem zc {c : Operand} {x y : Code} {g : Bool} (h : Wp P B n x L H Q) (hc : ev L c = some (.bool g) := by rfl) (he : g = true := by with_reducible rfl) : Wp P B n (.cond c x y) L H Q := Wp.cond_true (he ▸ hc) h
theorem zb {c : Operand} {x y : Code} {g : Bool} (h : Wp P B n y L H Q) (hc : ev L c = some (.bool g) := by rfl) (he : g = false := by with_reducible rfl) : Wp P B n (.cond c x y) L H Q := Wp.cond_false (he ▸ hc) h

theorem SubH.nilR (H : Heap) : SubH H [] := ⟨H, by simp⟩

inductive SetAt : List Value → Nat → Value → List Value → Prop
  | here {c v : Value} {cs : List Value} : SetAt (c :: cs) 0 v (v :: cs)
  | there {c v : Value} {cs cs' : List Value} {o : Nat} : SetAt cs o v cs' → SetAt (c :: cs) (o + 1) v (c :: cs')

theorem SetAt.spec {cs cs' : List Value} {o : Nat} {v : Value} (h : SetAt cs o v cs') : cs.set o v = cs' ∧ o < cs.length := by
  induction h with
  | here => simp
  | there _ ih => simp [ih.1, ih.2]

/-- The same of a segment. -/
inductive SegSet : List Value → Nat → List Value → List Value → Prop
  | stop {cs : List Value} : SegSet cs 0 [] cs
  | take {c v : Value} {cs cs' vs : List Value} : SegSet cs 0 vs cs' → SegSet (c :: cs) 0 (v :: vs) (v :: cs')
  | drop {c : Value} {cs cs' vs : List Value} {o : Nat} : SegSet cs o vs cs' → SegSet (c :: cs) (o + 1) vs (c :: cs')

theorem setSeg_cons_succ (c : Value) : ∀ (vs : List Value) (cs : List Value) (o : Nat), setSeg (c :: cs) (o + 1) vs = c :: setSeg cs o vs
  | [], _, _ => rfl
  | v :: vs, cs, o => by simp only [setSeg, List.set_cons_succ]; exact setSeg_cons_succ c vs _ _

theorem SegSet.spec {cs cs' vs : List Value} {o : Nat} (h : SegSet cs o vs cs') : setSeg cs o vs = cs' ∧ o + vs.length ≤ cs.length := by
  induction h with
  | stop => simp [setSeg]
  | @take c v cs cs' vs _ ih =>
    refine ⟨?_, by have := ih.2; simp at this ⊢; exact this⟩
    simp only [setSeg, List.set_cons_zero]
    rw [setSeg_cons_succ, ih.1]
  | @drop c cs cs' vs o _ ih => exact ⟨by rw [setSeg_cons_succ, ih.1], by have := ih.2; simp; omega⟩

/-! ### The steps: one operation each -/

theorem z8 {all : Array Oper} {rest : List Oper} {d : Nat} {ty : TypeId} {pos : String} {after : Array Edge} {x : Operand} {v : Value}  (h : Ops P B n all rest ((d, v) :: L) H Q) (hx : ev L x = some v := by rfl) (hd : Nat.blt d n = true := by rfl) : Ops P B n all (⟨some d, .move x, ty, pos, after, none⟩ :: rest) L H Q := Ops.pure _ (zbr hx) hd h
theorem za7 {all : Array Oper} {tail : List Oper} {rest : List Oper} {d : Nat} {ty : TypeId} {pos : String} {after : Array Edge} {x : Operand} {v : Value}  (h : OpsS P B n all tail rest ((d, v) :: L) H Q) (hx : ev L x = some v := by rfl) (hd : Nat.blt d n = true := by rfl) : OpsS P B n all tail (⟨some d, .move x, ty, pos, after, none⟩ :: rest) L H Q := OpsS.pure _ (zbr hx) hd h
theorem za {all : Array Oper} {rest : List Oper} {d : Nat} {ty : TypeId} {pos : String} {after : Array Edge} {x : Operand} {v : Value}  (h : Ops P B n all rest ((d, v) :: L) H Q) (hx : ev L x = some v := by rfl) (hd : Nat.blt d n = true := by rfl) : Ops P B n all (⟨some d, .assign x, ty, pos, after, none⟩ :: rest) L H Q := Ops.pure _ (zbj hx) hd h
theorem zbg {all : Array Oper} {tail : List Oper} {rest : List Oper} {d : Nat} {ty : TypeId} {pos : String} {after : Array Edge} {x : Operand} {v : Value}  (h : OpsS P B n all tail rest ((d, v) :: L) H Q) (hx : ev L x = some v := by rfl) (hd : Nat.blt d n = true := by rfl) : OpsS P B n all tail (⟨some d, .assign x, ty, pos, after, none⟩ :: rest) L H Q := OpsS.pure _ (zbj hx) hd h
theorem zj {all : Array Oper} {rest : List Oper} {d : Nat} {ty : TypeId} {pos : String} {after : Array Edge} {c a b : Operand} {v : Value} {g : Bool}  (h : Ops P B n all rest ((d, v) :: L) H Q) (hc : ev L c = some (.bool g) := by rfl) (he : g = true := by with_reducible rfl) (hx : ev L a = some v := by rfl) (hd : Nat.blt d n = true := by rfl) : Ops P B n all (⟨some d, .pick c a b, ty, pos, after, none⟩ :: rest) L H Q := Ops.pure _ (ze9 (he ▸ hc) hx) hd h
theorem zb6 {all : Array Oper} {tail : List Oper} {rest : List Oper} {d : Nat} {ty : TypeId} {pos : String} {after : Array Edge} {c a b : Operand} {v : Value} {g : Bool}  (h : OpsS P B n all tail rest ((d, v) :: L) H Q) (hc : ev L c = some (.bool g) := by rfl) (he : g = true := by with_reducible rfl) (hx : ev L a = some v := by rfl) (hd : Nat.blt d n = true := by rfl) : OpsS P B n all tail (⟨some d, .pick c a b, ty, pos, after, none⟩ :: rest) L H Q := OpsS.pure _ (ze9 (he ▸ hc) hx) hd h
theorem zk {all : Array Oper} {rest : List Oper} {d : Nat} {ty : TypeId} {pos : String} {after : Array Edge} {c a b : Operand} {v : Value} {g : Bool}  (h : Ops P B n all rest ((d, v) :: L) H Q) (hc : ev L c = some (.bool g) := by rfl) (he : g = false := by with_reducible rfl) (hx : ev L b = some v := by rfl) (hd : Nat.blt d n = true := by rfl) : Ops P B n all (⟨some d, .pick c a b, ty, pos, after, none⟩ :: rest) L H Q := Ops.pure _ (zeo (he ▸ hc) hx) hd h
theorem zbc {all : Array Oper} {tail : List Oper} {rest : List Oper} {d : Nat} {ty : TypeId} {pos : String} {after : Array Edge} {c a b : Operand} {v : Value} {g : Bool}  (h : OpsS P B n all tail rest ((d, v) :: L) H Q) (hc : ev L c = some (.bool g) := by rfl) (he : g = false := by with_reducible rfl) (hx : ev L b = some v := by rfl) (hd : Nat.blt d n = true := by rfl) : OpsS P B n all tail (⟨some d, .pick c a b, ty, pos, after, none⟩ :: rest) L H Q := OpsS.pure _ (zeo (he ▸ hc) hx) hd h
theorem zb1 {all : Array Oper} {rest : List Oper} {d : Nat} {ty : TypeId} {pos : String} {after : Array Edge} {x y : Operand} {t yt : TypeId} {a b : Nat}  (h : Ops P B n all rest ((d, .int .i64 ((a + b : Nat) : Int)) :: L) H Q) (hx : ev L x = some (.int .i64 a) := by rfl) (hy : ev L y = some (.int .i64 b) := by rfl) (hb : a + b ≤ 9223372036854775807 := by omega) (hd : Nat.blt d n = true := by rfl) : Ops P B n all (⟨some d, .binOp .add t x y yt, ty, pos, after, none⟩ :: rest) L H Q := Ops.pure _ (zco hx hy rfl hb) hd h
theorem zbw {all : Array Oper} {tail : List Oper} {rest : List Oper} {d : Nat} {ty : TypeId} {pos : String} {after : Array Edge} {x y : Operand} {t yt : TypeId} {a b : Nat}  (h : OpsS P B n all tail rest ((d, .int .i64 ((a + b : Nat) : Int)) :: L) H Q) (hx : ev L x = some (.int .i64 a) := by rfl) (hy : ev L y = some (.int .i64 b) := by rfl) (hb : a + b ≤ 9223372036854775807 := by omega) (hd : Nat.blt d n = true := by rfl) : OpsS P B n all tail (⟨some d, .binOp .add t x y yt, ty, pos, after, none⟩ :: rest) L H Q := OpsS.pure _ (zco hx hy rfl hb) hd h
theorem zd6 {all : Array Oper} {rest : List Oper} {d : Nat} {ty : TypeId} {pos : String} {after : Array Edge} {x y : Operand} {t yt : TypeId} {a b : Nat}  (h : Ops P B n all rest ((d, .int .i64 ((a - b : Nat) : Int)) :: L) H Q) (hx : ev L x = some (.int .i64 a) := by rfl) (hy : ev L y = some (.int .i64 b) := by rfl) (hb : b ≤ a ∧ a ≤ 9223372036854775807 := by omega) (hd : Nat.blt d n = true := by rfl) : Ops P B n all (⟨some d, .binOp .sub t x y yt, ty, pos, after, none⟩ :: rest) L H Q := Ops.pure _ (zap hx hy (by omega) hb.2) hd h
theorem zet {all : Array Oper} {rest : List Oper} {d : Nat} {ty : TypeId} {pos : String} {after : Array Edge} {x y : Operand} {t yt : TypeId} {a b : Int}  (h : Ops P B n all rest ((d, .int .i64 (a + b)) :: L) H Q) (hx : ev L x = some (.int .i64 a) := by rfl) (hy : ev L y = some (.int .i64 b) := by rfl) (hb : -9223372036854775808 ≤ a + b ∧ a + b ≤ 9223372036854775807 := by omega) (hd : Nat.blt d n = true := by rfl) : Ops P B n all (⟨some d, .binOp .add t x y yt, ty, pos, after, none⟩ :: rest) L H Q := Ops.pure _ (zg2 hx hy hb.1 hb.2) hd h
theorem zd9 {all : Array Oper} {rest : List Oper} {d : Nat} {ty : TypeId} {pos : String} {after : Array Edge} {x y : Operand} {t yt : TypeId} {a b : Int}  (h : Ops P B n all rest ((d, .int .i64 (a - b)) :: L) H Q) (hx : ev L x = some (.int .i64 a) := by rfl) (hy : ev L y = some (.int .i64 b) := by rfl) (hb : -9223372036854775808 ≤ a - b ∧ a - b ≤ 9223372036854775807 := by omega) (hd : Nat.blt d n = true := by rfl) : Ops P B n all (⟨some d, .binOp .sub t x y yt, ty, pos, after, none⟩ :: rest) L H Q := Ops.pure _ (zes hx hy hb.1 hb.2) hd h
theorem zdr {all : Array Oper} {tail : List Oper} {rest : List Oper} {d : Nat} {ty : TypeId} {pos : String} {after : Array Edge} {x y : Operand} {t yt : TypeId} {a b : Int}  (h : OpsS P B n all tail rest ((d, .int .i64 (a - b)) :: L) H Q) (hx : ev L x = some (.int .i64 a) := by rfl) (hy : ev L y = some (.int .i64 b) := by rfl) (hb : -9223372036854775808 ≤ a - b ∧ a - b ≤ 9223372036854775807 := by omega) (hd : Nat.blt d n = true := by rfl) : OpsS P B n all tail (⟨some d, .binOp .sub t x y yt, ty, pos, after, none⟩ :: rest) L H Q := OpsS.pure _ (zes hx hy hb.1 hb.2) hd h
theorem zm {all : Array Oper} {rest : List Oper} {d : Nat} {ty : TypeId} {pos : String} {after : Array Edge} {x y : Operand} {t yt : TypeId} {k : IntKind} {a b : Int}  (h : Ops P B n all rest ((d, .bool true) :: L) H Q) (hx : ev L x = some (.int k a) := by rfl) (hy : ev L y = some (.int k b) := by rfl) (hr : a < b := by omega) (hd : Nat.blt d n = true := by rfl) : Ops P B n all (⟨some d, .binOp .lss t x y yt, ty, pos, after, none⟩ :: rest) L H Q := Ops.pure _ (zd0 hx hy true (decide_eq_true hr)) hd h
theorem zcy {all : Array Oper} {tail : List Oper} {rest : List Oper} {d : Nat} {ty : TypeId} {pos : String} {after : Array Edge} {x y : Operand} {t yt : TypeId} {k : IntKind} {a b : Int}  (h : OpsS P B n all tail rest ((d, .bool true) :: L) H Q) (hx : ev L x = some (.int k a) := by rfl) (hy : ev L y = some (.int k b) := by rfl) (hr : a < b := by omega) (hd : Nat.blt d n = true := by rfl) : OpsS P B n all tail (⟨some d, .binOp .lss t x y yt, ty, pos, after, none⟩ :: rest) L H Q := OpsS.pure _ (zd0 hx hy true (decide_eq_true hr)) hd h
theorem za4 {all : Array Oper} {rest : List Oper} {d : Nat} {ty : TypeId} {pos : String} {after : Array Edge} {x y : Operand} {t yt : TypeId} {k : IntKind} {a b : Int}  (h : Ops P B n all rest ((d, .bool false) :: L) H Q) (hx : ev L x = some (.int k a) := by rfl) (hy : ev L y = some (.int k b) := by rfl) (hr : ¬ (a < b) := by omega) (hd : Nat.blt d n = true := by rfl) : Ops P B n all (⟨some d, .binOp .lss t x y yt, ty, pos, after, none⟩ :: rest) L H Q := Ops.pure _ (zd0 hx hy false (decide_eq_false hr)) hd h
theorem zdm {all : Array Oper} {tail : List Oper} {rest : List Oper} {d : Nat} {ty : TypeId} {pos : String} {after : Array Edge} {x y : Operand} {t yt : TypeId} {k : IntKind} {a b : Int}  (h : OpsS P B n all tail rest ((d, .bool false) :: L) H Q) (hx : ev L x = some (.int k a) := by rfl) (hy : ev L y = some (.int k b) := by rfl) (hr : ¬ (a < b) := by omega) (hd : Nat.blt d n = true := by rfl) : OpsS P B n all tail (⟨some d, .binOp .lss t x y yt, ty, pos, after, none⟩ :: rest) L H Q := OpsS.pure _ (zd0 hx hy false (decide_eq_false hr)) hd h
theorem zdy {all : Array Oper} {rest : List Oper} {d : Nat} {ty : TypeId} {pos : String} {after : Array Edge} {x y : Operand} {t yt : TypeId} {k : IntKind} {a b : Int}  (h : Ops P B n all rest ((d, .bool (decide (a < b))) :: L) H Q) (hx : ev L x = some (.int k a) := by rfl) (hy : ev L y = some (.int k b) := by rfl) (hd : Nat.blt d n = true := by rfl) : Ops P B n all (⟨some d, .binOp .lss t x y yt, ty, pos, after, none⟩ :: rest) L H Q := Ops.pure _ (zd0 hx hy _ rfl) hd h
theorem zb8 {all : Array Oper} {rest : List Oper} {d : Nat} {ty : TypeId} {pos : String} {after : Array Edge} {x y : Operand} {t yt : TypeId} {k : IntKind} {a b : Int}  (h : Ops P B n all rest ((d, .bool true) :: L) H Q) (hx : ev L x = some (.int k a) := by rfl) (hy : ev L y = some (.int k b) := by rfl) (hr : a ≤ b := by omega) (hd : Nat.blt d n = true := by rfl) : Ops P B n all (⟨some d, .binOp .leq t x y yt, ty, pos, after, none⟩ :: rest) L H Q := Ops.pure _ (zdt hx hy true (decide_eq_true hr)) hd h
theorem zbt {all : Array Oper} {rest : List Oper} {d : Nat} {ty : TypeId} {pos : String} {after : Array Edge} {x y : Operand} {t yt : TypeId} {k : IntKind} {a b : Int}  (h : Ops P B n all rest ((d, .bool false) :: L) H Q) (hx : ev L x = some (.int k a) := by rfl) (hy : ev L y = some (.int k b) := by rfl) (hr : ¬ (a ≤ b) := by omega) (hd : Nat.blt d n = true := by rfl) : Ops P B n all (⟨some d, .binOp .leq t x y yt, ty, pos, after, none⟩ :: rest) L H Q := Ops.pure _ (zdt hx hy false (decide_eq_false hr)) hd h
theorem zda {all : Array Oper} {rest : List Oper} {d : Nat} {ty : TypeId} {pos : String} {after : Array Edge} {x y : Operand} {t yt : TypeId} {k : IntKind} {a b : Int}  (h : Ops P B n all rest ((d, .bool (decide (a ≤ b))) :: L) H Q) (hx : ev L x = some (.int k a) := by rfl) (hy : ev L y = some (.int k b) := by rfl) (hd : Nat.blt d n = true := by rfl) : Ops P B n all (⟨some d, .binOp .leq t x y yt, ty, pos, after, none⟩ :: rest) L H Q := Ops.pure _ (zdt hx hy _ rfl) hd h
theorem zaz {all : Array Oper} {rest : List Oper} {d : Nat} {ty : TypeId} {pos : String} {after : Array Edge} {x y : Operand} {t yt : TypeId} {k : IntKind} {a b : Int}  (h : Ops P B n all rest ((d, .bool true) :: L) H Q) (hx : ev L x = some (.int k a) := by rfl) (hy : ev L y = some (.int k b) := by rfl) (hr : b < a := by omega) (hd : Nat.blt d n = true := by rfl) : Ops P B n all (⟨some d, .binOp .gtr t x y yt, ty, pos, after, none⟩ :: rest) L H Q := Ops.pure _ (zd7 hx hy true (decide_eq_true hr)) hd h
theorem ze2 {all : Array Oper} {tail : List Oper} {rest : List Oper} {d : Nat} {ty : TypeId} {pos : String} {after : Array Edge} {x y : Operand} {t yt : TypeId} {k : IntKind} {a b : Int}  (h : OpsS P B n all tail rest ((d, .bool true) :: L) H Q) (hx : ev L x = some (.int k a) := by rfl) (hy : ev L y = some (.int k b) := by rfl) (hr : b < a := by omega) (hd : Nat.blt d n = true := by rfl) : OpsS P B n all tail (⟨some d, .binOp .gtr t x y yt, ty, pos, after, none⟩ :: rest) L H Q := OpsS.pure _ (zd7 hx hy true (decide_eq_true hr)) hd h
theorem zat {all : Array Oper} {rest : List Oper} {d : Nat} {ty : TypeId} {pos : String} {after : Array Edge} {x y : Operand} {t yt : TypeId} {k : IntKind} {a b : Int}  (h : Ops P B n all rest ((d, .bool false) :: L) H Q) (hx : ev L x = some (.int k a) := by rfl) (hy : ev L y = some (.int k b) := by rfl) (hr : ¬ (b < a) := by omega) (hd : Nat.blt d n = true := by rfl) : Ops P B n all (⟨some d, .binOp .gtr t x y yt, ty, pos, after, none⟩ :: rest) L H Q := Ops.pure _ (zd7 hx hy false (decide_eq_false hr)) hd h
theorem zeq {all : Array Oper} {tail : List Oper} {rest : List Oper} {d : Nat} {ty : TypeId} {pos : String} {after : Array Edge} {x y : Operand} {t yt : TypeId} {k : IntKind} {a b : Int}  (h : OpsS P B n all tail rest ((d, .bool false) :: L) H Q) (hx : ev L x = some (.int k a) := by rfl) (hy : ev L y = some (.int k b) := by rfl) (hr : ¬ (b < a) := by omega) (hd : Nat.blt d n = true := by rfl) : OpsS P B n all tail (⟨some d, .binOp .gtr t x y yt, ty, pos, after, none⟩ :: rest) L H Q := OpsS.pure _ (zd7 hx hy false (decide_eq_false hr)) hd h
theorem zas {all : Array Oper} {rest : List Oper} {d : Nat} {ty : TypeId} {pos : String} {after : Array Edge} {x y : Operand} {t yt : TypeId} {k : IntKind} {a b : Int}  (h : Ops P B n all rest ((d, .bool true) :: L) H Q) (hx : ev L x = some (.int k a) := by rfl) (hy : ev L y = some (.int k b) := by rfl) (hr : b ≤ a := by omega) (hd : Nat.blt d n = true := by rfl) : Ops P B n all (⟨some d, .binOp .geq t x y yt, ty, pos, after, none⟩ :: rest) L H Q := Ops.pure _ (zd1 hx hy true (decide_eq_true hr)) hd h
theorem zej {all : Array Oper} {tail : List Oper} {rest : List Oper} {d : Nat} {ty : TypeId} {pos : String} {after : Array Edge} {x y : Operand} {t yt : TypeId} {k : IntKind} {a b : Int}  (h : OpsS P B n all tail rest ((d, .bool true) :: L) H Q) (hx : ev L x = some (.int k a) := by rfl) (hy : ev L y = some (.int k b) := by rfl) (hr : b ≤ a := by omega) (hd : Nat.blt d n = true := by rfl) : OpsS P B n all tail (⟨some d, .binOp .geq t x y yt, ty, pos, after, none⟩ :: rest) L H Q := OpsS.pure _ (zd1 hx hy true (decide_eq_true hr)) hd h
theorem zab {all : Array Oper} {rest : List Oper} {d : Nat} {ty : TypeId} {pos : String} {after : Array Edge} {x y : Operand} {t yt : TypeId} {k : IntKind} {a b : Int}  (h : Ops P B n all rest ((d, .bool false) :: L) H Q) (hx : ev L x = some (.int k a) := by rfl) (hy : ev L y = some (.int k b) := by rfl) (hr : ¬ (b ≤ a) := by omega) (hd : Nat.blt d n = true := by rfl) : Ops P B n all (⟨some d, .binOp .geq t x y yt, ty, pos, after, none⟩ :: rest) L H Q := Ops.pure _ (zd1 hx hy false (decide_eq_false hr)) hd h
theorem ze3 {all : Array Oper} {tail : List Oper} {rest : List Oper} {d : Nat} {ty : TypeId} {pos : String} {after : Array Edge} {x y : Operand} {t yt : TypeId} {k : IntKind} {a b : Int}  (h : OpsS P B n all tail rest ((d, .bool false) :: L) H Q) (hx : ev L x = some (.int k a) := by rfl) (hy : ev L y = some (.int k b) := by rfl) (hr : ¬ (b ≤ a) := by omega) (hd : Nat.blt d n = true := by rfl) : OpsS P B n all tail (⟨some d, .binOp .geq t x y yt, ty, pos, after, none⟩ :: rest) L H Q := OpsS.pure _ (zd1 hx hy false (decide_eq_false hr)) hd h
theorem zeg {all : Array Oper} {rest : List Oper} {d : Nat} {ty : TypeId} {pos : String} {after : Array Edge} {x y : Operand} {t yt : TypeId} {k : IntKind} {a b : Int}  (h : Ops P B n all rest ((d, .bool (decide (b ≤ a))) :: L) H Q) (hx : ev L x = some (.int k a) := by rfl) (hy : ev L y = some (.int k b) := by rfl) (hd : Nat.blt d n = true := by rfl) : Ops P B n all (⟨some d, .binOp .geq t x y yt, ty, pos, after, none⟩ :: rest) L H Q := Ops.pure _ (zd1 hx hy _ rfl) hd h
theorem zt {all : Array Oper} {rest : List Oper} {d : Nat} {ty : TypeId} {pos : String} {after : Array Edge} {x y : Operand} {t yt : TypeId} {k : IntKind} {a b : Int}  (h : Ops P B n all rest ((d, .bool true) :: L) H Q) (hx : ev L x = some (.int k a) := by rfl) (hy : ev L y = some (.int k b) := by rfl) (hr : a = b := by omega) (hd : Nat.blt d n = true := by rfl) : Ops P B n all (⟨some d, .binOp .eql t x y yt, ty, pos, after, none⟩ :: rest) L H Q := Ops.pure _ (zcv hx hy true (decide_eq_true hr)) hd h
theorem zbd {all : Array Oper} {tail : List Oper} {rest : List Oper} {d : Nat} {ty : TypeId} {pos : String} {after : Array Edge} {x y : Operand} {t yt : TypeId} {k : IntKind} {a b : Int}  (h : OpsS P B n all tail rest ((d, .bool true) :: L) H Q) (hx : ev L x = some (.int k a) := by rfl) (hy : ev L y = some (.int k b) := by rfl) (hr : a = b := by omega) (hd : Nat.blt d n = true := by rfl) : OpsS P B n all tail (⟨some d, .binOp .eql t x y yt, ty, pos, after, none⟩ :: rest) L H Q := OpsS.pure _ (zcv hx hy true (decide_eq_true hr)) hd h
theorem zr {all : Array Oper} {rest : List Oper} {d : Nat} {ty : TypeId} {pos : String} {after : Array Edge} {x y : Operand} {t yt : TypeId} {k : IntKind} {a b : Int}  (h : Ops P B n all rest ((d, .bool false) :: L) H Q) (hx : ev L x = some (.int k a) := by rfl) (hy : ev L y = some (.int k b) := by rfl) (hr : ¬ (a = b) := by omega) (hd : Nat.blt d n = true := by rfl) : Ops P B n all (⟨some d, .binOp .eql t x y yt, ty, pos, after, none⟩ :: rest) L H Q := Ops.pure _ (zcv hx hy false (decide_eq_false hr)) hd h
theorem zc1 {all : Array Oper} {tail : List Oper} {rest : List Oper} {d : Nat} {ty : TypeId} {pos : String} {after : Array Edge} {x y : Operand} {t yt : TypeId} {k : IntKind} {a b : Int}  (h : OpsS P B n all tail rest ((d, .bool false) :: L) H Q) (hx : ev L x = some (.int k a) := by rfl) (hy : ev L y = some (.int k b) := by rfl) (hr : ¬ (a = b) := by omega) (hd : Nat.blt d n = true := by rfl) : OpsS P B n all tail (⟨some d, .binOp .eql t x y yt, ty, pos, after, none⟩ :: rest) L H Q := OpsS.pure _ (zcv hx hy false (decide_eq_false hr)) hd h
theorem zdi {all : Array Oper} {rest : List Oper} {d : Nat} {ty : TypeId} {pos : String} {after : Array Edge} {x y : Operand} {t yt : TypeId} {k : IntKind} {a b : Int}  (h : Ops P B n all rest ((d, .bool (decide (a = b))) :: L) H Q) (hx : ev L x = some (.int k a) := by rfl) (hy : ev L y = some (.int k b) := by rfl) (hd : Nat.blt d n = true := by rfl) : Ops P B n all (⟨some d, .binOp .eql t x y yt, ty, pos, after, none⟩ :: rest) L H Q := Ops.pure _ (zcv hx hy _ rfl) hd h
theorem zgq {all : Array Oper} {tail : List Oper} {rest : List Oper} {d : Nat} {ty : TypeId} {pos : String} {after : Array Edge} {x y : Operand} {t yt : TypeId} {k : IntKind} {a b : Int}  (h : OpsS P B n all tail rest ((d, .bool (decide (a = b))) :: L) H Q) (hx : ev L x = some (.int k a) := by rfl) (hy : ev L y = some (.int k b) := by rfl) (hd : Nat.blt d n = true := by rfl) : OpsS P B n all tail (⟨some d, .binOp .eql t x y yt, ty, pos, after, none⟩ :: rest) L H Q := OpsS.pure _ (zcv hx hy _ rfl) hd h
theorem zb2 {all : Array Oper} {rest : List Oper} {d : Nat} {ty : TypeId} {pos : String} {after : Array Edge} {x y : Operand} {t yt : TypeId} {k : IntKind} {a b : Int}  (h : Ops P B n all rest ((d, .bool true) :: L) H Q) (hx : ev L x = some (.int k a) := by rfl) (hy : ev L y = some (.int k b) := by rfl) (hr : ¬ a = b := by omega) (hd : Nat.blt d n = true := by rfl) : Ops P B n all (⟨some d, .binOp .neq t x y yt, ty, pos, after, none⟩ :: rest) L H Q := Ops.pure _ (zcz hx hy true (decide_eq_true hr)) hd h
theorem zci {all : Array Oper} {tail : List Oper} {rest : List Oper} {d : Nat} {ty : TypeId} {pos : String} {after : Array Edge} {x y : Operand} {t yt : TypeId} {k : IntKind} {a b : Int}  (h : OpsS P B n all tail rest ((d, .bool true) :: L) H Q) (hx : ev L x = some (.int k a) := by rfl) (hy : ev L y = some (.int k b) := by rfl) (hr : ¬ a = b := by omega) (hd : Nat.blt d n = true := by rfl) : OpsS P B n all tail (⟨some d, .binOp .neq t x y yt, ty, pos, after, none⟩ :: rest) L H Q := OpsS.pure _ (zcz hx hy true (decide_eq_true hr)) hd h
theorem zb0 {all : Array Oper} {rest : List Oper} {d : Nat} {ty : TypeId} {pos : String} {after : Array Edge} {x y : Operand} {t yt : TypeId} {k : IntKind} {a b : Int}  (h : Ops P B n all rest ((d, .bool false) :: L) H Q) (hx : ev L x = some (.int k a) := by rfl) (hy : ev L y = some (.int k b) := by rfl) (hr : ¬ (¬ a = b) := by omega) (hd : Nat.blt d n = true := by rfl) : Ops P B n all (⟨some d, .binOp .neq t x y yt, ty, pos, after, none⟩ :: rest) L H Q := Ops.pure _ (zcz hx hy false (decide_eq_false hr)) hd h
theorem zcx {all : Array Oper} {tail : List Oper} {rest : List Oper} {d : Nat} {ty : TypeId} {pos : String} {after : Array Edge} {x y : Operand} {t yt : TypeId} {k : IntKind} {a b : Int}  (h : OpsS P B n all tail rest ((d, .bool false) :: L) H Q) (hx : ev L x = some (.int k a) := by rfl) (hy : ev L y = some (.int k b) := by rfl) (hr : ¬ (¬ a = b) := by omega) (hd : Nat.blt d n = true := by rfl) : OpsS P B n all tail (⟨some d, .binOp .neq t x y yt, ty, pos, after, none⟩ :: rest) L H Q := OpsS.pure _ (zcz hx hy false (decide_eq_false hr)) hd h
theorem zdx {all : Array Oper} {rest : List Oper} {d : Nat} {ty : TypeId} {pos : String} {after : Array Edge} {x y : Operand} {t yt : TypeId} {k : IntKind} {a b : Int}  (h : Ops P B n all rest ((d, .bool (decide (¬ a = b))) :: L) H Q) (hx : ev L x = some (.int k a) := by rfl) (hy : ev L y = some (.int k b) := by rfl) (hd : Nat.blt d n = true := by rfl) : Ops P B n all (⟨some d, .binOp .neq t x y yt, ty, pos, after, none⟩ :: rest) L H Q := Ops.pure _ (zcz hx hy _ rfl) hd h
theorem zaq {all : Array Oper} {rest : List Oper} {d : Nat} {ty : TypeId} {pos : String} {after : Array Edge} {x : Operand} {t : TypeId} {g : Bool}  (h : Ops P B n all rest ((d, .bool false) :: L) H Q) (hx : ev L x = some (.bool g) := by rfl) (he : g = true := by with_reducible rfl) (hd : Nat.blt d n = true := by rfl) : Ops P B n all (⟨some d, .unOp .not t x, ty, pos, after, none⟩ :: rest) L H Q := Ops.pure _ (ze7 (b := true) (he ▸ hx) false rfl) hd h
theorem zam {all : Array Oper} {rest : List Oper} {d : Nat} {ty : TypeId} {pos : String} {after : Array Edge} {x : Operand} {t : TypeId} {g : Bool}  (h : Ops P B n all rest ((d, .bool true) :: L) H Q) (hx : ev L x = some (.bool g) := by rfl) (he : g = false := by with_reducible rfl) (hd : Nat.blt d n = true := by rfl) : Ops P B n all (⟨some d, .unOp .not t x, ty, pos, after, none⟩ :: rest) L H Q := Ops.pure _ (ze7 (b := false) (he ▸ hx) true rfl) hd h
theorem zg {all : Array Oper} {rest : List Oper} {d : Nat} {ty : TypeId} {pos : String} {after : Array Edge} {x : Operand} {t : TypeId} {l : List UInt8} [ht : UStr P t] (h : Ops P B n all rest ((d, .int .i64 l.length) :: L) H Q) (hx : ev L x = some (str l) := by rfl) (hd : Nat.blt d n = true := by rfl) : Ops P B n all (⟨some d, .call ⟨.builtin .len, #[x], #[t]⟩, ty, pos, after, none⟩ :: rest) L H Q := Ops.pure _ (zbm hx) hd h
theorem zcj {all : Array Oper} {tail : List Oper} {rest : List Oper} {d : Nat} {ty : TypeId} {pos : String} {after : Array Edge} {x : Operand} {t : TypeId} {l : List UInt8} [ht : UStr P t] (h : OpsS P B n all tail rest ((d, .int .i64 l.length) :: L) H Q) (hx : ev L x = some (str l) := by rfl) (hd : Nat.blt d n = true := by rfl) : OpsS P B n all tail (⟨some d, .call ⟨.builtin .len, #[x], #[t]⟩, ty, pos, after, none⟩ :: rest) L H Q := OpsS.pure _ (zbm hx) hd h
theorem zi {all : Array Oper} {rest : List Oper} {d : Nat} {ty : TypeId} {pos : String} {after : Array Edge} {x y : Operand} {t : TypeId} {l : List UInt8} {i : Nat} {c : UInt8} [ht : UStr P t] (h : Ops P B n all rest ((d, .int .u8 c.toNat) :: L) H Q) (hx : ev L x = some (str l) := by rfl) (hy : ev L y = some (.int .i64 i) := by rfl) (hc : l[i]? = some c := by assumption) (hd : Nat.blt d n = true := by rfl) : Ops P B n all (⟨some d, .index t x y, ty, pos, after, none⟩ :: rest) L H Q := Ops.pure _ (zc0 c hx hy hc) hd h
theorem zbh {all : Array Oper} {tail : List Oper} {rest : List Oper} {d : Nat} {ty : TypeId} {pos : String} {after : Array Edge} {x y : Operand} {t : TypeId} {l : List UInt8} {i : Nat} {c : UInt8} [ht : UStr P t] (h : OpsS P B n all tail rest ((d, .int .u8 c.toNat) :: L) H Q) (hx : ev L x = some (str l) := by rfl) (hy : ev L y = some (.int .i64 i) := by rfl) (hc : l[i]? = some c := by assumption) (hd : Nat.blt d n = true := by rfl) : OpsS P B n all tail (⟨some d, .index t x y, ty, pos, after, none⟩ :: rest) L H Q := OpsS.pure _ (zc0 c hx hy hc) hd h
theorem zav {all : Array Oper} {rest : List Oper} {d : Nat} {ty : TypeId} {pos : String} {after : Array Edge} {x lo hi : Operand} {t : TypeId} {l : List UInt8} {a b : Nat} [ht : UStr P t] (h : Ops P B n all rest ((d, str ((l.take b).drop a)) :: L) H Q) (hx : ev L x = some (str l) := by rfl) (hlo : ev L lo = some (.int .i64 a) := by rfl) (hhi : ev L hi = some (.int .i64 b) := by rfl) (hab : a ≤ b ∧ b ≤ l.length := by omega) (hd : Nat.blt d n = true := by rfl) : Ops P B n all (⟨some d, .slice t x (some lo) (some hi) none, ty, pos, after, none⟩ :: rest) L H Q := Ops.pure _ (zbb hx hlo hhi hab.1 hab.2) hd h
theorem zba {all : Array Oper} {rest : List Oper} {d : Nat} {ty : TypeId} {pos : String} {after : Array Edge} {x lo : Operand} {t : TypeId} {l : List UInt8} {a : Nat} [ht : UStr P t] (h : Ops P B n all rest ((d, str (l.drop a)) :: L) H Q) (hx : ev L x = some (str l) := by rfl) (hlo : ev L lo = some (.int .i64 a) := by rfl) (ha : a ≤ l.length := by omega) (hd : Nat.blt d n = true := by rfl) : Ops P B n all (⟨some d, .slice t x (some lo) none none, ty, pos, after, none⟩ :: rest) L H Q := Ops.pure _ (zev hx hlo ha) hd h
theorem zd8 {all : Array Oper} {tail : List Oper} {rest : List Oper} {d : Nat} {ty : TypeId} {pos : String} {after : Array Edge} {x lo : Operand} {t : TypeId} {l : List UInt8} {a : Nat} [ht : UStr P t] (h : OpsS P B n all tail rest ((d, str (l.drop a)) :: L) H Q) (hx : ev L x = some (str l) := by rfl) (hlo : ev L lo = some (.int .i64 a) := by rfl) (ha : a ≤ l.length := by omega) (hd : Nat.blt d n = true := by rfl) : OpsS P B n all tail (⟨some d, .slice t x (some lo) none none, ty, pos, after, none⟩ :: rest) L H Q := OpsS.pure _ (zev hx hlo ha) hd h
theorem zcc {all : Array Oper} {rest : List Oper} {d : Nat} {ty : TypeId} {pos : String} {after : Array Edge} {x hi : Operand} {t : TypeId} {l : List UInt8} {b : Nat} [ht : UStr P t] (h : Ops P B n all rest ((d, str (l.take b)) :: L) H Q) (hx : ev L x = some (str l) := by rfl) (hhi : ev L hi = some (.int .i64 b) := by rfl) (hb : b ≤ l.length := by omega) (hd : Nat.blt d n = true := by rfl) : Ops P B n all (⟨some d, .slice t x none (some hi) none, ty, pos, after, none⟩ :: rest) L H Q := Ops.pure _ (zdb hx hhi hb) hd h
theorem zed {all : Array Oper} {tail : List Oper} {rest : List Oper} {d : Nat} {ty : TypeId} {pos : String} {after : Array Edge} {x hi : Operand} {t : TypeId} {l : List UInt8} {b : Nat} [ht : UStr P t] (h : OpsS P B n all tail rest ((d, str (l.take b)) :: L) H Q) (hx : ev L x = some (str l) := by rfl) (hhi : ev L hi = some (.int .i64 b) := by rfl) (hb : b ≤ l.length := by omega) (hd : Nat.blt d n = true := by rfl) : OpsS P B n all tail (⟨some d, .slice t x none (some hi) none, ty, pos, after, none⟩ :: rest) L H Q := OpsS.pure _ (zdb hx hhi hb) hd h
theorem zdd {all : Array Oper} {rest : List Oper} {d : Nat} {ty : TypeId} {pos : String} {after : Array Edge} {x y : Operand} {t yt : TypeId} {a b : List UInt8}  (h : Ops P B n all rest ((d, .bool (decide (a = b))) :: L) H Q) (hx : ev L x = some (str a) := by rfl) (hy : ev L y = some (str b) := by rfl) (hd : Nat.blt d n = true := by rfl) : Ops P B n all (⟨some d, .binOp .eql t x y yt, ty, pos, after, none⟩ :: rest) L H Q := Ops.pure _ (zdp hx hy _ rfl) hd h
theorem zc8 {all : Array Oper} {rest : List Oper} {d : Nat} {ty : TypeId} {pos : String} {after : Array Edge} {x y : Operand} {t yt : TypeId} {a b : List UInt8}  (h : Ops P B n all rest ((d, .bool true) :: L) H Q) (hx : ev L x = some (str a) := by rfl) (hy : ev L y = some (str b) := by rfl) (hr : a = b := by first | rfl | assumption) (hd : Nat.blt d n = true := by rfl) : Ops P B n all (⟨some d, .binOp .eql t x y yt, ty, pos, after, none⟩ :: rest) L H Q := Ops.pure _ (zdp hx hy _ (decide_eq_true hr)) hd h
theorem zce {all : Array Oper} {rest : List Oper} {d : Nat} {ty : TypeId} {pos : String} {after : Array Edge} {x y : Operand} {t yt : TypeId} {a b : List UInt8}  (h : Ops P B n all rest ((d, .bool false) :: L) H Q) (hx : ev L x = some (str a) := by rfl) (hy : ev L y = some (str b) := by rfl) (hr : ¬ a = b := by assumption) (hd : Nat.blt d n = true := by rfl) : Ops P B n all (⟨some d, .binOp .eql t x y yt, ty, pos, after, none⟩ :: rest) L H Q := Ops.pure _ (zdp hx hy _ (decide_eq_false hr)) hd h
theorem zcd {all : Array Oper} {rest : List Oper} {d : Nat} {ty : TypeId} {pos : String} {after : Array Edge} {x y : Operand} {t yt : TypeId} {a b : List UInt8}  (h : Ops P B n all rest ((d, .bool true) :: L) H Q) (hx : ev L x = some (str a) := by rfl) (hy : ev L y = some (str b) := by rfl) (hr : ¬ a = b := by assumption) (hd : Nat.blt d n = true := by rfl) : Ops P B n all (⟨some d, .binOp .neq t x y yt, ty, pos, after, none⟩ :: rest) L H Q := Ops.pure _ (ze5 hx hy _ (decide_eq_true hr)) hd h
theorem zd2 {all : Array Oper} {rest : List Oper} {d : Nat} {ty : TypeId} {pos : String} {after : Array Edge} {x y : Operand} {t yt : TypeId} {a b : List UInt8}  (h : Ops P B n all rest ((d, .bool false) :: L) H Q) (hx : ev L x = some (str a) := by rfl) (hy : ev L y = some (str b) := by rfl) (hr : a = b := by first | rfl | assumption) (hd : Nat.blt d n = true := by rfl) : Ops P B n all (⟨some d, .binOp .neq t x y yt, ty, pos, after, none⟩ :: rest) L H Q := Ops.pure _ (ze5 hx hy _ (decide_eq_false (not_not_intro hr))) hd h
theorem zf5 {all : Array Oper} {rest : List Oper} {d : Nat} {ty : TypeId} {pos : String} {after : Array Edge} {x y : Operand} {t yt : TypeId} {a b : List UInt8}  (h : Ops P B n all rest ((d, str (a ++ b)) :: L) H Q) (hx : ev L x = some (str a) := by rfl) (hy : ev L y = some (str b) := by rfl) (hn : a.length + b.length ≤ 9223372036854775807 := by omega) (hd : Nat.blt d n = true := by rfl) : Ops P B n all (⟨some d, .binOp .add t x y yt, ty, pos, after, none⟩ :: rest) L H Q := Ops.pure _ (zdq hx hy rfl hn) hd h
theorem zn {all : Array Oper} {rest : List Oper} {d : Nat} {ty : TypeId} {pos : String} {after : Array Edge} {x : Operand} {t : TypeId} {b off : Nat} {cs : List Value} {T : TypeId} {v : Value} [hu : Flat P t] (h : Ops P B n all rest ((d, v) :: L) H Q) (hx : ev L x = some (.pointer (some ⟨b, off, none⟩)) := by rfl) (hm : HMem H b (cellsOf cs T) := by repeat (first | exact HMem.here | apply HMem.skip | apply HMem.there)) (hc : cs[off]? = some v := by rfl) (hd : Nat.blt d n = true := by rfl) : Ops P B n all (⟨some d, .load t x, ty, pos, after, none⟩ :: rest) L H Q := Ops.pure _ (zar hx hm hc) hd h
theorem za3 {all : Array Oper} {tail : List Oper} {rest : List Oper} {d : Nat} {ty : TypeId} {pos : String} {after : Array Edge} {x : Operand} {t : TypeId} {b off : Nat} {cs : List Value} {T : TypeId} {v : Value} [hu : Flat P t] (h : OpsS P B n all tail rest ((d, v) :: L) H Q) (hx : ev L x = some (.pointer (some ⟨b, off, none⟩)) := by rfl) (hm : HMem H b (cellsOf cs T) := by repeat (first | exact HMem.here | apply HMem.skip | apply HMem.there)) (hc : cs[off]? = some v := by rfl) (hd : Nat.blt d n = true := by rfl) : OpsS P B n all tail (⟨some d, .load t x, ty, pos, after, none⟩ :: rest) L H Q := OpsS.pure _ (zar hx hm hc) hd h
theorem zak {all : Array Oper} {rest : List Oper} {d : Nat} {ty : TypeId} {pos : String} {after : Array Edge} {x : Operand} {t : TypeId} {b off k : Nat} {cs vs : List Value} {T : TypeId} [hu : Aggr P t] [hs : Siz P t k] (h : Ops P B n all rest ((d, .agg vs.toArray) :: L) H Q) (hx : ev L x = some (.pointer (some ⟨b, off, none⟩)) := by rfl) (hm : HMem H b (cellsOf cs T) := by repeat (first | exact HMem.here | apply HMem.skip | apply HMem.there)) (hc : Seg cs off k vs := by repeat constructor) (hd : Nat.blt d n = true := by rfl) : Ops P B n all (⟨some d, .load t x, ty, pos, after, none⟩ :: rest) L H Q := Ops.pure _ (zbs hx hm hc) hd h
theorem zfd {all : Array Oper} {tail : List Oper} {rest : List Oper} {d : Nat} {ty : TypeId} {pos : String} {after : Array Edge} {x : Operand} {t : TypeId} {b off k : Nat} {cs vs : List Value} {T : TypeId} [hu : Aggr P t] [hs : Siz P t k] (h : OpsS P B n all tail rest ((d, .agg vs.toArray) :: L) H Q) (hx : ev L x = some (.pointer (some ⟨b, off, none⟩)) := by rfl) (hm : HMem H b (cellsOf cs T) := by repeat (first | exact HMem.here | apply HMem.skip | apply HMem.there)) (hc : Seg cs off k vs := by repeat constructor) (hd : Nat.blt d n = true := by rfl) : OpsS P B n all tail (⟨some d, .load t x, ty, pos, after, none⟩ :: rest) L H Q := OpsS.pure _ (zbs hx hm hc) hd h
theorem zp {all : Array Oper} {rest : List Oper} {d : Nat} {ty : TypeId} {pos : String} {after : Array Edge} {x : Operand} {s i : TypeId} {b off k : Nat} [hf : FAt P s i k] (h : Ops P B n all rest ((d, .pointer (some ⟨b, off + k, none⟩)) :: L) H Q) (hx : ev L x = some (.pointer (some ⟨b, off, none⟩)) := by rfl) (hd : Nat.blt d n = true := by rfl) : Ops P B n all (⟨some d, .fieldAddr s x i, ty, pos, after, none⟩ :: rest) L H Q := Ops.pure _ (zbp hx) hd h
theorem zae {all : Array Oper} {tail : List Oper} {rest : List Oper} {d : Nat} {ty : TypeId} {pos : String} {after : Array Edge} {x : Operand} {s i : TypeId} {b off k : Nat} [hf : FAt P s i k] (h : OpsS P B n all tail rest ((d, .pointer (some ⟨b, off + k, none⟩)) :: L) H Q) (hx : ev L x = some (.pointer (some ⟨b, off, none⟩)) := by rfl) (hd : Nat.blt d n = true := by rfl) : OpsS P B n all tail (⟨some d, .fieldAddr s x i, ty, pos, after, none⟩ :: rest) L H Q := OpsS.pure _ (zbp hx) hd h
theorem zq {all : Array Oper} {rest : List Oper} {d : Nat} {ty : TypeId} {pos : String} {after : Array Edge} {x : Operand} {a : Addr}  (h : Ops P B n all rest ((d, .pointer (some a)) :: L) H Q) (hx : ev L x = some (.pointer (some a)) := by rfl) (hd : Nat.blt d n = true := by rfl) : Ops P B n all (⟨some d, .nilCheck x, ty, pos, after, none⟩ :: rest) L H Q := Ops.pure _ (zbo hx) hd h
theorem zad {all : Array Oper} {tail : List Oper} {rest : List Oper} {d : Nat} {ty : TypeId} {pos : String} {after : Array Edge} {x : Operand} {a : Addr}  (h : OpsS P B n all tail rest ((d, .pointer (some a)) :: L) H Q) (hx : ev L x = some (.pointer (some a)) := by rfl) (hd : Nat.blt d n = true := by rfl) : OpsS P B n all tail (⟨some d, .nilCheck x, ty, pos, after, none⟩ :: rest) L H Q := OpsS.pure _ (zbo hx) hd h
theorem zah {all : Array Oper} {rest : List Oper} {d : Nat} {ty : TypeId} {pos : String} {after : Array Edge} {x : Operand} {t e : TypeId} {a : Option Addr} {m c : Nat} [ht : USlice P t e] (h : Ops P B n all rest ((d, .int .i64 m) :: L) H Q) (hx : ev L x = some (.slice a m c) := by rfl) (hd : Nat.blt d n = true := by rfl) : Ops P B n all (⟨some d, .call ⟨.builtin .len, #[x], #[t]⟩, ty, pos, after, none⟩ :: rest) L H Q := Ops.pure _ (zbk hx) hd h
theorem zb5 {all : Array Oper} {tail : List Oper} {rest : List Oper} {d : Nat} {ty : TypeId} {pos : String} {after : Array Edge} {x : Operand} {t e : TypeId} {a : Option Addr} {m c : Nat} [ht : USlice P t e] (h : OpsS P B n all tail rest ((d, .int .i64 m) :: L) H Q) (hx : ev L x = some (.slice a m c) := by rfl) (hd : Nat.blt d n = true := by rfl) : OpsS P B n all tail (⟨some d, .call ⟨.builtin .len, #[x], #[t]⟩, ty, pos, after, none⟩ :: rest) L H Q := OpsS.pure _ (zbk hx) hd h
theorem zal {all : Array Oper} {rest : List Oper} {d : Nat} {ty : TypeId} {pos : String} {after : Array Edge} {x y : Operand} {t e : TypeId} {r off m c i sz : Nat} [ht : USlice P t e] [hs : Siz P e sz] (h : Ops P B n all rest ((d, .pointer (some ⟨r, off + i * sz, none⟩)) :: L) H Q) (hx : ev L x = some (.slice (some ⟨r, off, none⟩) m c) := by rfl) (hy : ev L y = some (.int .i64 i) := by rfl) (hi : i < m := by omega) (hd : Nat.blt d n = true := by rfl) : Ops P B n all (⟨some d, .indexAddr t x y, ty, pos, after, none⟩ :: rest) L H Q := Ops.pure _ (zbi hx hy hi) hd h
theorem zb9 {all : Array Oper} {tail : List Oper} {rest : List Oper} {d : Nat} {ty : TypeId} {pos : String} {after : Array Edge} {x y : Operand} {t e : TypeId} {r off m c i sz : Nat} [ht : USlice P t e] [hs : Siz P e sz] (h : OpsS P B n all tail rest ((d, .pointer (some ⟨r, off + i * sz, none⟩)) :: L) H Q) (hx : ev L x = some (.slice (some ⟨r, off, none⟩) m c) := by rfl) (hy : ev L y = some (.int .i64 i) := by rfl) (hi : i < m := by omega) (hd : Nat.blt d n = true := by rfl) : OpsS P B n all tail (⟨some d, .indexAddr t x y, ty, pos, after, none⟩ :: rest) L H Q := OpsS.pure _ (zbi hx hy hi) hd h
theorem zch {all : Array Oper} {rest : List Oper} {d : Nat} {ty : TypeId} {pos : String} {after : Array Edge} {x hi : Operand} {t e : TypeId} {base : Option Addr} {m c sz b : Nat} [ht : USlice P t e] [hs : Siz P e sz] (h : Ops P B n all rest ((d, .slice base b c) :: L) H Q) (hx : ev L x = some (.slice base m c) := by rfl) (hhi : ev L hi = some (.int .i64 b) := by rfl) (hb : b ≤ c := by omega) (hd : Nat.blt d n = true := by rfl) : Ops P B n all (⟨some d, .slice t x none (some hi) none, ty, pos, after, none⟩ :: rest) L H Q := Ops.pure _ (zee hx hhi hb) hd h
theorem zdo {all : Array Oper} {tail : List Oper} {rest : List Oper} {d : Nat} {ty : TypeId} {pos : String} {after : Array Edge} {x hi : Operand} {t e : TypeId} {base : Option Addr} {m c sz b : Nat} [ht : USlice P t e] [hs : Siz P e sz] (h : OpsS P B n all tail rest ((d, .slice base b c) :: L) H Q) (hx : ev L x = some (.slice base m c) := by rfl) (hhi : ev L hi = some (.int .i64 b) := by rfl) (hb : b ≤ c := by omega) (hd : Nat.blt d n = true := by rfl) : OpsS P B n all tail (⟨some d, .slice t x none (some hi) none, ty, pos, after, none⟩ :: rest) L H Q := OpsS.pure _ (zee hx hhi hb) hd h
theorem zcq {all : Array Oper} {rest : List Oper} {d : Nat} {ty : TypeId} {pos : String} {after : Array Edge} {x lo : Operand} {t e : TypeId} {r off m c sz a : Nat} [ht : USlice P t e] [hs : Siz P e sz] (h : Ops P B n all rest ((d, .slice (some ⟨r, off + a * sz, none⟩) (m - a) (c - a)) :: L) H Q) (hx : ev L x = some (.slice (some ⟨r, off, none⟩) m c) := by rfl) (hlo : ev L lo = some (.int .i64 a) := by rfl) (ha : a ≤ m ∧ a < c := by omega) (hd : Nat.blt d n = true := by rfl) : Ops P B n all (⟨some d, .slice t x (some lo) none none, ty, pos, after, none⟩ :: rest) L H Q := Ops.pure _ (zec hx hlo ha.1 ha.2) hd h
theorem zf2 {all : Array Oper} {tail : List Oper} {rest : List Oper} {d : Nat} {ty : TypeId} {pos : String} {after : Array Edge} {x lo : Operand} {t e : TypeId} {r off m c sz a : Nat} [ht : USlice P t e] [hs : Siz P e sz] (h : OpsS P B n all tail rest ((d, .slice (some ⟨r, off + a * sz, none⟩) (m - a) (c - a)) :: L) H Q) (hx : ev L x = some (.slice (some ⟨r, off, none⟩) m c) := by rfl) (hlo : ev L lo = some (.int .i64 a) := by rfl) (ha : a ≤ m ∧ a < c := by omega) (hd : Nat.blt d n = true := by rfl) : OpsS P B n all tail (⟨some d, .slice t x (some lo) none none, ty, pos, after, none⟩ :: rest) L H Q := OpsS.pure _ (zec hx hlo ha.1 ha.2) hd h
theorem zan {all : Array Oper} {rest : List Oper} {d : Nat} {ty : TypeId} {pos : String} {after : Array Edge} {x : Operand} {t : TypeId} {v : Value} [hu : Conc P t] (h : Ops P B n all rest ((d, .iface t v) :: L) H Q) (hx : ev L x = some v := by rfl) (hd : Nat.blt d n = true := by rfl) : Ops P B n all (⟨some d, .makeInterface t x, ty, pos, after, none⟩ :: rest) L H Q := Ops.pure _ (zbu hx) hd h
theorem ze4 {all : Array Oper} {rest : List Oper} {d : Nat} {ty : TypeId} {pos : String} {after : Array Edge} {f : FuncId} {x : Operand} {v : Value}  (h : Ops P B n all rest ((d, .func (.func f) #[v] #[]) :: L) H Q) (hx : ev L x = some v := by rfl) (hd : Nat.blt d n = true := by rfl) : Ops P B n all (⟨some d, .makeFunc (.func f) #[x] #[], ty, pos, after, none⟩ :: rest) L H Q := Ops.pure _ (zg0 hx) hd h
theorem zeb {all : Array Oper} {rest : List Oper} {d : Nat} {ty : TypeId} {pos : String} {after : Array Edge} {f : FuncId} {xs : List Operand} {vs : List Value}  (h : Ops P B n all rest ((d, .func (.func f) #[] vs.toArray) :: L) H Q) (hx : evs L xs = some vs := by rfl) (hd : Nat.blt d n = true := by rfl) : Ops P B n all (⟨some d, .makeFunc (.func f) #[] xs.toArray, ty, pos, after, none⟩ :: rest) L H Q := Ops.pure _ (zfo hx) hd h
theorem za0 {all : Array Oper} {rest : List Oper} {d : Nat} {ty : TypeId} {pos : String} {after : Array Edge} {x : Operand} {i : Nat} {vs : List Value} {v : Value}  (h : Ops P B n all rest ((d, v) :: L) H Q) (hx : ev L x = some (.tuple vs.toArray) := by rfl) (hv : vs[i]? = some v := by rfl) (hd : Nat.blt d n = true := by rfl) : Ops P B n all (⟨some d, .extract x i, ty, pos, after, none⟩ :: rest) L H Q := Ops.pure _ (zbe hx hv) hd h
theorem zen {all : Array Oper} {tail : List Oper} {rest : List Oper} {d : Nat} {ty : TypeId} {pos : String} {after : Array Edge} {x : Operand} {i : Nat} {vs : List Value} {v : Value}  (h : OpsS P B n all tail rest ((d, v) :: L) H Q) (hx : ev L x = some (.tuple vs.toArray) := by rfl) (hv : vs[i]? = some v := by rfl) (hd : Nat.blt d n = true := by rfl) : OpsS P B n all tail (⟨some d, .extract x i, ty, pos, after, none⟩ :: rest) L H Q := OpsS.pure _ (zbe hx hv) hd h
theorem zcf {all : Array Oper} {rest : List Oper} {d : Nat} {ty : TypeId} {pos : String} {after : Array Edge} {x : Operand} {xt t : TypeId} {v : Value} [hu : Conc P t] (h : Ops P B n all rest ((d, .tuple [v, .bool true].toArray) :: L) H Q) (hx : ev L x = some (.iface t v) := by rfl) (hd : Nat.blt d n = true := by rfl) : Ops P B n all (⟨some d, .typeAssert x xt t true, ty, pos, after, none⟩ :: rest) L H Q := Ops.pure _ (zeh hx) hd h
theorem zg1 {all : Array Oper} {tail : List Oper} {rest : List Oper} {d : Nat} {ty : TypeId} {pos : String} {after : Array Edge} {x : Operand} {xt t : TypeId} {v : Value} [hu : Conc P t] (h : OpsS P B n all tail rest ((d, .tuple [v, .bool true].toArray) :: L) H Q) (hx : ev L x = some (.iface t v) := by rfl) (hd : Nat.blt d n = true := by rfl) : OpsS P B n all tail (⟨some d, .typeAssert x xt t true, ty, pos, after, none⟩ :: rest) L H Q := OpsS.pure _ (zeh hx) hd h
theorem zcm {all : Array Oper} {rest : List Oper} {d : Nat} {ty : TypeId} {pos : String} {after : Array Edge} {x : Operand} {xt t : TypeId} {v : Value} [hu : Conc P t] (h : Ops P B n all rest ((d, v) :: L) H Q) (hx : ev L x = some (.iface t v) := by rfl) (hd : Nat.blt d n = true := by rfl) : Ops P B n all (⟨some d, .typeAssert x xt t false, ty, pos, after, none⟩ :: rest) L H Q := Ops.pure _ (zbv hx) hd h
theorem zby {all : Array Oper} {rest : List Oper} {d : Nat} {ty : TypeId} {pos : String} {after : Array Edge} {x : Operand} {xt t t2 : TypeId} {v z : Value} [hu : Conc P t] [hz : Zer P t z] (h : Ops P B n all rest ((d, .tuple [z, .bool false].toArray) :: L) H Q) (hx : ev L x = some (.iface t2 v) := by rfl) (hne : Nat.beq t2 t = false := by rfl) (hd : Nat.blt d n = true := by rfl) : Ops P B n all (⟨some d, .typeAssert x xt t true, ty, pos, after, none⟩ :: rest) L H Q := Ops.pure _ (zeu hx hne) hd h
theorem zfj {all : Array Oper} {tail : List Oper} {rest : List Oper} {d : Nat} {ty : TypeId} {pos : String} {after : Array Edge} {x : Operand} {xt t t2 : TypeId} {v z : Value} [hu : Conc P t] [hz : Zer P t z] (h : OpsS P B n all tail rest ((d, .tuple [z, .bool false].toArray) :: L) H Q) (hx : ev L x = some (.iface t2 v) := by rfl) (hne : Nat.beq t2 t = false := by rfl) (hd : Nat.blt d n = true := by rfl) : OpsS P B n all tail (⟨some d, .typeAssert x xt t true, ty, pos, after, none⟩ :: rest) L H Q := OpsS.pure _ (zeu hx hne) hd h
theorem zer {all : Array Oper} {rest : List Oper} {d : Nat} {ty : TypeId} {pos : String} {after : Array Edge} {x : Operand} {t yt dt : TypeId} {v : Value} [hu : UIface P t] (h : Ops P B n all rest ((d, .bool false) :: L) H Q) (hx : ev L x = some (.iface dt v) := by rfl) (hd : Nat.blt d n = true := by rfl) : Ops P B n all (⟨some d, .binOp .eql t x (.const .nilIface) yt, ty, pos, after, none⟩ :: rest) L H Q := Ops.pure _ (zfw hx) hd h
theorem zfg {all : Array Oper} {rest : List Oper} {d : Nat} {ty : TypeId} {pos : String} {after : Array Edge} {x : Operand} {t yt : TypeId} {f : Fn} {a c : Array Value} [hu : UFunc P t] (h : Ops P B n all rest ((d, .bool true) :: L) H Q) (hx : ev L x = some (.func f a c) := by rfl) (hd : Nat.blt d n = true := by rfl) : Ops P B n all (⟨some d, .binOp .neq t x (.const .nilFunc) yt, ty, pos, after, none⟩ :: rest) L H Q := Ops.pure _ (zfn hx) hd h
theorem zg8 {all : Array Oper} {rest : List Oper} {d : Nat} {ty : TypeId} {pos : String} {after : Array Edge} {x : Operand} {t yt : TypeId} [hu : UFunc P t] (h : Ops P B n all rest ((d, .bool false) :: L) H Q) (hx : ev L x = some .nilFunc := by rfl) (hd : Nat.blt d n = true := by rfl) : Ops P B n all (⟨some d, .binOp .neq t x (.const .nilFunc) yt, ty, pos, after, none⟩ :: rest) L H Q := Ops.pure _ (zfv hx) hd h
theorem ze6 {all : Array Oper} {rest : List Oper} {d : Nat} {ty : TypeId} {pos : String} {after : Array Edge} {x : Operand} {t yt e : TypeId} {a : Option Addr} {m c : Nat} [hu : USlice P t e] (h : Ops P B n all rest ((d, .bool a.isNone) :: L) H Q) (hx : ev L x = some (.slice a m c) := by rfl) (hd : Nat.blt d n = true := by rfl) : Ops P B n all (⟨some d, .binOp .eql t x (.const (.slice none 0 0)) yt, ty, pos, after, none⟩ :: rest) L H Q := Ops.pure _ (zfi hx _ rfl) hd h
theorem zge {all : Array Oper} {rest : List Oper} {d : Nat} {ty : TypeId} {pos : String} {after : Array Edge} {x y : Operand} {t yt dt : TypeId} {v : Value} [hu : UIface P t] (h : Ops P B n all rest ((d, .bool false) :: L) H Q) (hx : ev L x = some .nilIface := by rfl) (hy : ev L y = some (.iface dt v) := by rfl) (hd : Nat.blt d n = true := by rfl) : Ops P B n all (⟨some d, .binOp .eql t x y yt, ty, pos, after, none⟩ :: rest) L H Q := Ops.pure _ (zgc hx hy) hd h
theorem zl {all : Array Oper} {rest : List Oper} {d : Nat} {ty : TypeId} {pos : String} {after : Array Edge} {x : Operand} {t yt : TypeId} {a : Nat} (h : Ops P B n all rest ((d, .int .i64 ((a + 1 : Nat) : Int)) :: L) H Q) (hx : ev L x = some (.int .i64 a) := by rfl) (hb : a + 1 ≤ 9223372036854775807 := by omega) (hd : Nat.blt d n = true := by rfl) : Ops P B n all (⟨some d, .binOp .add t x (.const (.int .i64 1)) yt, ty, pos, after, none⟩ :: rest) L H Q := Ops.pure _ (zco (b := 1) hx rfl rfl hb) hd h
theorem zc4 {all : Array Oper} {rest : List Oper} {d : Nat} {ty : TypeId} {pos : String} {after : Array Edge} {x : Operand} {t yt : TypeId} {a : Nat} (h : Ops P B n all rest ((d, .int .i64 ((a - 1 : Nat) : Int)) :: L) H Q) (hx : ev L x = some (.int .i64 a) := by rfl) (hb : 1 ≤ a ∧ a ≤ 9223372036854775807 := by omega) (hd : Nat.blt d n = true := by rfl) : Ops P B n all (⟨some d, .binOp .sub t x (.const (.int .i64 1)) yt, ty, pos, after, none⟩ :: rest) L H Q := Ops.pure _ (zap (b := 1) hx rfl (by omega) hb.2) hd h
theorem zb3 {all : Array Oper} {rest : List Oper} {d : Nat} {ty : TypeId} {pos : String} {after : Array Edge} {x : Operand} {t yt : TypeId} {a : Nat} (h : Ops P B n all rest ((d, .int .i64 ((a + 2 : Nat) : Int)) :: L) H Q) (hx : ev L x = some (.int .i64 a) := by rfl) (hb : a + 2 ≤ 9223372036854775807 := by omega) (hd : Nat.blt d n = true := by rfl) : Ops P B n all (⟨some d, .binOp .add t x (.const (.int .i64 2)) yt, ty, pos, after, none⟩ :: rest) L H Q := Ops.pure _ (zco (b := 2) hx rfl rfl hb) hd h
theorem zck {all : Array Oper} {rest : List Oper} {d : Nat} {ty : TypeId} {pos : String} {after : Array Edge} {x : Operand} {t yt : TypeId} {a : Nat} (h : Ops P B n all rest ((d, .int .i64 ((a + 3 : Nat) : Int)) :: L) H Q) (hx : ev L x = some (.int .i64 a) := by rfl) (hb : a + 3 ≤ 9223372036854775807 := by omega) (hd : Nat.blt d n = true := by rfl) : Ops P B n all (⟨some d, .binOp .add t x (.const (.int .i64 3)) yt, ty, pos, after, none⟩ :: rest) L H Q := Ops.pure _ (zco (b := 3) hx rfl rfl hb) hd h
theorem zcg {all : Array Oper} {tail : List Oper} {rest : List Oper} {d : Nat} {ty : TypeId} {pos : String} {after : Array Edge} {x : Operand} {t yt : TypeId} {a : Nat} (h : OpsS P B n all tail rest ((d, .int .i64 ((a + 1 : Nat) : Int)) :: L) H Q) (hx : ev L x = some (.int .i64 a) := by rfl) (hb : a + 1 ≤ 9223372036854775807 := by omega) (hd : Nat.blt d n = true := by rfl) : OpsS P B n all tail (⟨some d, .binOp .add t x (.const (.int .i64 1)) yt, ty, pos, after, none⟩ :: rest) L H Q := OpsS.pure _ (zco (b := 1) hx rfl rfl hb) hd h
theorem zc7 {all : Array Oper} {tail : List Oper} {rest : List Oper} {d : Nat} {ty : TypeId} {pos : String} {after : Array Edge} {x : Operand} {t yt : TypeId} {a : Nat} (h : OpsS P B n all tail rest ((d, .int .i64 ((a - 1 : Nat) : Int)) :: L) H Q) (hx : ev L x = some (.int .i64 a) := by rfl) (hb : 1 ≤ a ∧ a ≤ 9223372036854775807 := by omega) (hd : Nat.blt d n = true := by rfl) : OpsS P B n all tail (⟨some d, .binOp .sub t x (.const (.int .i64 1)) yt, ty, pos, after, none⟩ :: rest) L H Q := OpsS.pure _ (zap (b := 1) hx rfl (by omega) hb.2) hd h
theorem zh {all : Array Oper} {rest : List Oper} {dst : Option Nat} {op : Op} {ty : TypeId} {pos : String} {after : Array Edge} {j t : Nat} {want g : Bool}
    (h : Ops P B n all (⟨dst, op, ty, pos, after, none⟩ :: rest) L H Q) (hj : dstOf all j = some t := by rfl) (hg : look L t = some (.bool g) := by rfl) (he : g = want := by with_reducible rfl) :
    Ops P B n all (⟨dst, op, ty, pos, after, some (j, want)⟩ :: rest) L H Q := Ops.guard_run t hj (he ▸ hg) h
theorem za2 {all : Array Oper} {rest : List Oper} {d : Nat} {op : Op} {ty : TypeId} {pos : String} {after : Array Edge} {j t : Nat} {g : Bool}
    (h : Ops P B n all rest ((d, undef) :: L) H Q) (hj : dstOf all j = some t := by rfl) (hg : look L t = some (.bool g) := by rfl) (he : g = false := by with_reducible rfl) (hd : Nat.blt d n = true := by rfl) :
    Ops P B n all (⟨some d, op, ty, pos, after, some (j, true)⟩ :: rest) L H Q := Ops.guard_skip t false hj (he ▸ hg) rfl hd h
theorem zaa {all : Array Oper} {rest : List Oper} {d : Nat} {op : Op} {ty : TypeId} {pos : String} {after : Array Edge} {j t : Nat} {g : Bool}
    (h : Ops P B n all rest ((d, undef) :: L) H Q) (hj : dstOf all j = some t := by rfl) (hg : look L t = some (.bool g) := by rfl) (he : g = true := by with_reducible rfl) (hd : Nat.blt d n = true := by rfl) :
    Ops P B n all (⟨some d, op, ty, pos, after, some (j, false)⟩ :: rest) L H Q := Ops.guard_skip t true hj (he ▸ hg) rfl hd h
theorem zb4 {all : Array Oper} {tail rest : List Oper} {dst : Option Nat} {op : Op} {ty : TypeId} {pos : String} {after : Array Edge} {j t : Nat} {want g : Bool}
    (h : OpsS P B n all tail (⟨dst, op, ty, pos, after, none⟩ :: rest) L H Q) (hj : dstOf all j = some t := by rfl) (hg : look L t = some (.bool g) := by rfl) (he : g = want := by with_reducible rfl) :
    OpsS P B n all tail (⟨dst, op, ty, pos, after, some (j, want)⟩ :: rest) L H Q := OpsS.guard_run t hj (he ▸ hg) h
theorem zbx {all : Array Oper} {tail rest : List Oper} {d : Nat} {op : Op} {ty : TypeId} {pos : String} {after : Array Edge} {j t : Nat} {g : Bool}
    (h : OpsS P B n all tail rest ((d, undef) :: L) H Q) (hj : dstOf all j = some t := by rfl) (hg : look L t = some (.bool g) := by rfl) (he : g = false := by with_reducible rfl) (hd : Nat.blt d n = true := by rfl) :
    OpsS P B n all tail (⟨some d, op, ty, pos, after, some (j, true)⟩ :: rest) L H Q := OpsS.guard_skip t false hj (he ▸ hg) rfl hd h
theorem zc2 {all : Array Oper} {tail rest : List Oper} {d : Nat} {op : Op} {ty : TypeId} {pos : String} {after : Array Edge} {j t : Nat} {g : Bool}
    (h : OpsS P B n all tail rest ((d, undef) :: L) H Q) (hj : dstOf all j = some t := by rfl) (hg : look L t = some (.bool g) := by rfl) (he : g = true := by with_reducible rfl) (hd : Nat.blt d n = true := by rfl) :
    OpsS P B n all tail (⟨some d, op, ty, pos, after, some (j, false)⟩ :: rest) L H Q := OpsS.guard_skip t true hj (he ▸ hg) rfl hd h
theorem zay {all : Array Oper} {rest : List Oper} {d : Nat} {op : Op} {ty : TypeId} {pos : String} {after : Array Edge} {j t : Nat} {want : Bool}
    (h : Ops P B n all rest ((d, undef) :: L) H Q) (hj : dstOf all j = some t := by rfl) (hg : look L t = some undef := by rfl) (hd : Nat.blt d n = true := by rfl) :
    Ops P B n all (⟨some d, op, ty, pos, after, some (j, want)⟩ :: rest) L H Q := by
  refine ⟨fun a w ha hw => ?_⟩
  have h1 := h.run _ w (ha.put (d := d) (by simpa using hd) undef) hw
  have hy : yielded all a.tmps j = none := by
    have h2 := ha.slots t _ hg
    unfold yielded
    unfold dstOf at hj
    rw [hj]; simp [h2, undef]
  simp only [wpList, Region.wanted, hy]
  exact h1
theorem zc3 {all : Array Oper} {tail : List Oper} {rest : List Oper} {d : Nat} {op : Op} {ty : TypeId} {pos : String} {after : Array Edge} {j t : Nat} {want : Bool}
    (h : OpsS P B n all tail rest ((d, undef) :: L) H Q) (hj : dstOf all j = some t := by rfl) (hg : look L t = some undef := by rfl) (hd : Nat.blt d n = true := by rfl) :
    OpsS P B n all tail (⟨some d, op, ty, pos, after, some (j, want)⟩ :: rest) L H Q := by
  refine ⟨fun a w ha hw => ?_⟩
  have h1 := h.run _ w (ha.put (d := d) (by simpa using hd) undef) hw
  have hy : yielded all a.tmps j = none := by
    have h2 := ha.slots t _ hg
    unfold yielded
    unfold dstOf at hj
    rw [hj]; simp [h2, undef]
  simp only [wpStill, Region.wanted, hy]
  exact h1
theorem za8 {all : Array Oper} {tail : List Oper} (h : Ops P B n all tail L H Q) : OpsS P B n all tail [] L H Q := OpsS.nil h
theorem zai {all : Array Oper} {rest : List Oper} {d : Nat} {t ty : TypeId} {pos : String} {after : Array Edge} {zs : List Value} [hz : Zer P t (.agg zs.toArray)]
    (h : ∀ r, Ops P B n all rest ((d, .pointer (some ⟨r, 0, none⟩)) :: L) ([(r, cellsOf zs t)] :: H) Q) (hd : Nat.blt d n = true := by rfl) :
    Ops P B n all (⟨some d, .alloc t, ty, pos, after, none⟩ :: rest) L H Q := zfe hd h
theorem zdf {all : Array Oper} {rest : List Oper} {d : Nat} {t ty : TypeId} {pos : String} {after : Array Edge} {z : Value} [hz : Zer P t z]
    (h : ∀ r, Ops P B n all rest ((d, .pointer (some ⟨r, 0, none⟩)) :: L) ([(r, cellsOf [z] t)] :: H) Q) (hz1 : oneCell z = true := by rfl) (hd : Nat.blt d n = true := by rfl) :
    Ops P B n all (⟨some d, .alloc t, ty, pos, after, none⟩ :: rest) L H Q := zgo hz1 hd h
theorem zdk {all : Array Oper} {rest : List Oper} {d : Nat} {t ty : TypeId} {x : Operand} {pos : String} {after : Array Edge} {v : Value}
    (h : ∀ r, Ops P B n all rest ((d, .pointer (some ⟨r, 0, none⟩)) :: L) ([(r, cellsOf [v] t)] :: H) Q) (hx : ev L x = some v := by rfl) (hv : oneCell v = true := by rfl) (hd : Nat.blt d n = true := by rfl) :
    Ops P B n all (⟨some d, .box t x, ty, pos, after, none⟩ :: rest) L H Q := zey hx hv hd h
theorem zaf {all : Array Oper} {rest : List Oper} {d : Nat} {t ty : TypeId} {x : Operand} {pos : String} {after : Array Edge} {vs : List Value}
    (h : ∀ r, Ops P B n all rest ((d, .pointer (some ⟨r, 0, none⟩)) :: L) ([(r, cellsOf vs t)] :: H) Q) (hx : ev L x = some (.agg vs.toArray) := by rfl) (hd : Nat.blt d n = true := by rfl) :
    Ops P B n all (⟨some d, .box t x, ty, pos, after, none⟩ :: rest) L H Q := zgl hx hd h
theorem za5 {all : Array Oper} {rest : List Oper} {t ty : TypeId} {x y : Operand} {pos : String} {after : Array Edge} {b off : Nat} {cs cs' : List Value} {T : TypeId} {v : Value} {H' : Heap} [hs : Siz P t 1]
    (h : Ops P B n all rest L H' Q) (hx : ev L x = some (.pointer (some ⟨b, off, none⟩)) := by rfl) (hy : ev L y = some v := by rfl) (hv : oneCell v = true := by rfl)
    (hu : HUpd H b (cellsOf cs T) (cellsOf cs' T) H' := by repeat (first | exact HUpd.here | apply HUpd.skip | apply HUpd.there)) (hc : SetAt cs off v cs' := by repeat constructor) :
    Ops P B n all (⟨none, .store t x y, ty, pos, after, none⟩ :: rest) L H Q := zg3 hx hy hv hu hc.spec.1 (by simpa using hc.spec.2) h
theorem zaj {all : Array Oper} {rest : List Oper} {t ty : TypeId} {x y : Operand} {pos : String} {after : Array Edge} {b off k : Nat} {cs cs' vs : List Value} {T : TypeId} {H' : Heap} [hs : Siz P t k]
    (h : Ops P B n all rest L H' Q) (hx : ev L x = some (.pointer (some ⟨b, off, none⟩)) := by rfl) (hy : ev L y = some (.agg vs.toArray) := by rfl) (hk : Nat.beq vs.length k = true := by rfl) (hv : vs.all oneCell = true := by rfl)
    (hu : HUpd H b (cellsOf cs T) (cellsOf cs' T) H' := by repeat (first | exact HUpd.here | apply HUpd.skip | apply HUpd.there)) (hc : SegSet cs off vs cs' := by repeat constructor) :
    Ops P B n all (⟨none, .store t x y, ty, pos, after, none⟩ :: rest) L H Q :=
  Ops.store_agg cs' H' hs.out hx hy hk hv hu hc.spec.1 (by have := hc.spec.2; rw [Nat.eq_of_beq_eq_true hk] at this; exact Nat.ble_eq_true_of_le this) h

end Go.Eng

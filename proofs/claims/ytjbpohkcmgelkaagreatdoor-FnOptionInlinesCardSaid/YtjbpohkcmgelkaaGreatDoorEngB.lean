/- The program logic (second part): ends, loops, regions that draw their order, slices, appends, copies. Rules for any program; no conditions beyond those that each states. -/
import Derived.Test.YtjbpohkcmgelkaaGreatDoorEngA
import Derived.Scope
import Derived.OrdersHeld
import Derived.Lib.BufferWrite
import Derived.Lib.BufferRead
import Derived.Laws.MakeOwn
import Derived.Laws.IdiomStrings
import Derived.Lib.Builder
import Derived.Lib.UnsafeStr
import Derived.Lib.AppendStr
import Derived.Laws.RangeString
import Derived.Laws.Small
import Derived.Lib.Bytealg
import Derived.ScopeJumps
import Derived.KernelRfl
namespace Go.Eng
variable {P : Program} {B : Base} {n : Nat} {L : Loc} {H : Heap} {Q : Post} {K : Loc → Heap → Prop}

class Mixed (P : Program) : Prop where out : P.follows .mixedOrders = true

/-! ### Ways that part -/

theorem Ops.split_run {all : Array Oper} {rest : List Oper} {d : Nat} {op : Op} {ty : TypeId} {pos : String} {after : Array Edge} {j t : Nat} {p : Prop} [Decidable p]
    (h1 : p → Ops P B n all (⟨some d, op, ty, pos, after, none⟩ :: rest) ((t, .bool true) :: L) H Q) (h2 : ¬ p → Ops P B n all rest ((d, undef) :: (t, .bool false) :: L) H Q)
    (hj : dstOf all j = some t := by rfl) (hg : look L t = some (.bool (decide p)) := by rfl) (hd : Nat.blt d n = true := by rfl) :
    Ops P B n all (⟨some d, op, ty, pos, after, some (j, true)⟩ :: rest) L H Q :=
  Ops.guard_split t _ hj hg hd (fun e => h1 (of_decide_eq_true e)) (fun e => h2 (of_decide_eq_false e))

theorem Ops.split_skip {all : Array Oper} {rest : List Oper} {d : Nat} {op : Op} {ty : TypeId} {pos : String} {after : Array Edge} {j t : Nat} {p : Prop} [Decidable p]
    (h1 : p → Ops P B n all rest ((d, undef) :: (t, .bool true) :: L) H Q) (h2 : ¬ p → Ops P B n all (⟨some d, op, ty, pos, after, none⟩ :: rest) ((t, .bool false) :: L) H Q)
    (hj : dstOf all j = some t := by rfl) (hg : look L t = some (.bool (decide p)) := by rfl) (hd : Nat.blt d n = true := by rfl) :
    Ops P B n all (⟨some d, op, ty, pos, after, some (j, false)⟩ :: rest) L H Q :=
  Ops.guard_split t _ hj hg hd (fun e => h2 (of_decide_eq_false e)) (fun e => h1 (of_decide_eq_true e))

theorem zcp {c : Operand} {x y : Code} {p : Prop} [Decidable p] (h1 : p → Wp P B n x L H Q) (h2 : ¬ p → Wp P B n y L H Q) (hc : ev L c = some (.bool (decide p)) := by rfl) :
    Wp P B n (.cond c x y) L H Q :=
  Wp.cond_split hc (fun e => h1 (of_decide_eq_true e)) (fun e => h2 (of_decide_eq_false e))

/-! ### A function's end -/

theorem SubH.drop1 {c : Blk} {H : Heap} : SubH (c :: H) H := ⟨[c], by simpa using List.perm_append_comm⟩
theorem SubH.keep {c : Blk} {H H' : Heap} (h : SubH H H') : SubH (c :: H) (c :: H') := by
  obtain ⟨D, hD⟩ := h
  exact ⟨D, by simpa using hD.append_left c⟩
theorem r_cell {a ty b off k : Nat} {cs vs : List Value} {T : TypeId} [hu : Aggr P ty] [hz : Siz P ty k] (hl : look L a = some (.pointer (some ⟨b, off, none⟩))) (hm : HMem H b (cellsOf cs T)) (hs : Seg cs off k vs) :
    ResV P L H (.cell a ty) (.agg vs.toArray) := by
  obtain ⟨d, h1, h2⟩ := hu.out
  exact .cell hl h1 h2 hz.out hm hs
theorem r_cell1 {a ty b off : Nat} {cs : List Value} {T : TypeId} {v : Value} [hu : Flat P ty] (hl : look L a = some (.pointer (some ⟨b, off, none⟩))) (hm : HMem H b (cellsOf cs T)) (hc : cs[off]? = some v) :
    ResV P L H (.cell a ty) v := by
  obtain ⟨d, h1, h2⟩ := hu.out
  exact .cell1 hl h1 h2 hm hc


theorem e_ret {rs : List ResultVar} {R : Value → Heap → Prop} {vs : List Value} (H' : Heap) (h : R (oneOr vs) H') (hs : SubH H H')
    (hr : ResL P L H rs vs := by repeat (first | exact ResL.nil | (apply ResL.cons; exact ResV.tmp (by rfl)) | (apply ResL.cons; exact r_cell (by rfl) (by repeat (first | exact HMem.here | apply HMem.skip | apply HMem.there)) (by repeat constructor)) | (apply ResL.cons; exact r_cell1 (by rfl) (by repeat (first | exact HMem.here | apply HMem.skip | apply HMem.there)) (by rfl)))) : Fin .ret L H (endPost P rs R) := ⟨⟨.inl rfl, vs, H', hr, hs, h⟩⟩
theorem e_norm {rs : List ResultVar} {R : Value → Heap → Prop} {vs : List Value} (H' : Heap) (h : R (oneOr vs) H') (hs : SubH H H')
    (hr : ResL P L H rs vs := by repeat (first | exact ResL.nil | (apply ResL.cons; exact ResV.tmp (by rfl)) | (apply ResL.cons; exact r_cell (by rfl) (by repeat (first | exact HMem.here | apply HMem.skip | apply HMem.there)) (by repeat constructor)) | (apply ResL.cons; exact r_cell1 (by rfl) (by repeat (first | exact HMem.here | apply HMem.skip | apply HMem.there)) (by rfl)))) : Fin .normal L H (endPost P rs R) := ⟨⟨.inr rfl, vs, H', hr, hs, h⟩⟩
/-- A function that leaves nothing but its result. -/
theorem e_pure {rs : List ResultVar} {R : Value → Heap → Prop} {vs : List Value} (h : R (oneOr vs) [])
    (hr : ResL P L H rs vs := by repeat (first | exact ResL.nil | (apply ResL.cons; exact ResV.tmp (by rfl)) | (apply ResL.cons; exact r_cell (by rfl) (by repeat (first | exact HMem.here | apply HMem.skip | apply HMem.there)) (by repeat constructor)) | (apply ResL.cons; exact r_cell1 (by rfl) (by repeat (first | exact HMem.here | apply HMem.skip | apply HMem.there)) (by rfl)))) : Fin .ret L H (endPost P rs R) := ⟨⟨.inl rfl, vs, [], hr, SubH.nilR _, h⟩⟩

/-- A contract of a function that only computes. -/
abbrev TrP (P : Program) (f : FuncId) (args : List Value) (v : Value) : Prop := Tr P f args [] fun u H' => u = v ∧ H' = []

theorem zo {all : Array Oper} {rest : List Oper} {d : Nat} {f : FuncId} {xs : List Operand} {tys : Array TypeId} {ty : TypeId} {pos : String} {after : Array Edge} {args : List Value} {v : Value} [hf : Cal P f]
    (hT : TrP P f args v) (h : Ops P B n all rest ((d, v) :: L) H Q) (hx : evs L xs = some args := by rfl) (hd : Nat.blt d n = true := by rfl) :
    Ops P B n all (⟨some d, .call ⟨.value (.func f), xs.toArray, tys⟩, ty, pos, after, none⟩ :: rest) L H Q :=
  Ops.call hf.out hx hT .nil hd fun _ _ ⟨h1, h2⟩ => by subst h1 h2; exact h

/-- A contract that names the result and the chunks behind. -/
abbrev TrD (P : Program) (f : FuncId) (args : List Value) (H : Heap) (v : Value) (H' : Heap) : Prop := Tr P f args H fun u K => u = v ∧ K = H'

inductive HApp : Heap → Heap → Heap → Prop
  | nil {F : Heap} : HApp [] F F
  | cons {c : Blk} {H F G : Heap} : HApp H F G → HApp (c :: H) F (c :: G)
theorem HApp.spec {H F G : Heap} (h : HApp H F G) : H ++ F = G := by
  induction h with
  | nil => rfl
  | cons _ ih => simp [ih]

theorem za1 {all : Array Oper} {rest : List Oper} {d : Nat} {f : FuncId} {xs : List Operand} {tys : Array TypeId} {ty : TypeId} {pos : String} {after : Array Edge} {args : List Value} {Hc F : Heap} {R : Value → Heap → Prop} [hf : Cal P f]
    (hT : Tr P f args Hc R) (h : ∀ v H', R v H' → Ops P B n all rest ((d, v) :: L) (H' ++ F) Q) (hx : evs L xs = some args := by rfl)
    (ht : HTakes H Hc F := by repeat' (first | exact HTakes.nil | exact HTake.here | apply HTakes.cons | apply HTake.there)) (hd : Nat.blt d n = true := by rfl) :
    Ops P B n all (⟨some d, .call ⟨.value (.func f), xs.toArray, tys⟩, ty, pos, after, none⟩ :: rest) L H Q := Ops.call hf.out hx hT ht hd h
theorem za9 {all : Array Oper} {rest : List Oper} {d : Nat} {f : FuncId} {xs : List Operand} {tys : Array TypeId} {ty : TypeId} {pos : String} {after : Array Edge} {args : List Value} {Hc F H' G : Heap} {v : Value} [hf : Cal P f]
    (hT : TrD P f args Hc v H') (h : Ops P B n all rest ((d, v) :: L) G Q) (hx : evs L xs = some args := by rfl)
    (ht : HTakes H Hc F := by repeat' (first | exact HTakes.nil | exact HTake.here | apply HTakes.cons | apply HTake.there)) (ha : HApp H' F G := by repeat (first | exact HApp.nil | apply HApp.cons)) (hd : Nat.blt d n = true := by rfl) :
    Ops P B n all (⟨some d, .call ⟨.value (.func f), xs.toArray, tys⟩, ty, pos, after, none⟩ :: rest) L H Q :=
  Ops.call hf.out hx hT ht hd fun _ _ ⟨e1, e2⟩ => by subst e1 e2; rw [ha.spec]; exact h
/-- A call through an interface value. -/
theorem zcw {all : Array Oper} {rest : List Oper} {d : Nat} {f : FuncId} {x : Operand} {name : String} {xs : List Operand} {tys : Array TypeId} {ty : TypeId} {pos : String} {after : Array Edge} {t : TypeId} {u : Value} {args : List Value} {Hc F : Heap} {R : Value → Heap → Prop}
    [hm : Meth P t name f] [hf : Cal P f] (hT : Tr P f (u :: args) Hc R) (h : ∀ v H', R v H' → Ops P B n all rest ((d, v) :: L) (H' ++ F) Q)
    (hv : ev L x = some (.iface t u) := by rfl) (hx : evs L xs = some args := by rfl)
    (ht : HTakes H Hc F := by repeat' (first | exact HTakes.nil | exact HTake.here | apply HTakes.cons | apply HTake.there)) (hd : Nat.blt d n = true := by rfl) :
    Ops P B n all (⟨some d, .call ⟨.invoke x name, xs.toArray, tys⟩, ty, pos, after, none⟩ :: rest) L H Q := Ops.invoke hf.out hv (hm.out u) hx hT ht hd h
theorem zdj {all : Array Oper} {rest : List Oper} {d : Nat} {f : FuncId} {x : Operand} {name : String} {xs : List Operand} {tys : Array TypeId} {ty : TypeId} {pos : String} {after : Array Edge} {t : TypeId} {u v : Value} {args : List Value} {Hc F H' G : Heap}
    [hm : Meth P t name f] [hf : Cal P f] (hT : TrD P f (u :: args) Hc v H') (h : Ops P B n all rest ((d, v) :: L) G Q)
    (hv : ev L x = some (.iface t u) := by rfl) (hx : evs L xs = some args := by rfl)
    (ht : HTakes H Hc F := by repeat' (first | exact HTakes.nil | exact HTake.here | apply HTakes.cons | apply HTake.there)) (ha : HApp H' F G := by repeat (first | exact HApp.nil | apply HApp.cons)) (hd : Nat.blt d n = true := by rfl) :
    Ops P B n all (⟨some d, .call ⟨.invoke x name, xs.toArray, tys⟩, ty, pos, after, none⟩ :: rest) L H Q :=
  Ops.invoke hf.out hv (hm.out u) hx hT ht hd fun _ _ ⟨e1, e2⟩ => by subst e1 e2; rw [ha.spec]; exact h
/-- A call of a function value. -/
theorem ze8 {all : Array Oper} {rest : List Oper} {d : Nat} {f : FuncId} {x : Operand} {xs : List Operand} {tys : Array TypeId} {ty : TypeId} {pos : String} {after : Array Edge} {fst caps args : List Value} {Hc F : Heap} {R : Value → Heap → Prop} [hf : Cal P f]
    (hT : Tr P f (fst ++ args ++ caps) Hc R) (h : ∀ v H', R v H' → Ops P B n all rest ((d, v) :: L) (H' ++ F) Q)
    (hv : ev L x = some (.func (.func f) fst.toArray caps.toArray) := by rfl) (hx : evs L xs = some args := by rfl)
    (ht : HTakes H Hc F := by repeat' (first | exact HTakes.nil | exact HTake.here | apply HTakes.cons | apply HTake.there)) (hd : Nat.blt d n = true := by rfl) :
    Ops P B n all (⟨some d, .call ⟨.value x, xs.toArray, tys⟩, ty, pos, after, none⟩ :: rest) L H Q := Ops.call_val hf.out hv hx hT ht hd h

/-! ### Struct literals -/

/-- The places and sizes of a struct's fields. -/
class Places (P : Program) (t : Nat) (pl : outParam (List (Nat × Nat))) : Prop where
  out : ∃ fs : Array Field, P.underlying t = some (.struct fs) ∧ ∀ w, (fs.mapM (m := Sem) fun f => do pure (f.offset, ← sizeOf f.type)).run P w = .ok pl.toArray w

inductive BFill (pl : List (Nat × Nat)) : List Value → List (Nat × Value) → List Value → Prop
  | nil {cs : List Value} : BFill pl cs [] cs
  | one {cs cs1 cs2 : List Value} {i off : Nat} {v : Value} {rest : List (Nat × Value)} : pl[i]? = some (off, 1) → oneCell v = true → SetAt cs off v cs1 → BFill pl cs1 rest cs2 → BFill pl cs ((i, v) :: rest) cs2
  | agg {cs cs1 cs2 vs : List Value} {i off k : Nat} {rest : List (Nat × Value)} : pl[i]? = some (off, k) → Nat.beq vs.length k = true → SegSet cs off vs cs1 → BFill pl cs1 rest cs2 → BFill pl cs ((i, .agg vs.toArray) :: rest) cs2

theorem foldl_setSeg (off : Nat) : ∀ (vs : List Value) (k : Nat) (cs : List Value),
    (vs.zipIdx k).foldl (fun (cs : Array Value) x => cs.setIfInBounds (off + x.2) x.1) cs.toArray = (setSeg cs (off + k) vs).toArray
  | [], _, _ => rfl
  | v :: vs, k, cs => by
    simp only [List.zipIdx_cons, List.foldl_cons, List.setIfInBounds_toArray]
    rw [foldl_setSeg off vs (k + 1)]; rfl

theorem BFill.fill {pl : List (Nat × Nat)} {cs cs' : List Value} {ps : List (Nat × Value)} (h : BFill pl cs ps cs') : Instr.fill (fun i => pl[i]?) cs.toArray ps = some cs'.toArray := by
  induction h with
  | nil => rfl
  | @one cs cs1 cs2 i off v rest h1 h2 h3 _ ih =>
    have h4 := h3.spec
    have h5 : ¬ (cs.length < off + 1) := by omega
    simp only [Instr.fill, h1, cells_one h2]
    have e : (#[v].zipIdx.foldl (fun (cs : Array Value) x => cs.setIfInBounds (off + x.2) x.1) cs.toArray) = cs1.toArray := by rw [← h4.1]; simp
    simp only [List.size_toArray, List.length_cons, List.length_nil, Nat.zero_add, ne_eq, not_true_eq_false, decide_false, Bool.false_or]
    rw [if_neg (by simpa using h5)]
    exact (congrArg (fun x => Instr.fill (fun i => pl[i]?) x rest) e).trans ih
  | @agg cs cs1 cs2 vs i off k rest h1 h2 h3 _ ih =>
    have h4 := h3.spec
    have h2' : vs.length = k := Nat.eq_of_beq_eq_true h2
    have h5 : ¬ (cs.length < off + vs.length) := by omega
    have e : ((vs.toArray).zipIdx.foldl (fun (cs : Array Value) x => cs.setIfInBounds (off + x.2) x.1) cs.toArray) = cs1.toArray := by
      rw [← h4.1]
      have := foldl_setSeg off vs 0 cs
      simpa using this
    simp only [Instr.fill, h1, Value.cells]
    simp only [List.size_toArray, h2', ne_eq, not_true_eq_false, decide_false, Bool.false_or]
    rw [if_neg (by rw [← h2']; simpa using h5)]
    exact (congrArg (fun x => Instr.fill (fun i => pl[i]?) x rest) e).trans ih

def evps (L : Loc) : List (Nat × Operand) → Option (List (Nat × Value))
  | [] => some []
  | (i, x) :: xs => match ev L x, evps L xs with
    | some v, some vs => some ((i, v) :: vs)
    | _, _ => none

theorem evps_map {L : Loc} {ρ : Operand → Value} (hρ : ∀ x u, ev L x = some u → ρ x = u) : ∀ (xs : List (Nat × Operand)) (vs : List (Nat × Value)), evps L xs = some vs → xs.map (fun p => (p.1, ρ p.2)) = vs := by
  intro xs
  induction xs with
  | nil => intro vs h; simp [evps] at h; simp [h]
  | cons x xs ih =>
    intro vs h
    obtain ⟨i, x⟩ := x
    simp only [evps] at h
    split at h
    · rename_i v vs' h1 h2
      cases h
      simp [hρ _ _ h1, ih _ h2]
    · cases h

theorem zbn {t ty : TypeId} {ps : List (Nat × Operand)} {pv : List (Nat × Value)} {zs zs' : List Value} {pl : List (Nat × Nat)} [hp : Places P t pl] [hz : Zer P t (.agg zs.toArray)]
    (hx : evps L ps = some pv) (hf : BFill pl zs pv zs') : Pure1 P L H (.build t ps.toArray) ty (.agg zs'.toArray) := by
  obtain ⟨fs, h1, h2⟩ := hp.out
  intro ρ w o hρ _ ho _
  have h3 := evps_map hρ ps pv hx
  simp only [execOp, ho, List.map_toArray, Instr.build, Sem.run_bind, hz.out, Result.andThen_ok, underlying, run_program, h1, Sem.run_pure]
  rw [h2 w]
  have e : (List.map (fun (x : Nat × Operand) => (x.1, ρ x.2)) ps) = pv := h3
  simp only [Result.andThen_ok, Value.cells]
  have hf' := hf.fill
  have hpl : (fun (x : Nat) => pl.toArray[x]?) = (fun (i : Nat) => pl[i]?) := by funext x; simp
  simp only [e, hpl, hf', Sem.run_pure, Result.andThen_ok]

theorem zdh {all : Array Oper} {rest : List Oper} {d : Nat} {t ty : TypeId} {pos : String} {after : Array Edge} {ps : List (Nat × Operand)} {pv : List (Nat × Value)} {zs zs' : List Value} {pl : List (Nat × Nat)} [hp : Places P t pl] [hz : Zer P t (.agg zs.toArray)]
    (h : Ops P B n all rest ((d, .agg zs'.toArray) :: L) H Q) (hx : evps L ps = some pv := by rfl)
    (hf : BFill pl zs pv zs' := by repeat' (first | exact BFill.nil | (apply BFill.one <;> first | rfl | (repeat constructor)) | (apply BFill.agg <;> first | rfl | (repeat constructor)))) (hd : Nat.blt d n = true := by rfl) :
    Ops P B n all (⟨some d, .build t ps.toArray, ty, pos, after, none⟩ :: rest) L H Q := Ops.pure _ (zbn hx hf) hd h

/-! ### Loops -/

/-- What is known at a loop's head, given by a list of slots and a heap that depend on something. -/
theorem za6 {α : Type} {c : Code} (Lf : α → Loc) (Hf : α → Heap) (I : α → Prop) (μ : α → Nat) (x : α) (hI : I x)
    (hl : ∀ i v, look (Lf x) i = some v → look L i = some v) (hh : SubH H (Hf x))
    (round : ∀ x, I x → Wp P B n c (Lf x) (Hf x) (andThen (fun L' H' => ∃ y, (∀ i v, look (Lf y) i = some v → look L' i = some v) ∧ SubH H' (Hf y) ∧ I y ∧ μ y < μ x) Q)) :
    Wp P B n (.loop c) L H Q :=
  Wp.weak (Lf x) (Hf x) hl hh <| Wp.loop (fun L H m => ∃ x, L = Lf x ∧ H = Hf x ∧ I x ∧ μ x = m) (μ x) ⟨x, rfl, rfl, hI, rfl⟩ fun L H m ⟨x, e1, e2, h1, e3⟩ => by
    subst e1 e2 e3
    refine (round x h1).mono fun e L' H' hq => ?_
    cases e with
    | normal => obtain ⟨y, h2, h3, h4, h5⟩ := hq; exact ⟨_, _, _, h2, h3, ⟨y, rfl, rfl, h4, rfl⟩, h5⟩
    | _ => exact hq

/-- Slots that are listed are known. -/
def Knows (L : Loc) : Loc → Prop
  | [] => True
  | (i, v) :: l => look L i = some v ∧ Knows L l

theorem Knows.spec {L L' : Loc} (h : Knows L L') : ∀ i v, look L' i = some v → look L i = some v := by
  induction L' with
  | nil => intro i v hv; cases hv
  | cons p l ih =>
    obtain ⟨i, u⟩ := p
    intro j v hv
    rw [look_cons] at hv
    split at hv
    · rename_i e; subst e; cases hv; exact h.1
    · exact ih h.2 j v hv

/-- What follows is proved from what is listed alone. -/
theorem zac {x y : Code} (Ls : Loc) (Hs : Heap) (h1 : Wp P B n x L H (andThen (fun L' H' => Knows L' Ls ∧ SubH H' Hs) Q)) (h2 : Wp P B n y Ls Hs Q) :
    Wp P B n x L H (andThen (fun L' H' => Wp P B n y L' H' Q) Q) :=
  h1.mono fun e L' H' hq => by
    cases e with
    | normal => exact Wp.weak Ls Hs hq.1.spec hq.2 h2
    | _ => exact hq
theorem zau {α : Type} {x y : Code} (Ls : α → Loc) (Hs : α → Heap) (I : α → Prop) (h1 : Wp P B n x L H (andThen (fun L' H' => ∃ g, Knows L' (Ls g) ∧ SubH H' (Hs g) ∧ I g) Q)) (h2 : ∀ g, I g → Wp P B n y (Ls g) (Hs g) Q) :
    Wp P B n x L H (andThen (fun L' H' => Wp P B n y L' H' Q) Q) :=
  h1.mono fun e L' H' hq => by
    cases e with
    | normal => obtain ⟨g, hk, hs, hi⟩ := hq; exact Wp.weak (Ls g) (Hs g) hk.spec hs (h2 g hi)
    | _ => exact hq

end Go.Eng

namespace Go.Eng
variable {P : Program} {B : Base} {n : Nat} {L : Loc} {H : Heap} {Q : Post}
def noGo (Q : Post) : Post
  | .goto _, _, _ => False
  | e, L, H => Q e L H
theorem zc9 {c : Code} (h : Wp P B n c L H (noGo Q)) : Wp P B n (.scope c) L H Q :=
  ⟨fun a w ha hw => wp_scope_straight (wp_mono (h.run a w ha hw) fun e a' w' ⟨L', H', h1, h2, h3⟩ => by
    cases e with
    | goto l => exact h3.elim
    | _ => exact ⟨L', H', h1, h2, h3⟩)⟩
theorem zd5 (h : Fin .normal L H Q) : Fin .normal L H (noGo Q) := ⟨h.out⟩
theorem zbq (h : Fin .ret L H Q) : Fin .ret L H (noGo Q) := ⟨h.out⟩
theorem zd3 {id : Nat} (h : Fin (.exit id) L H Q) : Fin (.exit id) L H (noGo Q) := ⟨h.out⟩
theorem zcb {l : Nat} (h : Fin .normal L H Q) : Wp P B n (.label l) L H Q := Wp.label h.out
theorem SubH.pick {H H1 H' : Heap} {c : Blk} (h : HTake H c H1) (h2 : SubH H1 H') : SubH H (c :: H') :=
  h.sub.trans h2.keep

/-- A pointer type to something that has a size. -/
class CmpPtr (P : Program) (t : Nat) : Prop where out : ∃ e i k, P.underlying t = some (.pointer e) ∧ P.info? t = some i ∧ i.comparable = true ∧ (∀ w, (sizeOf e).run P w = .ok k w) ∧ k ≠ 0

theorem eq_ptr_same {t : TypeId} [h : CmpPtr P t] (d0 : Nat) (a : Addr) (w : World) : (Op.equalIn (d0 + 1) t (.pointer (some a)) (.pointer (some a))).run P w = .ok true w := by
  obtain ⟨e, i, k, h1, h2, h3, h4, h5⟩ := h.out
  simp [Op.equalIn, underlying, h1, h4, sameAddr]
theorem eq_iface_same {t tx : TypeId} {ms : Array (String × TypeId)} [h : CmpPtr P tx] (a : Addr) (hu : P.underlying t = some (.interface ms)) (w : World) : (Op.equalIn (9999 + 1) t (.iface tx (.pointer (some a))) (.iface tx (.pointer (some a)))).run P w = .ok true w := by
  have h' := eq_ptr_same (P := P) (t := tx) 9998 a w
  obtain ⟨e, i, k, h1, h2, h3, h4, h5⟩ := h.out
  rw [Op.equalIn]
  simp [underlying, hu, typeInfo, h2, h3, h']
theorem zfq {x y : Operand} {t ty yt d : TypeId} {a : Addr} [hu : UIface P t] [h : CmpPtr P d] (hx : ev L x = some (.iface d (.pointer (some a)))) (hy : ev L y = some (.iface d (.pointer (some a)))) : Pure1 P L H (.binOp .eql t x y yt) ty (.bool true) := by
  obtain ⟨ms, hu⟩ := hu.out
  exact zcs hx hy (by simp [eqGuard_at_iface]) fun w => run_equal_step (fun w => eq_iface_same a hu w) rfl w
theorem zgd {all : Array Oper} {rest : List Oper} {d : Nat} {ty : TypeId} {pos : String} {after : Array Edge} {x y : Operand} {t yt dt : TypeId} {a : Addr} [hu : UIface P t] [hc : CmpPtr P dt] (h : Ops P B n all rest ((d, .bool true) :: L) H Q) (hx : ev L x = some (.iface dt (.pointer (some a))) := by rfl) (hy : ev L y = some (.iface dt (.pointer (some a))) := by rfl) (hd : Nat.blt d n = true := by rfl) : Ops P B n all (⟨some d, .binOp .eql t x y yt, ty, pos, after, none⟩ :: rest) L H Q := Ops.pure _ (zfq hx hy) hd h
theorem zep {all : Array Oper} {rest : List Oper} {d : Nat} {ty : TypeId} {pos : String} {after : Array Edge} {x : Operand} {t yt e : TypeId} [hu : UPtr P t e] (h : Ops P B n all rest ((d, .bool true) :: L) H Q) (hx : ev L x = some (.pointer none) := by rfl) (hd : Nat.blt d n = true := by rfl) : Ops P B n all (⟨some d, .binOp .eql t x (.const (.pointer none)) yt, ty, pos, after, none⟩ :: rest) L H Q := Ops.pure _ (zef hx _ rfl) hd h
theorem zdc {all : Array Oper} {rest : List Oper} {d : Nat} {ty : TypeId} {pos : String} {after : Array Edge} {x : Operand} {t yt e : TypeId} {a : Addr} [hu : UPtr P t e] (h : Ops P B n all rest ((d, .bool false) :: L) H Q) (hx : ev L x = some (.pointer (some a)) := by rfl) (hd : Nat.blt d n = true := by rfl) : Ops P B n all (⟨some d, .binOp .eql t x (.const (.pointer none)) yt, ty, pos, after, none⟩ :: rest) L H Q := Ops.pure _ (zef hx _ rfl) hd h
theorem zcl {all : Array Oper} {rest : List Oper} {d : Nat} {ty : TypeId} {pos : String} {after : Array Edge} {x : Operand} {t yt e : TypeId} [hu : UPtr P t e] (h : Ops P B n all rest ((d, .bool false) :: L) H Q) (hx : ev L x = some (.pointer none) := by rfl) (hd : Nat.blt d n = true := by rfl) : Ops P B n all (⟨some d, .binOp .neq t x (.const (.pointer none)) yt, ty, pos, after, none⟩ :: rest) L H Q := Ops.pure _ (ze1 hx _ rfl) hd h
theorem zdl {all : Array Oper} {rest : List Oper} {d : Nat} {ty : TypeId} {pos : String} {after : Array Edge} {x : Operand} {t yt e : TypeId} {a : Addr} [hu : UPtr P t e] (h : Ops P B n all rest ((d, .bool true) :: L) H Q) (hx : ev L x = some (.pointer (some a)) := by rfl) (hd : Nat.blt d n = true := by rfl) : Ops P B n all (⟨some d, .binOp .neq t x (.const (.pointer none)) yt, ty, pos, after, none⟩ :: rest) L H Q := Ops.pure _ (ze1 hx _ rfl) hd h
class UInt (P : Program) (t : Nat) (k : outParam IntKind) : Prop where out : P.underlying t = some (.int k)
theorem zds {x : Operand} {s t ty : TypeId} {k0 k1 k2 : IntKind} {a : Int} [hs : UInt P s k1] [ht : UInt P t k2] (hx : ev L x = some (.int k0 a)) (hw : k2.wrap a = a) :
    Pure1 P L H (.convert s t x) ty (.int k2 a) := by
  intro ρ w o hρ _ ho _
  have h1 := hs.out
  have h2 := ht.out
  simp [execOp, ho, hρ _ _ hx, convert, underlying, h1, h2, Conv.intToInt, hw]
theorem zfm {all : Array Oper} {rest : List Oper} {d : Nat} {ty : TypeId} {pos : String} {after : Array Edge} {x : Operand} {s t : TypeId} {k0 k1 : IntKind} {a : Int} [hs : UInt P s k1] [ht : UInt P t .i64] (h : Ops P B n all rest ((d, .int .i64 a) :: L) H Q) (hx : ev L x = some (.int k0 a) := by rfl) (ha : -9223372036854775808 ≤ a ∧ a ≤ 9223372036854775807 := by omega) (hd : Nat.blt d n = true := by rfl) : Ops P B n all (⟨some d, .convert s t x, ty, pos, after, none⟩ :: rest) L H Q := Ops.pure _ (zds hx (wrap_of ha.1 ha.2)) hd h
theorem zg4 {x y : Operand} {t ty yt : TypeId} {a b : Int} (hx : ev L x = some (.int .i64 a)) (hy : ev L y = some (.int .i64 b)) (h1 : -9223372036854775808 ≤ a * b) (h2 : a * b ≤ 9223372036854775807) :
    Pure1 P L H (.binOp .mul t x y yt) ty (.int .i64 (a * b)) :=
  zbf hx hy fun w => by
    simp only [eqGuard, binOp, Op.intArith]
    rw [wrap_of h1 h2]; rfl
theorem zf6 {all : Array Oper} {rest : List Oper} {d : Nat} {ty : TypeId} {pos : String} {after : Array Edge} {x y : Operand} {t yt : TypeId} {a b : Int} (h : Ops P B n all rest ((d, .int .i64 (a * b)) :: L) H Q) (hx : ev L x = some (.int .i64 a) := by rfl) (hy : ev L y = some (.int .i64 b) := by rfl) (hb : -9223372036854775808 ≤ a * b ∧ a * b ≤ 9223372036854775807 := by omega) (hd : Nat.blt d n = true := by rfl) : Ops P B n all (⟨some d, .binOp .mul t x y yt, ty, pos, after, none⟩ :: rest) L H Q := Ops.pure _ (zg4 hx hy hb.1 hb.2) hd h
end Go.Eng

namespace Go.Eng
variable {P : Program} {B : Base} {n : Nat} {L : Loc} {H : Heap} {Q : Post}

theorem zb7 {all : Array Oper} {rest : List Oper} {d : Nat} {t e ty : TypeId} {x : Operand} {pos : String} {after : Array Edge} {v zv : Value} [ht : USlice P t e] [hs : Siz P e 1] [hz : Zer P e zv]
    (h : ∀ r, Ops P B n all rest ((d, .slice (some ⟨r, 0, none⟩) 1 1) :: L) ([(r, cellsOf [v] e)] :: H) Q) (hx : ev L x = some v := by rfl) (hv : oneCell v = true := by rfl) (hzs : zv.cells.size = 1 := by rfl) (hd : Nat.blt d n = true := by rfl) :
    Ops P B n all (⟨some d, .buildSlice t 1 #[(0, x)], ty, pos, after, none⟩ :: rest) L H Q :=
  Ops.buildSlice1 [v] ht.out hs.out hz.out hzs hx (cells_one hv) rfl rfl rfl hd h
theorem zdn {all : Array Oper} {rest : List Oper} {d : Nat} {t e ty : TypeId} {x : Operand} {pos : String} {after : Array Edge} {vs : List Value} {sz : Nat} {zv : Value} [ht : USlice P t e] [hs : Siz P e sz] [hz : Zer P e zv]
    (h : ∀ r, Ops P B n all rest ((d, .slice (some ⟨r, 0, none⟩) 1 1) :: L) ([(r, cellsOf vs e)] :: H) Q) (hx : ev L x = some (.agg vs.toArray) := by rfl) (hl : vs.length = sz := by rfl) (hzs : zv.cells.size = sz := by rfl) (h1 : Nat.ble sz 16777216 = true := by rfl) (h2 : Nat.beq sz 0 = false := by rfl) (hd : Nat.blt d n = true := by rfl) :
    Ops P B n all (⟨some d, .buildSlice t 1 #[(0, x)], ty, pos, after, none⟩ :: rest) L H Q :=
  Ops.buildSlice1 vs ht.out hs.out hz.out hzs hx rfl hl h1 h2 hd h

theorem zbz {all : Array Oper} {rest : List Oper} {d : Nat} {t e ty sz by_ : Nat} {i : TypeInfo} {z : Value} {x y : Operand} {pos : String} {after : Array Edge} {v : Value} {m r c : Nat} {xs cs : List Value} {Bk : Blk} {H1 : Heap} [hE : ElemI P t e sz by_ i z]
    (hO : Own e sz v m xs Bk) (hm : m ≤ 1000000000)
    (h : ∀ v' Bk', Own e sz v' (m + 1) (xs ++ cs.take sz) Bk' → Ops P B n all rest ((d, v') :: L) (Bk' :: H1) Q)
    (hx : ev L x = some v := by rfl) (hy : ev L y = some (.slice (some ⟨r, 0, none⟩) 1 c) := by rfl)
    (hT : HTake H Bk H1 := by repeat (first | exact HTake.here | apply HTake.there))
    (hr : HMem H r (cellsOf cs e) := by repeat (first | exact HMem.here | apply HMem.skip | apply HMem.there))
    (hyl : Nat.beq (cs.take sz).length sz = true := by rfl) (hy1 : (cs.take sz).all oneCell = true := by rfl) (hb : Nat.ble by_ 1000 = true := by rfl) (hd : Nat.blt d n = true := by rfl) :
    Ops P B n all (⟨some d, .call ⟨.builtin .append, #[x, y], #[t, t]⟩, ty, pos, after, none⟩ :: rest) L H Q :=
  Ops.append1 (cs.take sz) H1 hE.out hx hy hO hT hr rfl hyl hy1 (by
    have h1 : by_ ≤ 1000 := Nat.le_of_ble_eq_true hb
    have h2 : (m + 1) * by_ ≤ 1000000001 * 1000 := Nat.mul_le_mul (by omega) h1
    omega) (by omega) hd h

theorem zc5 {all : Array Oper} {rest : List Oper} {t ty : TypeId} {x y : Operand} {pos : String} {after : Array Edge} {b off : Nat} {cs : List Value} {T : TypeId} {v : Value} {H' : Heap} [hs : Siz P t 1]
    (h : Ops P B n all rest L H' Q) (hx : ev L x = some (.pointer (some ⟨b, off, none⟩)) := by rfl) (hy : ev L y = some v := by rfl) (hv : oneCell v = true := by first | rfl | assumption)
    (hu : HUpd H b (cellsOf cs T) (cellsOf (cs.set off v) T) H' := by repeat (first | exact HUpd.here | apply HUpd.skip | apply HUpd.there)) (ho : off < cs.length := by first | omega | (simp only [List.length_set]; omega)) :
    Ops P B n all (⟨none, .store t x y, ty, pos, after, none⟩ :: rest) L H Q :=
  Ops.store _ H' hs.out hx hy hv hu rfl (by simpa using ho) h

theorem Own.pos {E sz : Nat} {v : Value} {m : Nat} {xs : List Value} {Bk : Blk} (h : Own E sz v (m + 1) xs Bk) :
    ∃ g cap cur, v = .slice (some ⟨g, 0, none⟩) (m + 1) cap ∧ Bk = [(g, cellsOf cur E)] ∧ m + 1 ≤ cap ∧ cap ≤ 9223372036854775807 ∧ cur.length = cap * sz ∧ cur.take ((m + 1) * sz) = xs := by
  obtain ⟨_, h | h⟩ := h
  · omega
  · exact h
theorem Own.mk' {E sz g m cap : Nat} {cur : List Value} (hm : m ≤ cap) (hc : cap ≤ 9223372036854775807) (hl : cur.length = cap * sz) : Own E sz (.slice (some ⟨g, 0, none⟩) m cap) m (cur.take (m * sz)) [(g, cellsOf cur E)] :=
  ⟨by rw [List.length_take, hl]; exact Nat.min_eq_left (Nat.mul_le_mul_right _ hm), .inr ⟨g, cap, cur, rfl, rfl, hm, hc, hl, rfl⟩⟩
/-- A call of a function value without captures. -/
theorem zbl {all : Array Oper} {rest : List Oper} {d : Nat} {f : FuncId} {x : Operand} {xs : List Operand} {tys : Array TypeId} {ty : TypeId} {pos : String} {after : Array Edge} {args : List Value} {Hc F H' G : Heap} {v : Value} [hf : Cal P f]
    (hT : TrD P f args Hc v H') (h : Ops P B n all rest ((d, v) :: L) G Q)
    (hv : ev L x = some (.func (.func f) #[] #[]) := by rfl) (hx : evs L xs = some args := by rfl)
    (ht : HTakes H Hc F := by repeat' (first | exact HTakes.nil | exact HTake.here | apply HTakes.cons | apply HTake.there)) (ha : HApp H' F G := by repeat (first | exact HApp.nil | apply HApp.cons)) (hd : Nat.blt d n = true := by rfl) :
    Ops P B n all (⟨some d, .call ⟨.value x, xs.toArray, tys⟩, ty, pos, after, none⟩ :: rest) L H Q :=
  Ops.call_val (fst := []) (caps := []) (R := fun u K => u = v ∧ K = H') hf.out hv hx (by simpa using hT) ht hd fun _ _ ⟨e1, e2⟩ => by subst e1 e2; rw [ha.spec]; exact h
theorem fill_ones {m : Nat} : ∀ (pv : List (Nat × Value)) (cs : List Value), cs.length = m → (pv.all fun p => Nat.blt p.1 m && oneCell p.2) = true →
    Instr.fill (fun i => some (i * 1, 1)) cs.toArray pv = some (pv.foldl (fun cs p => cs.set p.1 p.2) cs).toArray
  | [], _, _, _ => rfl
  | (i, v) :: pv, cs, hl, h => by
    simp only [List.all_cons, Bool.and_eq_true] at h
    obtain ⟨⟨h1, h2⟩, h3⟩ := h
    have h1' : i < m := by simpa using h1
    have h5 : ¬ (cs.length < i * 1 + 1) := by omega
    have ih := fill_ones pv (cs.set i v) (by simpa using hl) h3
    have e : (#[v].zipIdx.foldl (fun (cs : Array Value) x => cs.setIfInBounds (i * 1 + x.2) x.1) cs.toArray) = (cs.set i v).toArray := by simp
    simp only [Instr.fill, cells_one h2]
    simp only [List.size_toArray, List.length_cons, List.length_nil, Nat.zero_add, ne_eq, not_true_eq_false, decide_false, Bool.false_or]
    rw [if_neg (by simpa using h5)]
    exact (congrArg (fun x => Instr.fill (fun i => some (i * 1, 1)) x pv) e).trans ih

theorem zek {all : Array Oper} {rest : List Oper} {d m : Nat} {t e ty : TypeId} {ps : List (Nat × Operand)} {pv : List (Nat × Value)} {pos : String} {after : Array Edge} {zv : Value} {cs : List Value} [ht : USlice P t e] [hs : Siz P e 1] [hz : Zer P e zv]
    (h : ∀ r, Ops P B n all rest ((d, .slice (some ⟨r, 0, none⟩) m m) :: L) ([(r, cellsOf cs e)] :: H) Q) (hx : evps L ps = some pv := by rfl) (hp : (pv.all fun p => Nat.blt p.1 m && oneCell p.2) = true := by rfl)
    (hcs : pv.foldl (fun cs p => cs.set p.1 p.2) (List.replicate m zv) = cs := by rfl) (hz1 : oneCell zv = true := by rfl) (hm : Nat.ble m 10000 = true := by rfl) (hm0 : Nat.beq m 0 = false := by rfl) (hd : Nat.blt d n = true := by rfl) :
    Ops P B n all (⟨some d, .buildSlice t m ps.toArray, ty, pos, after, none⟩ :: rest) L H Q := by
  subst hcs
  have hm' : m ≤ 10000 := Nat.le_of_ble_eq_true hm
  have hm0' : ¬ m = 0 := fun e => by subst e; cases hm0
  have h1 : ¬ 16777216 < m := by omega
  refine Ops.step_value rfl fun a w ha hw => ⟨_, _, _, _, ?_, ha.put (by simpa using hd) _, hw.alloc (cellsOf _ e), h _⟩
  have h3 := evps_map ha.rho ps pv hx
  have hf := fill_ones pv (List.replicate m zv) (by simp) hp
  have e1 : ((Array.range (m * 1)).map fun x => (#[zv] : Array Value)[x % (#[zv] : Array Value).size]!) = (List.replicate m zv).toArray := by
    apply Array.ext
    · simp
    · intro i h1 h2
      simp [Nat.mod_one]
  have e2 : (List.map (fun (x : Nat × Operand) => (x.1, a.eval x.2)) ps) = pv := h3
  simp only [execOp, List.map_toArray, Instr.buildSlice, Sem.run_bind, underlying, run_program, ht.out, Result.andThen_ok, Sem.run_pure, hs.out]
  simp [hm0', h1, e2, newRow, hz.out, cells_one hz1]
  simp at e1 hf
  rw [e1, hf]
  simp
theorem SubH.addNil {H : Heap} : SubH H ([] :: H) := ⟨[], by simp⟩
theorem zct {all : Array Oper} {ops : List Oper} (h : Ops P B n all ops L ([] :: H) Q) : Ops P B n all ops L H Q :=
  ⟨fun a w ha hw => h.run a w ha (hw.sub SubH.addNil)⟩
theorem Own.view {E sz g m cap : Nat} {xs cur : List Value} (h : Own E sz (.slice (some ⟨g, 0, none⟩) m cap) m xs [(g, cellsOf cur E)]) :
    m ≤ cap ∧ cap ≤ 9223372036854775807 ∧ cur.length = cap * sz ∧ cur.take (m * sz) = xs := by
  obtain ⟨_, ⟨h1, _⟩ | ⟨g', cap', cur', h1, h2, h3, h4, h5, h6⟩⟩ := h
  · cases h1
  · injection h1 with h1 _ h1'
    injection h2 with h2 _
    injection h2 with _ h2
    injection h2 with h2
    have h2 : cur = cur' := List.toArray_inj h2
    subst h2 h1'
    exact ⟨h3, h4, h5, h6⟩
theorem Own.get {E sz g m cap j : Nat} {xs cur : List Value} {v : Value} (h : Own E sz (.slice (some ⟨g, 0, none⟩) m cap) m xs [(g, cellsOf cur E)]) (hj : xs[j]? = some v) : cur[j]? = some v := by
  obtain ⟨_, _, _, h4⟩ := h.view
  rw [← h4, List.getElem?_take] at hj
  split at hj
  · exact hj
  · cases hj
end Go.Eng

namespace Go.Eng
open Go

section
variable {P : Program} {ops : Array Oper} {md : Region.Mode} {w : World} {m : Nat}

/-- Each operation behind number m waits for one that is not ahead of m. -/
def treeB (md : Region.Mode) (ops : Array Oper) (m : Nat) : Bool :=
  (List.range ops.size).all fun t => decide (t ≤ m) || (List.range t).any fun u => decide (m ≤ u) && Region.waitsFor md ops t u

theorem sink_wait (hs : Region.sinkB md ops m = true) {listed : Array Bool} (inv : HeadInv md ops m listed) (hm : m < ops.size) :
    ∀ k i, m - i = k → i < m → listed.getD i true = false → m ∉ Region.ready md ops listed := by
  intro k
  induction k using Nat.strongRecOn with
  | _ k ih =>
    intro i hk hi hun hr
    have h1 := List.all_eq_true.1 hs i (List.mem_range.2 hi)
    obtain ⟨j, hj, h2⟩ := List.any_eq_true.1 h1
    rw [Bool.and_eq_true] at h2
    have hij : i < j := by simpa using h2.1
    have hjm : j ≤ m := by have := List.mem_range.1 hj; omega
    obtain ⟨oj, hoj, e, he, hb, hon⟩ := Region.waitsFor_spec h2.2
    have hno : listed.getD i false = true → False := fun h => by rw [getD_both hun] at h; cases h
    rcases Nat.lt_or_ge j m with hlt | hge
    · by_cases hl : listed.getD j false = true
      · exact hno (hon ▸ inv.closed j oj hoj hl e he hb)
      · have hs : j < listed.size := by rw [inv.size]; omega
        exact ih (m - j) (by omega) j rfl hlt (getD_in hs (by simpa using hl)) hr
    · have hjm' : j = m := by omega
      subst hjm'
      obtain ⟨_, o, ho, hall⟩ := mem_ready.1 hr
      have : oj = o := Option.some.inj (hoj.symm.trans ho)
      subst this
      exact hno (hon ▸ hall e he hb)

theorem tree_wait (hs : Region.sinkB md ops m = true) (ht : treeB md ops m = true) (hm : m < ops.size) {listed : Array Bool} (inv : HeadInv md ops m listed)
    {i : Nat} (hi : i < m) (hun : listed.getD i true = false) {t : Nat} (hr : t ∈ Region.ready md ops listed) : t < m := by
  rcases Nat.lt_trichotomy t m with h | h | h
  · exact h
  · subst h; exact absurd hr (sink_wait hs inv hm _ i rfl hi hun)
  · obtain ⟨_, o, ho, hall⟩ := mem_ready.1 hr
    have htl : t < ops.size := (Array.getElem?_eq_some_iff.1 ho).1
    have h1 := List.all_eq_true.1 ht t (List.mem_range.2 htl)
    rw [Bool.or_eq_true] at h1
    rcases h1 with h1 | h1
    · have : t ≤ m := by simpa using h1
      omega
    · obtain ⟨u, hu, h2⟩ := List.any_eq_true.1 h1
      rw [Bool.and_eq_true] at h2
      have hmu : m ≤ u := by simpa using h2.1
      have hut := List.mem_range.1 hu
      obtain ⟨o', ho', e, he, hb, hon⟩ := Region.waitsFor_spec h2.2
      have : o' = o := Option.some.inj (ho'.symm.trans ho)
      subst this
      have h3 := hall e he hb
      rw [hon, getD_both (inv.tail u hmu (by omega))] at h3
      cases h3

/-- A still operation of the head that can be taken first may be taken first. -/
theorem head_first {i : Nat} {oi : Oper} {v : Value} {Lq : Array Bool → Act → Prop} (hi : ops[i]? = some oi) (hsel : ∀ (j : Nat) (o : Oper) cs b, ops[j]? = some o → o.op ≠ .select cs b) (him : i < m)
    (hw : ∀ listed, HeadInv md ops m listed → ∀ i, i < m → listed.getD i true = false → ∀ j ∈ Region.ready md ops listed, j < m)
    (hdone : ∀ listed a, Lq listed a → ∀ j ∈ Region.ready md ops listed, m ≤ j) :
    ∀ (f : Nat) (listed : Array Bool) (a : Act), HeadInv md ops m listed →
      (∀ j oj, ops[j]? = some oj → j ≠ i → listed.getD j true = false → (∀ e ∈ oj.after, Region.binds md e = true → e.on ≠ i) → oi.apart ops oj = true) →
      i ∈ Region.ready md ops listed → YieldsAt P ops w oi v a →
      wpAnyL P md ops w m Lq f (listed.setIfInBounds i true) (a.put oi.dst v) → wpAnyL P md ops w m Lq (f + 1) listed a := by
  intro f
  induction f with
  | zero =>
    intro listed a inv _ hr hy H
    refine ⟨fun h => (by rw [h] at hr; cases hr), fun j hj => ⟨hw listed inv i him (mem_ready.1 hr).1 j hj, ?_⟩⟩
    by_cases hji : j = i
    · subst hji; exact hy.stOp hi H
    · have h1 := hdone _ _ H j (ready_mono hj hji)
      have h2 := hw listed inv i him (mem_ready.1 hr).1 j hj
      omega
  | succ f ih =>
    intro listed a inv hfree hr hy H
    refine ⟨fun h => (by rw [h] at hr; cases hr), fun j hj => ⟨hw listed inv i him (mem_ready.1 hr).1 j hj, ?_⟩⟩
    by_cases hji : j = i
    · subst hji; exact hy.stOp hi H
    · have hjm := hw listed inv i him (mem_ready.1 hr).1 j hj
      obtain ⟨hjun, oj, hoj, hall⟩ := mem_ready.1 hj
      have h1 := (H.2 j (ready_mono hj hji)).2
      have hno : ∀ e ∈ oj.after, Region.binds md e = true → e.on ≠ i := fun e he hb heq => by
        have h2 := hall e he hb
        rw [heq, getD_both (mem_ready.1 hr).1] at h2
        cases h2
      have h3 := stOp_put hoj (hfree j oj hoj hji hjun hno) (fun cs b => hsel i oi cs b hi) (fun cs b => hsel j oj cs b hoj) hy h1
      refine stOp_mono (fun a' h4 => ih (listed.setIfInBounds j true) a' (inv.set hj hjm) (fun k ok hk hki hun hn => hfree k ok hk hki ?_ hn) (ready_mono hr (Ne.symm hji)) h4.1 ?_) h3
      · by_cases hjk : j = k
        · subst hjk; exact hjun
        · rw [getD_set_ne true hjk] at hun; exact hun
      · rw [Array.setIfInBounds_comm _ _ hji]
        exact h4.2

def headB (md : Region.Mode) (ops : Array Oper) (m : Nat) : Nat → Nat → Array Bool → Bool
  | 0, _, listed => (Region.ready md ops listed).all fun j => Nat.ble m j
  | f + 1, k, listed => (Region.ready md ops listed).contains k && Region.free md ops listed k && headB md ops m f (k + 1) (listed.setIfInBounds k true)

def listedTo (listed : Array Bool) : Nat → Nat → Array Bool
  | _, 0 => listed
  | k, f + 1 => listedTo (listed.setIfInBounds k true) (k + 1) f

theorem head_lex {Lq : Act → Prop} (hsel : Region.noSelect ops = true) 
    (hw : ∀ listed, HeadInv md ops m listed → ∀ i, i < m → listed.getD i true = false → ∀ j ∈ Region.ready md ops listed, j < m) :
    ∀ (l : List Oper) (k : Nat) (listed : Array Bool) (a : Act), (∀ j, j < l.length → l[j]? = ops[k + j]?) → k + l.length = m → HeadInv md ops m listed →
    headB md ops m l.length k listed = true → wpStill P ops w Lq l a →
    wpAnyL P md ops w m (fun listed' a' => (listed' = listedTo listed k l.length ∧ ∀ j ∈ Region.ready md ops listed', m ≤ j) ∧ Lq a') l.length listed a
  | [], k, listed, a, _, _, _, hB, h => ⟨⟨rfl, fun j hj => by
      have := List.all_eq_true.1 hB j hj
      exact Nat.le_of_ble_eq_true this⟩, h⟩
  | o :: l, k, listed, a, hl, hk, inv, hB, h => by
    have h0 : ops[k]? = some o := by simpa using (hl 0 (by simp)).symm
    simp only [List.length_cons, headB, Bool.and_eq_true] at hB
    obtain ⟨⟨hr, hf⟩, hB'⟩ := hB
    simp only [List.length_cons] at hk
    have hr' : k ∈ Region.ready md ops listed := by simpa using hr
    have hst : stOp P ops w k (wpStill P ops w Lq l) a := by unfold stOp; simp only [h0]; exact h
    obtain ⟨v, hy, hK⟩ := yieldsAt_of_stOp h0 hst
    exact head_first h0 (Region.noSelect_spec hsel) (by omega) hw (fun _ _ hL => hL.1.2) l.length listed a inv (Region.free_spec h0 hf) hr' hy
      (head_lex hsel hw l (k + 1) _ _ (fun j hj => by have := hl (j + 1) (by simp; omega); simpa [Nat.add_assoc, Nat.add_comm 1 j] using this) (by omega) (inv.set hr' (by omega)) hB' hK)
end

variable {P : Program} {B : Base} {n : Nat} {L : Loc} {H : Heap} {Q : Post}

/-- The rest of a region in every order that is left. -/
structure OpsA (P : Program) (B : Base) (n : Nat) (all : Array Oper) (fuel : Nat) (listed : Array Bool) (L : Loc) (H : Heap) (Q : Post) : Prop where
  run : ∀ a w, Fits n L a → Inv B H w → wpAny P .any all (postOf B n Q) fuel listed a w

def treeTailB (ops : Array Oper) (k : Nat) : Bool :=
  Region.noSelect ops && Nat.blt k ops.size && Region.sinkB .any ops k && treeB .any ops k && headB .any ops k k 0 (Array.replicate ops.size false)

theorem OpsA.nil {all : Array Oper} {listed : Array Bool} (hr : Region.ready .any all listed = []) (h : Q .normal L H) : OpsA P B n all 0 listed L H Q :=
  ⟨fun _ _ ha hw => ⟨hr, L, H, ha, hw, h⟩⟩

theorem wp_post {P : Program} {o : Oper} {a : Act} {w : World} {K : Act → World → Prop} {Q Q' : Exit → Act → World → Prop} (hp : ∀ c a w, Q' (.panic c) a w → Q (.panic c) a w) (ho : LetsOut Q' → LetsOut Q)
    (hh : o.wp P a w K Q') : o.wp P a w K Q := by
  unfold Oper.wp at *
  generalize (execOp a.eval o).run P w = r at *
  cases r with
  | ok n w' =>
    cases n <;> simp only [Oper.upon] at hh ⊢ <;>
      first
        | exact hh
        | exact Calls.mono hh (fun e w'' he => by cases e <;> first | exact he | exact hp _ _ _ he | exact ho he)
        | exact Rows.mono hh (fun _ _ he => he)
  | halt x w' => cases x <;> simp only [Oper.upon] at hh ⊢ <;> first | exact hh | exact hp _ _ _ hh

theorem wpOp_post {P : Program} {ops : Array Oper} {i : Nat} {a : Act} {w : World} {K : Act → World → Prop} {Q Q' : Exit → Act → World → Prop} (hp : ∀ c a w, Q' (.panic c) a w → Q (.panic c) a w) (ho : LetsOut Q' → LetsOut Q)
    (hh : wpOp P ops Q' i K a w) : wpOp P ops Q i K a w := by
  unfold wpOp at *
  split
  · rename_i h; simp only [h] at hh; exact hh
  · rename_i o h
    simp only [h] at hh
    split
    · rename_i hw; simp only [hw, if_true] at hh; exact hh.imp (wp_post hp ho) (fun ⟨h1, h2⟩ => ⟨h1, ho h2⟩)
    · rename_i hw; simp only [hw] at hh; exact hh

/-- One operation alone is ready. -/
theorem OpsA.only {all : Array Oper} {fuel : Nat} {listed : Array Bool} (k : Nat) (o : Oper) (hr : Region.ready .any all listed = [k]) (hk : all[k]? = some o)
    (h : Ops P B n all [o] L H (andThen (fun L' H' => OpsA P B n all fuel (listed.setIfInBounds k true) L' H' Q) Q)) : OpsA P B n all (fuel + 1) listed L H Q := by
  refine ⟨fun a w ha hw => ⟨fun h0 => (by rw [hr] at h0; cases h0), fun i hi => ?_⟩⟩
  rw [hr] at hi
  have hik : i = k := by simpa using hi
  subst hik
  have h1 : wpOp P all (postOf B n (andThen (fun L' H' => OpsA P B n all fuel (listed.setIfInBounds i true) L' H' Q) Q)) i (wpList P all (postOf B n (andThen (fun L' H' => OpsA P B n all fuel (listed.setIfInBounds i true) L' H' Q) Q)) []) a w := by
    unfold wpOp; simp only [hk]; exact h.run a w ha hw
  refine wpOp_mono (fun a' w' h2 => ?_) (wpOp_post (fun c a w h => h) (fun ⟨a, w, h⟩ => ⟨a, w, h⟩) h1)
  obtain ⟨L', H', hf, hi, h3⟩ := h2
  exact OpsA.run h3 a' w' hf hi

/-- What stands behind does not wait for a panic. -/
class NoPan (Q : Post) : Prop where out : ∀ c L H, ¬ Q (.panic c) L H
instance {rs : List ResultVar} {R : Value → Heap → Prop} : NoPan (endPost P rs R) := ⟨fun c L H h => by rcases h.1 with h | h <;> cases h⟩
instance {K : Loc → Heap → Prop} [h : NoPan Q] : NoPan (andThen K Q) := ⟨fun c L H hq => h.out c L H hq⟩
instance {id : Nat} [h : NoPan Q] : NoPan (atBlock id Q) := ⟨fun c L H hq => h.out c L H hq⟩
instance [h : NoPan Q] : NoPan (noGo Q) := ⟨fun c L H hq => h.out c L H hq⟩

/-- A slot is moved, or a part of a pair taken, ahead of what else is ready. -/
theorem OpsA.first {all : Array Oper} {fuel : Nat} {listed : Array Bool} (k : Nat) {op : Op} {ty : TypeId} {pos : String} {after : Array Edge} {d : Nat} (v : Value) [hnp : NoPan Q] (hr : (Region.ready .any all listed).contains k = true) (hk : all[k]? = some ⟨some d, op, ty, pos, after, none⟩) (hsel : Region.noSelect all = true) (hf : Region.free .any all listed k = true)
    (hdn : Nat.blt d n = true) (hy : Pure1 P L [] op ty v)
    (h : OpsA P B n all fuel (listed.setIfInBounds k true) ((d, v) :: L) H Q) : OpsA P B n all (fuel + 1) listed L H Q := by
  refine ⟨fun a w ha hw => ?_⟩
  refine wpAny_first hk (Region.noSelect_spec hsel) ?_ fuel listed a w (Region.free_spec hk hf) (by simpa using hr) (.inl ⟨rfl, fun w => hy a.eval w _ ha.rho (fun b o hm => by simp at hm) rfl rfl⟩) ?_
  · rintro c a w ⟨L', H', h1, h2, h3⟩
    exact absurd h3 (hnp.out c L' H')
  · exact h.run _ _ (ha.put (by simpa using hdn) v) hw

theorem Wp.draw_tree {id : Nat} {l : List Oper} (k g : Nat) (hm : P.follows .mixedOrders = true) (hB : treeTailB l.toArray k = true) (hg : l.length = k + g)
    (h : OpsS P B n l.toArray [] (l.take k) L H (andThen (fun L' H' => OpsA P B n l.toArray g (listedTo (Array.replicate l.length false) 0 k) L' H' Q) Q)) : Wp P B n (.region id l.toArray true) L H Q := by
  obtain rfl : g = l.length - k := by omega
  simp only [treeTailB, Bool.and_eq_true] at hB
  obtain ⟨⟨⟨⟨hsel, hk⟩, hs⟩, ht⟩, hb⟩ := hB
  have hk' : k < l.length := by simpa using hk
  refine ⟨fun a w ha hw => wp_region_any hm ?_⟩
  have htl : (l.take k).length = k := by simp; omega
  have inv0 : HeadInv .any l.toArray k (Array.replicate l.toArray.size false) :=
    ⟨by simp, fun j oj _ hl => (by rw [getD_replicate_false] at hl; cases hl), fun t _ ht => getD_in (by simpa using ht) (getD_replicate_false _ _)⟩
  have hst := h.run a { w with drawn := w.drawn + 1 } ha (hw.drew _)
  have H1 := head_lex (md := .any) (m := k) hsel (fun listed inv i hi hun j hj => tree_wait hs ht (by simpa using hk') inv hi hun hj) (l.take k) 0 _ a (fun j hj => by
    have hj' : j < k := by rw [htl] at hj; exact hj
    simp [hj']) (by simpa using htl) inv0 (by rw [htl]; exact hb) hst
  have H2 := wpAny_of_head (Q' := postOf B n Q) (g := l.length - k) (fun listed a' hL => by
    obtain ⟨⟨e, _⟩, L', H', h1, h2, h3⟩ := hL
    have h4 := OpsA.run h3 a' _ h1 h2
    rw [e, htl]
    simpa using h4) _ _ _ H1
  rw [htl, show k + (l.length - k) = l.toArray.size by simp; omega] at H2
  exact H2

end Go.Eng

namespace Go.Eng
variable {P : Program} {B : Base} {n : Nat} {L : Loc} {H C : Heap} {Q : Post}

/-- The rest of a region in every order that is left, where the cells C stay as they are. -/
structure OpsH (P : Program) (B : Base) (n : Nat) (all : Array Oper) (C : Heap) (fuel : Nat) (listed : Array Bool) (L : Loc) (H : Heap) (Q : Post) : Prop where
  run : ∀ a w, Fits n L a → Inv B H w → HasH C w → wpAnyH P .any all (postOf B n Q) (HasH C) fuel listed a w

theorem has_sub {w : World} (h : Inv B H w) (hs : SubH H C) : HasH C w := (h.sub hs).has

theorem OpsH.nil {all : Array Oper} {fuel : Nat} {listed : Array Bool} (hr : Region.ready .any all listed = []) (h : Q .normal L H) : OpsH P B n all C fuel listed L H Q :=
  ⟨fun _ _ ha hw _ => wpAnyH_done hr ⟨L, H, ha, hw, h⟩ _⟩

theorem OpsH.first {all : Array Oper} {fuel : Nat} {listed : Array Bool} (k : Nat) {op : Op} {ty : TypeId} {pos : String} {after : Array Edge} {d : Nat} (v : Value) [hnp : NoPan Q] (hr : (Region.ready .any all listed).contains k = true) (hk : all[k]? = some ⟨some d, op, ty, pos, after, none⟩) (hsel : Region.noSelect all = true) (hf : Region.free .any all listed k = true)
    (hdn : Nat.blt d n = true) (hy : Pure1 P L C op ty v)
    (h : OpsH P B n all C fuel (listed.setIfInBounds k true) ((d, v) :: L) H Q) : OpsH P B n all C (fuel + 1) listed L H Q := by
  refine ⟨fun a w ha hw hC => ?_⟩
  refine wpAnyH_take hk hsel hf hr ?_ (.inl ⟨rfl, fun w hw => hy a.eval w _ ha.rho hw rfl rfl⟩) hC ?_
  · rintro c a w ⟨L', H', h1, h2, h3⟩
    exact absurd h3 (hnp.out c L' H')
  · exact h.run _ _ (ha.put (by simpa using hdn) v) hw hC

theorem OpsH.only {all : Array Oper} {fuel : Nat} {listed : Array Bool} (k : Nat) (o : Oper) (hr : Region.ready .any all listed = [k]) (hk : all[k]? = some o)
    (h : Ops P B n all [o] L H (andThen (fun L' H' => SubH H' C ∧ OpsH P B n all C fuel (listed.setIfInBounds k true) L' H' Q) Q)) : OpsH P B n all C (fuel + 1) listed L H Q := by
  refine ⟨fun a w ha hw hC => wpAnyH_all hr (by simp) fun i hi => ?_⟩
  have hik : i = k := by simpa using hi
  subst hik
  have h1 : wpOp P all (postOf B n (andThen (fun L' H' => SubH H' C ∧ OpsH P B n all C fuel (listed.setIfInBounds i true) L' H' Q) Q)) i (wpList P all (postOf B n (andThen (fun L' H' => SubH H' C ∧ OpsH P B n all C fuel (listed.setIfInBounds i true) L' H' Q) Q)) []) a w := by
    unfold wpOp; simp only [hk]; exact h.run a w ha hw
  refine wpOp_mono (fun a' w' h2 => ?_) (wpOp_post (fun c a w h => h) (fun ⟨a, w, h⟩ => ⟨a, w, h⟩) h1)
  obtain ⟨L', H', hf, hi, hs, h3⟩ := h2
  exact ⟨has_sub hi hs, OpsH.run h3 a' w' hf hi (has_sub hi hs)⟩

/-- Two operations are ready. -/
theorem OpsH.two {all : Array Oper} {fuel : Nat} {listed : Array Bool} (j k : Nat) (oj ok : Oper) (hr : Region.ready .any all listed = [j, k]) (hj : all[j]? = some oj) (hk : all[k]? = some ok)
    (h1 : Ops P B n all [oj] L H (andThen (fun L' H' => SubH H' C ∧ OpsH P B n all C fuel (listed.setIfInBounds j true) L' H' Q) Q))
    (h2 : Ops P B n all [ok] L H (andThen (fun L' H' => SubH H' C ∧ OpsH P B n all C fuel (listed.setIfInBounds k true) L' H' Q) Q)) : OpsH P B n all C (fuel + 1) listed L H Q := by
  refine ⟨fun a w ha hw hC => wpAnyH_all hr (by simp) fun i hi => ?_⟩
  have hik : i = j ∨ i = k := by simpa using hi
  have key : ∀ (i : Nat) (o : Oper), all[i]? = some o → Ops P B n all [o] L H (andThen (fun L' H' => SubH H' C ∧ OpsH P B n all C fuel (listed.setIfInBounds i true) L' H' Q) Q) →
      wpOp P all (postOf B n Q) i (fun a' w' => HasH C w' ∧ wpAnyH P .any all (postOf B n Q) (HasH C) fuel (listed.setIfInBounds i true) a' w') a w := by
    intro i o hk h
    have h1 : wpOp P all (postOf B n (andThen (fun L' H' => SubH H' C ∧ OpsH P B n all C fuel (listed.setIfInBounds i true) L' H' Q) Q)) i (wpList P all (postOf B n (andThen (fun L' H' => SubH H' C ∧ OpsH P B n all C fuel (listed.setIfInBounds i true) L' H' Q) Q)) []) a w := by
      unfold wpOp; simp only [hk]; exact h.run a w ha hw
    refine wpOp_mono (fun a' w' h2 => ?_) (wpOp_post (fun c a w h => h) (fun ⟨a, w, h⟩ => ⟨a, w, h⟩) h1)
    obtain ⟨L', H', hf, hi, hs, h3⟩ := h2
    exact ⟨has_sub hi hs, OpsH.run h3 a' w' hf hi (has_sub hi hs)⟩
  rcases hik with rfl | rfl
  · exact key _ _ hj h1
  · exact key _ _ hk h2

theorem Wp.draw_held {id : Nat} {l : List Oper} (C : Heap) (g : Nat) (hm : P.follows .mixedOrders = true) (hs : SubH H C) (hg : l.length = g)
    (h : OpsH P B n l.toArray C g (Array.replicate l.length false) L H Q) : Wp P B n (.region id l.toArray true) L H Q := by
  subst hg
  refine ⟨fun a w ha hw => wp_region_held (S := HasH C) hm ?_⟩
  have hd := hw.drew (w.drawn + 1)
  have := h.run a { w with drawn := w.drawn + 1 } ha hd (has_sub hd hs)
  simpa using this
theorem zao {all : Array Oper} {rest : List Oper} {d : Nat} {t ty : TypeId} {pos : String} {after : Array Edge} {ps : List (Nat × Operand)} {pv : List (Nat × Value)} {zs zs' : List Value} {pl : List (Nat × Nat)} [hp : Places P t pl] [hz : Zer P t (.agg zs.toArray)]
    (h : Ops P B n all rest ((d, .agg zs'.toArray) :: L) H Q) (hx : evps L ps = some pv := by rfl)
    (hf : BFill pl zs pv zs' := by repeat' (first | exact BFill.nil | refine' BFill.one (by rfl) (by rfl) (by repeat constructor) ?_ | refine' BFill.agg (by rfl) (by rfl) (by repeat constructor) ?_)) (hd : Nat.blt d n = true := by rfl) :
    Ops P B n all (⟨some d, .build t ps.toArray, ty, pos, after, none⟩ :: rest) L H Q := Ops.pure _ (zbn hx hf) hd h
theorem zgp {all : Array Oper} {rest : List Oper} {d : Nat} {ty : TypeId} {pos : String} {after : Array Edge} {x y : Operand} {t e : TypeId} {r off m c sz : Nat} {z : Int} [ht : USlice P t e] [hs : Siz P e sz] (h : Ops P B n all rest ((d, .pointer (some ⟨r, off + z.toNat * sz, none⟩)) :: L) H Q) (hx : ev L x = some (.slice (some ⟨r, off, none⟩) m c) := by rfl) (hy : ev L y = some (.int .i64 z) := by rfl) (hi : 0 ≤ z ∧ z.toNat < m := by omega) (hd : Nat.blt d n = true := by rfl) : Ops P B n all (⟨some d, .indexAddr t x y, ty, pos, after, none⟩ :: rest) L H Q := Ops.pure _ (zbi hx (by rw [hy]; congr 2; omega) hi.2) hd h
end Go.Eng

namespace Go.Eng
open Go
section
variable {P : Program} {ops : Array Oper} {Q : Exit → Act → World → Prop} {md : Region.Mode} {T : World → Prop} {k : Nat}

/-- What is held while operation k has not come up. -/
def till (k : Nat) (T : World → Prop) (listed : Array Bool) (w : World) : Prop := listed.getD k false = false → T w

def wpAnyK (P : Program) (md : Region.Mode) (ops : Array Oper) (Q : Exit → Act → World → Prop) (T : World → Prop) (k : Nat) : Nat → Array Bool → Act → World → Prop
  | 0, listed, a, w => Region.ready md ops listed = [] ∧ Q .normal a w
  | fuel + 1, listed, a, w =>
    (Region.ready md ops listed = [] → Q .normal a w) ∧
    ∀ i ∈ Region.ready md ops listed, wpOp P ops Q i (fun a' w' => till k T (listed.setIfInBounds i true) w' ∧ wpAnyK P md ops Q T k fuel (listed.setIfInBounds i true) a' w') a w

theorem wpAny_of_K : ∀ (fuel : Nat) (listed : Array Bool) (a : Act) (w : World), wpAnyK P md ops Q T k fuel listed a w → wpAny P md ops Q fuel listed a w
  | 0, _, _, _, h => h
  | fuel + 1, _, _, _, h => ⟨h.1, fun i hi => wpOp_mono (fun a' w' h' => wpAny_of_K fuel _ a' w' h'.2) (h.2 i hi)⟩

def Closed (md : Region.Mode) (ops : Array Oper) (listed : Array Bool) : Prop :=
  ∀ j oj, ops[j]? = some oj → listed.getD j false = true → ∀ e ∈ oj.after, Region.binds md e = true → listed.getD e.on false = true
theorem Closed.set {listed : Array Bool} {i : Nat} (inv : Closed md ops listed) (hi : i ∈ Region.ready md ops listed) : Closed md ops (listed.setIfInBounds i true) := by
  obtain ⟨_, oi, hoi, hall⟩ := mem_ready.1 hi
  intro j oj hj hl e he hb
  by_cases hij : i = j
  · subst hij
    have : oj = oi := Option.some.inj (hj.symm.trans hoi)
    subst this
    exact getD_set_true (hall e he hb)
  · rw [getD_set_ne false hij] at hl
    exact getD_set_true (inv j oj hj hl e he hb)

/-- Each of the row waits for the one ahead of it. -/
def pathB (md : Region.Mode) (ops : Array Oper) : Nat → List Nat → Nat → Bool
  | i, [], k => Region.waitsFor md ops k i
  | i, j :: l, k => Region.waitsFor md ops j i && pathB md ops j l k
theorem path_listed {listed : Array Bool} (hc : Closed md ops listed) (hk : listed.getD k false = true) : ∀ (l : List Nat) (i : Nat), pathB md ops i l k = true → listed.getD i false = true
  | [], i, h => by
    obtain ⟨ok, hok, e, he, hb, hon⟩ := Region.waitsFor_spec h
    exact hon ▸ hc k ok hok hk e he hb
  | j :: l, i, h => by
    rw [pathB, Bool.and_eq_true] at h
    obtain ⟨oj, hoj, e, he, hb, hon⟩ := Region.waitsFor_spec h.1
    exact hon ▸ hc j oj hoj (path_listed hc hk l j h.2) e he hb

/-- An operation that k waits for, or that reads nothing, may be taken first. -/
theorem wpAnyK_first {i : Nat} {oi : Oper} {v : Value} (hi : ops[i]? = some oi) (hik : i ≠ k) (hsel : ∀ (j : Nat) (o : Oper) cs b, ops[j]? = some o → o.op ≠ .select cs b)
    (hQ : ∀ c a w, Q (.panic c) (a.put oi.dst v) w → Q (.panic c) a w)
    {S0 : World → Prop} (hS0 : ∀ listed w, Closed md ops listed → listed.getD i false = false → till k T listed w → S0 w) :
    ∀ (fuel : Nat) (listed : Array Bool) (a : Act) (w : World), Closed md ops listed →
      (∀ j oj, ops[j]? = some oj → j ≠ i → listed.getD j true = false → (∀ e ∈ oj.after, Region.binds md e = true → e.on ≠ i) → oi.apart ops oj = true) →
      i ∈ Region.ready md ops listed → YieldsIf P ops S0 oi v a → till k T listed w →
      wpAnyK P md ops Q T k fuel (listed.setIfInBounds i true) (a.put oi.dst v) w → wpAnyK P md ops Q T k (fuel + 1) listed a w := by
  have hti : ∀ (listed : Array Bool) w, till k T listed w → till k T (listed.setIfInBounds i true) w := fun listed w h h2 => h (by rwa [getD_set_ne false hik] at h2)
  intro fuel
  induction fuel with
  | zero =>
    intro listed a w hcl _ hr hy hS H
    refine ⟨fun h => (by rw [h] at hr; cases hr), fun j hj => ?_⟩
    by_cases hji : j = i
    · subst hji; exact hy.wpOp hi (hS0 _ _ hcl (getD_both (mem_ready.1 hr).1) hS) ⟨hti _ _ hS, H⟩
    · have := ready_mono hj hji
      rw [H.1] at this
      cases this
  | succ fuel ih =>
    intro listed a w hcl hfree hr hy hS H
    refine ⟨fun h => (by rw [h] at hr; cases hr), fun j hj => ?_⟩
    by_cases hji : j = i
    · subst hji; exact hy.wpOp hi (hS0 _ _ hcl (getD_both (mem_ready.1 hr).1) hS) ⟨hti _ _ hS, H⟩
    · have h1 := H.2 j (ready_mono hj hji)
      obtain ⟨hjun, oj, hoj, hall⟩ := mem_ready.1 hj
      have hun := getD_both (mem_ready.1 hr).1
      have hnot : ∀ e ∈ oj.after, Region.binds md e = true → e.on ≠ i := fun e he hb heq => by
        have h1 := hall e he hb
        rw [heq, hun] at h1
        cases h1
      have h2 := wpOp_putIf hoj (hfree j oj hoj hji hjun hnot) (fun cs b => hsel i oi cs b hi) (fun cs b => hsel j oj cs b hoj) hQ hy h1
      have hfree' : ∀ k ok, ops[k]? = some ok → k ≠ i → (listed.setIfInBounds j true).getD k true = false →
          (∀ e ∈ ok.after, Region.binds md e = true → e.on ≠ i) → oi.apart ops ok = true := fun k ok hk hki hun hno => by
        refine hfree k ok hk hki ?_ hno
        by_cases hjk : j = k
        · subst hjk; exact hjun
        · rw [getD_set_ne true hjk] at hun; exact hun
      refine wpOp_mono (fun a' w' h3 => ?_) h2
      obtain ⟨h4, h5, h6⟩ := h3
      have hS' : till k T (listed.setIfInBounds j true) w' := fun h7 => h5 (by rw [← Array.setIfInBounds_comm _ _ hji, getD_set_ne false hik]; exact h7)
      refine ⟨hS', ih (listed.setIfInBounds j true) a' w' (hcl.set hj) hfree' (ready_mono hr (Ne.symm hji)) h4 hS' ?_⟩
      rw [Array.setIfInBounds_comm _ _ hji]
      exact h6
end

variable {P : Program} {B : Base} {n : Nat} {L : Loc} {H C : Heap} {Q : Post}

/-- The rest of a region in every order that is left, where the cells C stay as they are till operation k. -/
structure OpsK (P : Program) (B : Base) (n : Nat) (all : Array Oper) (C : Heap) (k : Nat) (fuel : Nat) (listed : Array Bool) (L : Loc) (H : Heap) (Q : Post) : Prop where
  run : Closed .any all listed → ∀ a w, Fits n L a → Inv B H w → till k (HasH C) listed w → wpAnyK P .any all (postOf B n Q) (HasH C) k fuel listed a w

theorem OpsK.only {all : Array Oper} {fuel k : Nat} {listed : Array Bool} (j : Nat) (o : Oper) (hr : Region.ready .any all listed = [j]) (hj : all[j]? = some o)
    (h : Ops P B n all [o] L H (andThen (fun L' H' => ((listed.setIfInBounds j true).getD k false = false → SubH H' C) ∧ OpsK P B n all C k fuel (listed.setIfInBounds j true) L' H' Q) Q)) : OpsK P B n all C k (fuel + 1) listed L H Q := by
  refine ⟨fun hcl a w ha hw hC => ⟨fun h0 => (by rw [hr] at h0; cases h0), fun i hi => ?_⟩⟩
  have hmem : j ∈ Region.ready .any all listed := by rw [hr]; simp
  rw [hr] at hi
  have hik : i = j := by simpa using hi
  subst hik
  have h1 : wpOp P all (postOf B n (andThen (fun L' H' => ((listed.setIfInBounds i true).getD k false = false → SubH H' C) ∧ OpsK P B n all C k fuel (listed.setIfInBounds i true) L' H' Q) Q)) i (wpList P all (postOf B n (andThen (fun L' H' => ((listed.setIfInBounds i true).getD k false = false → SubH H' C) ∧ OpsK P B n all C k fuel (listed.setIfInBounds i true) L' H' Q) Q)) []) a w := by
    unfold wpOp; simp only [hj]; exact h.run a w ha hw
  refine wpOp_mono (fun a' w' h2 => ?_) (wpOp_post (fun c a w h => h) (fun ⟨a, w, h⟩ => ⟨a, w, h⟩) h1)
  obtain ⟨L', H', hf, hi, hs, h3⟩ := h2
  have ht : till k (HasH C) (listed.setIfInBounds i true) w' := fun h0 => has_sub hi (hs h0)
  exact ⟨ht, OpsK.run h3 (hcl.set hmem) a' w' hf hi ht⟩

/-- One that reads nothing is taken first. -/
theorem OpsK.first {all : Array Oper} {fuel k : Nat} {listed : Array Bool} (j : Nat) {op : Op} {ty : TypeId} {pos : String} {after : Array Edge} {d : Nat} (v : Value) [hnp : NoPan Q] (hjk : Nat.beq j k = false) (hr : (Region.ready .any all listed).contains j = true) (hj : all[j]? = some ⟨some d, op, ty, pos, after, none⟩) (hsel : Region.noSelect all = true) (hf : Region.free .any all listed j = true)
    (hdn : Nat.blt d n = true) (hy : Pure1 P L [] op ty v)
    (h : OpsK P B n all C k fuel (listed.setIfInBounds j true) ((d, v) :: L) H Q) : OpsK P B n all C k (fuel + 1) listed L H Q := by
  have hjk' : j ≠ k := fun e => by subst e; rw [Nat.beq_refl] at hjk; cases hjk
  refine ⟨fun hcl a w ha hw hC => ?_⟩
  have hmem : j ∈ Region.ready .any all listed := by simpa using hr
  refine wpAnyK_first hj hjk' (Region.noSelect_spec hsel) ?_ (S0 := fun _ => True) (fun _ _ _ _ _ => trivial) fuel listed a w hcl (Region.free_spec hj hf) hmem (.inl ⟨rfl, fun w _ => hy a.eval w _ ha.rho (fun b o hm => by simp at hm) rfl rfl⟩) hC ?_
  · rintro c a w ⟨L', H', h1, h2, h3⟩
    exact absurd h3 (hnp.out c L' H')
  · exact h.run (hcl.set hmem) _ _ (ha.put (by simpa using hdn) v) hw (fun h0 => hC (by rwa [getD_set_ne false hjk'] at h0))

/-- One that reads what stays till k, and that k waits for, is taken first. -/
theorem OpsK.firstL {all : Array Oper} {fuel k : Nat} {listed : Array Bool} (j : Nat) (path : List Nat) {op : Op} {ty : TypeId} {pos : String} {after : Array Edge} {d : Nat} (v : Value) [hnp : NoPan Q] (hjk : Nat.beq j k = false) (hp : pathB .any all j path k = true) (hr : (Region.ready .any all listed).contains j = true) (hj : all[j]? = some ⟨some d, op, ty, pos, after, none⟩) (hsel : Region.noSelect all = true) (hf : Region.free .any all listed j = true)
    (hdn : Nat.blt d n = true) (hy : Pure1 P L C op ty v)
    (h : OpsK P B n all C k fuel (listed.setIfInBounds j true) ((d, v) :: L) H Q) : OpsK P B n all C k (fuel + 1) listed L H Q := by
  have hjk' : j ≠ k := fun e => by subst e; rw [Nat.beq_refl] at hjk; cases hjk
  refine ⟨fun hcl a w ha hw hC => ?_⟩
  have hmem : j ∈ Region.ready .any all listed := by simpa using hr
  refine wpAnyK_first hj hjk' (Region.noSelect_spec hsel) ?_ (S0 := HasH C) ?_ fuel listed a w hcl (Region.free_spec hj hf) hmem (.inl ⟨rfl, fun w h0 => hy a.eval w _ ha.rho h0 rfl rfl⟩) hC ?_
  · rintro c a w ⟨L', H', h1, h2, h3⟩
    exact absurd h3 (hnp.out c L' H')
  · intro listed' w' hcl' hun ht
    refine ht ?_
    cases hk : listed'.getD k false with
    | false => rfl
    | true => rw [path_listed hcl' hk path j hp] at hun; cases hun
  · exact h.run (hcl.set hmem) _ _ (ha.put (by simpa using hdn) v) hw (fun h0 => hC (by rwa [getD_set_ne false hjk'] at h0))

theorem OpsK.nil {all : Array Oper} {k : Nat} {listed : Array Bool} (hr : Region.ready .any all listed = []) (h : Q .normal L H) : OpsK P B n all C k 0 listed L H Q :=
  ⟨fun _ _ _ ha hw _ => ⟨hr, L, H, ha, hw, h⟩⟩

theorem Wp.draw_till {id : Nat} {l : List Oper} (C : Heap) (k g : Nat) (hm : P.follows .mixedOrders = true) (hs : SubH H C) (hg : l.length = g)
    (h : OpsK P B n l.toArray C k g (Array.replicate l.length false) L H Q) : Wp P B n (.region id l.toArray true) L H Q := by
  subst hg
  refine ⟨fun a w ha hw => wp_region_any hm (wpAny_of_K (T := HasH C) (k := k) _ _ _ _ ?_)⟩
  have hd := hw.drew (w.drawn + 1)
  have := h.run (fun j oj _ hl => (by rw [getD_replicate_false] at hl; cases hl)) a { w with drawn := w.drawn + 1 } ha hd (fun _ => has_sub hd hs)
  simpa using this
end Go.Eng

namespace Go.Eng
variable {P : Program} {B : Base} {n : Nat} {L : Loc} {H : Heap} {Q : Post}
theorem zcn {all : Array Oper} {rest : List Oper} {d : Nat} {f : FuncId} {x : Operand} {xs : List Operand} {tys : Array TypeId} {ty : TypeId} {pos : String} {after : Array Edge} {args : List Value} {Hc F : Heap} {R : Value → Heap → Prop} [hf : Cal P f]
    (hT : Tr P f args Hc R) (h : ∀ v H', R v H' → Ops P B n all rest ((d, v) :: L) (H' ++ F) Q)
    (hv : ev L x = some (.func (.func f) #[] #[]) := by rfl) (hx : evs L xs = some args := by rfl)
    (ht : HTakes H Hc F := by repeat' (first | exact HTakes.nil | exact HTake.here | apply HTakes.cons | apply HTake.there)) (hd : Nat.blt d n = true := by rfl) :
    Ops P B n all (⟨some d, .call ⟨.value x, xs.toArray, tys⟩, ty, pos, after, none⟩ :: rest) L H Q :=
  Ops.call_val (fst := []) (caps := []) hf.out hv hx (by simpa using hT) ht hd h
end Go.Eng

namespace Go.Eng
variable {P : Program} {B : Base} {n : Nat} {L : Loc} {H : Heap} {Q : Post}
theorem zfz {all : Array Oper} {rest : List Oper} {d : Nat} {t e ty by_ : Nat} {i : TypeInfo} {z : Value} {x y : Operand} {pos : String} {after : Array Edge} {m r c g cap : Nat} {cur : List Value} {u : Value} {H1 : Heap} [hE : ElemI P t e 1 by_ i z]
    (hcl : cur.length = cap) (hroom : m + 1 ≤ cap)
    (h : Ops P B n all rest ((d, .slice (some ⟨g, 0, none⟩) (m + 1) cap) :: L) ([(g, cellsOf (cur.set m u) e)] :: H1) Q)
    (hx : ev L x = some (.slice (some ⟨g, 0, none⟩) m cap) := by rfl) (hy : ev L y = some (.slice (some ⟨r, 0, none⟩) 1 c) := by rfl)
    (hT : HTake H [(g, cellsOf cur e)] H1 := by repeat (first | exact HTake.here | apply HTake.there))
    (hr : HMem H r (cellsOf [u] e) := by repeat (first | exact HMem.here | apply HMem.skip | apply HMem.there))
    (hu : oneCell u = true := by first | rfl | assumption) (hd : Nat.blt d n = true := by rfl) :
    Ops P B n all (⟨some d, .call ⟨.builtin .append, #[x, y], #[t, t]⟩, ty, pos, after, none⟩ :: rest) L H Q :=
  Ops.step_value rfl fun a w ha hw => by
    obtain ⟨ht, hi, hz, hsz, hby, hzs, hs0⟩ := hE.out
    have hrb := hw.has _ _ hr.mem
    have hnews : ∀ j v, [u][j]? = some v → w.cell? ((⟨r, 0, none⟩ : Addr).add j) = some v := fun j v hv => cell_add hrb (by simpa using hv)
    have hw1 : Inv B ([(g, cellsOf cur e)] :: H1) w := hw.sub hT.sub
    have hg := hw1.has g _ (by simp : (g, cellsOf cur e) ∈ (([(g, cellsOf cur e)] : Blk) :: H1).flatten)
    have hfit : m * i.size + [u].length ≤ (cur.toArray).size := by
      rw [hsz]; simp; omega
    have hrun := run_append_room (P := P) w t ty e i ht hi g m cap cur.toArray hg ⟨r, 0, none⟩ 1 c [u] (by simpa using hsz.symm) hnews (fun v hv => oneCell' (by simp at hv; subst hv; exact hu)) hroom hfit
    have hset : cur.take (m * i.size) ++ [u] ++ cur.drop (m * i.size + [u].length) = cur.set m u := by
      rw [hsz, List.set_eq_take_append_cons_drop, if_pos (by omega)]; simp
    have e0 : cur.toArray.toList = cur := by simp
    rw [e0, hset] at hrun
    refine ⟨.slice (some ⟨g, 0, none⟩) (m + 1) cap, w.setRow g (cur.set m u).toArray, (d, .slice (some ⟨g, 0, none⟩) (m + 1) cap) :: L, [(g, cellsOf (cur.set m u) e)] :: H1, ?_, ha.put (by simpa using hd) _, ?_, h⟩
    · simp only [execOp, resolve, invoke, builtin, Sem.run_bind, Sem.run_pure, Result.andThen_ok, List.map_toArray, List.map_cons, List.map_nil, ha.rho _ _ hx, ha.rho _ _ hy, hrun]
    · exact hw1.row (w' := w.setRow g _) rfl rfl rfl (by simp) (setRow_heap w g _ _ _ _ hg) (fun k hk => setRow_other w g k _ hk)
end Go.Eng

namespace Go.Eng
variable {P : Program} {B : Base} {n : Nat} {L : Loc} {H : Heap} {Q : Post}
theorem zgh {x : Operand} {t ty e : TypeId} {r off m c sz a b : Nat} {lo hi : Operand} (ht : P.underlying t = some (.slice e)) (hs : ∀ w, (sizeOf e).run P w = .ok sz w)
    (hx : ev L x = some (.slice (some ⟨r, off, none⟩) m c)) (hlo : ev L lo = some (.int .i64 a)) (hhi : ev L hi = some (.int .i64 b)) (hab : a ≤ b) (hbc : b ≤ c) (hac : a < c) :
    Pure1 P L H (.slice t x (some lo) (some hi) none) ty (.slice (some ⟨r, off + a * sz, none⟩) (b - a) (c - a)) := by
  intro ρ w o hρ _ ho _
  have : ¬ c = a := by omega
  simp [execOp, ho, hρ _ _ hx, hρ _ _ hlo, hρ _ _ hhi, Instr.sliceAt, Instr.slice, underlying, ht, Instr.sliceBounds, Instr.sliceBound, asIntOf, hs, hab, hbc, this, Addr.add_lit]
theorem zem {all : Array Oper} {rest : List Oper} {d : Nat} {ty : TypeId} {pos : String} {after : Array Edge} {x lo hi : Operand} {t e : TypeId} {r off m c sz a b : Nat} [ht : USlice P t e] [hs : Siz P e sz] (h : Ops P B n all rest ((d, .slice (some ⟨r, off + a * sz, none⟩) (b - a) (c - a)) :: L) H Q) (hx : ev L x = some (.slice (some ⟨r, off, none⟩) m c) := by rfl) (hlo : ev L lo = some (.int .i64 a) := by rfl) (hhi : ev L hi = some (.int .i64 b) := by rfl) (hb : a ≤ b ∧ b ≤ c ∧ a < c := by omega) (hd : Nat.blt d n = true := by rfl) : Ops P B n all (⟨some d, .slice t x (some lo) (some hi) none, ty, pos, after, none⟩ :: rest) L H Q := Ops.pure _ (zgh ht.out hs.out hx hlo hhi hb.1 hb.2.1 hb.2.2) hd h
end Go.Eng

namespace Go.Eng
variable {P : Program} {B : Base} {n : Nat} {L : Loc} {H : Heap} {Q : Post}

theorem zcr {all : Array Oper} {rest : List Oper} {d : Nat} {t st e ty : TypeId} {x y : Operand} {pos : String} {after : Array Edge} {g off m c : Nat} {l : List UInt8} {cur : List Value} {T : TypeId} {H' : Heap} [ht : USlice P t e] (hs : (P.info? e).map (·.size) = some 1)
    (hl : l.length ≤ m) (hfit : off + l.length ≤ cur.length)
    (h : Ops P B n all rest ((d, .int .i64 l.length) :: L) H' Q)
    (hu : HUpd H g (cellsOf cur T) (cellsOf (cur.take off ++ Lib.byteCells l ++ cur.drop (off + l.length)) T) H' := by repeat (first | exact HUpd.here | apply HUpd.skip | apply HUpd.there))
    (hx : ev L x = some (.slice (some ⟨g, off, none⟩) m c) := by rfl) (hy : ev L y = some (str l) := by rfl) (hd : Nat.blt d n = true := by rfl) :
    Ops P B n all (⟨some d, .call ⟨.builtin .copy, #[x, y], #[t, st]⟩, ty, pos, after, none⟩ :: rest) L H Q :=
  Ops.step_value rfl fun a w ha hw => by
    have hb := hw.has _ _ hu.mem
    have hrun := Lib.run_copy_row_string (P := P) w t st ty e g off m c ⟨l.toArray⟩ cur.toArray T ht.out hs hb (by simpa [ByteArray.size] using hl) (by simpa [ByteArray.size] using hfit)
    have e1 : (⟨l.toArray⟩ : ByteArray).size = l.length := by simp [ByteArray.size]
    have e2 : (⟨l.toArray⟩ : ByteArray).data.toList = l := by simp
    have e3 : cur.toArray.toList = cur := by simp
    rw [e1, e2, e3] at hrun
    refine ⟨_, _, _, H', ?_, ha.put (by simpa using hd) _, hw.upd hu (w' := w.setRow g _) rfl rfl rfl (by simp) (setRow_heap w g _ _ _ _ hb) (fun k hk => setRow_other w g k _ hk), h⟩
    simp only [execOp, resolve, invoke, builtin, Sem.run_bind, Sem.run_pure, Result.andThen_ok, List.map_toArray, List.map_cons, List.map_nil, ha.rho _ _ hx, ha.rho _ _ hy, hrun]
    rfl

theorem zfc {all : Array Oper} {rest : List Oper} {d : Nat} {t e ty by_ : Nat} {i : TypeInfo} {z : Value} {x y : Operand} {pos : String} {after : Array Edge} {m c : Nat} [hE : ElemI P t e 1 by_ i z]
    (hmc : m ≤ c) (hb : by_ * c ≤ 281474976710656) (hc : c ≤ 9223372036854775807)
    (h : ∀ g, Ops P B n all rest ((d, .slice (some ⟨g, 0, none⟩) m c) :: L) ([(g, cellsOf (List.replicate c z) e)] :: H) Q)
    (hx : ev L x = some (.int .i64 m) := by rfl) (hy : ev L y = some (.int .i64 c) := by rfl) (hz1 : oneCell z = true := by rfl) (hd : Nat.blt d n = true := by rfl) :
    Ops P B n all (⟨some d, .makeSlice t x y, ty, pos, after, none⟩ :: rest) L H Q :=
  Ops.step_value rfl fun a w ha hw => by
    obtain ⟨ht, hi, hz, hsz, hby, hzs, hs0⟩ := hE.out
    have hrun := run_make (P := P) w t e i z ht hi hz .i64 .i64 m c (by omega) (by omega) (by rw [hby]; omega) (by omega)
    have e1 : madeCells z.cells (((c : Int)).toNat * i.size) = (List.replicate c z).toArray := by
      rw [hsz, cells_one hz1]
      apply Array.ext
      · simp [madeCells]
      · intro k h1 h2
        simp [madeCells, Nat.mod_one]
    rw [e1] at hrun
    refine ⟨_, _, _, _, ?_, ha.put (by simpa using hd) _, hw.alloc _, h _⟩
    simp only [execOp, ha.rho _ _ hx, ha.rho _ _ hy, Sem.run_bind, hrun, Result.andThen_ok, Sem.run_pure]
    rfl

theorem zgf {x : Operand} {t ty e : TypeId} {a : Option Addr} {m c : Nat} (ht : P.underlying t = some (.slice e)) (hx : ev L x = some (.slice a m c)) :
    Pure1 P L H (.call ⟨.builtin .cap, #[x], #[t]⟩) ty (.int .i64 c) := by
  intro ρ w o hρ _ ho _
  simp [execOp, ho, hρ _ _ hx, resolve, invoke, builtin, Builtin.cap_, underlying, ht, goInt]
theorem zdu {all : Array Oper} {rest : List Oper} {d : Nat} {ty : TypeId} {pos : String} {after : Array Edge} {x : Operand} {t e : TypeId} {a : Option Addr} {m c : Nat} [ht : USlice P t e] (h : Ops P B n all rest ((d, .int .i64 c) :: L) H Q) (hx : ev L x = some (.slice a m c) := by rfl) (hd : Nat.blt d n = true := by rfl) : Ops P B n all (⟨some d, .call ⟨.builtin .cap, #[x], #[t]⟩, ty, pos, after, none⟩ :: rest) L H Q := Ops.pure _ (zgf ht.out hx) hd h

theorem zgk {all : Array Oper} {rest : List Oper} {d : Nat} {ty : TypeId} {pos : String} {after : Array Edge} {x : Operand} {t yt e : TypeId} {a : Addr} {m c : Nat} [hu : USlice P t e] (h : Ops P B n all rest ((d, .bool false) :: L) H Q) (hx : ev L x = some (.slice (some a) m c) := by rfl) (hd : Nat.blt d n = true := by rfl) : Ops P B n all (⟨some d, .binOp .eql t x (.const (.slice none 0 0)) yt, ty, pos, after, none⟩ :: rest) L H Q := ze6 (a := some a) h hx hd
theorem zfh {all : Array Oper} {rest : List Oper} {d : Nat} {ty : TypeId} {pos : String} {after : Array Edge} {x : Operand} {t yt e : TypeId} {m c : Nat} [hu : USlice P t e] (h : Ops P B n all rest ((d, .bool true) :: L) H Q) (hx : ev L x = some (.slice none m c) := by rfl) (hd : Nat.blt d n = true := by rfl) : Ops P B n all (⟨some d, .binOp .eql t x (.const (.slice none 0 0)) yt, ty, pos, after, none⟩ :: rest) L H Q := ze6 (a := none) h hx hd

theorem zf8 {x y : Operand} {t ty yt : TypeId} {a b : Nat} (hx : ev L x = some (.int .i64 a)) (hy : ev L y = some (.int .i64 b)) (hb : 0 < b) (ha : a ≤ 9223372036854775807) :
    Pure1 P L H (.binOp .quo t x y yt) ty (.int .i64 ((a / b : Nat) : Int)) :=
  zbf hx hy fun w => by
    have h0 : ¬ (b : Int) = 0 := by omega
    have h1 : ((a : Int)).tdiv (b : Int) = ((a / b : Nat) : Int) := rfl
    have h2 : a / b ≤ a := Nat.div_le_self a b
    simp only [eqGuard_quo, binOp_quo, Op.intDiv, if_neg h0, pure_bind, h1]
    rw [wrap_of (by have := Int.natCast_nonneg (a / b); omega) (by have : ((a / b : Nat) : Int) ≤ (a : Int) := Int.ofNat_le.2 h2; omega)]; rfl
theorem zfr {all : Array Oper} {rest : List Oper} {d : Nat} {ty : TypeId} {pos : String} {after : Array Edge} {x : Operand} {t yt : TypeId} {a : Nat} (h : Ops P B n all rest ((d, .int .i64 ((a / 2 : Nat) : Int)) :: L) H Q) (hx : ev L x = some (.int .i64 a) := by rfl) (hb : a ≤ 9223372036854775807 := by omega) (hd : Nat.blt d n = true := by rfl) : Ops P B n all (⟨some d, .binOp .quo t x (.const (.int .i64 2)) yt, ty, pos, after, none⟩ :: rest) L H Q := Ops.pure _ (zf8 (b := 2) hx rfl (by decide) hb) hd h

theorem zde {all : Array Oper} {rest : List Oper} {d : Nat} {ty : TypeId} {pos : String} {after : Array Edge} {x y : Operand} {t yt : TypeId} {a b : List UInt8}  (h : Ops P B n all rest ((d, str (a ++ b)) :: L) H Q) (hx : ev L x = some (str a) := by rfl) (hy : ev L y = some (str b) := by rfl) (hn : a.length + b.length ≤ 9223372036854775807 := by (simp only [List.length_append, List.length_cons, List.length_nil, List.length_replicate]; omega)) (hd : Nat.blt d n = true := by rfl) : Ops P B n all (⟨some d, .binOp .add t x y yt, ty, pos, after, none⟩ :: rest) L H Q := zf5 h hx hy hn hd

theorem zax {k : IntKind} {x y : Operand} {t ty yt : TypeId} {a b : Nat} (hx : ev L x = some (.int k a)) (hy : ev L y = some (.int k b)) (hb : 0 < b) :
    Pure1 P L H (.binOp .rem t x y yt) ty (.int k ((a % b : Nat) : Int)) :=
  zbf hx hy fun w => by
    have h0 : ¬ (b : Int) = 0 := by omega
    have h1 : ((a : Int)).tmod (b : Int) = ((a % b : Nat) : Int) := rfl
    have h2 : ¬ b = 0 := by omega
    simp [eqGuard, binOp, Op.intDiv, h2, h1]

/-- A row's bytes as a string. -/
theorem ze0 {x : Operand} {s t ty e : TypeId} {g cap : Nat} {l : List UInt8} {cur : List Value} {T : TypeId} (hs : P.underlying s = some (.slice e)) (he : P.underlying e = some (.int .u8)) (ht : P.underlying t = some .string)
    (hx : ev L x = some (.slice (some ⟨g, 0, none⟩) l.length cap)) (hm : HMem H g (cellsOf cur T)) (hl : cur.take l.length = Lib.byteCells l) :
    Pure1 P L H (.convert s t x) ty (str l) := by
  intro ρ w o hρ hw ho _
  have hg := hw _ _ hm.mem
  have hrun := run_convert_bytes_back (P := P) w s t e ⟨g, 0, none⟩ cap l hs he ht (Lib.bytes_of_row hg (by simpa using hl))
  simp [execOp, ho, hρ _ _ hx, hrun]
theorem zf3 {x : Operand} {s t ty e : TypeId} {cap : Nat} (hs : P.underlying s = some (.slice e)) (he : P.underlying e = some (.int .u8)) (ht : P.underlying t = some .string)
    (hx : ev L x = some (.slice none 0 cap)) : Pure1 P L H (.convert s t x) ty (str []) := by
  intro ρ w o hρ hw ho _
  have hrun := Lib.run_convert_nil_bytes (P := P) w s t e cap hs he ht
  simp [execOp, ho, hρ _ _ hx, hrun]

/-- What a function does that leaves all that was there, and one new row: the number of the row is the heap's size. -/
theorem Tr.of_below {f : FuncId} {args : List Value} {H : Heap} {R : Value → Heap → Prop}
    (h : ∀ B w, Inv B H w → Calls P f args.toArray w fun e w' => ∃ v cells T, e = .returned v ∧ w'.heap[w.heap.size]? = some (.cells cells T (0, 0)) ∧ Go.RowKit.Below w.heap.size w w' ∧ R v ([(w.heap.size, cellsOf cells.toList T)] :: H)) : Tr P f args H R := by
  refine ⟨fun B w hw => (h B w hw).mono fun e w' ⟨v, cells, T, h1, h2, h3, h4⟩ => ⟨v, _, h1, h4, ?_⟩⟩
  have hlt : w.heap.size < w'.heap.size := (Array.getElem?_eq_some_iff.1 h2).1
  have hold : ∀ k, k < w.heap.size → w'.heap[k]? = w.heap[k]? := h3.block
  have hs := hw.size
  refine ⟨h3.os.trans hw.os, h3.tape.trans hw.tape, h3.output.trans hw.output, by omega, fun k hk hn => ?_, ?_, ?_, ?_⟩
  · rw [hold k (by omega)]; exact hw.old k hk hn
  · show ((w.heap.size) :: ids H).Nodup
    exact List.nodup_cons.2 ⟨fun hm => Nat.lt_irrefl _ (hw.lt hm), hw.nodup⟩
  · intro b o hm
    rcases List.mem_append.1 (show (b, o) ∈ [(w.heap.size, cellsOf cells.toList T)] ++ H.flatten from hm) with hm | hm
    · simp at hm
      obtain ⟨rfl, rfl⟩ := hm
      rw [h2]
    · rw [hold b (hw.lt (List.mem_map.2 ⟨_, hm, rfl⟩))]
      exact hw.has b o hm
  · intro b hb
    rcases List.mem_cons.1 (show b ∈ w.heap.size :: ids H from hb) with rfl | hb
    · exact .inr hs
    · exact hw.fresh b hb
end Go.Eng

namespace Go.Eng
variable {P : Program} {B : Base} {n : Nat} {L : Loc} {H : Heap} {Q : Post}

theorem shape_of {w : World} {b : Nat} {cs : List Value} {T : TypeId} (h : w.heap[b]? = some (cellsOf cs T)) : w.shape? b = some (T, cs.length) := by
  simp [World.shape?, h, cellsOf]

theorem zgm {x : Operand} {s t e ty : TypeId} {j : TypeInfo} {b off : Nat} {cs : List Value} {T : TypeId} (hs : P.underlying s = some (.pointer e)) (ht : P.underlying t = some .unsafePointer) (hj : P.info? e = some j) (hz : j.size ≠ 0)
    (hx : ev L x = some (.pointer (some ⟨b, off, none⟩))) (hm : HMem H b (cellsOf cs T)) (ho : off < cs.length) : Pure1 P L H (.convert s t x) ty (.pointer (some ⟨b, off, none⟩)) := by
  intro ρ w o hρ hw hop _
  have hrun := Lib.run_to_unsafe (P := P) w ⟨b, off, none⟩ hs ht hj hz (shape_of (hw _ _ hm.mem)) ho
  simp [execOp, hop, hρ _ _ hx, hrun]
theorem zew {x : Operand} {s t u ty : TypeId} {j : TypeInfo} {b off : Nat} {cs : List Value} {T : TypeId} (hs : P.underlying s = some .unsafePointer) (ht : P.underlying t = some (.pointer u)) (hj : P.info? u = some j)
    (hx : ev L x = some (.pointer (some ⟨b, off, none⟩))) (hm : HMem H b (cellsOf cs T)) (hl : liesAt P P.depth T (cs.length / P.cellsOf T) off u 1 = true) : Pure1 P L H (.convert s t x) ty (.pointer (some ⟨b, off, none⟩)) := by
  intro ρ w o hρ hw hop _
  have hrun := Lib.run_from_unsafe (P := P) w ⟨b, off, none⟩ hs ht hj (shape_of (hw _ _ hm.mem)) hl
  simp [execOp, hop, hρ _ _ hx, hrun]

/-- A call of a function that the model answers by itself, whatever the world. -/
theorem zg9 {x : Operand} {f : FuncId} {ty : TypeId} {tys : Array TypeId} {v r : Value} (hx : ev L x = some v) (hf : ∀ w, (callFunc f #[v]).run P w = .ok (.value r) w) :
    Pure1 P L H (.call ⟨.value (.func f), #[x], tys⟩) ty r := by
  intro ρ w o hρ _ hop _
  have h1 : ρ x = v := hρ _ _ hx
  have h2 : ρ (.func f) = .func (.func f) #[] #[] := hρ _ _ rfl
  simp [execOp, hop, resolve, h1, h2, Deferred.ofValue, invoke, hf w]

theorem zfu {x : Operand} {ty : TypeId} {tys : Array TypeId} {a : Addr} {m c : Nat} (hx : ev L x = some (.slice (some a) m c)) (hc : c ≠ 0) :
    Pure1 P L H (.call ⟨.builtin .unsafeSliceData, #[x], tys⟩) ty (.pointer (some a)) := by
  intro ρ w o hρ _ hop _
  have hrun := Lib.run_unsafeSliceData_row (P := P) (w := w) tys o.type a m c hc
  simp [execOp, hop, hρ _ _ hx, resolve, invoke, builtin, hrun]

theorem freeze_other (w : World) (g k m : Nat) (hk : k ≠ g) : (w.freeze ⟨g, 0, none⟩ m).heap[k]? = w.heap[k]? := by
  unfold World.freeze
  split
  · rfl
  · simp only [Array.getElem?_modify]; rw [if_neg (fun e => hk e.symm)]
theorem freeze_same (w : World) (g m : Nat) (o : Obj) (h : w.heap[g]? = some o) : ∃ o', (w.freeze ⟨g, 0, none⟩ m).heap[g]? = some o' := by
  unfold World.freeze
  split
  · exact ⟨o, h⟩
  · simp only [Array.getElem?_modify, if_true, h, Option.map_some]; exact ⟨_, rfl⟩
theorem freeze_parts (w : World) (a : Addr) (m : Nat) : (w.freeze a m).os = w.os ∧ (w.freeze a m).tape = w.tape ∧ (w.freeze a m).output = w.output ∧ (w.freeze a m).heap.size = w.heap.size := by
  unfold World.freeze
  split <;> simp

/-- The row's bytes as a string: the row is not to be written on any more, and leaves the heap that is spoken of. -/
theorem zg7 {all : Array Oper} {rest : List Oper} {d : Nat} {pt it ty e : TypeId} {x y : Operand} {pos : String} {after : Array Edge} {g : Nat} {l : List UInt8} {cur : List Value} {H1 : Heap}
    (hp : P.underlying pt = some (.pointer e)) (hc : P.cellsOf e = 1) (h0 : l ≠ []) (hn : l.length ≤ cur.length) (h63 : l.length ≤ 9223372036854775807) (hl : cur.take l.length = Lib.byteCells l)
    (h : Ops P B n all rest ((d, str l) :: L) H1 Q)
    (hT : HTake H [(g, cellsOf cur e)] H1 := by repeat (first | exact HTake.here | apply HTake.there))
    (hx : ev L x = some (.pointer (some ⟨g, 0, none⟩)) := by rfl) (hy : ev L y = some (.int .i64 l.length) := by rfl) (hd : Nat.blt d n = true := by rfl) :
    Ops P B n all (⟨some d, .call ⟨.builtin .unsafeString, #[x, y], #[pt, it]⟩, ty, pos, after, none⟩ :: rest) L H Q :=
  Ops.step_value rfl fun a w ha hw => by
    have hw1 : Inv B ([(g, cellsOf cur e)] :: H1) w := hw.sub hT.sub
    have hg := hw1.has g _ (by simp : (g, cellsOf cur e) ∈ (([(g, cellsOf cur e)] : Blk) :: H1).flatten)
    have hcell : ∀ j c, l[j]? = some c → w.cell? ((⟨g, 0, none⟩ : Addr).add j) = some (.int .u8 c.toNat) := by
      intro j c hj
      refine cell_add hg ?_
      have h1 : (Lib.byteCells l)[j]? = some (.int .u8 c.toNat) := by simp [Lib.byteCells, hj]
      rw [← hl, List.getElem?_take] at h1
      split at h1
      · simpa using h1
      · cases h1
    have hrun := Lib.run_unsafeString_row (P := P) (w := w) pt it ty e hp hc g cur.length (shape_of hg) l h0 hn h63 hcell
    obtain ⟨o', ho'⟩ := freeze_same w g l.length _ hg
    obtain ⟨f1, f2, f3, f4⟩ := freeze_parts w ⟨g, 0, none⟩ l.length
    have hi : Inv B ([(g, o')] :: H1) (w.freeze ⟨g, 0, none⟩ l.length) := hw1.row f1 f2 f3 f4 ho' (fun k hk => freeze_other w g k _ hk)
    refine ⟨_, _, _, H1, ?_, ha.put (by simpa using hd) _, hi.sub (HTake.here).drop, h⟩
    simp only [execOp, resolve, invoke, builtin, Sem.run_bind, Sem.run_pure, Result.andThen_ok, List.map_toArray, List.map_cons, List.map_nil, ha.rho _ _ hx, ha.rho _ _ hy, hrun]

/-- What leaves all blocks that were there leaves what is spoken of. -/
theorem Inv.below {w w' : World} (h : Inv B H w) (hb : Go.RowKit.Below w.heap.size w w') : Inv B H w' := by
  have hs := h.size
  have hs2 := hb.size
  refine ⟨hb.os.trans h.os, hb.tape.trans h.tape, hb.output.trans h.output, by omega, fun k hk hn => ?_, h.nodup, fun b o hm => ?_, h.fresh⟩
  · rw [hb.block k (by omega)]; exact h.old k hk hn
  · rw [hb.block b (h.lt (List.mem_map.2 ⟨_, hm, rfl⟩))]; exact h.has b o hm
end Go.Eng

namespace Go.Eng
variable {P : Program} {B : Base} {n : Nat} {L : Loc} {H : Heap} {Q : Post}

end Go.Eng

namespace Go.Eng
open Lib
variable {P : Program} {B : Base} {n : Nat} {L : Loc} {H : Heap} {Q : Post}

theorem strCells_str (l : List UInt8) : strCells (⟨l.toArray⟩ : ByteArray) = Lib.byteCells l := by simp [strCells, Lib.byteCells]

/-- append(v, s...) of a string that is not empty. -/
theorem run_appendS {H1 : Heap} {w : World} {t u ty e : Nat} {i : TypeInfo} {z v : Value} {m : Nat} {xs : List Value} {Bk : Blk} {l : List UInt8}
    (hE : ElemIs P t e 1 1 i z) (hu : P.underlying u = some .string) (hO : Own e 1 v m xs Bk) (hT : HTake H Bk H1) (hl : l ≠ []) (hm : m + l.length ≤ 140737488355328) (hw : Inv B H w) :
    ∃ v' Bk' w', (Builtin.append_ #[t, u] ty #[v, str l]).run P w = .ok v' w' ∧ Own e 1 v' (m + l.length) (xs ++ Lib.byteCells l) Bk' ∧ Inv B (Bk' :: H1) w' := by
  obtain ⟨ht, hi, hz, hsz, hby, hzs, hs0⟩ := hE
  have hl1 : 1 ≤ l.length := by cases l with | nil => exact absurd rfl hl | cons _ _ => simp
  have hbl : (Lib.byteCells l).length = l.length := Lib.byteCells_length l
  have hss : (⟨l.toArray⟩ : ByteArray).size = l.length := by simp [ByteArray.size]
  have hxl : xs.length = m := by simpa using hO.1
  have hlen : (xs ++ Lib.byteCells l).length = (m + l.length) * 1 := by rw [List.length_append, hxl, hbl, Nat.mul_one]
  have hw1 : Inv B (Bk :: H1) w := hw.sub hT.sub
  rcases hO.2 with ⟨rfl, rfl, rfl⟩ | ⟨g, cap, cur, rfl, rfl, hmc, hcm, hcl, htk⟩
  · have hx : xs = [] := List.eq_nil_of_length_eq_zero hxl
    subst hx
    have hrun := run_append_nil_string (P := P) (w := w) t u ty e i z ht hu hi hz ⟨l.toArray⟩ (by omega) (by omega) (by rw [hby]; omega)
    rw [hss] at hrun
    have hge := grownCap_ge w l.length 0 e
    have e0 : (⟨l.toArray⟩ : ByteArray).data.map (fun b => Value.int .u8 b.toNat) = (Lib.byteCells l).toArray := by simp [Lib.byteCells]
    rw [e0] at hrun
    refine ⟨_, [(w.heap.size, cellsOf (Lib.byteCells l ++ (Builtin.zeroCells z.cells (grownCap w l.length 0 e - l.length)).toList) e)], _, hrun, ⟨by simpa using hlen, .inr ⟨_, _, _, by rw [Nat.zero_add], rfl, by omega, grownCap_le_maxLen w l.length 0 e (by simp only [maxLen]; omega), ?_, ?_⟩⟩, ?_⟩
    · simp only [List.length_append, Array.length_toList, size_zeroCells, hzs, hbl]; omega
    · rw [List.nil_append, Nat.zero_add, Nat.mul_one, ← hbl]; exact List.take_left
    · have := (hw1.drew (w.drawn + 1)).alloc (cellsOf (Lib.byteCells l ++ (Builtin.zeroCells z.cells (grownCap w l.length 0 e - l.length)).toList) e)
      have e1 : (cellsOf (Lib.byteCells l ++ (Builtin.zeroCells z.cells (grownCap w l.length 0 e - l.length)).toList) e) = Obj.cells ((Lib.byteCells l).toArray ++ Builtin.zeroCells z.cells (grownCap w l.length 0 e - l.length)) e (0, 0) := by
        simp only [cellsOf]; congr 1; apply Array.ext'; simp
      rw [e1] at this ⊢
      exact this.sub ⟨[], by simp⟩
  · have hg := hw1.has g _ (by simp : (g, cellsOf cur e) ∈ (([(g, cellsOf cur e)] : Blk) :: H1).flatten)
    by_cases hroom : m + l.length ≤ cap
    · have hrun := run_append_room_string (P := P) (w := w) t u ty e i ht hu hi hsz g m cap cur.toArray hg ⟨l.toArray⟩ (by omega) (by simp only [List.size_toArray]; omega)
      rw [hss, strCells_str] at hrun
      refine ⟨_, [(g, cellsOf (cur.take m ++ Lib.byteCells l ++ cur.drop (m + l.length)) e)], _, hrun, ⟨hlen, .inr ⟨_, _, _, rfl, rfl, hroom, hcm, ?_, ?_⟩⟩, ?_⟩
      · simp only [List.length_append, List.length_take, List.length_drop, hbl]; omega
      · rw [Nat.mul_one] at htk
        rw [htk, ← hlen]; exact List.take_left
      · have h3 := hw1.row (w' := w.setRow g (cur.toArray.toList.take m ++ Lib.byteCells l ++ cur.toArray.toList.drop (m + l.length)).toArray) (o' := cellsOf (cur.take m ++ Lib.byteCells l ++ cur.drop (m + l.length)) e) rfl rfl rfl (by simp) (setRow_heap w g _ _ _ _ hg) (fun k hk => setRow_other w g k _ hk)
        exact h3
    · have holds : ∀ j u, xs[j]? = some u → w.cell? ((⟨g, 0, none⟩ : Addr).add j) = some u := by
        intro j u hu
        refine cell_add hg ?_
        rw [← htk, List.getElem?_take] at hu
        split at hu
        · simpa using hu
        · cases hu
      have hrun := run_append_grow_string (P := P) (w := w) t u ty e i z ht hu hi hz ⟨g, 0, none⟩ m cap xs (by rw [hsz, Nat.mul_one]; exact hxl) holds ⟨l.toArray⟩ (by omega) (by omega) (by
        rw [hss]; exact growslice_fits (by omega) (by rw [hby]; omega))
      rw [hss, strCells_str] at hrun
      have hge := grownCap_ge w (m + l.length) cap e
      refine ⟨_, [(w.heap.size, cellsOf (xs ++ Lib.byteCells l ++ (Builtin.zeroCells z.cells (grownCap w (m + l.length) cap e - (m + l.length))).toList) e)], _, hrun, ⟨hlen, .inr ⟨_, _, _, rfl, rfl, hge, grownCap_le_maxLen w _ _ e (by simp only [maxLen]; omega), ?_, ?_⟩⟩, ?_⟩
      · simp only [List.length_append, hxl, hbl, Array.length_toList, size_zeroCells, hzs]; omega
      · rw [← hlen]; exact List.take_left
      · have h2 : Inv B H1 w := hw.sub hT.drop
        have := (h2.drew (w.drawn + 1)).alloc (cellsOf (xs ++ Lib.byteCells l ++ (Builtin.zeroCells z.cells (grownCap w (m + l.length) cap e - (m + l.length))).toList) e)
        have e1 : (cellsOf (xs ++ Lib.byteCells l ++ (Builtin.zeroCells z.cells (grownCap w (m + l.length) cap e - (m + l.length))).toList) e) = Obj.cells (xs.toArray ++ (Lib.byteCells l).toArray ++ Builtin.zeroCells z.cells (grownCap w (m + l.length) cap e - (m + l.length))) e (0, 0) := by
          simp only [cellsOf]; congr 1; apply Array.ext'; simp
        rw [e1] at this ⊢
        exact this

theorem zel {all : Array Oper} {rest : List Oper} {d : Nat} {t u e ty : Nat} {i : TypeInfo} {z : Value} {x y : Operand} {pos : String} {after : Array Edge} {v : Value} {m : Nat} {xs : List Value} {Bk : Blk} {H1 : Heap} {l : List UInt8} [hE : ElemI P t e 1 1 i z] [hu : UStr P u]
    (hO : Own e 1 v m xs Bk) (hl : l ≠ []) (hm : m + l.length ≤ 140737488355328)
    (h : ∀ v' Bk', Own e 1 v' (m + l.length) (xs ++ Lib.byteCells l) Bk' → Ops P B n all rest ((d, v') :: L) (Bk' :: H1) Q)
    (hx : ev L x = some v := by rfl) (hy : ev L y = some (str l) := by rfl)
    (hT : HTake H Bk H1 := by repeat (first | exact HTake.here | apply HTake.there)) (hd : Nat.blt d n = true := by rfl) :
    Ops P B n all (⟨some d, .call ⟨.builtin .append, #[x, y], #[t, u]⟩, ty, pos, after, none⟩ :: rest) L H Q :=
  Ops.step_value rfl fun a w ha hw => by
    obtain ⟨v', Bk', w', h1, h2, h3⟩ := run_appendS (P := P) (ty := ty) hE.out hu.out hO hT hl hm hw
    refine ⟨v', w', _, _, ?_, ha.put (by simpa using hd) _, h3, h v' Bk' h2⟩
    simp only [execOp, resolve, invoke, builtin, Sem.run_bind, Sem.run_pure, Result.andThen_ok, List.map_toArray, List.map_cons, List.map_nil, ha.rho _ _ hx, ha.rho _ _ hy, h1]

/-- A type of arrays. -/
class UArr (P : Program) (t : Nat) (len e : outParam Nat) : Prop where out : P.underlying t = some (.array len e)
theorem zgg {x y : Operand} {t ty e : TypeId} {r off len i sz : Nat} [ht : UArr P t len e] [hs : Siz P e sz]
    (hx : ev L x = some (.pointer (some ⟨r, off, none⟩))) (hy : ev L y = some (.int .i64 i)) (hi : i < len) :
    Pure1 P L H (.indexAddr t x y) ty (.pointer (some ⟨r, off + i * sz, none⟩)) := by
  intro ρ w o hρ _ ho _
  simp [execOp, ho, hρ _ _ hx, hρ _ _ hy, Instr.indexAt, asIntOf, underlying, ht.out, hs.out, hi, Instr.sureAddr, Addr.add_lit]
theorem zca {all : Array Oper} {rest : List Oper} {d : Nat} {ty : TypeId} {pos : String} {after : Array Edge} {x y : Operand} {t e : TypeId} {r off len i sz : Nat} [ht : UArr P t len e] [hs : Siz P e sz] (h : Ops P B n all rest ((d, .pointer (some ⟨r, off + i * sz, none⟩)) :: L) H Q) (hx : ev L x = some (.pointer (some ⟨r, off, none⟩)) := by rfl) (hy : ev L y = some (.int .i64 i) := by rfl) (hi : i < len := by omega) (hd : Nat.blt d n = true := by rfl) :
    Ops P B n all (⟨some d, .indexAddr t x y, ty, pos, after, none⟩ :: rest) L H Q := Ops.pure _ (zgg hx hy hi) hd h

theorem zfk {x : Operand} {ty : TypeId} {tys : Array TypeId} {m c : Nat} (hx : ev L x = some (.slice none m c)) :
    Pure1 P L H (.call ⟨.builtin .unsafeSliceData, #[x], tys⟩) ty (.pointer none) := by
  intro ρ w o hρ _ hop _
  have hrun := Lib.run_unsafeSliceData_nil (P := P) (w := w) tys o.type m c
  simp [execOp, hop, hρ _ _ hx, resolve, invoke, builtin, hrun]
theorem zfp {x y : Operand} {ty pt it : TypeId} (hx : ev L x = some (.pointer none)) (hy : ev L y = some (.int .i64 0)) :
    Pure1 P L H (.call ⟨.builtin .unsafeString, #[x, y], #[pt, it]⟩) ty (str []) := by
  intro ρ w o hρ _ hop _
  have hrun := Lib.run_unsafeString_none (P := P) (w := w) pt it o.type none
  simp only [execOp, hop, hρ _ _ hx, hρ _ _ hy, resolve, invoke, builtin, Sem.run_bind, Sem.run_pure, Result.andThen_ok, List.map_toArray, List.map_cons, List.map_nil, hrun]
  rfl

/-! A range over a string. -/
/-! Operations with a guard, in a region that draws its order. -/
theorem OpsH.firstG {C : Heap} {all : Array Oper} {fuel : Nat} {listed : Array Bool} (k : Nat) {op : Op} {ty : TypeId} {pos : String} {after : Array Edge} {d j : Nat} {want : Bool} (v : Value) (t : Nat) [hnp : NoPan Q] (hr : (Region.ready .any all listed).contains k = true) (hk : all[k]? = some ⟨some d, op, ty, pos, after, some (j, want)⟩) (hsel : Region.noSelect all = true) (hf : Region.free .any all listed k = true)
    (hdn : Nat.blt d n = true) (hj : dstOf all j = some t) (hg : look L t = some (.bool want)) (hy : Pure1 P L C op ty v)
    (h : OpsH P B n all C fuel (listed.setIfInBounds k true) ((d, v) :: L) H Q) : OpsH P B n all C (fuel + 1) listed L H Q := by
  refine ⟨fun a w ha hw hC => ?_⟩
  refine wpAnyH_take hk hsel hf hr ?_ (.inl ⟨?_, fun w hw => hy a.eval w _ ha.rho hw rfl rfl⟩) hC ?_
  · rintro c a w ⟨L', H', h1, h2, h3⟩
    exact absurd h3 (hnp.out c L' H')
  · simp [Region.wanted, yielded_of hj hg ha]
  · exact h.run _ _ (ha.put (by simpa using hdn) v) hw hC
theorem OpsH.skip {C : Heap} {all : Array Oper} {fuel : Nat} {listed : Array Bool} (k : Nat) {op : Op} {ty : TypeId} {pos : String} {after : Array Edge} {d j : Nat} {want : Bool} (t : Nat) (g : Bool) [hnp : NoPan Q] (hr : (Region.ready .any all listed).contains k = true) (hk : all[k]? = some ⟨some d, op, ty, pos, after, some (j, want)⟩) (hsel : Region.noSelect all = true) (hf : Region.free .any all listed k = true)
    (hdn : Nat.blt d n = true) (hj : dstOf all j = some t) (hg : look L t = some (.bool g)) (hne : (g == want) = false)
    (h : OpsH P B n all C fuel (listed.setIfInBounds k true) ((d, undef) :: L) H Q) : OpsH P B n all C (fuel + 1) listed L H Q := by
  refine ⟨fun a w ha hw hC => ?_⟩
  refine wpAnyH_take hk hsel hf hr ?_ (.inr ⟨?_, rfl⟩) hC ?_
  · rintro c a w ⟨L', H', h1, h2, h3⟩
    exact absurd h3 (hnp.out c L' H')
  · have hne' : (some g == some want) = false := by simpa using hne
    simp only [Region.wanted, yielded_of hj hg ha, hne']
  · exact h.run _ _ (ha.put (by simpa using hdn) undef) hw hC

theorem zft {x y : Operand} {f : FuncId} {ty : TypeId} {tys : Array TypeId} {v u r : Value} (hx : ev L x = some v) (hy : ev L y = some u) (hf : ∀ w, (callFunc f #[v, u]).run P w = .ok (.value r) w) :
    Pure1 P L H (.call ⟨.value (.func f), #[x, y], tys⟩) ty r := by
  intro ρ w o hρ _ hop _
  have h1 : ρ x = v := hρ _ _ hx
  have h3 : ρ y = u := hρ _ _ hy
  have h2 : ρ (.func f) = .func (.func f) #[] #[] := hρ _ _ rfl
  simp [execOp, hop, resolve, h1, h2, h3, Deferred.ofValue, invoke, hf w]
theorem zff {x : Operand} {t ty e : TypeId} {sz : Nat} {lo : Operand} (ht : P.underlying t = some (.slice e)) (hs : ∀ w, (sizeOf e).run P w = .ok sz w)
    (hx : ev L x = some (.slice none 0 0)) (hlo : ev L lo = some (.int .i64 0)) :
    Pure1 P L H (.slice t x (some lo) none none) ty (.slice none 0 0) := by
  intro ρ w o hρ _ ho _
  simp [execOp, ho, hρ _ _ hx, hρ _ _ hlo, Instr.sliceAt, Instr.slice, underlying, ht, Instr.sliceBounds, Instr.sliceBound, asIntOf, hs]

theorem w_nilblk {c : Code} (h : Wp P B n c L ([] :: H) Q) : Wp P B n c L H Q :=
  ⟨fun a w ha hw => h.run a w ha (hw.sub ⟨[], by simp⟩)⟩
end Go.Eng

namespace Go.Eng
variable {P : Program} {B : Base} {n : Nat} {L : Loc} {H : Heap} {Q : Post}

theorem zdz {all : Array Oper} {rest : List Oper} {d : Nat} {t e ty by_ : Nat} {i : TypeInfo} {z : Value} {x y : Operand} {pos : String} {after : Array Edge} {r off k c : Nat} {cur : List Value} [hE : ElemI P t e 1 by_ i z]
    (h : ∀ v' Bk', Own e 1 v' k ((cur.drop off).take k) Bk' → Ops P B n all rest ((d, v') :: L) (Bk' :: H) Q)
    (hx : ev L x = some (.slice none 0 0) := by rfl) (hy : ev L y = some (.slice (some ⟨r, off, none⟩) k c) := by rfl)
    (hr : HMem H r (cellsOf cur e) := by repeat (first | exact HMem.here | apply HMem.skip | apply HMem.there)) (hd : Nat.blt d n = true := by rfl)
    (hk : 1 ≤ k := by omega) (hk3 : k ≤ 140737488355328 := by omega) (hoff : off + k ≤ cur.length := by omega) (hk2 : k * by_ ≤ 281474976710656 := by first | decide | omega) :
    Ops P B n all (⟨some d, .call ⟨.builtin .append, #[x, y], #[t, t]⟩, ty, pos, after, none⟩ :: rest) L H Q :=
  Ops.step_value rfl fun a w ha hw => by
    obtain ⟨ht, hi, hz, hsz, hby, hzs, hs0⟩ := hE.out
    have hrb := hw.has _ _ hr.mem
    have hnl : ((cur.drop off).take k).length = k := by rw [List.length_take, List.length_drop]; omega
    have hnews : ∀ j v, ((cur.drop off).take k)[j]? = some v → w.cell? ((⟨r, off, none⟩ : Addr).add j) = some v := fun j v hv => by
      refine cell_add hrb ?_
      rw [List.getElem?_take] at hv
      split at hv
      · rwa [List.getElem?_drop] at hv
      · cases hv
    have hrun := run_append_nil (P := P) w t ty e i z ht hi hz ⟨r, off, none⟩ k c ((cur.drop off).take k) (by rw [hnl, hsz, Nat.mul_one]) hnews (by omega) (by omega) (by rw [hby]; exact hk2)
    have hge := grownCap_ge w k 0 e
    refine ⟨_, w.drew.alloc (.cells (((cur.drop off).take k).toArray ++ Builtin.zeroCells z.cells (grownCap w k 0 e - k)) e), _, [(w.heap.size, cellsOf ((cur.drop off).take k ++ (Builtin.zeroCells z.cells (grownCap w k 0 e - k)).toList) e)] :: H, ?_, ha.put (by simpa using hd) _, ?_, h (.slice (some ⟨w.heap.size, 0, none⟩) k (grownCap w k 0 e)) _ ⟨by rw [hnl, Nat.mul_one], .inr ⟨_, _, _, rfl, rfl, hge, grownCap_le_maxLen w k 0 e (by simp only [maxLen]; omega), ?_, ?_⟩⟩⟩
    · simp only [execOp, resolve, invoke, builtin, Sem.run_bind, Sem.run_pure, Result.andThen_ok, List.map_toArray, List.map_cons, List.map_nil, ha.rho _ _ hx, ha.rho _ _ hy, hrun]
    · have := (hw.drew (w.drawn + 1)).alloc (cellsOf ((cur.drop off).take k ++ (Builtin.zeroCells z.cells (grownCap w k 0 e - k)).toList) e)
      have e1 : (cellsOf ((cur.drop off).take k ++ (Builtin.zeroCells z.cells (grownCap w k 0 e - k)).toList) e) = Obj.cells (((cur.drop off).take k).toArray ++ Builtin.zeroCells z.cells (grownCap w k 0 e - k)) e (0, 0) := by
        simp only [cellsOf]; congr 1; apply Array.ext'; simp
      rw [e1] at this ⊢
      exact this
    · simp only [List.length_append, Array.length_toList, size_zeroCells, hzs, hnl]; omega
    · rw [Nat.mul_one]
      conv => lhs; rw [← hnl]
      rw [hnl]
      exact List.take_left' hnl

/-- An operation whose guard was skipped itself. -/
theorem OpsH.skipU {C : Heap} {all : Array Oper} {fuel : Nat} {listed : Array Bool} (k : Nat) {op : Op} {ty : TypeId} {pos : String} {after : Array Edge} {d j : Nat} {want : Bool} (t : Nat) [hnp : NoPan Q] (hr : (Region.ready .any all listed).contains k = true) (hk : all[k]? = some ⟨some d, op, ty, pos, after, some (j, want)⟩) (hsel : Region.noSelect all = true) (hf : Region.free .any all listed k = true)
    (hdn : Nat.blt d n = true) (hj : dstOf all j = some t) (hg : look L t = some undef)
    (h : OpsH P B n all C fuel (listed.setIfInBounds k true) ((d, undef) :: L) H Q) : OpsH P B n all C (fuel + 1) listed L H Q := by
  refine ⟨fun a w ha hw hC => ?_⟩
  refine wpAnyH_take hk hsel hf hr ?_ (.inr ⟨?_, rfl⟩) hC ?_
  · rintro c a w ⟨L', H', h1, h2, h3⟩
    exact absurd h3 (hnp.out c L' H')
  · have hy : yielded all a.tmps j = none := by
      have h2 := ha.slots t _ hg
      unfold yielded
      unfold dstOf at hj
      rw [hj]; simp [h2, undef]
    simp only [Region.wanted, hy]
    rfl
  · exact h.run _ _ (ha.put (by simpa using hdn) undef) hw hC
end Go.Eng

namespace Go.Eng
variable {P : Program} {B : Base} {n : Nat} {L : Loc} {H : Heap} {Q : Post}
def jumpTo (l : Nat) (J : Loc → Heap → Prop) (Q : Post) : Post
  | .goto l', L, H => l' = l ∧ J L H
  | e, L, H => Q e L H
theorem zf9 {α : Type} {c rest : Code} (l : Nat) (Ls : α → Loc) (Hs : α → Heap) (I : α → Prop) (hf : findLabel c l = some rest)
    (h1 : Wp P B n c L H (jumpTo l (fun L' H' => ∃ g, Knows L' (Ls g) ∧ SubH H' (Hs g) ∧ I g) Q)) (h2 : ∀ g, I g → Wp P B n rest (Ls g) (Hs g) (noGo Q)) : Wp P B n (.scope c) L H Q :=
  ⟨fun a w ha hw => wp_scope_jumps l (fun a w => ∃ g, I g ∧ Fits n (Ls g) a ∧ Inv B (Hs g) w) (fun _ _ => 0) hf
    (wp_mono (h1.run a w ha hw) fun e a' w' ⟨L', H', k1, k2, k3⟩ => by
      cases e with
      | goto l' =>
        obtain ⟨e1, g, hk, hs, hi⟩ := k3
        exact ⟨e1, g, hi, k1.weak hk.spec, k2.sub hs⟩
      | _ => exact ⟨L', H', k1, k2, k3⟩)
    (fun a w ⟨g, hi, hfi, hiv⟩ => wp_mono ((h2 g hi).run a w hfi hiv) fun e a' w' ⟨L', H', k1, k2, k3⟩ => by
      cases e with
      | goto l' => exact k3.elim
      | _ => exact ⟨L', H', k1, k2, k3⟩)⟩
theorem zf4 {l : Nat} (h : Fin (.goto l) L H Q) : Wp P B n (.goto l) L H Q := ⟨fun _ _ ha hw => wp_goto ⟨L, H, ha, hw, h.out⟩⟩
theorem zg5 {l : Nat} {K : Loc → Heap → Prop} (h : Fin (.goto l) L H Q) : Fin (.goto l) L H (andThen K Q) := ⟨h.out⟩
theorem zez {l : Nat} {J : Loc → Heap → Prop} (h : J L H) : Fin (.goto l) L H (jumpTo l J Q) := ⟨⟨rfl, h⟩⟩
theorem zcu {l : Nat} {J : Loc → Heap → Prop} (h : Fin .ret L H Q) : Fin .ret L H (jumpTo l J Q) := ⟨h.out⟩
end Go.Eng

namespace Go.Eng
variable {P : Program} {B : Base} {n : Nat} {L : Loc} {H : Heap} {Q : Post}

end Go.Eng

namespace Go.Eng
variable {P : Program} {B : Base} {n : Nat} {L : Loc} {H : Heap} {Q : Post}

theorem run_appendE {w : World} {t u ty e : Nat} {i : TypeInfo} (ht : P.underlying t = some (.slice e)) (hi : P.info? e = some i) (hu : P.underlying u = some .string) (a : Option Addr) (m c : Nat) (hmc : m ≤ c) :
    (Builtin.append_ #[t, u] ty #[.slice a m c, str []]).run P w = .ok (.slice a m c) w := by
  have h0 : (⟨([] : List UInt8).toArray⟩ : ByteArray).size = 0 := rfl
  cases a with
  | none => simp [Builtin.append_, run_underlying ht, run_underlying hu, sizeOf, typeInfo, hi, Builtin.lenOf, Builtin.firstCells, h0, hmc]
  | some a => simp [Builtin.append_, run_underlying ht, run_underlying hu, sizeOf, typeInfo, hi, Builtin.lenOf, Builtin.firstCells, h0, hmc, storeCells]

theorem zdv {all : Array Oper} {rest : List Oper} {d : Nat} {t u e ty : Nat} {i : TypeInfo} {z : Value} {x y : Operand} {pos : String} {after : Array Edge} {v : Value} {m : Nat} {xs : List Value} {Bk : Blk} {H1 : Heap} {l : List UInt8} [hE : ElemI P t e 1 1 i z] [hu : UStr P u]
    (hO : Own e 1 v m xs Bk) (hm : m + l.length ≤ 140737488355328)
    (h : ∀ v' Bk', Own e 1 v' (m + l.length) (xs ++ Lib.byteCells l) Bk' → Ops P B n all rest ((d, v') :: L) (Bk' :: H1) Q)
    (hx : ev L x = some v := by rfl) (hy : ev L y = some (str l) := by rfl)
    (hT : HTake H Bk H1 := by repeat (first | exact HTake.here | apply HTake.there)) (hd : Nat.blt d n = true := by rfl) :
    Ops P B n all (⟨some d, .call ⟨.builtin .append, #[x, y], #[t, u]⟩, ty, pos, after, none⟩ :: rest) L H Q := by
  cases l with
  | cons c l => exact zel hO (by simp) hm h hx hy hT hd
  | nil =>
    have h1 := h v Bk (by simpa [Lib.byteCells] using hO)
    obtain ⟨a, c, rfl, hmc⟩ : ∃ a c, v = .slice a m c ∧ m ≤ c := by
      rcases hO.2 with ⟨rfl, rfl, rfl⟩ | ⟨g, cap, cur, rfl, rfl, hmc, _⟩
      · exact ⟨none, 0, rfl, Nat.le_refl _⟩
      · exact ⟨_, _, rfl, hmc⟩
    obtain ⟨ht, hi, _⟩ := hE.out
    exact Ops.step_value rfl fun a' w ha hw => by
      refine ⟨.slice a m c, w, _, _, ?_, ha.put (by simpa using hd) _, hw.sub hT.sub, h1⟩
      simp only [execOp, resolve, invoke, builtin, Sem.run_bind, Sem.run_pure, Result.andThen_ok, List.map_toArray, List.map_cons, List.map_nil, ha.rho _ _ hx, ha.rho _ _ hy, run_appendE ht hi hu.out a m c hmc]
end Go.Eng

namespace Go.Eng
variable {P : Program} {B : Base} {n : Nat} {L : Loc} {H : Heap} {Q : Post}

/-- The first entry of a key. -/
def mfind (k : List UInt8) : List (List UInt8 × Value) → Option Value
  | [] => none
  | e :: es => if k = e.1 then some e.2 else mfind k es
/-- A map's entries: texts, and what they stand for. -/
def MapIs (es : Array MapEntry) (tb : List (List UInt8 × Value)) : Prop := es.toList.map (fun e => (e.key, e.val)) = tb.map fun x => (str x.1, x.2)

theorem findNow_str (k : List UInt8) : ∀ (es : List MapEntry) (tb : List (List UInt8 × Value)) (i : Nat), es.map (fun e => (e.key, e.val)) = tb.map (fun x => (str x.1, x.2)) →
    ∃ r, Instr.findNow .string (str k) es i = some r ∧ r.map (·.2) = mfind k tb
  | [], [], i, _ => ⟨none, rfl, rfl⟩
  | [], _ :: _, _, h => by simp at h
  | _ :: _, [], _, h => by simp at h
  | e :: es, x :: tb, i, h => by
    simp only [List.map_cons, List.cons.injEq, Prod.mk.injEq] at h
    obtain ⟨⟨h1, h2⟩, h3⟩ := h
    unfold Instr.findNow mfind
    rw [h1]
    have hs : Instr.sameNow .string (str k) (str x.1) = some (decide (k = x.1)) := by
      show some ((⟨k.toArray⟩ : ByteArray) == ⟨x.1.toArray⟩) = _
      congr 1
      have h0 : ((⟨k.toArray⟩ : ByteArray) == ⟨x.1.toArray⟩) = (k.toArray == x.1.toArray) := rfl
      rw [h0, beq_dec, decide_eq_decide]
      exact ⟨List.toArray_inj, fun h => by rw [h]⟩
    rw [hs]
    by_cases e : k = x.1
    · rw [if_pos e, decide_eq_true e]
      exact ⟨some (i, _), rfl, by simp [h2]⟩
    · rw [if_neg e, decide_eq_false e]
      exact findNow_str k es tb (i + 1) h3

theorem run_lookup {w : World} {t key el : TypeId} {i : TypeInfo} {z : Value} (ht : P.underlying t = some (.map key el)) (hk : P.underlying key = some .string) (hi : P.info? el = some i) (hz : i.zero = some z) {x : Value} {tb : List (List UInt8 × Value)} (k : List UInt8)
    (hx : (x = .map none ∧ tb = []) ∨ ∃ r es c, x = .map (some r) ∧ w.heap[r]? = some (.map es c) ∧ MapIs es tb) :
    (Instr.lookup t x (str k) true).run P w = .ok (.tuple #[(mfind k tb).getD z, .bool (mfind k tb).isSome]) w := by
  have hck : ∀ b, (Instr.checkKey b 10000 key (str k)).run P w = .ok () w := fun b => by
    unfold Instr.checkKey
    simp [run_underlying hk]
  rcases hx with ⟨rfl, rfl⟩ | ⟨r, es, c, rfl, hr, hm⟩
  · simp [Instr.lookup, run_underlying ht, hck, Instr.findKey, run_underlying hk, Instr.findNow, zeroValue, typeInfo, hi, hz, mfind]
  · obtain ⟨rr, h1, h2⟩ := findNow_str k es.toList tb 0 hm
    have hg : (getObj r).run P w = .ok (.map es c) w := by simp [getObj, Sem.run, hr]
    cases rr with
    | none =>
      have h3 : mfind k tb = none := by rw [← h2]; rfl
      simp [Instr.lookup, run_underlying ht, hg, hck, Instr.findKey, run_underlying hk, h1, zeroValue, typeInfo, hi, hz, h3]
    | some p =>
      have h3 : mfind k tb = some p.2 := by rw [← h2]; rfl
      simp [Instr.lookup, run_underlying ht, hg, hck, Instr.findKey, run_underlying hk, h1, h3]

class UMapS (P : Program) (t : Nat) (el : outParam Nat) (z : outParam Value) : Prop where out : ∃ key i, P.underlying t = some (.map key el) ∧ P.underlying key = some .string ∧ P.info? el = some i ∧ i.zero = some z
/-- The table that a map holds, in the memory that is known. -/
inductive MapAt (H : Heap) : Value → List (List UInt8 × Value) → Prop
  | nil : MapAt H (.map none) []
  | at {r : Nat} {es : Array MapEntry} {c : Nat} {tb : List (List UInt8 × Value)} (hm : HMem H r (.map es c)) (h : MapIs es tb) : MapAt H (.map (some r)) tb

theorem zea {x y : Operand} {t ty el : TypeId} {z v : Value} {tb : List (List UInt8 × Value)} {k : List UInt8} [hu : UMapS P t el z] (hx : ev L x = some v) (hy : ev L y = some (str k)) (hm : MapAt H v tb) :
    Pure1 P L H (.lookup t x y true) ty (.tuple #[(mfind k tb).getD z, .bool (mfind k tb).isSome]) := by
  intro ρ w o hρ hw ho _
  obtain ⟨key, i, h1, h2, h3, h4⟩ := hu.out
  have h5 := run_lookup (P := P) (w := w) h1 h2 h3 h4 (x := v) (tb := tb) k (by
    cases hm with
    | nil => exact .inl ⟨rfl, rfl⟩
    | «at» hm h => exact .inr ⟨_, _, _, rfl, hw _ _ hm.mem, h⟩)
  simp only [execOp, ho, hρ _ _ hx, hρ _ _ hy, Sem.run_bind, h5, Result.andThen_ok]
  rfl
end Go.Eng

namespace Go.Eng
variable {P : Program} {B : Base} {n : Nat} {L : Loc} {H : Heap} {Q : Post}

theorem Ops.weak {all : Array Oper} {ops : List Oper} {H' : Heap} (hs : SubH H H') (h : Ops P B n all ops L H' Q) : Ops P B n all ops L H Q :=
  ⟨fun a w ha hw => h.run a w ha (hw.sub hs)⟩
theorem HMem.of_mem {b : Nat} {o : Obj} : ∀ {H : Heap}, (b, o) ∈ H.flatten → HMem H b o
  | [], h => by simp at h
  | [] :: H, h => .there (HMem.of_mem (by simpa using h))
  | (x :: c) :: H, h => by
    rw [List.flatten_cons, List.cons_append] at h
    rcases List.mem_cons.1 h with rfl | h
    · exact .here
    · exact .skip (HMem.of_mem (by simpa using h))
termination_by H => H.flatten.length + H.length
theorem HTake.mem {H H' : Heap} {c : Blk} {r : Nat} {o : Obj} (h : HTake H c H') (hm : HMem H' r o) : HMem H r o :=
  HMem.of_mem (h.perm.mem_iff.2 (List.mem_append.2 (.inr hm.mem)))
theorem SubH.cut2 {c d : Blk} {H : Heap} : SubH ((c ++ d) :: H) (c :: d :: H) := ⟨[], by simp⟩
theorem SubH.join2 {c d : Blk} {H : Heap} : SubH (c :: d :: H) ((c ++ d) :: H) := ⟨[], by simp⟩

/-- The list 'dv' with the elements 'dvals' is made out of a slice of n elements that lies at (g, off); of this one those from i on are not yet read. -/
inductive Rw (E g off cap n : Nat) (svals cur0 : List Value) (i : Nat) : Bool → Value → List Value → Blk → Prop
  | same {cur dvals : List Value} (h0 : off = 0) (h1 : cur.length = cap) (h2 : n ≤ cap) (h3 : cap ≤ 9223372036854775807) (h4 : cur.take dvals.length = dvals) (h5 : dvals.length ≤ i) (h6 : i ≤ n) (h7 : ∀ j, i ≤ j → j < n → cur[j]? = svals[j]?) :
    Rw E g off cap n svals cur0 i true (.slice (some ⟨g, 0, none⟩) dvals.length cap) dvals [(g, cellsOf cur E)]
  | apart {dvals : List Value} {dv : Value} {DB : Blk} (hO : Own E 1 dv dvals.length dvals DB) (h5 : dvals.length ≤ i) (h7 : ∀ j, j < n → cur0[off + j]? = svals[j]?) :
    Rw E g off cap n svals cur0 i false dv dvals (DB ++ [(g, cellsOf cur0 E)])
variable {E g off cap k i : Nat} {svals cur0 dvals : List Value} {b : Bool} {dv : Value} {W : Blk}

theorem Rw.src (h : Rw E g off cap k svals cur0 i b dv dvals W) : ∃ cur, (g, cellsOf cur E) ∈ W ∧ ∀ j, i ≤ j → j < k → cur[off + j * 1]? = svals[j]? := by
  cases h with
  | @same cur dvals h0 h1 h2 h3 h4 h5 h6 h7 => subst h0; exact ⟨cur, by simp, fun j h1 h2 => by rw [Nat.zero_add, Nat.mul_one]; exact h7 j h1 h2⟩
  | @apart dvals dv DB hO h5 h7 => exact ⟨cur0, by simp, fun j h1 h2 => by rw [Nat.mul_one]; exact h7 j h2⟩
theorem Rw.le (h : Rw E g off cap k svals cur0 i b dv dvals W) : dvals.length ≤ i := by
  cases h with
  | same h0 h1 h2 h3 h4 h5 h6 h7 => exact h5
  | apart hO h5 h7 => exact h5
theorem Rw.step (h : Rw E g off cap k svals cur0 i b dv dvals W) (hi : i < k) : Rw E g off cap k svals cur0 (i + 1) b dv dvals W := by
  cases h with
  | same h0 h1 h2 h3 h4 h5 h6 h7 => exact .same h0 h1 h2 h3 h4 (by omega) (by omega) fun j hj => h7 j (by omega)
  | apart hO h5 h7 => exact .apart hO (by omega) h7
theorem Rw.cut (h : Rw E g off cap k svals cur0 i b dv dvals W) (hne : dvals ≠ []) : ∃ g' cap' cur', dv = .slice (some ⟨g', 0, none⟩) dvals.length cap' ∧ (g', cellsOf cur' E) ∈ W ∧ cur'.take dvals.length = dvals ∧ dvals.length ≤ cap' ∧ cur'.length = cap' ∧ cap' ≤ 9223372036854775807 ∧
    ∀ m, m ≤ dvals.length → Rw E g off cap k svals cur0 i b (.slice (some ⟨g', 0, none⟩) m cap') (dvals.take m) W := by
  have hpos : 0 < dvals.length := List.length_pos_iff.2 hne
  cases h with
  | @same cur dvals h0 h1 h2 h3 h4 h5 h6 h7 =>
    refine ⟨g, cap, cur, rfl, by simp, h4, by omega, h1, h3, fun m hm => ?_⟩
    have hl : (dvals.take m).length = m := by rw [List.length_take]; omega
    have := Rw.same (E := E) (g := g) (off := off) (cap := cap) (n := k) (svals := svals) (cur0 := cur0) (i := i) (cur := cur) (dvals := dvals.take m) h0 h1 h2 h3 (by rw [hl, ← h4, List.take_take, Nat.min_eq_left hm]) (by omega) h6 h7
    rw [hl] at this
    exact this
  | @apart dvals dv DB hO h5 h7 =>
    rcases hO.2 with ⟨_, e, _⟩ | ⟨g', cap', cur', rfl, rfl, e1, e2, e3, e4⟩
    · omega
    · rw [Nat.mul_one] at e3 e4
      refine ⟨g', cap', cur', rfl, by simp, e4, e1, e3, e2, fun m hm => .apart ?_ (by rw [List.length_take]; omega) h7⟩
      have hl : (dvals.take m).length = m := by rw [List.length_take]; omega
      exact ⟨by rw [hl, Nat.mul_one], .inr ⟨g', cap', cur', by rw [hl], rfl, by rw [hl]; omega, e2, by omega, by rw [hl, Nat.mul_one, ← e4, List.take_take, Nat.min_eq_left hm]⟩⟩

theorem zc6 {all : Array Oper} {rest : List Oper} {d : Nat} {t e ty by_ : Nat} {ti : TypeInfo} {z : Value} {x y : Operand} {pos : String} {after : Array Edge} {r c : Nat} {u : Value} {H1 : Heap} [hE : ElemI P t e 1 by_ ti z]
    (hR : Rw e g off cap k svals cur0 i b dv dvals W) (hlt : dvals.length < i) (hi : i ≤ 1000000000)
    (h : ∀ v' W', Rw e g off cap k svals cur0 i b v' (dvals ++ [u]) W' → Ops P B n all rest ((d, v') :: L) (W' :: H1) Q)
    (hx : ev L x = some dv := by rfl) (hy : ev L y = some (.slice (some ⟨r, 0, none⟩) 1 c) := by rfl)
    (hT : HTake H W H1 := by repeat (first | exact HTake.here | apply HTake.there))
    (hr : HMem H1 r (cellsOf [u] e) := by repeat (first | exact HMem.here | apply HMem.skip | apply HMem.there))
    (hu : oneCell u = true := by first | rfl | assumption) (hb : Nat.ble by_ 1000 = true := by rfl) (hd : Nat.blt d n = true := by rfl) :
    Ops P B n all (⟨some d, .call ⟨.builtin .append, #[x, y], #[t, t]⟩, ty, pos, after, none⟩ :: rest) L H Q := by
  cases hR with
  | @same cur dvals h0 h1 h2 h3 h4 h5 h6 h7 =>
    refine zfz (H1 := H1) h1 (by omega) ?_ hx hy hT (hT.mem hr) hu hd
    have e0 : (dvals ++ [u]).length = dvals.length + 1 := by simp
    have := Rw.same (E := e) (g := g) (off := off) (cap := cap) (n := k) (svals := svals) (cur0 := cur0) (i := i) (cur := cur.set dvals.length u) (dvals := dvals ++ [u]) h0 (by simpa using h1) h2 h3 (by
      rw [e0, List.take_add_one, List.getElem?_set_self (by omega), List.take_set_of_le (Nat.le_refl _), h4]; rfl) (by omega) h6 (fun j hj1 hj2 => by rw [List.getElem?_set_ne (by omega)]; exact h7 j hj1 hj2)
    rw [e0] at this
    exact h _ _ this
  | @apart dvals dv DB hO h5 h7 =>
    refine Ops.weak (hT.sub.trans SubH.cut2) ?_
    refine zbz (H1 := [(g, cellsOf cur0 e)] :: H1) hO (by omega) (fun v' Bk' hO' => ?_) hx hy .here (.there (.there hr)) rfl (by simpa using hu) hb hd
    refine Ops.weak SubH.join2 (h _ _ (.apart (by simpa using hO') (by simp; omega) h7))
/-- The first of a list is changed, another cell of the same kind. -/
theorem Rw.get (h : Rw E g off cap k svals cur0 i b dv dvals W) {j : Nat} {u : Value} (hj : dvals[j]? = some u) : ∃ g' cap' cur', dv = .slice (some ⟨g', 0, none⟩) dvals.length cap' ∧ (g', cellsOf cur' E) ∈ W ∧ cur'[0 + j * 1]? = some u := by
  have hlt := (List.getElem?_eq_some_iff.1 hj).1
  obtain ⟨g', cap', cur', e1, e2, e3, e4, e5, e6, e7⟩ := h.cut (by intro e; rw [e] at hlt; simp at hlt)
  refine ⟨g', cap', cur', e1, e2, ?_⟩
  rw [Nat.zero_add, Nat.mul_one]
  have h2 : (cur'.take dvals.length)[j]? = cur'[j]? := by rw [List.getElem?_take, if_pos hlt]
  rw [← h2, e3]; exact hj
end Go.Eng

namespace Go.Eng
variable {P : Program} {B : Base} {n : Nat} {L : Loc} {H : Heap} {Q : Post}

theorem Ops.makeMap {all : Array Oper} {rest : List Oper} {d : Nat} {t ty : TypeId} {pos : String} {after : Array Edge} (hd : Nat.blt d n = true)
    (h : ∀ r, Ops P B n all rest ((d, .map (some r)) :: L) ([(r, .map #[] 0)] :: H) Q) :
    Ops P B n all (⟨some d, .makeMap t none, ty, pos, after, none⟩ :: rest) L H Q :=
  Ops.step_value rfl fun a w ha hw => ⟨_, _, _, _, by
      simp [execOp, Instr.makeMap, newObj, Sem.run], ha.put (by simpa using hd) _, hw.alloc _, h _⟩

theorem MapIs.push {es : Array MapEntry} {tb : List (List UInt8 × Value)} (h : MapIs es tb) (k : List UInt8) (v : Value) (c : Nat) : MapIs (es.push { key := str k, val := v, born := c }) (tb ++ [(k, v)]) := by
  unfold MapIs at h ⊢
  simp [h]

/-! Maps against nil, and look-ups without the second answer. -/
theorem eq_map_nil (d0 : Nat) {t key el : TypeId} (a : Option Nat) (hu : P.underlying t = some (.map key el)) (w : World) : (Op.equalIn (d0 + 1) t (.map a) (.map none)).run P w = .ok a.isNone w := by
  cases a <;> simp [Op.equalIn, underlying, hu]
theorem zf1 {x : Operand} {t ty yt el : TypeId} {z : Value} {a : Option Nat} [hut : UMapS P t el z] (hx : ev L x = some (.map a)) (r : Bool) (hr : a.isNone = r) : Pure1 P L H (.binOp .eql t x (.const (.map none)) yt) ty (.bool r) := by
  obtain ⟨key, i, h1, h2, h3, h4⟩ := hut.out
  exact zcs hx rfl (by simp [eqGuard]) fun w => by subst hr; exact run_equal_step (fun w => eq_map_nil 9999 a h1 w) rfl w
theorem zex {all : Array Oper} {rest : List Oper} {d : Nat} {ty : TypeId} {pos : String} {after : Array Edge} {x : Operand} {t yt el : TypeId} {z : Value} {a : Option Nat} [hu : UMapS P t el z] (h : Ops P B n all rest ((d, .bool a.isNone) :: L) H Q) (hx : ev L x = some (.map a) := by rfl) (hd : Nat.blt d n = true := by rfl) :
    Ops P B n all (⟨some d, .binOp .eql t x (.const (.map none)) yt, ty, pos, after, none⟩ :: rest) L H Q := Ops.pure _ (zf1 hx _ rfl) hd h

end Go.Eng

namespace Go.Eng
variable {P : Program} {B : Base} {n : Nat} {L : Loc} {H : Heap} {Q : Post} {C : Heap}
theorem sA {H H' : Heap} (h : SubH H H' := by repeat (first | exact SubH.nilR _ | refine SubH.pick (by repeat (first | exact HTake.here | apply HTake.there)) ?_)) : SubH H H' := h
theorem kA {L L' : Loc} (h : Knows L L' := by repeat (first | exact trivial | refine ⟨rfl, ?_⟩)) : Knows L L' := h
theorem kB {L L' : Loc} (h : Knows L L' := by repeat (first | exact trivial | refine ⟨rfl, ?_⟩)) : ∀ i v, look L' i = some v → look L i = some v := h.spec
theorem hF {all : Array Oper} {fuel : Nat} {listed : Array Bool} (k : Nat) {op : Op} {ty : TypeId} {pos : String} {after : Array Edge} {d : Nat} {v : Value} [hnp : NoPan Q] (h : OpsH P B n all C fuel (listed.setIfInBounds k true) ((d, v) :: L) H Q)
    (hr : (Region.ready .any all listed).contains k = true := by kernel_rfl) (hk : all[k]? = some ⟨some d, op, ty, pos, after, none⟩ := by rfl) (hsel : Region.noSelect all = true := by kernel_rfl) (hf : Region.free .any all listed k = true := by kernel_rfl) (hdn : Nat.blt d n = true := by rfl)
    (hy : Pure1 P L C op ty v := by first | exact zbr rfl | exact zbj rfl | exact zbe rfl rfl | exact zbp rfl | exact zbo rfl | exact zar rfl (by repeat (first | exact HMem.here | apply HMem.skip | apply HMem.there)) rfl | exact zbs rfl (by repeat (first | exact HMem.here | apply HMem.skip | apply HMem.there)) (by repeat constructor) | exact zbk rfl | exact zbm rfl | exact zbi rfl rfl (by omega) | exact zbb rfl rfl rfl (by omega) (by omega) | exact zbu rfl | exact zbv rfl | exact zbn rfl (by repeat' (first | exact BFill.nil | refine' BFill.one (by rfl) (by rfl) (by repeat constructor) ?_ | refine' BFill.agg (by rfl) (by rfl) (by repeat constructor) ?_))) : OpsH P B n all C (fuel + 1) listed L H Q := OpsH.first k v hr hk hsel hf hdn hy h
theorem hG {all : Array Oper} {fuel : Nat} {listed : Array Bool} (k : Nat) {op : Op} {ty : TypeId} {pos : String} {after : Array Edge} {d : Nat} (v : Value) [hnp : NoPan Q] (hk : all[k]? = some ⟨some d, op, ty, pos, after, none⟩) (hy : Pure1 P L C op ty v) (h : OpsH P B n all C fuel (listed.setIfInBounds k true) ((d, v) :: L) H Q)
    (hr : (Region.ready .any all listed).contains k = true := by kernel_rfl) (hsel : Region.noSelect all = true := by kernel_rfl) (hf : Region.free .any all listed k = true := by kernel_rfl) (hdn : Nat.blt d n = true := by rfl) : OpsH P B n all C (fuel + 1) listed L H Q := OpsH.first k v hr hk hsel hf hdn hy h
theorem hI {all : Array Oper} {fuel : Nat} {listed : Array Bool} (k : Nat) {op : Op} {ty : TypeId} {pos : String} {after : Array Edge} {d j : Nat} {want : Bool} {v : Value} {t : Nat} [hnp : NoPan Q] (h : OpsH P B n all C fuel (listed.setIfInBounds k true) ((d, v) :: L) H Q)
    (hr : (Region.ready .any all listed).contains k = true := by kernel_rfl) (hk : all[k]? = some ⟨some d, op, ty, pos, after, some (j, want)⟩ := by rfl) (hsel : Region.noSelect all = true := by kernel_rfl) (hf : Region.free .any all listed k = true := by kernel_rfl) (hdn : Nat.blt d n = true := by rfl) (hj : dstOf all j = some t := by rfl) (hg : look L t = some (.bool want) := by rfl)
    (hy : Pure1 P L C op ty v := by first | exact zbr rfl | exact zbj rfl | exact zbe rfl rfl | exact zbp rfl | exact zbo rfl | exact zar rfl (by repeat (first | exact HMem.here | apply HMem.skip | apply HMem.there)) rfl | exact zbs rfl (by repeat (first | exact HMem.here | apply HMem.skip | apply HMem.there)) (by repeat constructor) | exact zbk rfl | exact zbm rfl | exact zbi rfl rfl (by omega) | exact zbb rfl rfl rfl (by omega) (by omega) | exact zbu rfl | exact zbv rfl | exact zbn rfl (by repeat' (first | exact BFill.nil | refine' BFill.one (by rfl) (by rfl) (by repeat constructor) ?_ | refine' BFill.agg (by rfl) (by rfl) (by repeat constructor) ?_))) : OpsH P B n all C (fuel + 1) listed L H Q := OpsH.firstG k v t hr hk hsel hf hdn hj hg hy h
theorem hS {all : Array Oper} {fuel : Nat} {listed : Array Bool} (k : Nat) {op : Op} {ty : TypeId} {pos : String} {after : Array Edge} {d j : Nat} {want : Bool} {t : Nat} {g : Bool} [hnp : NoPan Q] (h : OpsH P B n all C fuel (listed.setIfInBounds k true) ((d, undef) :: L) H Q)
    (hr : (Region.ready .any all listed).contains k = true := by kernel_rfl) (hk : all[k]? = some ⟨some d, op, ty, pos, after, some (j, want)⟩ := by rfl) (hsel : Region.noSelect all = true := by kernel_rfl) (hf : Region.free .any all listed k = true := by kernel_rfl) (hdn : Nat.blt d n = true := by rfl) (hj : dstOf all j = some t := by rfl) (hg : look L t = some (.bool g) := by rfl) (hne : (g == want) = false := by rfl) :
    OpsH P B n all C (fuel + 1) listed L H Q := OpsH.skip k t g hr hk hsel hf hdn hj hg hne h
theorem hU {all : Array Oper} {fuel : Nat} {listed : Array Bool} (k : Nat) {op : Op} {ty : TypeId} {pos : String} {after : Array Edge} {d j : Nat} {want : Bool} {t : Nat} [hnp : NoPan Q] (h : OpsH P B n all C fuel (listed.setIfInBounds k true) ((d, undef) :: L) H Q)
    (hr : (Region.ready .any all listed).contains k = true := by kernel_rfl) (hk : all[k]? = some ⟨some d, op, ty, pos, after, some (j, want)⟩ := by rfl) (hsel : Region.noSelect all = true := by kernel_rfl) (hf : Region.free .any all listed k = true := by kernel_rfl) (hdn : Nat.blt d n = true := by rfl) (hj : dstOf all j = some t := by rfl) (hg : look L t = some undef := by rfl) :
    OpsH P B n all C (fuel + 1) listed L H Q := OpsH.skipU k t hr hk hsel hf hdn hj hg h
theorem hO {all : Array Oper} {fuel : Nat} {listed : Array Bool} (k : Nat) {o : Oper} (h : Ops P B n all [o] L H (andThen (fun L' H' => SubH H' C ∧ OpsH P B n all C fuel (listed.setIfInBounds k true) L' H' Q) Q))
    (hr : Region.ready .any all listed = [k] := by kernel_rfl) (hk : all[k]? = some o := by rfl) : OpsH P B n all C (fuel + 1) listed L H Q := OpsH.only k o hr hk h
theorem kF {all : Array Oper} {fuel k : Nat} {listed : Array Bool} (j : Nat) {op : Op} {ty : TypeId} {pos : String} {after : Array Edge} {d : Nat} {v : Value} [hnp : NoPan Q] (h : OpsK P B n all C k fuel (listed.setIfInBounds j true) ((d, v) :: L) H Q)
    (hjk : Nat.beq j k = false := by rfl) (hr : (Region.ready .any all listed).contains j = true := by kernel_rfl) (hj : all[j]? = some ⟨some d, op, ty, pos, after, none⟩ := by rfl) (hsel : Region.noSelect all = true := by kernel_rfl) (hf : Region.free .any all listed j = true := by kernel_rfl) (hdn : Nat.blt d n = true := by rfl)
    (hy : Pure1 P L [] op ty v := by first | exact zbr rfl | exact zbj rfl | exact zbe rfl rfl | exact zbp rfl | exact zbo rfl | exact zar rfl (by repeat (first | exact HMem.here | apply HMem.skip | apply HMem.there)) rfl | exact zbs rfl (by repeat (first | exact HMem.here | apply HMem.skip | apply HMem.there)) (by repeat constructor) | exact zbk rfl | exact zbm rfl | exact zbi rfl rfl (by omega) | exact zbb rfl rfl rfl (by omega) (by omega) | exact zbu rfl | exact zbv rfl | exact zbn rfl (by repeat' (first | exact BFill.nil | refine' BFill.one (by rfl) (by rfl) (by repeat constructor) ?_ | refine' BFill.agg (by rfl) (by rfl) (by repeat constructor) ?_))) : OpsK P B n all C k (fuel + 1) listed L H Q := OpsK.first j v hjk hr hj hsel hf hdn hy h
theorem kO {all : Array Oper} {fuel k : Nat} {listed : Array Bool} (j : Nat) {o : Oper} (h : Ops P B n all [o] L H (andThen (fun L' H' => ((listed.setIfInBounds j true).getD k false = false → SubH H' C) ∧ OpsK P B n all C k fuel (listed.setIfInBounds j true) L' H' Q) Q))
    (hr : Region.ready .any all listed = [j] := by kernel_rfl) (hj : all[j]? = some o := by rfl) : OpsK P B n all C k (fuel + 1) listed L H Q := OpsK.only j o hr hj h
end Go.Eng

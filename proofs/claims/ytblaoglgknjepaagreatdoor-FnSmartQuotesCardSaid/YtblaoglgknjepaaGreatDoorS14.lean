/- The closure of emph that finds a stack, and the states of emph. No conditions beyond those that each states. -/
import Derived.Test.YtblaoglgknjepaaGreatDoorS4
import Derived.Test.YtblaoglgknjepaaGreatDoorS0
import Derived.Test.YtblaoglgknjepaaGreatDoorEngB
namespace Go.Proofs
open Go Go.Eng
set_option maxRecDepth 20000
set_option maxHeartbeats 16000000

abbrev plb (q : Nat) (t : List UInt8) : Blk := [(q, cellsOf [str t] 104)]
abbrev dstb (r4 g m cap : Nat) : Blk := [(r4, cellsOf [.slice (some ⟨g, 0, none⟩) m cap] 56)]
/-- What is struck out. -/
abbrev deb (x : Nat) (mk : List UInt8) (v : Value) : Blk := [(x, cellsOf [str mk, v] 189)]
abbrev vPl (q : Nat) : Value := .iface 123 (lp q)
abbrev vEm (q : Nat) : Value := .iface 159 (lp q)
abbrev vDe (q : Nat) : Value := .iface 190 (lp q)

theorem stackOf_tr (c : UInt8) (k : Nat) (hk : Lib.indexByte [95, 42, 126, 34, 39] c = k) : TrP Tryz.prog 94 [.int .u8 c.toNat] (inat k) := by
  have h := indexByte_tr [95, 42, 126, 34, 39] c
  rw [hk] at h
  refine Tr.start (n := 5) (rs := [.tmp 2]) rfl rfl rfl rfl fun B => ?_
  (repeat' (first | refine s_pure (h) ?_ | refine k_seq ?_ | refine k_region ?_ | refine k_nil ?_ | refine k_then ?_ | refine k_ret ?_ | refine s_move ?_ | refine s_assign ?_))
  exact e_pure ⟨rfl, rfl⟩

theorem s_clo {B : Base} {n : Nat} {L : Eng.Loc} {H : Heap} {Q : Eng.Post} {all : Array Oper} {rest : List Oper} {d : Nat} {f : FuncId} {x : Operand} {xs : List Operand} {tys : Array TypeId} {ty : TypeId} {pos : String} {after : Array Edge} {fst caps args : List Value} {Hc F H1 : Heap} {u : Value} [hf : Cal Tryz.prog f]
    (hT : TrD Tryz.prog f (fst ++ args ++ caps) Hc u H1) (h : Ops Tryz.prog B n all rest ((d, u) :: L) (H1 ++ F) Q)
    (hv : ev L x = some (.func (.func f) fst.toArray caps.toArray) := by rfl) (hx : evs L xs = some args := by rfl)
    (ht : HTakes H Hc F := by repeat' (first | exact HTakes.nil | exact HTake.here | apply HTakes.cons | apply HTake.there)) (hd : Nat.blt d n = true := by rfl) :
    Ops Tryz.prog B n all (⟨some d, .call ⟨.value x, xs.toArray, tys⟩, ty, pos, after, none⟩ :: rest) L H Q :=
  Ops.call_val hf.out hv hx hT ht hd fun v H' hR => by obtain ⟨rfl, rfl⟩ := hR; exact h

/-- Where emph stands. -/
inductive ES where
  | a
  | b
  | c (g1 cap1 : Nat) (cur1 : List Value)
  | d (g1 cap1 : Nat) (cur1 : List Value)
  | e (g1 cap1 : Nat) (cur1 : List Value) (x : Nat) (mk : List UInt8) (gx capx : Nat) (curx : List Value)
  | f (x : Nat) (mk : List UInt8) (gx capx : Nat) (curx : List Value)
abbrev ES.j : ES → Nat
  | .a => 0
  | .b => 1
  | .c .. => 2
  | .d .. => 3
  | .e .. => 4
  | .f .. => 5
end Go.Proofs

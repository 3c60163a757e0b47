/- closeBlock of the root, and trimStack to nothing. Conditions: bounds. -/
import Derived.Test.YtblaoglgknjepaaGreatDoorW13
namespace Go.Proofs
open Go Go.Eng
set_option maxRecDepth 20000
set_option maxHeartbeats 4000000

theorem closeRoot (p rb g cap : Nat) (s : PS) (cur : List Value) (a b : Nat) (ia : Option Addr) (im ic : Nat) (lk : Option Nat) (hlk : s.links = .map lk)
    (hO : Stk (stk g 1 cap) 1 [.iface 67 (lp rb), .slice ia im ic, inat a, inat b] (stb g cur)) (hs : s.stack = stk g 1 cap) :
    Tr Tryz.prog 36 [lp p] [s.blk p, stb g cur] fun u K => ∃ d, u = .iface 36 (lp d) ∧
      K = [({ s with stack := stk g 0 cap, root := lp d } : PS).blk p, stb g cur, docb d a b (.slice ia im ic) (.map lk)] := by
  obtain ⟨par, root, links, lineno, stack, depth, corner, sv, em, list, lists, texts, bt⟩ := s
  subst hs
  subst hlk
  obtain ⟨v1, v2, v3, v4⟩ := hO.view
  have c0 : cur[0 + (1 - 1) * 4 + 0]? = some (.iface 67 (lp rb)) := hO.get rfl
  have c1 : cur[0 + (1 - 1) * 4 + 1]? = some (.slice ia im ic) := hO.get rfl
  have c2 : cur[0 + (1 - 1) * 4 + 2]? = some (inat a) := hO.get rfl
  have c3 : cur[0 + (1 - 1) * 4 + 2 + 1]? = some (inat b) := hO.get rfl
  refine Tr.start (n := 118) (rs := [.tmp 2]) rfl rfl rfl rfl fun B => ?_
  (repeat' (first | refine Wp.draw_all (id := 1) Mixed.out (by kernel_rfl) ?_ | refine s_load (hc := c0) ?_ | refine k_seq ?_ | refine k_region ?_ | refine k_nil ?_ | refine k_then ?_ | refine k_false ?_ | refine k_skip ?_ | refine s_move ?_ | refine s_assign ?_ | refine s_field ?_ | refine s_nilp ?_ | refine s_mki ?_ | refine s_eqif ?_ | refine u_nil ?_ | refine u_move ?_ | refine u_assign ?_ | refine u_load ?_ | refine u_field ?_ | refine u_nilp ?_ | refine u_sub1 ?_ | refine u_len ?_ | refine u_idxa ?_))
  refine s_inv (rootBuild p rb g 1 cap _ cur a b ia im ic lk rfl (by omega) (by omega) c1 c2 c3 rfl) (fun u K hR => ?_)
  obtain ⟨d, rfl, rfl⟩ := hR
  (repeat' (first | refine Wp.draw_tail (id := 10) 12 Mixed.out (by kernel_rfl) ?_ | refine k_seq ?_ | refine k_region ?_ | refine k_nil ?_ | refine k_then ?_ | refine k_false ?_ | refine k_skip ?_ | refine k_ret ?_ | refine s_move ?_ | refine s_assign ?_ | refine s_load ?_ | refine s_field ?_ | refine s_nilp ?_ | refine s_gtr_f ?_ | refine s_len ?_ | refine s_ext ?_ | refine s_as ?_ | refine s_asno ?_ | refine s_store ?_ | refine u_nil ?_ | refine u_move ?_ | refine u_load ?_ | refine u_field ?_ | refine u_nilp ?_ | refine u_sub1 ?_ | refine u_len ?_ | refine u_slicehi ?_))
  exact e_ret _ ⟨d, rfl, rfl⟩ (by repeat (first | exact SubH.nilR _ | refine SubH.pick (by repeat (first | exact HTake.here | apply HTake.there)) ?_))

inductive Trim where
  | two
  | one (q t : Nat) (v' : Value) (TB' : Blk) (cur' : List Value) (ia : Option Addr) (im ic : Nat) (IB : Blk)
  | none (q t : Nat) (v' : Value) (TB' : Blk) (cur' : List Value) (ia : Option Addr) (im ic : Nat) (IB : Blk) (d : Nat)

theorem trimAll (p g cap pb rb : Nat) (s : PS) (cur : List Value) (tv : Value) (Bt : Blk) (tx : List UInt8) (ts : List Nat) (TB : Blk) (f1 : Value) (a b e2 e3 : Nat) (hl : tx.length ≤ 140737488355328) (hi : 0 < tx.length) (h1 : at0 tx 0 ≠ 32) (h2 : at0 tx 0 ≠ 9) (h3 : at0 tx 0 ≠ 10) (h4 : at0 tx 0 ≠ 91) (ha2 : a ≤ 100000000)
    (hO : Stk (stk g 2 cap) 2 [.iface 67 (lp rb), .slice none 0 0, inat e2, inat e3, .iface 129 (lp pb), f1, inat a, inat b] (stb g cur)) (hs : s.stack = stk g 2 cap) (lk : Option Nat) (hlk : s.links = .map lk)
    (hT : Ptrs s.texts ts TB) (htl : ts.length ≤ 1000000) (ls : List (List UInt8)) (hS : Strs tv ls Bt) (htx : Lib.join ls [10] = tx) (hl0 : ls ≠ []) (hll : ls.length ≤ 1000000) (hlt : tx.length ≤ 1000000000) :
    Tr Tryz.prog 29 [lp p, .int .i64 0] [s.blk p, stb g cur, pbb pb tv, Bt, TB] fun u K => ∃ q t v' TB' cur' ia im ic IB d, u = unit ∧ Ptrs v' (ts ++ [t]) TB' ∧ Blks (.slice ia im ic) [.iface 120 (lp q)] IB ∧
      K = [({ s with stack := stk g 0 cap, root := lp d, texts := v' } : PS).blk p, stb g cur', TB', txb t a (a + ls.length - 1) (.slice none 0 0) tx, pgb q a (a + ls.length - 1) t, IB, docb d e2 e3 (.slice ia im ic) (.map lk)] := by
  obtain ⟨par, root, links, lineno, stack, depth, corner, sv, em, list, lists, texts, bt⟩ := s
  subst hs
  subst hlk
  refine Tr.start (n := 21) (rs := []) rfl rfl rfl rfl fun B => ?_
  (repeat' (first | refine k_seq ?_ | refine k_region ?_ | refine k_nil ?_ | refine k_then ?_ | refine k_false ?_ | refine k_blk ?_ | refine k_skip ?_ | refine s_move ?_ | refine s_load ?_ | refine s_field ?_ | refine s_nilp ?_ | refine s_lss_f ?_ | refine s_len ?_))
  refine k_loop (fun _ : Trim => [(0, lp p), (1, .int .i64 0)])
    (fun x => match x with
      | .two => [(⟨par, root, .map lk, lineno, stk g 2 cap, depth, corner, sv, em, list, lists, texts, bt⟩ : PS).blk p, stb g cur, pbb pb tv, Bt, TB]
      | .one q t v' TB' cur' ia im ic IB => [(⟨par, root, .map lk, lineno, stk g 1 cap, depth, corner, sv, em, list, lists, v', bt⟩ : PS).blk p, stb g cur', TB', txb t a (a + ls.length - 1) (.slice none 0 0) tx, pgb q a (a + ls.length - 1) t, IB]
      | .none q t v' TB' cur' ia im ic IB d => [(⟨par, lp d, .map lk, lineno, stk g 0 cap, depth, corner, sv, em, list, lists, v', bt⟩ : PS).blk p, stb g cur', TB', txb t a (a + ls.length - 1) (.slice none 0 0) tx, pgb q a (a + ls.length - 1) t, IB, docb d e2 e3 (.slice ia im ic) (.map lk)])
    (fun x => match x with
      | .two => True
      | .one q t v' TB' cur' ia im ic IB => Ptrs v' (ts ++ [t]) TB' ∧ Stk (stk g 1 cap) 1 [.iface 67 (lp rb), .slice ia im ic, inat e2, inat e3] (stb g cur') ∧ Blks (.slice ia im ic) [.iface 120 (lp q)] IB
      | .none q t v' TB' cur' ia im ic IB d => Ptrs v' (ts ++ [t]) TB' ∧ Blks (.slice ia im ic) [.iface 120 (lp q)] IB)
    (fun x => match x with
      | .two => 2
      | .one .. => 1
      | .none .. => 0) .two trivial (Knows.spec (by repeat (first | exact trivial | refine ⟨rfl, ?_⟩))) (by repeat (first | exact SubH.nilR _ | refine SubH.pick (by repeat (first | exact HTake.here | apply HTake.there)) ?_)) fun x hx => ?_
  cases x with
  | two =>
    (repeat' (first | refine k_seq ?_ | refine k_region ?_ | refine k_nil ?_ | refine k_then ?_ | refine k_true ?_ | refine k_blk ?_ | refine k_skip ?_ | refine s_move ?_ | refine s_load ?_ | refine s_field ?_ | refine s_nilp ?_ | refine s_gtr_t ?_ | refine s_len ?_))
    refine s_call (closePara p g cap pb _ cur tv Bt tx ts TB _ _ _ _ f1 a b hl hi h1 h2 h3 h4 ha2 hO rfl hT htl ls hS htx hl0 hll hlt) (fun u K hR => ?_)
    obtain ⟨q, t, v', TB', cur', iv, IB, rfl, k1, k2, k3, rfl⟩ := hR
    obtain ⟨g', cap', cur2, rfl, rfl, j1, j2, j3, j4⟩ := (show Own _ 1 iv (0 + 1) _ IB from k3).pos
    (repeat' (first | refine k_nil ?_ | refine k_then ?_ | refine k_block ?_))
    exact ⟨.one q t v' TB' cur' (some ⟨g', 0, .none⟩) (0 + 1) cap' _, (Knows.spec (by repeat (first | exact trivial | refine ⟨rfl, ?_⟩))), (by repeat (first | exact SubH.nilR _ | refine SubH.pick (by repeat (first | exact HTake.here | apply HTake.there)) ?_)), ⟨k1, k2, k3⟩, (by show 1 < 2; omega)⟩
  | one q t v' TB' cur' ia im ic IB =>
    obtain ⟨k1, k2, k3⟩ := hx
    (repeat' (first | refine k_seq ?_ | refine k_region ?_ | refine k_nil ?_ | refine k_then ?_ | refine k_true ?_ | refine k_blk ?_ | refine k_skip ?_ | refine s_move ?_ | refine s_load ?_ | refine s_field ?_ | refine s_nilp ?_ | refine s_gtr_t ?_ | refine s_len ?_))
    refine s_call (closeRoot p rb g cap _ cur' e2 e3 ia im ic lk rfl k2 rfl) (fun u K hR => ?_)
    obtain ⟨d, rfl, rfl⟩ := hR
    (repeat' (first | refine k_nil ?_ | refine k_then ?_ | refine k_block ?_))
    exact ⟨.none q t v' TB' cur' ia im ic IB d, (Knows.spec (by repeat (first | exact trivial | refine ⟨rfl, ?_⟩))), (by repeat (first | exact SubH.nilR _ | refine SubH.pick (by repeat (first | exact HTake.here | apply HTake.there)) ?_)), ⟨k1, k3⟩, (by show 0 < 1; omega)⟩
  | none q t v' TB' cur' ia im ic IB d =>
    obtain ⟨k1, k3⟩ := hx
    (repeat' (first | refine k_seq ?_ | refine k_region ?_ | refine k_nil ?_ | refine k_then ?_ | refine k_false ?_ | refine k_exit ?_ | refine k_exit_then ?_ | refine k_hit ?_ | refine s_move ?_ | refine s_load ?_ | refine s_field ?_ | refine s_nilp ?_ | refine s_gtr_f ?_ | refine s_len ?_))
    exact e_norm _ ⟨q, t, v', TB', cur', ia, im, ic, IB, d, rfl, k1, k3, rfl⟩ (by repeat (first | exact SubH.nilR _ | refine SubH.pick (by repeat (first | exact HTake.here | apply HTake.there)) ?_))
end Go.Proofs

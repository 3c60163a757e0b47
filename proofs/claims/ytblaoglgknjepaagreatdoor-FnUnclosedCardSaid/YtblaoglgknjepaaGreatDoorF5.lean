/- closeBlock and trimStack of a fence and of the document. Conditions: bounds. -/
import Derived.Test.YtblaoglgknjepaaGreatDoorF4
namespace Go.Proofs
open Go Go.Eng
set_option maxRecDepth 20000
set_option maxHeartbeats 4000000

theorem closeFence (p g cap b K : Nat) (s : PS) (cur : List Value) (ia : Option Addr) (im ic : Nat) (bty : Nat) (bv e2 e3 f1 : Value) (a e : Nat)
    (hO : Stk (stk g 2 cap) 2 [.iface bty bv, .slice none 0 0, e2, e3, .iface 224 (lp b), f1, inat a, inat e] (stb g cur)) (hs : s.stack = stk g 2 cap) :
    Tr Tryz.prog 36 [lp p] [s.blk p, stb g cur, fbb b K (.slice ia im ic)] fun u K' => ∃ q cur' ja jm jc IB, u = .iface 234 (lp q) ∧
      Stk (stk g 1 cap) 1 [.iface bty bv, .slice ja jm jc, e2, e3] (stb g cur') ∧ Blks (.slice ja jm jc) [.iface 234 (lp q)] IB ∧
      K' = [({ s with stack := stk g 1 cap } : PS).blk p, stb g cur', cdb q a e K (.slice ia im ic), IB] := by
  obtain ⟨par, root, links, lineno, stack, depth, corner, sv, em, list, lists, texts, bt⟩ := s
  subst hs
  obtain ⟨v1, v2, v3, v4⟩ := hO.view
  have c0 : cur[0 + (2 - 1) * 4 + 0]? = some (.iface 224 (lp b)) := hO.get rfl
  have c2 : cur[0 + (2 - 1) * 4 + 2]? = some (inat a) := hO.get rfl
  have c3 : cur[0 + (2 - 1) * 4 + 2 + 1]? = some (inat e) := hO.get rfl
  have c4 : cur[0 + (2 - 1 - 1) * 4 + 1]? = some (.slice none 0 0) := hO.get rfl
  refine Tr.start (n := 118) (rs := [.tmp 2]) rfl rfl rfl rfl fun B => ?_
  (repeat' (first | refine Wp.draw_all (id := 1) Mixed.out (by kernel_rfl) ?_ | refine s_load (hc := c0) ?_ | refine k_seq ?_ | refine k_region ?_ | refine k_nil ?_ | refine k_then ?_ | refine k_false ?_ | refine k_skip ?_ | refine s_move ?_ | refine s_assign ?_ | refine s_field ?_ | refine s_nilp ?_ | refine s_mki ?_ | refine s_eqif ?_ | refine u_nil ?_ | refine u_move ?_ | refine u_assign ?_ | refine u_load ?_ | refine u_field ?_ | refine u_nilp ?_ | refine u_sub1 ?_ | refine u_len ?_ | refine u_idxa ?_))
  refine s_inv (build_fence p g 2 cap b K _ cur ia im ic a e (by omega) (by omega) c2 c3 rfl) (fun u K' hR => ?_)
  obtain ⟨q, rfl, rfl⟩ := hR
  (repeat' (first | refine Wp.draw_tail (id := 10) 12 Mixed.out (by kernel_rfl) ?_ | refine Wp.draw_all (id := 12) Mixed.out (by kernel_rfl) ?_ | refine s_load (hc := c4) ?_ | refine k_seq ?_ | refine k_region ?_ | refine k_nil ?_ | refine k_then ?_ | refine k_true ?_ | refine k_false ?_ | refine k_skip ?_ | refine s_move ?_ | refine s_assign ?_ | refine s_load ?_ | refine s_field ?_ | refine s_nilp ?_ | refine s_gtr_t ?_ | refine s_len ?_ | refine s_ext ?_ | refine s_asno ?_ | refine s_store ?_ | refine s_bsl1 (fun _ => ?_) | refine u_nil ?_ | refine u_move ?_ | refine u_assign ?_ | refine u_load ?_ | refine u_field ?_ | refine u_nilp ?_ | refine u_sub1 ?_ | refine u_len ?_ | refine u_slicehi ?_ | refine u_idxa ?_))
  refine s_nilblk ?_
  refine s_app (Own.nil _ _) (by omega) (fun v'' Bk' hB => ?_)
  obtain ⟨g', cap', cur', rfl, rfl, k1, k2, k3, k4⟩ := hB.pos
  (repeat' (first | refine s_storeg ?_ | refine k_seq ?_ | refine k_region ?_ | refine k_nil ?_ | refine k_then ?_ | refine k_ret ?_ | refine s_move ?_ | refine s_assign ?_ | refine s_field ?_ | refine s_nilp ?_))
  have hq : cur.take (0 + 4) = [] ++ [.iface bty bv, .slice none 0 0, e2, e3] := by
    have : cur.take (0 + 4) = (cur.take (2 * 4)).take 4 := by rw [List.take_take]; rfl
    rw [this, v4]; rfl
  have h6 := take_set_tail (z := 4) (k := 1) (.slice (some ⟨g', 0, none⟩) (0 + 1) cap') rfl hq rfl
  have h9 := Own.mk' (E := 88) (g := g) (m := 1) (cur := cur.set (0 + 1) (.slice (some ⟨g', 0, none⟩) (0 + 1) cap')) (by omega : 1 ≤ cap) v2 (by simpa using v3)
  have h10 : (cur.set (0 + 1) (.slice (some ⟨g', 0, none⟩) (0 + 1) cap')).take (1 * 4) = [.iface bty bv, .slice (some ⟨g', 0, none⟩) (0 + 1) cap', e2, e3] := h6
  rw [h10] at h9
  exact e_ret _ ⟨q, _, _, _, _, _, rfl, h9, hB, rfl⟩ (by repeat (first | exact SubH.nilR _ | refine SubH.pick (by repeat (first | exact HTake.here | apply HTake.there)) ?_))

inductive FTrim where
  | two
  | one (q : Nat) (cur' : List Value) (ja : Option Addr) (jm jc : Nat) (IB : Blk)
  | none (q : Nat) (cur' : List Value) (ja : Option Addr) (jm jc : Nat) (IB : Blk) (d : Nat)

/-- The fence is closed. -/
theorem trimFenceOne (p g cap b K : Nat) (s : PS) (cur : List Value) (ia : Option Addr) (im ic : Nat) (bty : Nat) (bv e2 e3 f1 : Value) (a e : Nat)
    (hO : Stk (stk g 2 cap) 2 [.iface bty bv, .slice none 0 0, e2, e3, .iface 224 (lp b), f1, inat a, inat e] (stb g cur)) (hs : s.stack = stk g 2 cap) :
    Tr Tryz.prog 29 [lp p, .int .i64 1] [s.blk p, stb g cur, fbb b K (.slice ia im ic)] fun u K' => u = unit ∧ ∃ q cur' ja jm jc IB,
      Stk (stk g 1 cap) 1 [.iface bty bv, .slice ja jm jc, e2, e3] (stb g cur') ∧ Blks (.slice ja jm jc) [.iface 234 (lp q)] IB ∧
      K' = [({ s with stack := stk g 1 cap } : PS).blk p, stb g cur', cdb q a e K (.slice ia im ic), IB] := by
  obtain ⟨par, root, links, lineno, stack, depth, corner, sv, em, list, lists, texts, bt⟩ := s
  subst hs
  refine Tr.start (n := 21) (rs := []) rfl rfl rfl rfl fun B => ?_
  (repeat' (first | refine k_seq ?_ | refine k_region ?_ | refine k_nil ?_ | refine k_then ?_ | refine k_false ?_ | refine k_blk ?_ | refine k_skip ?_ | refine s_move ?_ | refine s_load ?_ | refine s_field ?_ | refine s_nilp ?_ | refine s_lss_f ?_ | refine s_len ?_))
  refine k_loop (fun _ : FTrim => [(0, lp p), (1, .int .i64 1)])
    (fun x => match x with
      | .two => [(⟨par, root, links, lineno, stk g 2 cap, depth, corner, sv, em, list, lists, texts, bt⟩ : PS).blk p, stb g cur, fbb b K (.slice ia im ic)]
      | .one q cur' ja jm jc IB => [(⟨par, root, links, lineno, stk g 1 cap, depth, corner, sv, em, list, lists, texts, bt⟩ : PS).blk p, stb g cur', cdb q a e K (.slice ia im ic), IB]
      | .none .. => [])
    (fun x => match x with
      | .two => True
      | .one q cur' ja jm jc IB => Stk (stk g 1 cap) 1 [.iface bty bv, .slice ja jm jc, e2, e3] (stb g cur') ∧ Blks (.slice ja jm jc) [.iface 234 (lp q)] IB
      | .none .. => False)
    (fun x => match x with
      | .two => 2
      | .one .. => 1
      | .none .. => 0) .two trivial (Knows.spec (by repeat (first | exact trivial | refine ⟨rfl, ?_⟩))) (by repeat (first | exact SubH.nilR _ | refine SubH.pick (by repeat (first | exact HTake.here | apply HTake.there)) ?_)) fun x hx => ?_
  cases x with
  | two =>
    (repeat' (first | refine k_seq ?_ | refine k_region ?_ | refine k_nil ?_ | refine k_then ?_ | refine k_true ?_ | refine k_blk ?_ | refine k_skip ?_ | refine s_move ?_ | refine s_load ?_ | refine s_field ?_ | refine s_nilp ?_ | refine s_gtr_t ?_ | refine s_len ?_))
    refine s_call (closeFence p g cap b K _ cur ia im ic bty bv e2 e3 f1 a e hO rfl) (fun u K' hR => ?_)
    obtain ⟨q, cur', ja, jm, jc, IB, rfl, k2, k3, rfl⟩ := hR
    (repeat' (first | refine k_nil ?_ | refine k_then ?_ | refine k_block ?_))
    exact ⟨.one q cur' ja jm jc IB, (Knows.spec (by repeat (first | exact trivial | refine ⟨rfl, ?_⟩))), (by repeat (first | exact SubH.nilR _ | refine SubH.pick (by repeat (first | exact HTake.here | apply HTake.there)) ?_)), ⟨k2, k3⟩, (by show 1 < 2; omega)⟩
  | one q cur' ja jm jc IB =>
    obtain ⟨k2, k3⟩ := hx
    (repeat' (first | refine k_seq ?_ | refine k_region ?_ | refine k_nil ?_ | refine k_then ?_ | refine k_false ?_ | refine k_exit ?_ | refine k_exit_then ?_ | refine k_hit ?_ | refine s_move ?_ | refine s_load ?_ | refine s_field ?_ | refine s_nilp ?_ | refine s_gtr_f ?_ | refine s_len ?_))
    exact e_norm _ ⟨rfl, q, cur', ja, jm, jc, IB, k2, k3, rfl⟩ (by repeat (first | exact SubH.nilR _ | refine SubH.pick (by repeat (first | exact HTake.here | apply HTake.there)) ?_))
  | none => exact hx.elim

/-- The document is closed. -/
theorem trimDoc (p g cap rb : Nat) (s : PS) (cur : List Value) (ja : Option Addr) (jm jc e2 e3 : Nat) (lk : Option Nat) (hlk : s.links = .map lk)
    (hO : Stk (stk g 1 cap) 1 [.iface 67 (lp rb), .slice ja jm jc, inat e2, inat e3] (stb g cur)) (hs : s.stack = stk g 1 cap) :
    Tr Tryz.prog 29 [lp p, .int .i64 0] [s.blk p, stb g cur] fun u K' => u = unit ∧ ∃ d, K' = [({ s with stack := stk g 0 cap, root := lp d } : PS).blk p, stb g cur, docb d e2 e3 (.slice ja jm jc) (.map lk)] := by
  obtain ⟨par, root, links, lineno, stack, depth, corner, sv, em, list, lists, texts, bt⟩ := s
  subst hs
  subst hlk
  refine Tr.start (n := 21) (rs := []) rfl rfl rfl rfl fun B => ?_
  (repeat' (first | refine k_seq ?_ | refine k_region ?_ | refine k_nil ?_ | refine k_then ?_ | refine k_false ?_ | refine k_blk ?_ | refine k_skip ?_ | refine s_move ?_ | refine s_load ?_ | refine s_field ?_ | refine s_nilp ?_ | refine s_lss_f ?_ | refine s_len ?_))
  refine k_loop (fun _ : Option Nat => [(0, lp p), (1, .int .i64 0)])
    (fun x => match x with
      | none => [(⟨par, root, .map lk, lineno, stk g 1 cap, depth, corner, sv, em, list, lists, texts, bt⟩ : PS).blk p, stb g cur]
      | some d => [(⟨par, lp d, .map lk, lineno, stk g 0 cap, depth, corner, sv, em, list, lists, texts, bt⟩ : PS).blk p, stb g cur, docb d e2 e3 (.slice ja jm jc) (.map lk)])
    (fun _ => True)
    (fun x => match x with
      | none => 1
      | some _ => 0) none trivial (Knows.spec (by repeat (first | exact trivial | refine ⟨rfl, ?_⟩))) (by repeat (first | exact SubH.nilR _ | refine SubH.pick (by repeat (first | exact HTake.here | apply HTake.there)) ?_)) fun x hx => ?_
  cases x with
  | none =>
    (repeat' (first | refine k_seq ?_ | refine k_region ?_ | refine k_nil ?_ | refine k_then ?_ | refine k_true ?_ | refine k_blk ?_ | refine k_skip ?_ | refine s_move ?_ | refine s_load ?_ | refine s_field ?_ | refine s_nilp ?_ | refine s_gtr_t ?_ | refine s_len ?_))
    refine s_call (closeRoot p rb g cap _ cur e2 e3 ja jm jc lk rfl hO rfl) (fun u K' hR => ?_)
    obtain ⟨d, rfl, rfl⟩ := hR
    (repeat' (first | refine k_nil ?_ | refine k_then ?_ | refine k_block ?_))
    exact ⟨some d, (Knows.spec (by repeat (first | exact trivial | refine ⟨rfl, ?_⟩))), (by repeat (first | exact SubH.nilR _ | refine SubH.pick (by repeat (first | exact HTake.here | apply HTake.there)) ?_)), trivial, (by show 0 < 1; omega)⟩
  | some d =>
    (repeat' (first | refine k_seq ?_ | refine k_region ?_ | refine k_nil ?_ | refine k_then ?_ | refine k_false ?_ | refine k_exit ?_ | refine k_exit_then ?_ | refine k_hit ?_ | refine s_move ?_ | refine s_load ?_ | refine s_field ?_ | refine s_nilp ?_ | refine s_gtr_f ?_ | refine s_len ?_))
    exact e_norm _ ⟨rfl, d, rfl⟩ (by repeat (first | exact SubH.nilR _ | refine SubH.pick (by repeat (first | exact HTake.here | apply HTake.there)) ?_))

/-- The fence and the document are closed. -/
theorem trimFenceAll (p g cap b K rb : Nat) (s : PS) (cur : List Value) (ia : Option Addr) (im ic : Nat) (f1 : Value) (a e e2 e3 : Nat) (lk : Option Nat) (hlk : s.links = .map lk)
    (hO : Stk (stk g 2 cap) 2 [.iface 67 (lp rb), .slice none 0 0, inat e2, inat e3, .iface 224 (lp b), f1, inat a, inat e] (stb g cur)) (hs : s.stack = stk g 2 cap) :
    Tr Tryz.prog 29 [lp p, .int .i64 0] [s.blk p, stb g cur, fbb b K (.slice ia im ic)] fun u K' => u = unit ∧ ∃ q cur' ja jm jc IB d, Blks (.slice ja jm jc) [.iface 234 (lp q)] IB ∧
      K' = [({ s with stack := stk g 0 cap, root := lp d } : PS).blk p, stb g cur', cdb q a e K (.slice ia im ic), IB, docb d e2 e3 (.slice ja jm jc) (.map lk)] := by
  obtain ⟨par, root, links, lineno, stack, depth, corner, sv, em, list, lists, texts, bt⟩ := s
  subst hs
  subst hlk
  refine Tr.start (n := 21) (rs := []) rfl rfl rfl rfl fun B => ?_
  (repeat' (first | refine k_seq ?_ | refine k_region ?_ | refine k_nil ?_ | refine k_then ?_ | refine k_false ?_ | refine k_blk ?_ | refine k_skip ?_ | refine s_move ?_ | refine s_load ?_ | refine s_field ?_ | refine s_nilp ?_ | refine s_lss_f ?_ | refine s_len ?_))
  refine k_loop (fun _ : FTrim => [(0, lp p), (1, .int .i64 0)])
    (fun x => match x with
      | .two => [(⟨par, root, .map lk, lineno, stk g 2 cap, depth, corner, sv, em, list, lists, texts, bt⟩ : PS).blk p, stb g cur, fbb b K (.slice ia im ic)]
      | .one q cur' ja jm jc IB => [(⟨par, root, .map lk, lineno, stk g 1 cap, depth, corner, sv, em, list, lists, texts, bt⟩ : PS).blk p, stb g cur', cdb q a e K (.slice ia im ic), IB]
      | .none q cur' ja jm jc IB d => [(⟨par, lp d, .map lk, lineno, stk g 0 cap, depth, corner, sv, em, list, lists, texts, bt⟩ : PS).blk p, stb g cur', cdb q a e K (.slice ia im ic), IB, docb d e2 e3 (.slice ja jm jc) (.map lk)])
    (fun x => match x with
      | .two => True
      | .one q cur' ja jm jc IB => Stk (stk g 1 cap) 1 [.iface 67 (lp rb), .slice ja jm jc, inat e2, inat e3] (stb g cur') ∧ Blks (.slice ja jm jc) [.iface 234 (lp q)] IB
      | .none q cur' ja jm jc IB d => Blks (.slice ja jm jc) [.iface 234 (lp q)] IB)
    (fun x => match x with
      | .two => 2
      | .one .. => 1
      | .none .. => 0) .two trivial (Knows.spec (by repeat (first | exact trivial | refine ⟨rfl, ?_⟩))) (by repeat (first | exact SubH.nilR _ | refine SubH.pick (by repeat (first | exact HTake.here | apply HTake.there)) ?_)) fun x hx => ?_
  cases x with
  | two =>
    (repeat' (first | refine k_seq ?_ | refine k_region ?_ | refine k_nil ?_ | refine k_then ?_ | refine k_true ?_ | refine k_blk ?_ | refine k_skip ?_ | refine s_move ?_ | refine s_load ?_ | refine s_field ?_ | refine s_nilp ?_ | refine s_gtr_t ?_ | refine s_len ?_))
    refine s_call (closeFence p g cap b K _ cur ia im ic _ _ _ _ f1 a e hO rfl) (fun u K' hR => ?_)
    obtain ⟨q, cur', ja, jm, jc, IB, rfl, k2, k3, rfl⟩ := hR
    (repeat' (first | refine k_nil ?_ | refine k_then ?_ | refine k_block ?_))
    exact ⟨.one q cur' ja jm jc IB, (Knows.spec (by repeat (first | exact trivial | refine ⟨rfl, ?_⟩))), (by repeat (first | exact SubH.nilR _ | refine SubH.pick (by repeat (first | exact HTake.here | apply HTake.there)) ?_)), ⟨k2, k3⟩, (by show 1 < 2; omega)⟩
  | one q cur' ja jm jc IB =>
    obtain ⟨k2, k3⟩ := hx
    (repeat' (first | refine k_seq ?_ | refine k_region ?_ | refine k_nil ?_ | refine k_then ?_ | refine k_true ?_ | refine k_blk ?_ | refine k_skip ?_ | refine s_move ?_ | refine s_load ?_ | refine s_field ?_ | refine s_nilp ?_ | refine s_gtr_t ?_ | refine s_len ?_))
    refine s_call (closeRoot p rb g cap _ cur' e2 e3 ja jm jc lk rfl k2 rfl) (fun u K' hR => ?_)
    obtain ⟨d, rfl, rfl⟩ := hR
    (repeat' (first | refine k_nil ?_ | refine k_then ?_ | refine k_block ?_))
    exact ⟨.none q cur' ja jm jc IB d, (Knows.spec (by repeat (first | exact trivial | refine ⟨rfl, ?_⟩))), (by repeat (first | exact SubH.nilR _ | refine SubH.pick (by repeat (first | exact HTake.here | apply HTake.there)) ?_)), k3, (by show 0 < 1; omega)⟩
  | none q cur' ja jm jc IB d =>
    (repeat' (first | refine k_seq ?_ | refine k_region ?_ | refine k_nil ?_ | refine k_then ?_ | refine k_false ?_ | refine k_exit ?_ | refine k_exit_then ?_ | refine k_hit ?_ | refine s_move ?_ | refine s_load ?_ | refine s_field ?_ | refine s_nilp ?_ | refine s_gtr_f ?_ | refine s_len ?_))
    exact e_norm _ ⟨rfl, q, cur', ja, jm, jc, IB, d, hx, rfl⟩ (by repeat (first | exact SubH.nilR _ | refine SubH.pick (by repeat (first | exact HTake.here | apply HTake.there)) ?_))
end Go.Proofs

/- toPlain and autoLinkText (off). Conditions: the option is off. -/
import Derived.Test.YtblaoglgknjepaaGreatDoorW21
import Derived.Test.YtblaoglgknjepaaGreatDoorEngB
namespace Go.Proofs
open Go Go.Eng
set_option maxRecDepth 20000
set_option maxHeartbeats 4000000

theorem toPlain_yes (q : Nat) : TrP Tryz.prog 96 [.iface 123 (lp q)] (lp q) := by
  refine Tr.start (n := 23) (rs := [.tmp 2]) rfl rfl rfl rfl fun B => ?_
  (repeat' (first | refine k_seq ?_ | refine k_region ?_ | refine k_nil ?_ | refine k_then ?_ | refine k_true ?_ | refine k_blk ?_ | refine k_ret ?_ | refine k_ret_then ?_ | refine k_ret_block ?_ | refine s_move ?_ | refine s_assign ?_ | refine s_ext ?_ | refine s_asok ?_))
  exact e_pure ⟨rfl, rfl⟩
theorem toPlain_no (t : Nat) (u : Value) (h1 : Nat.beq t 123 = false) (h2 : Nat.beq t 159 = false) (h3 : Nat.beq t 101 = false) : TrP Tryz.prog 96 [.iface t u] (.pointer none) := by
  refine Tr.start (n := 23) (rs := [.tmp 2]) rfl rfl rfl rfl fun B => ?_
  (repeat' (first | refine s_asno (hne := h1) ?_ | refine s_asno (hne := h2) ?_ | refine s_asno (hne := h3) ?_ | refine k_seq ?_ | refine k_region ?_ | refine k_nil ?_ | refine k_then ?_ | refine k_false ?_ | refine k_blk ?_ | refine k_skip ?_ | refine k_block ?_ | refine k_ret ?_ | refine s_move ?_ | refine s_assign ?_ | refine s_ext ?_))
  exact e_pure ⟨rfl, rfl⟩
theorem autoLinkText_no (p pr : Nat) (o : PO) (s : PS) (v : Value) (h : o.auto = false) (hpar : s.par = lp pr) : TrD Tryz.prog 56 [lp p, v] [s.blk p, o.blk pr] v [s.blk p, o.blk pr] := by
  obtain ⟨par, root, links, lineno, stack, depth, corner, sv, em, list, lists, texts, bt⟩ := s
  obtain ⟨o1, o2, o3, o4, o5, o6, o7, o8, o9, o10⟩ := o
  subst h; subst hpar
  refine Tr.start (n := 98) (rs := [.tmp 4]) rfl rfl rfl rfl fun B => ?_
  (repeat' (first | refine k_seq ?_ | refine k_region ?_ | refine k_nil ?_ | refine k_then ?_ | refine k_true ?_ | refine k_ret ?_ | refine k_ret_then ?_ | refine s_move ?_ | refine s_assign ?_ | refine s_load ?_ | refine s_field ?_ | refine s_nilp ?_ | refine s_notf ?_))
  exact e_ret _ ⟨rfl, rfl⟩ (by repeat (first | exact SubH.nilR _ | refine SubH.pick (by repeat (first | exact HTake.here | apply HTake.there)) ?_))
end Go.Proofs

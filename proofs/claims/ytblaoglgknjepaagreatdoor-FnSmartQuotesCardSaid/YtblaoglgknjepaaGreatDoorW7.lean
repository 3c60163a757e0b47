/- trimStack with nothing to do, and addBlock. Conditions: bounds on the stack. -/
import Derived.Test.YtblaoglgknjepaaGreatDoorW6
import Derived.Test.YtblaoglgknjepaaGreatDoorEngB
namespace Go.Proofs
open Go Go.Eng
set_option maxRecDepth 20000
set_option maxHeartbeats 4000000

abbrev unit : Value := .tuple #[]

theorem trimStack_none (p g m cap : Nat) (s : PS) (hm : m ≤ 140737488355328) (hs : s.stack = stk g m cap) :
    TrD Tryz.prog 29 [lp p, inat m] [s.blk p] unit [s.blk p] := by
  obtain ⟨par, root, links, lineno, stack, depth, corner, str, em, list, lists, texts, bt⟩ := s
  subst hs
  refine Tr.start (n := 21) (rs := []) rfl rfl rfl rfl fun B => ?_
  (repeat' (first | refine k_seq ?_ | refine k_region ?_ | refine k_nil ?_ | refine k_then ?_ | refine k_false ?_ | refine k_blk ?_ | refine k_skip ?_ | refine s_move ?_ | refine s_load ?_ | refine s_field ?_ | refine s_nilp ?_ | refine s_lss_f ?_ | refine s_len ?_))
  refine k_loop (fun _ : Nat => [(0, lp p), (1, inat m)]) (fun _ => [(⟨par, root, links, lineno, stk g m cap, depth, corner, str, em, list, lists, texts, bt⟩ : PS).blk p]) (fun _ => True) (fun _ => 0) 0 trivial (Knows.spec (by repeat (first | exact trivial | refine ⟨rfl, ?_⟩))) (by repeat (first | exact SubH.nilR _ | refine SubH.pick (by repeat (first | exact HTake.here | apply HTake.there)) ?_)) fun k hk => ?_
  (repeat' (first | refine k_seq ?_ | refine k_region ?_ | refine k_nil ?_ | refine k_then ?_ | refine k_false ?_ | refine k_exit ?_ | refine k_exit_then ?_ | refine k_hit ?_ | refine s_move ?_ | refine s_load ?_ | refine s_field ?_ | refine s_nilp ?_ | refine s_gtr_f ?_ | refine s_len ?_))
  exact e_norm _ ⟨rfl, rfl⟩ (by repeat (first | exact SubH.nilR _ | refine SubH.pick (by repeat (first | exact HTake.here | apply HTake.there)) ?_))

theorem trimStack_nil (p : Nat) (s : PS) (hs : s.stack = .slice none 0 0) :
    TrD Tryz.prog 29 [lp p, .int .i64 0] [s.blk p] unit [s.blk p] := by
  obtain ⟨par, root, links, lineno, stack, depth, corner, str, em, list, lists, texts, bt⟩ := s
  subst hs
  refine Tr.start (n := 21) (rs := []) rfl rfl rfl rfl fun B => ?_
  (repeat' (first | refine k_seq ?_ | refine k_region ?_ | refine k_nil ?_ | refine k_then ?_ | refine k_false ?_ | refine k_blk ?_ | refine k_skip ?_ | refine s_move ?_ | refine s_load ?_ | refine s_field ?_ | refine s_nilp ?_ | refine s_lss_f ?_ | refine s_len ?_))
  refine k_loop (fun _ : Nat => [(0, lp p), (1, inat 0)]) (fun _ => [(⟨par, root, links, lineno, .slice none 0 0, depth, corner, str, em, list, lists, texts, bt⟩ : PS).blk p]) (fun _ => True) (fun _ => 0) 0 trivial (Knows.spec (by repeat (first | exact trivial | refine ⟨rfl, ?_⟩))) (by repeat (first | exact SubH.nilR _ | refine SubH.pick (by repeat (first | exact HTake.here | apply HTake.there)) ?_)) fun k hk => ?_
  (repeat' (first | refine k_seq ?_ | refine k_region ?_ | refine k_nil ?_ | refine k_then ?_ | refine k_false ?_ | refine k_exit ?_ | refine k_exit_then ?_ | refine k_hit ?_ | refine s_move ?_ | refine s_load ?_ | refine s_field ?_ | refine s_nilp ?_ | refine s_gtr_f ?_ | refine s_len ?_))
  exact e_norm _ ⟨rfl, rfl⟩ (by repeat (first | exact SubH.nilR _ | refine SubH.pick (by repeat (first | exact HTake.here | apply HTake.there)) ?_))

/-- The stack 'v' has 'm' blocks, whose cells are 'xs'. -/
abbrev Stk (v : Value) (m : Nat) (xs : List Value) (Bk : Blk) : Prop := Own 88 4 v m xs Bk

theorem take_set_tail {cur xs zs : List Value} {n k : Nat} (v : Value) {z : Nat} (hz : zs.length = z) (h : cur.take (n + z) = xs ++ zs) (hx : xs.length = n) : (cur.set (n + k) v).take (n + z) = xs ++ zs.set k v := by
  subst hz
  rw [List.take_set, h, List.set_append_right _ _ (by omega), hx]
  congr 2; omega

theorem addBlock_tr (p g d cap : Nat) (s : PS) (xs cur : List Value) (bty : Nat) (bv : Value) (ln : Nat) (hd : d ≤ 100000) (hO : Stk (stk g (d + 1) cap) (d + 1) xs (stb g cur)) (hs : s.stack = stk g (d + 1) cap) (hdep : s.depth = inat d) (hln : s.lineno = inat ln) :
    Tr Tryz.prog 26 [lp p, .iface bty bv] [s.blk p, stb g cur] fun u K => u = unit ∧ ∃ g' cap' cur', Stk (stk g' (d + 2) cap') (d + 2) (xs ++ [.iface bty bv, .slice none 0 0, inat ln, inat ln]) (stb g' cur') ∧
      K = [({ s with stack := stk g' (d + 2) cap' } : PS).blk p, stb g' cur'] := by
  obtain ⟨par, root, links, lineno, stack, depth, corner, str, em, list, lists, texts, bt⟩ := s
  subst hs; subst hdep; subst hln
  refine Tr.start (n := 53) (rs := []) rfl rfl rfl rfl fun B => ?_
  (repeat' (first | refine s_callD (trimStack_none p g (d + 1) cap _ (by omega) rfl) ?_ | refine k_seq ?_ | refine k_region ?_ | refine k_nil ?_ | refine k_then ?_ | refine s_move ?_ | refine s_load ?_ | refine s_field ?_ | refine s_nilp ?_ | refine s_add1 ?_ | refine s_build ?_ | refine s_bsla (fun _ => ?_)))
  refine s_app hO (by omega) (fun v' Bk' hO' => ?_)
  obtain ⟨g', cap', cur', rfl, rfl, h1, h2, h3, h4⟩ := hO'.pos
  (repeat' (first | refine Wp.draw_all (id := 2) Mixed.out (by kernel_rfl) ?_ | refine s_storeg ?_ | refine k_seq ?_ | refine k_region ?_ | refine k_nil ?_ | refine k_then ?_ | refine s_move ?_ | refine s_load ?_ | refine s_field ?_ | refine s_nilp ?_ | refine s_store ?_ | refine u_nil ?_ | refine u_move ?_ | refine u_assign ?_ | refine u_load ?_ | refine u_field ?_ | refine u_nilp ?_ | refine u_sub1 ?_ | refine u_len ?_ | refine u_idxa ?_))
  have e : (d + 1 + 1 - 1) * 4 = (d + 1) * 4 := by omega
  rw [e]
  simp only [Nat.zero_add, Nat.add_assoc, Nat.reduceAdd]
  have hxl : xs.length = (d + 1) * 4 := hO.1
  have h5 : cur'.take ((d + 1) * 4 + 4) = xs ++ [.nilIface, .slice none 0 0, .int .i64 0, .int .i64 0] := by rw [← show (d + 1 + 1) * 4 = (d + 1) * 4 + 4 by omega]; exact h4
  have h6 := take_set_tail (z := 4) (k := 0) (.iface bty bv) rfl h5 hxl
  have h7 := take_set_tail (z := 4) (k := 2) (inat ln) rfl h6 hxl
  have h8 := take_set_tail (z := 4) (k := 3) (inat ln) rfl h7 hxl
  refine e_norm [_, stb g' _] ⟨rfl, g', cap', _, ?_, rfl⟩ (by repeat (first | exact SubH.nilR _ | refine SubH.pick (by repeat (first | exact HTake.here | apply HTake.there)) ?_))
  have h9 := Own.mk' (E := 88) (g := g') (cur := ((cur'.set ((d + 1) * 4 + 0) (.iface bty bv)).set ((d + 1) * 4 + 2) (inat ln)).set ((d + 1) * 4 + 3) (inat ln)) h1 h2 (by simpa using h3)
  rw [show (d + 1 + 1) * 4 = (d + 1) * 4 + 4 by omega] at h9
  exact h8 ▸ h9

theorem addBlock_root (p : Nat) (s : PS) (bty : Nat) (bv : Value) (ln : Nat) (hs : s.stack = .slice none 0 0) (hdep : s.depth = .int .i64 (-1)) (hln : s.lineno = inat ln) :
    Tr Tryz.prog 26 [lp p, .iface bty bv] [s.blk p] fun u K => u = unit ∧ ∃ g' cap' cur', Stk (stk g' 1 cap') 1 [.iface bty bv, .slice none 0 0, inat ln, inat ln] (stb g' cur') ∧
      K = [({ s with stack := stk g' 1 cap' } : PS).blk p, stb g' cur'] := by
  obtain ⟨par, root, links, lineno, stack, depth, corner, str, em, list, lists, texts, bt⟩ := s
  subst hs; subst hdep; subst hln
  refine Tr.start (n := 53) (rs := []) rfl rfl rfl rfl fun B => ?_
  (repeat' (first | refine s_callD (trimStack_nil p _ rfl) ?_ | refine k_seq ?_ | refine k_region ?_ | refine k_nil ?_ | refine k_then ?_ | refine s_move ?_ | refine s_load ?_ | refine s_field ?_ | refine s_nilp ?_ | refine s_addz ?_ | refine s_build ?_ | refine s_bsla (fun _ => ?_)))
  refine s_nilblk ?_
  refine s_app (Own.nil _ _) (by omega) (fun v' Bk' hO' => ?_)
  obtain ⟨g', cap', cur', rfl, rfl, h1, h2, h3, h4⟩ := hO'.pos
  (repeat' (first | refine Wp.draw_all (id := 2) Mixed.out (by kernel_rfl) ?_ | refine s_storeg ?_ | refine k_seq ?_ | refine k_region ?_ | refine k_nil ?_ | refine k_then ?_ | refine s_move ?_ | refine s_load ?_ | refine s_field ?_ | refine s_nilp ?_ | refine s_store ?_ | refine u_nil ?_ | refine u_move ?_ | refine u_assign ?_ | refine u_load ?_ | refine u_field ?_ | refine u_nilp ?_ | refine u_sub1 ?_ | refine u_len ?_ | refine u_idxa ?_))
  have h5 : cur'.take (0 + 4) = [] ++ [.nilIface, .slice none 0 0, .int .i64 0, .int .i64 0] := h4
  have h6 := take_set_tail (z := 4) (k := 0) (.iface bty bv) rfl h5 rfl
  have h7 := take_set_tail (z := 4) (k := 2) (inat ln) rfl h6 rfl
  have h8 := take_set_tail (z := 4) (k := 3) (inat ln) rfl h7 rfl
  refine e_norm [_, stb g' _] ⟨rfl, g', cap', _, ?_, rfl⟩ (by repeat (first | exact SubH.nilR _ | refine SubH.pick (by repeat (first | exact HTake.here | apply HTake.there)) ?_))
  have h9 := Own.mk' (E := 88) (g := g') (cur := ((cur'.set (0 + 0) (.iface bty bv)).set (0 + 2) (inat ln)).set (0 + 3) (inat ln)) h1 h2 (by simpa using h3)
  have h10 : (((cur'.set (0 + 0) (.iface bty bv)).set (0 + 2) (inat ln)).set (0 + 3) (inat ln)).take ((0 + 1) * 4) = [.iface bty bv, .slice none 0 0, inat ln, inat ln] := h8
  rw [h10] at h9
  exact h9

end Go.Proofs

/- parse of a text of one line. Conditions: a contract of inline for this text, and how the line begins. -/
import Derived.Test.YtoponhlghkdbmaaGreatDoorW15
import Derived.Test.YtoponhlghkdbmaaGreatDoorEngB
namespace Go.Proofs
open Go Go.Eng
set_option maxRecDepth 20000
set_option maxHeartbeats 4000000

def bt0 : List Value := List.replicate 80 (.int .i64 0) ++ [.bool false]
abbrev ps0 : PS := ⟨.pointer none, .pointer none, .map none, .int .i64 0, .slice none 0 0, .int .i64 0, .bool false, str [], .int .i64 0, .slice none 0 0, .slice none 0 0, .slice none 0 0, bt0⟩
instance zerPS : Zer Tryz.prog 71 (.agg ps0.cells.toArray) := ⟨fun w => Tryz.zeroValue71 w⟩

inductive PLoop where
  | a
  | b (g' cap' : Nat) (cur' : List Value) (pb : Nat) (tv : Value) (Bt : Blk)
inductive ILoop where
  | a
  | b (s : PS) (ia : Option Addr) (im ic : Nat) (G : Blk)

theorem parse_tr (pr : Nat) (o : PO) (tx : List UInt8) (IL : Option Addr → Nat → Nat → Blk → Prop) (htab : o.table = false) (htask : o.tasks = false) (hp : PLine 0 tx) (hlt : ltrim tx = tx) (h1 : at0 tx 0 ≠ 32) (h2 : at0 tx 0 ≠ 9) (h3 : at0 tx 0 ≠ 10) (h4 : at0 tx 0 ≠ 91)
    (n0 : ¬ fst1 0 tx < tx.length) (n10 : ¬ fst1 10 tx < tx.length) (n13 : ¬ fst1 13 tx < tx.length)
    (hI : ∀ (p : Nat) (s : PS), s.par = lp pr → Tr Tryz.prog 33 [lp p, str tx] [s.blk p, o.blk pr] fun u K => ∃ s' : PS, ∃ ia im ic G, u = .slice ia im ic ∧ IL ia im ic G ∧ s'.par = s.par ∧ s'.root = s.root ∧ K = [s'.blk p, o.blk pr, G]) :
    Tr Tryz.prog 25 [lp pr, str tx] [o.blk pr] fun u K => ∃ d q t cv ia im ic IB ja jm jc G, u = .tuple #[lp d, cv] ∧ Blks (.slice ia im ic) [.iface 130 (lp q)] IB ∧ IL ja jm jc G ∧
      K = [o.blk pr, docb d 0 0 (.slice ia im ic) (.map none), pgb q 1 1 t, txb t 1 1 (.slice ja jm jc) tx, IB, G] := by
  have hne : ¬ tx = [] := by intro h; subst h; exact hp.ink rfl
  have hpos : 0 < tx.length := by cases tx with | nil => exact absurd rfl hne | cons _ _ => simp
  obtain ⟨o1, o2, o3, o4, o5, o6, o7, o8, o9, o10⟩ := o
  subst htab; subst htask
  refine Tr.start (n := 114) (rs := [.tmp 4, .tmp 5]) rfl rfl rfl rfl fun B => ?_
  (repeat' (first | refine s_pure (zzContains_tr tx 0 hp.len n0) ?_ | refine k_seq ?_ | refine k_region ?_ | refine k_nil ?_ | refine k_then ?_ | refine k_false ?_ | refine k_skip ?_ | refine s_move ?_ | refine s_assign ?_ | refine s_field ?_ | refine s_mki ?_ | refine s_store ?_ | refine s_buildx ?_ | refine s_alloc (fun _ => ?_) | refine s_box (fun _ => ?_)))
  rename_i p rb
  refine s_call (addBlock_root p (⟨lp pr, .pointer none, .map none, inat 0, .slice none 0 0, .int .i64 (-1), .bool false, str [], .int .i64 0, .slice none 0 0, .slice none 0 0, .slice none 0 0, bt0⟩ : PS) _ (lp rb) 0 rfl rfl rfl) (fun u K hR => ?_)
  obtain ⟨rfl, g, cap, cur, hO, rfl⟩ := hR
  (repeat' (first | refine k_seq ?_ | refine k_nil ?_ | refine k_then ?_))
  refine k_midx (fun x : PLoop => [(0, lp pr), (6, lp p)])
    (fun x => match x with
      | .a => []
      | .b g' cap' cur' pb tv Bt => [(⟨lp pr, .pointer none, .map none, inat 1, stk g' 2 cap', inat 0, .bool false, str [], .int .i64 0, .slice none 0 0, .slice none 0 0, .slice none 0 0, bt0⟩ : PS).blk p, stb g' cur', (⟨o1, o2, false, o4, o5, false, o7, o8, o9, o10⟩ : PO).blk pr, pbb pb tv, Bt])
    (fun x => match x with
      | .a => False
      | .b g' cap' cur' pb tv Bt => Stk (stk g' 2 cap') 2 ([.iface 75 (lp rb), .slice none 0 0, inat 0, inat 0] ++ [.iface 139 (lp pb), .slice none 0 0, inat 1, inat 1]) (stb g' cur') ∧ Strs tv [tx] Bt) ?_ ?_
  · (repeat' (first | refine k_blk ?_))
    refine k_loop (fun x : PLoop => match x with
      | .a => [(0, lp pr), (1, str tx), (6, lp p)]
      | .b .. => [(0, lp pr), (1, str []), (6, lp p)])
      (fun x => match x with
      | .a => [(⟨lp pr, .pointer none, .map none, inat 0, stk g 1 cap, .int .i64 (-1), .bool false, str [], .int .i64 0, .slice none 0 0, .slice none 0 0, .slice none 0 0, bt0⟩ : PS).blk p, stb g cur, (⟨o1, o2, false, o4, o5, false, o7, o8, o9, o10⟩ : PO).blk pr]
      | .b g' cap' cur' pb tv Bt => [(⟨lp pr, .pointer none, .map none, inat 1, stk g' 2 cap', inat 0, .bool false, str [], .int .i64 0, .slice none 0 0, .slice none 0 0, .slice none 0 0, bt0⟩ : PS).blk p, stb g' cur', (⟨o1, o2, false, o4, o5, false, o7, o8, o9, o10⟩ : PO).blk pr, pbb pb tv, Bt])
      (fun x => match x with
      | .a => True
      | .b g' cap' cur' pb tv Bt => Stk (stk g' 2 cap') 2 ([.iface 75 (lp rb), .slice none 0 0, inat 0, inat 0] ++ [.iface 139 (lp pb), .slice none 0 0, inat 1, inat 1]) (stb g' cur') ∧ Strs tv [tx] Bt)
      (fun x => match x with
      | .a => 1
      | .b .. => 0) .a trivial (Knows.spec (by repeat (first | exact trivial | refine ⟨rfl, ?_⟩))) (by repeat (first | exact SubH.nilR _ | refine SubH.pick (by repeat (first | exact HTake.here | apply HTake.there)) ?_)) fun x hx => ?_
    cases x with
    | a =>
      (repeat' (first | refine s_pure (zzIndex_tr tx 10 hp.len (-1) (by rw [if_neg n10])) ?_ | refine s_pure (zzIndex_tr tx 13 hp.len (-1) (by rw [if_neg n13])) ?_ | refine k_seq ?_ | refine k_region ?_ | refine k_nil ?_ | refine k_then ?_ | refine k_true ?_ | refine k_false ?_ | refine k_blk ?_ | refine k_skip ?_ | refine k_block ?_ | refine s_gskipt ?_ | refine s_gskipu ?_ | refine s_move ?_ | refine s_assign ?_ | refine s_load ?_ | refine s_field ?_ | refine s_add1 ?_ | refine s_geq_f ?_ | refine s_pickf ?_ | refine s_nes_t ?_ | refine s_store ?_ | refine s_buildx ?_))
      refine s_call (addLine_first p g cap pr (⟨o1, o2, false, o4, o5, false, o7, o8, o9, o10⟩ : PO) (⟨lp pr, .pointer none, .map none, inat 1, stk g 1 cap, .int .i64 (-1), .bool false, str [], .int .i64 0, .slice none 0 0, .slice none 0 0, .slice none 0 0, bt0⟩ : PS) cur _ (lp rb) _ _ _ 1 tx 0 hp hO rfl rfl rfl rfl rfl rfl) (fun u K hR => ?_)
      obtain ⟨rfl, g', cap', cur', pb, tv, Bt, k1, k2, rfl⟩ := hR
      rw [hlt] at k2
      (repeat' (first | refine k_nil ?_ | refine k_then ?_ | refine k_block ?_))
      exact ⟨.b g' cap' cur' pb tv Bt, (Knows.spec (by repeat (first | exact trivial | refine ⟨rfl, ?_⟩))), (by repeat (first | exact SubH.nilR _ | refine SubH.pick (by repeat (first | exact HTake.here | apply HTake.there)) ?_)), ⟨k1, k2⟩, (by show 0 < 1; omega)⟩
    | b g' cap' cur' pb tv Bt =>
      (repeat' (first | refine k_seq ?_ | refine k_region ?_ | refine k_nil ?_ | refine k_then ?_ | refine k_false ?_ | refine k_exit ?_ | refine k_exit_then ?_ | refine k_hit ?_ | refine s_move ?_ | refine s_nes_f ?_))
      exact ⟨.b g' cap' cur' pb tv Bt, (by repeat (first | exact trivial | refine ⟨rfl, ?_⟩)), (by repeat (first | exact SubH.nilR _ | refine SubH.pick (by repeat (first | exact HTake.here | apply HTake.there)) ?_)), hx⟩
  · intro x hx
    cases x with
    | a => exact hx.elim
    | b g' cap' cur' pb tv Bt =>
      obtain ⟨k1, k2⟩ := hx
      (repeat' (first | refine k_seq ?_ | refine k_region ?_))
      refine s_nilblk ?_
      refine s_call (trimAll p g' cap' pb rb (⟨lp pr, .pointer none, .map none, inat 1, stk g' 2 cap', inat 0, .bool false, str [], .int .i64 0, .slice none 0 0, .slice none 0 0, .slice none 0 0, bt0⟩ : PS) cur' tv Bt tx [] [] _ 1 1 0 0 hp.len hpos h1 h2 h3 h4 (by omega) k1 rfl none rfl (Own.nil _ _) (by simp) k2) (fun u K hR => ?_)
      obtain ⟨q, t, v', TB', cur2, ia, im, ic, IB, d, rfl, j1, j2, rfl⟩ := hR
      have j1' : Own 83 1 v' (0 + 1) [lp t] TB' := j1
      obtain ⟨g3, cap3, cur3, rfl, rfl, i1, i2, i3, i4⟩ := j1'.pos
      have c0 : cur3[0 + 0 * 1]? = some (lp t) := j1'.get rfl
      (repeat' (first | refine k_seq ?_ | refine k_region ?_ | refine k_nil ?_ | refine k_then ?_ | refine s_move ?_ | refine s_load ?_ | refine s_field ?_ | refine s_len ?_))
      refine k_midx (fun x : ILoop => [(0, lp pr), (6, lp p)])
        (fun x => match x with
          | .a => []
          | .b s' ja jm jc G => [s'.blk p, (⟨o1, o2, false, o4, o5, false, o7, o8, o9, o10⟩ : PO).blk pr, txb t 1 (1 + 1 - 1) (.slice ja jm jc) tx, G, [(g3, cellsOf cur3 83)], pgb q 1 (1 + 1 - 1) t, IB, docb d 0 0 (.slice ia im ic) (.map none)])
        (fun x => match x with
          | .a => False
          | .b s' ja jm jc G => IL ja jm jc G ∧ s'.par = lp pr ∧ s'.root = lp d) ?_ ?_
      · (repeat' (first | refine k_blk ?_))
        refine k_loop (fun x : ILoop => match x with
          | .a => [(0, lp pr), (6, lp p), (81, .slice (some ⟨g3, 0, none⟩) (0 + 1) cap3), (82, inat (0 + 1)), (83, inat 0)]
          | .b .. => [(0, lp pr), (6, lp p), (81, .slice (some ⟨g3, 0, none⟩) (0 + 1) cap3), (82, inat (0 + 1)), (83, inat 1)])
          (fun x => match x with
          | .a => [(⟨lp pr, lp d, .map none, inat 1, stk g' 0 cap', inat 0, .bool false, str [], .int .i64 0, .slice none 0 0, .slice none 0 0, .slice (some ⟨g3, 0, none⟩) (0 + 1) cap3, bt0⟩ : PS).blk p, (⟨o1, o2, false, o4, o5, false, o7, o8, o9, o10⟩ : PO).blk pr, txb t 1 (1 + 1 - 1) (.slice none 0 0) tx, [(g3, cellsOf cur3 83)], pgb q 1 (1 + 1 - 1) t, IB, docb d 0 0 (.slice ia im ic) (.map none)]
          | .b s' ja jm jc G => [s'.blk p, (⟨o1, o2, false, o4, o5, false, o7, o8, o9, o10⟩ : PO).blk pr, txb t 1 (1 + 1 - 1) (.slice ja jm jc) tx, G, [(g3, cellsOf cur3 83)], pgb q 1 (1 + 1 - 1) t, IB, docb d 0 0 (.slice ia im ic) (.map none)])
          (fun x => match x with
          | .a => True
          | .b s' ja jm jc G => IL ja jm jc G ∧ s'.par = lp pr ∧ s'.root = lp d)
          (fun x => match x with
          | .a => 1
          | .b .. => 0) .a trivial (Knows.spec (by repeat (first | exact trivial | refine ⟨rfl, ?_⟩))) (by repeat (first | exact SubH.nilR _ | refine SubH.pick (by repeat (first | exact HTake.here | apply HTake.there)) ?_)) fun x hx => ?_
        cases x with
        | a =>
          (repeat' (first | refine s_load (hc := c0) ?_ | refine k_seq ?_ | refine k_region ?_ | refine k_nil ?_ | refine k_then ?_ | refine k_true ?_ | refine k_blk ?_ | refine k_skip ?_ | refine s_move ?_ | refine s_assign ?_ | refine s_load ?_ | refine s_field ?_ | refine s_nilp ?_ | refine s_lss_t ?_ | refine s_idxa ?_))
          refine s_call (hI p (⟨lp pr, lp d, .map none, inat 1, stk g' 0 cap', inat 0, .bool false, str [], .int .i64 0, .slice none 0 0, .slice none 0 0, .slice (some ⟨g3, 0, none⟩) (0 + 1) cap3, bt0⟩ : PS) rfl) (fun u K hR => ?_)
          obtain ⟨s', ja, jm, jc, G, rfl, m1, m2, m3, rfl⟩ := hR
          (repeat' (first | refine k_region ?_ | refine k_nil ?_ | refine k_then ?_ | refine k_block ?_ | refine s_move ?_ | refine s_field ?_ | refine s_nilp ?_ | refine s_add1 ?_ | refine s_store ?_))
          exact ⟨.b s' ja jm jc G, (Knows.spec (by repeat (first | exact trivial | refine ⟨rfl, ?_⟩))), (by repeat (first | exact SubH.nilR _ | refine SubH.pick (by repeat (first | exact HTake.here | apply HTake.there)) ?_)), ⟨m1, m2, m3⟩, (by show 0 < 1; omega)⟩
        | b s' ja jm jc G =>
          (repeat' (first | refine k_seq ?_ | refine k_region ?_ | refine k_nil ?_ | refine k_then ?_ | refine k_false ?_ | refine k_exit ?_ | refine k_exit_then ?_ | refine k_hit ?_ | refine s_lss_f ?_))
          exact ⟨.b s' ja jm jc G, (by repeat (first | exact trivial | refine ⟨rfl, ?_⟩)), (by repeat (first | exact SubH.nilR _ | refine SubH.pick (by repeat (first | exact HTake.here | apply HTake.there)) ?_)), hx⟩
      · intro x hx
        cases x with
        | a => exact hx.elim
        | b s' ja jm jc G =>
          obtain ⟨m1, m2, m3⟩ := hx
          obtain ⟨par, root, links, lineno, stack, depth, corner, sv, em, list, lists, texts, bt⟩ := s'
          subst m2 m3
          (repeat' (first | refine Wp.draw_all (id := 38) Mixed.out (by kernel_rfl) ?_ | refine k_seq ?_ | refine k_region ?_ | refine k_nil ?_ | refine k_then ?_ | refine k_false ?_ | refine k_skip ?_ | refine k_ret ?_ | refine s_move ?_ | refine s_load ?_ | refine s_field ?_ | refine s_nilp ?_ | refine u_nil ?_ | refine u_assign ?_ | refine u_load ?_ | refine u_field ?_))
          exact e_ret _ ⟨d, q, t, _, ia, im, ic, IB, ja, jm, jc, G, rfl, j2, m1, rfl⟩ (by repeat (first | exact SubH.nilR _ | refine SubH.pick (by repeat (first | exact HTake.here | apply HTake.there)) ?_))
end Go.Proofs

/- skip and emit, and lists of texts as inlines. Conditions: bounds. PrintHTML of texts, struck texts, Text, Paragraph and Document. Conditions: bounds on the length. -/
import Derived.Test.YthmgajolaekpdaaGreatDoorT08
import Derived.Test.YthmgajolaekpdaaGreatDoorEngB
namespace Go.Proofs
open Go Go.Eng
set_option maxRecDepth 20000
set_option maxHeartbeats 4000000

/-- Inlines that are texts. -/
inductive Itm where
  | plain (t : List UInt8)
  | esc (t : List UInt8)
  | brk

def Itm.ty : Itm → Nat
  | .plain _ => 149
  | .esc _ => 169
  | .brk => 186
def Itm.sty : Itm → Nat
  | .plain _ => 130
  | .esc _ => 171
  | .brk => 187
def Itm.text : Itm → List UInt8
  | .plain t => t
  | .esc t => t
  | .brk => [10]
def Itm.cells : Itm → List Value
  | .plain t => [str t]
  | .esc t => [str t]
  | .brk => []
abbrev Itm.cell (x : Itm) (q : Nat) : Nat × Obj := (q, cellsOf x.cells x.sty)

/-- The values of a list of inlines, and the cells that they point to. -/
inductive Items : List Itm → List Value → Blk → Prop
  | nil : Items [] [] []
  | snoc {its : List Itm} {vals : List Value} {Bk : Blk} (x : Itm) (q : Nat) : Items its vals Bk → Items (its ++ [x]) (vals ++ [.iface x.ty (lp q)]) (x.cell q :: Bk)

abbrev Inls (v : Value) (l : List Value) (Bk : Blk) : Prop := Own 125 1 v l.length l Bk

theorem SubH.join {c d : Blk} {H : Heap} : SubH (c :: d :: H) ((c ++ d) :: H) := ⟨[], by simp⟩

theorem skip_tr (p i : Nat) (s : PS) : TrD Tryz.prog 72 [lp p, inat i] [s.blk p] unit [({ s with em := inat i } : PS).blk p] := by
  obtain ⟨par, root, links, lineno, stack, depth, corner, sv, em, list, lists, texts, bt⟩ := s
  refine Tr.start (n := 8) (rs := []) rfl rfl rfl rfl fun B => ?_
  (repeat' (first | refine k_region ?_ | refine k_nil ?_ | refine s_move ?_ | refine s_field ?_ | refine s_nilp ?_ | refine s_store ?_))
  exact e_norm _ ⟨rfl, rfl⟩ (by repeat (first | exact SubH.nilR _ | refine SubH.pick (by repeat (first | exact HTake.here | apply HTake.there)) ?_))

theorem emit_no (p i e : Nat) (s : PS) (he : s.em = inat e) (h : i ≤ e) : TrD Tryz.prog 71 [lp p, inat i] [s.blk p] unit [s.blk p] := by
  obtain ⟨par, root, links, lineno, stack, depth, corner, sv, em, list, lists, texts, bt⟩ := s
  subst he
  refine Tr.start (n := 36) (rs := []) rfl rfl rfl rfl fun B => ?_
  (repeat' (first | refine k_seq ?_ | refine k_region ?_ | refine k_nil ?_ | refine k_then ?_ | refine k_false ?_ | refine k_skip ?_ | refine s_move ?_ | refine s_load ?_ | refine s_field ?_ | refine s_nilp ?_ | refine s_lss_f ?_))
  exact e_norm _ ⟨rfl, rfl⟩ (by repeat (first | exact SubH.nilR _ | refine SubH.pick (by repeat (first | exact HTake.here | apply HTake.there)) ?_))

theorem emit_yes (p i e : Nat) (s : PS) (tx : List UInt8) (vals : List Value) (its : List Itm) (LB IB : Blk) (he : s.em = inat e) (hs : s.str = str tx) (h : e < i) (hi : i ≤ tx.length) (_hl : tx.length ≤ 140737488355328) (hv : Inls s.list vals LB) (hvl : vals.length ≤ 1000000) (hI : Items its vals IB) :
    Tr Tryz.prog 71 [lp p, inat i] [s.blk p, LB, IB] fun u K => u = unit ∧ ∃ q v' LB', Inls v' (vals ++ [.iface 149 (lp q)]) LB' ∧ Items (its ++ [.plain ((tx.take i).drop e)]) (vals ++ [.iface 149 (lp q)]) (Itm.cell (.plain ((tx.take i).drop e)) q :: IB) ∧
      K = [({ s with list := v', em := inat i } : PS).blk p, LB', Itm.cell (.plain ((tx.take i).drop e)) q :: IB] := by
  obtain ⟨par, root, links, lineno, stack, depth, corner, sv, em, list, lists, texts, bt⟩ := s
  subst he; subst hs
  refine Tr.start (n := 36) (rs := []) rfl rfl rfl rfl fun B => ?_
  (repeat' (first | refine k_seq ?_ | refine k_region ?_ | refine k_nil ?_ | refine k_then ?_ | refine k_true ?_ | refine s_move ?_ | refine s_load ?_ | refine s_field ?_ | refine s_nilp ?_ | refine s_lss_t ?_))
  refine Wp.draw_till (id := 1) [(⟨par, root, links, lineno, stack, depth, corner, str tx, inat e, list, lists, texts, bt⟩ : PS).blk p] 22 23 Mixed.out (by repeat (first | exact SubH.nilR _ | refine SubH.pick (by repeat (first | exact HTake.here | apply HTake.there)) ?_)) rfl ?_
  refine OpsK.first 0 _ (by rfl) (by kernel_rfl) rfl (by kernel_rfl) (by kernel_rfl) rfl (by first | exact p_move rfl | exact p_assign rfl | exact p_extract rfl rfl | exact q_fieldAddr rfl | exact p_nilCheck rfl | exact q_load rfl (by repeat (first | exact HMem.here | apply HMem.skip | apply HMem.there)) rfl | exact q_load_agg rfl (by repeat (first | exact HMem.here | apply HMem.skip | apply HMem.there)) (by repeat constructor) | exact q_len_slice rfl | exact q_len_str rfl | exact q_indexAddr rfl rfl (by omega) | exact q_slice_str rfl rfl rfl (by omega) (by omega) | exact q_makeInterface rfl | exact q_assert rfl | exact p_build rfl (by repeat' (first | exact BFill.nil | refine' BFill.one (by rfl) (by rfl) (by repeat constructor) ?_ | refine' BFill.agg (by rfl) (by rfl) (by repeat constructor) ?_))) ?_
  refine OpsK.first 1 _ (by rfl) (by kernel_rfl) rfl (by kernel_rfl) (by kernel_rfl) rfl (by first | exact p_move rfl | exact p_assign rfl | exact p_extract rfl rfl | exact q_fieldAddr rfl | exact p_nilCheck rfl | exact q_load rfl (by repeat (first | exact HMem.here | apply HMem.skip | apply HMem.there)) rfl | exact q_load_agg rfl (by repeat (first | exact HMem.here | apply HMem.skip | apply HMem.there)) (by repeat constructor) | exact q_len_slice rfl | exact q_len_str rfl | exact q_indexAddr rfl rfl (by omega) | exact q_slice_str rfl rfl rfl (by omega) (by omega) | exact q_makeInterface rfl | exact q_assert rfl | exact p_build rfl (by repeat' (first | exact BFill.nil | refine' BFill.one (by rfl) (by rfl) (by repeat constructor) ?_ | refine' BFill.agg (by rfl) (by rfl) (by repeat constructor) ?_))) ?_
  refine OpsK.first 2 _ (by rfl) (by kernel_rfl) rfl (by kernel_rfl) (by kernel_rfl) rfl (by first | exact p_move rfl | exact p_assign rfl | exact p_extract rfl rfl | exact q_fieldAddr rfl | exact p_nilCheck rfl | exact q_load rfl (by repeat (first | exact HMem.here | apply HMem.skip | apply HMem.there)) rfl | exact q_load_agg rfl (by repeat (first | exact HMem.here | apply HMem.skip | apply HMem.there)) (by repeat constructor) | exact q_len_slice rfl | exact q_len_str rfl | exact q_indexAddr rfl rfl (by omega) | exact q_slice_str rfl rfl rfl (by omega) (by omega) | exact q_makeInterface rfl | exact q_assert rfl | exact p_build rfl (by repeat' (first | exact BFill.nil | refine' BFill.one (by rfl) (by rfl) (by repeat constructor) ?_ | refine' BFill.agg (by rfl) (by rfl) (by repeat constructor) ?_))) ?_
  refine OpsK.first 3 _ (by rfl) (by kernel_rfl) rfl (by kernel_rfl) (by kernel_rfl) rfl (by first | exact p_move rfl | exact p_assign rfl | exact p_extract rfl rfl | exact q_fieldAddr rfl | exact p_nilCheck rfl | exact q_load rfl (by repeat (first | exact HMem.here | apply HMem.skip | apply HMem.there)) rfl | exact q_load_agg rfl (by repeat (first | exact HMem.here | apply HMem.skip | apply HMem.there)) (by repeat constructor) | exact q_len_slice rfl | exact q_len_str rfl | exact q_indexAddr rfl rfl (by omega) | exact q_slice_str rfl rfl rfl (by omega) (by omega) | exact q_makeInterface rfl | exact q_assert rfl | exact p_build rfl (by repeat' (first | exact BFill.nil | refine' BFill.one (by rfl) (by rfl) (by repeat constructor) ?_ | refine' BFill.agg (by rfl) (by rfl) (by repeat constructor) ?_))) ?_
  refine OpsK.firstL 4 [] _ (by rfl) (by kernel_rfl) (by kernel_rfl) rfl (by kernel_rfl) (by kernel_rfl) rfl (by first | exact p_move rfl | exact p_assign rfl | exact p_extract rfl rfl | exact q_fieldAddr rfl | exact p_nilCheck rfl | exact q_load rfl (by repeat (first | exact HMem.here | apply HMem.skip | apply HMem.there)) rfl | exact q_load_agg rfl (by repeat (first | exact HMem.here | apply HMem.skip | apply HMem.there)) (by repeat constructor) | exact q_len_slice rfl | exact q_len_str rfl | exact q_indexAddr rfl rfl (by omega) | exact q_slice_str rfl rfl rfl (by omega) (by omega) | exact q_makeInterface rfl | exact q_assert rfl | exact p_build rfl (by repeat' (first | exact BFill.nil | refine' BFill.one (by rfl) (by rfl) (by repeat constructor) ?_ | refine' BFill.agg (by rfl) (by rfl) (by repeat constructor) ?_))) ?_
  refine OpsK.first 5 _ (by rfl) (by kernel_rfl) rfl (by kernel_rfl) (by kernel_rfl) rfl (by first | exact p_move rfl | exact p_assign rfl | exact p_extract rfl rfl | exact q_fieldAddr rfl | exact p_nilCheck rfl | exact q_load rfl (by repeat (first | exact HMem.here | apply HMem.skip | apply HMem.there)) rfl | exact q_load_agg rfl (by repeat (first | exact HMem.here | apply HMem.skip | apply HMem.there)) (by repeat constructor) | exact q_len_slice rfl | exact q_len_str rfl | exact q_indexAddr rfl rfl (by omega) | exact q_slice_str rfl rfl rfl (by omega) (by omega) | exact q_makeInterface rfl | exact q_assert rfl | exact p_build rfl (by repeat' (first | exact BFill.nil | refine' BFill.one (by rfl) (by rfl) (by repeat constructor) ?_ | refine' BFill.agg (by rfl) (by rfl) (by repeat constructor) ?_))) ?_
  refine OpsK.first 6 _ (by rfl) (by kernel_rfl) rfl (by kernel_rfl) (by kernel_rfl) rfl (by first | exact p_move rfl | exact p_assign rfl | exact p_extract rfl rfl | exact q_fieldAddr rfl | exact p_nilCheck rfl | exact q_load rfl (by repeat (first | exact HMem.here | apply HMem.skip | apply HMem.there)) rfl | exact q_load_agg rfl (by repeat (first | exact HMem.here | apply HMem.skip | apply HMem.there)) (by repeat constructor) | exact q_len_slice rfl | exact q_len_str rfl | exact q_indexAddr rfl rfl (by omega) | exact q_slice_str rfl rfl rfl (by omega) (by omega) | exact q_makeInterface rfl | exact q_assert rfl | exact p_build rfl (by repeat' (first | exact BFill.nil | refine' BFill.one (by rfl) (by rfl) (by repeat constructor) ?_ | refine' BFill.agg (by rfl) (by rfl) (by repeat constructor) ?_))) ?_
  refine OpsK.first 7 _ (by rfl) (by kernel_rfl) rfl (by kernel_rfl) (by kernel_rfl) rfl (by first | exact p_move rfl | exact p_assign rfl | exact p_extract rfl rfl | exact q_fieldAddr rfl | exact p_nilCheck rfl | exact q_load rfl (by repeat (first | exact HMem.here | apply HMem.skip | apply HMem.there)) rfl | exact q_load_agg rfl (by repeat (first | exact HMem.here | apply HMem.skip | apply HMem.there)) (by repeat constructor) | exact q_len_slice rfl | exact q_len_str rfl | exact q_indexAddr rfl rfl (by omega) | exact q_slice_str rfl rfl rfl (by omega) (by omega) | exact q_makeInterface rfl | exact q_assert rfl | exact p_build rfl (by repeat' (first | exact BFill.nil | refine' BFill.one (by rfl) (by rfl) (by repeat constructor) ?_ | refine' BFill.agg (by rfl) (by rfl) (by repeat constructor) ?_))) ?_
  refine OpsK.firstL 8 [] _ (by rfl) (by kernel_rfl) (by kernel_rfl) rfl (by kernel_rfl) (by kernel_rfl) rfl (by first | exact p_move rfl | exact p_assign rfl | exact p_extract rfl rfl | exact q_fieldAddr rfl | exact p_nilCheck rfl | exact q_load rfl (by repeat (first | exact HMem.here | apply HMem.skip | apply HMem.there)) rfl | exact q_load_agg rfl (by repeat (first | exact HMem.here | apply HMem.skip | apply HMem.there)) (by repeat constructor) | exact q_len_slice rfl | exact q_len_str rfl | exact q_indexAddr rfl rfl (by omega) | exact q_slice_str rfl rfl rfl (by omega) (by omega) | exact q_makeInterface rfl | exact q_assert rfl | exact p_build rfl (by repeat' (first | exact BFill.nil | refine' BFill.one (by rfl) (by rfl) (by repeat constructor) ?_ | refine' BFill.agg (by rfl) (by rfl) (by repeat constructor) ?_))) ?_
  refine OpsK.first 9 _ (by rfl) (by kernel_rfl) rfl (by kernel_rfl) (by kernel_rfl) rfl (by first | exact p_move rfl | exact p_assign rfl | exact p_extract rfl rfl | exact q_fieldAddr rfl | exact p_nilCheck rfl | exact q_load rfl (by repeat (first | exact HMem.here | apply HMem.skip | apply HMem.there)) rfl | exact q_load_agg rfl (by repeat (first | exact HMem.here | apply HMem.skip | apply HMem.there)) (by repeat constructor) | exact q_len_slice rfl | exact q_len_str rfl | exact q_indexAddr rfl rfl (by omega) | exact q_slice_str rfl rfl rfl (by omega) (by omega) | exact q_makeInterface rfl | exact q_assert rfl | exact p_build rfl (by repeat' (first | exact BFill.nil | refine' BFill.one (by rfl) (by rfl) (by repeat constructor) ?_ | refine' BFill.agg (by rfl) (by rfl) (by repeat constructor) ?_))) ?_
  refine OpsK.first 10 _ (by rfl) (by kernel_rfl) rfl (by kernel_rfl) (by kernel_rfl) rfl (by first | exact p_move rfl | exact p_assign rfl | exact p_extract rfl rfl | exact q_fieldAddr rfl | exact p_nilCheck rfl | exact q_load rfl (by repeat (first | exact HMem.here | apply HMem.skip | apply HMem.there)) rfl | exact q_load_agg rfl (by repeat (first | exact HMem.here | apply HMem.skip | apply HMem.there)) (by repeat constructor) | exact q_len_slice rfl | exact q_len_str rfl | exact q_indexAddr rfl rfl (by omega) | exact q_slice_str rfl rfl rfl (by omega) (by omega) | exact q_makeInterface rfl | exact q_assert rfl | exact p_build rfl (by repeat' (first | exact BFill.nil | refine' BFill.one (by rfl) (by rfl) (by repeat constructor) ?_ | refine' BFill.agg (by rfl) (by rfl) (by repeat constructor) ?_))) ?_
  refine OpsK.first 11 _ (by rfl) (by kernel_rfl) rfl (by kernel_rfl) (by kernel_rfl) rfl (by first | exact p_move rfl | exact p_assign rfl | exact p_extract rfl rfl | exact q_fieldAddr rfl | exact p_nilCheck rfl | exact q_load rfl (by repeat (first | exact HMem.here | apply HMem.skip | apply HMem.there)) rfl | exact q_load_agg rfl (by repeat (first | exact HMem.here | apply HMem.skip | apply HMem.there)) (by repeat constructor) | exact q_len_slice rfl | exact q_len_str rfl | exact q_indexAddr rfl rfl (by omega) | exact q_slice_str rfl rfl rfl (by omega) (by omega) | exact q_makeInterface rfl | exact q_assert rfl | exact p_build rfl (by repeat' (first | exact BFill.nil | refine' BFill.one (by rfl) (by rfl) (by repeat constructor) ?_ | refine' BFill.agg (by rfl) (by rfl) (by repeat constructor) ?_))) ?_
  refine OpsK.firstL 12 [] _ (by rfl) (by kernel_rfl) (by kernel_rfl) rfl (by kernel_rfl) (by kernel_rfl) rfl (by first | exact p_move rfl | exact p_assign rfl | exact p_extract rfl rfl | exact q_fieldAddr rfl | exact p_nilCheck rfl | exact q_load rfl (by repeat (first | exact HMem.here | apply HMem.skip | apply HMem.there)) rfl | exact q_load_agg rfl (by repeat (first | exact HMem.here | apply HMem.skip | apply HMem.there)) (by repeat constructor) | exact q_len_slice rfl | exact q_len_str rfl | exact q_indexAddr rfl rfl (by omega) | exact q_slice_str rfl rfl rfl (by omega) (by omega) | exact q_makeInterface rfl | exact q_assert rfl | exact p_build rfl (by repeat' (first | exact BFill.nil | refine' BFill.one (by rfl) (by rfl) (by repeat constructor) ?_ | refine' BFill.agg (by rfl) (by rfl) (by repeat constructor) ?_))) ?_
  refine OpsK.first 13 _ (by rfl) (by kernel_rfl) rfl (by kernel_rfl) (by kernel_rfl) rfl (by first | exact p_move rfl | exact p_assign rfl | exact p_extract rfl rfl | exact q_fieldAddr rfl | exact p_nilCheck rfl | exact q_load rfl (by repeat (first | exact HMem.here | apply HMem.skip | apply HMem.there)) rfl | exact q_load_agg rfl (by repeat (first | exact HMem.here | apply HMem.skip | apply HMem.there)) (by repeat constructor) | exact q_len_slice rfl | exact q_len_str rfl | exact q_indexAddr rfl rfl (by omega) | exact q_slice_str rfl rfl rfl (by omega) (by omega) | exact q_makeInterface rfl | exact q_assert rfl | exact p_build rfl (by repeat' (first | exact BFill.nil | refine' BFill.one (by rfl) (by rfl) (by repeat constructor) ?_ | refine' BFill.agg (by rfl) (by rfl) (by repeat constructor) ?_))) ?_
  refine OpsK.first 14 _ (by rfl) (by kernel_rfl) rfl (by kernel_rfl) (by kernel_rfl) rfl (by first | exact p_move rfl | exact p_assign rfl | exact p_extract rfl rfl | exact q_fieldAddr rfl | exact p_nilCheck rfl | exact q_load rfl (by repeat (first | exact HMem.here | apply HMem.skip | apply HMem.there)) rfl | exact q_load_agg rfl (by repeat (first | exact HMem.here | apply HMem.skip | apply HMem.there)) (by repeat constructor) | exact q_len_slice rfl | exact q_len_str rfl | exact q_indexAddr rfl rfl (by omega) | exact q_slice_str rfl rfl rfl (by omega) (by omega) | exact q_makeInterface rfl | exact q_assert rfl | exact p_build rfl (by repeat' (first | exact BFill.nil | refine' BFill.one (by rfl) (by rfl) (by repeat constructor) ?_ | refine' BFill.agg (by rfl) (by rfl) (by repeat constructor) ?_))) ?_
  refine OpsK.first 15 _ (by rfl) (by kernel_rfl) rfl (by kernel_rfl) (by kernel_rfl) rfl (by first | exact p_move rfl | exact p_assign rfl | exact p_extract rfl rfl | exact q_fieldAddr rfl | exact p_nilCheck rfl | exact q_load rfl (by repeat (first | exact HMem.here | apply HMem.skip | apply HMem.there)) rfl | exact q_load_agg rfl (by repeat (first | exact HMem.here | apply HMem.skip | apply HMem.there)) (by repeat constructor) | exact q_len_slice rfl | exact q_len_str rfl | exact q_indexAddr rfl rfl (by omega) | exact q_slice_str rfl rfl rfl (by omega) (by omega) | exact q_makeInterface rfl | exact q_assert rfl | exact p_build rfl (by repeat' (first | exact BFill.nil | refine' BFill.one (by rfl) (by rfl) (by repeat constructor) ?_ | refine' BFill.agg (by rfl) (by rfl) (by repeat constructor) ?_))) ?_
  refine OpsK.only 16 _ (by kernel_rfl) rfl ?_
  (repeat' (first | refine k_nil ?_ | refine k_then ?_ | refine s_box (fun _ => ?_)))
  rename_i q
  refine ⟨fun _ => (by repeat (first | exact SubH.nilR _ | refine SubH.pick (by repeat (first | exact HTake.here | apply HTake.there)) ?_)), ?_⟩
  refine OpsK.first 17 _ (by rfl) (by kernel_rfl) rfl (by kernel_rfl) (by kernel_rfl) rfl (by first | exact p_move rfl | exact p_assign rfl | exact p_extract rfl rfl | exact q_fieldAddr rfl | exact p_nilCheck rfl | exact q_load rfl (by repeat (first | exact HMem.here | apply HMem.skip | apply HMem.there)) rfl | exact q_load_agg rfl (by repeat (first | exact HMem.here | apply HMem.skip | apply HMem.there)) (by repeat constructor) | exact q_len_slice rfl | exact q_len_str rfl | exact q_indexAddr rfl rfl (by omega) | exact q_slice_str rfl rfl rfl (by omega) (by omega) | exact q_makeInterface rfl | exact q_assert rfl | exact p_build rfl (by repeat' (first | exact BFill.nil | refine' BFill.one (by rfl) (by rfl) (by repeat constructor) ?_ | refine' BFill.agg (by rfl) (by rfl) (by repeat constructor) ?_))) ?_
  refine OpsK.only 18 _ (by kernel_rfl) rfl ?_
  (repeat' (first | refine k_nil ?_ | refine k_then ?_ | refine s_bsl1 (fun _ => ?_)))
  refine ⟨fun _ => (by repeat (first | exact SubH.nilR _ | refine SubH.pick (by repeat (first | exact HTake.here | apply HTake.there)) ?_)), ?_⟩
  refine OpsK.only 19 _ (by kernel_rfl) rfl ?_
  refine s_app hv (by omega) (fun v' LB' hL => ?_)
  obtain ⟨g2, cap2, cur2, rfl, rfl, k1, k2, k3, k4⟩ := hL.pos
  (repeat' (first | refine k_nil ?_ | refine k_then ?_))
  refine ⟨fun _ => (by repeat (first | exact SubH.nilR _ | refine SubH.pick (by repeat (first | exact HTake.here | apply HTake.there)) ?_)), ?_⟩
  refine OpsK.first 20 _ (by rfl) (by kernel_rfl) rfl (by kernel_rfl) (by kernel_rfl) rfl (by first | exact p_move rfl | exact p_assign rfl | exact p_extract rfl rfl | exact q_fieldAddr rfl | exact p_nilCheck rfl | exact q_load rfl (by repeat (first | exact HMem.here | apply HMem.skip | apply HMem.there)) rfl | exact q_load_agg rfl (by repeat (first | exact HMem.here | apply HMem.skip | apply HMem.there)) (by repeat constructor) | exact q_len_slice rfl | exact q_len_str rfl | exact q_indexAddr rfl rfl (by omega) | exact q_slice_str rfl rfl rfl (by omega) (by omega) | exact q_makeInterface rfl | exact q_assert rfl | exact p_build rfl (by repeat' (first | exact BFill.nil | refine' BFill.one (by rfl) (by rfl) (by repeat constructor) ?_ | refine' BFill.agg (by rfl) (by rfl) (by repeat constructor) ?_))) ?_
  refine OpsK.first 21 _ (by rfl) (by kernel_rfl) rfl (by kernel_rfl) (by kernel_rfl) rfl (by first | exact p_move rfl | exact p_assign rfl | exact p_extract rfl rfl | exact q_fieldAddr rfl | exact p_nilCheck rfl | exact q_load rfl (by repeat (first | exact HMem.here | apply HMem.skip | apply HMem.there)) rfl | exact q_load_agg rfl (by repeat (first | exact HMem.here | apply HMem.skip | apply HMem.there)) (by repeat constructor) | exact q_len_slice rfl | exact q_len_str rfl | exact q_indexAddr rfl rfl (by omega) | exact q_slice_str rfl rfl rfl (by omega) (by omega) | exact q_makeInterface rfl | exact q_assert rfl | exact p_build rfl (by repeat' (first | exact BFill.nil | refine' BFill.one (by rfl) (by rfl) (by repeat constructor) ?_ | refine' BFill.agg (by rfl) (by rfl) (by repeat constructor) ?_))) ?_
  refine OpsK.only 22 _ (by kernel_rfl) rfl ?_
  (repeat' (first | refine k_nil ?_ | refine k_then ?_ | refine s_store ?_))
  refine ⟨(fun h0 => Bool.noConfusion (show true = false from h0)), ?_⟩
  refine OpsK.nil (by kernel_rfl) ?_
  (repeat' (first | refine k_region ?_ | refine k_nil ?_ | refine s_move ?_ | refine s_field ?_ | refine s_nilp ?_ | refine s_store ?_))
  have hL2 : Inls (.slice (some ⟨g2, 0, none⟩) (vals.length + 1) cap2) (vals ++ [.iface 149 (lp q)]) [(g2, cellsOf cur2 125)] := by simpa [Inls] using hL
  refine e_norm _ ⟨rfl, q, _, _, hL2, .snoc (.plain ((tx.take i).drop e)) q hI, rfl⟩ ?_
  exact SubH.trans (H' := [_, _, [Itm.cell (.plain ((tx.take i).drop e)) q], IB]) (by repeat (first | exact SubH.nilR _ | refine SubH.pick (by repeat (first | exact HTake.here | apply HTake.there)) ?_)) (SubH.keep (SubH.keep SubH.join))
end Go.Proofs

namespace Go.Proofs
open Go Go.Eng
set_option maxRecDepth 20000
set_option maxHeartbeats 4000000

theorem HMem.of_chunk {b : Nat} {o : Obj} : ∀ {c : Blk} {H : Heap}, (b, o) ∈ c → HMem (c :: H) b o
  | (b', o') :: c, H, h => by
    rcases List.mem_cons.1 h with h | h
    · cases h; exact .here
    · exact .skip (HMem.of_chunk h)

/-- An inline whose PrintHTML puts a text into the buffer. -/
structure Prn (t : Nat) (u : Value) (G : Blk) (out : List UInt8) : Prop where
  len : out.length ≤ 100000
  pr : ∃ f, Cal Tryz.prog f ∧ MethodIs Tryz.prog t u "PrintHTML" f u ∧ ∀ (b : Nat) (v : Value) (l : List UInt8) (R : Blk) (lr : Int), BRow v l R → l ≠ [] → l.length ≤ 500000 →
    Tr Tryz.prog f [u, lp b] [G, bufb b v lr, R] fun w K => w = unit ∧ ∃ v' R' lr', BRow v' (l ++ out) R' ∧ K = [G, bufb b v' lr', R']

theorem plainP_tr (q b : Nat) (t : List UInt8) (v : Value) (l : List UInt8) (R G : Blk) (lr : Int) (hx : (q, cellsOf [str t] 130) ∈ G) (ht : t.length ≤ 10000) (hR : BRow v l R) (hlim : l.length ≤ 600000) :
    Tr Tryz.prog 247 [lp q, lp b] [G, bufb b v lr, R] fun u K => u = unit ∧ ∃ v' R' lr', BRow v' (l ++ escH t) R' ∧ K = [G, bufb b v' lr', R'] := by
  have hm : ∀ H, HMem (G :: H) q (cellsOf [str t] 130) := fun H => HMem.of_chunk hx
  refine Tr.start (n := 11) (rs := []) rfl rfl rfl rfl fun B => ?_
  refine Wp.draw_held (id := 0) [G] 7 Mixed.out (by repeat (first | exact SubH.nilR _ | refine SubH.pick (by repeat (first | exact HTake.here | apply HTake.there)) ?_)) rfl ?_
  refine OpsH.first 1 _ (by kernel_rfl) rfl (by kernel_rfl) (by kernel_rfl) rfl (by first | exact p_move rfl | exact p_assign rfl | exact p_extract rfl rfl | exact q_fieldAddr rfl | exact p_nilCheck rfl | exact q_load rfl (by repeat (first | exact HMem.here | apply HMem.skip | apply HMem.there)) rfl | exact q_load_agg rfl (by repeat (first | exact HMem.here | apply HMem.skip | apply HMem.there)) (by repeat constructor) | exact q_len_slice rfl | exact q_len_str rfl | exact q_indexAddr rfl rfl (by omega) | exact q_slice_str rfl rfl rfl (by omega) (by omega) | exact q_makeInterface rfl | exact q_assert rfl | exact p_build rfl (by repeat' (first | exact BFill.nil | refine' BFill.one (by rfl) (by rfl) (by repeat constructor) ?_ | refine' BFill.agg (by rfl) (by rfl) (by repeat constructor) ?_))) ?_
  refine OpsH.first 2 _ (by kernel_rfl) rfl (by kernel_rfl) (by kernel_rfl) rfl (by first | exact p_move rfl | exact p_assign rfl | exact p_extract rfl rfl | exact q_fieldAddr rfl | exact p_nilCheck rfl | exact q_load rfl (by repeat (first | exact HMem.here | apply HMem.skip | apply HMem.there)) rfl | exact q_load_agg rfl (by repeat (first | exact HMem.here | apply HMem.skip | apply HMem.there)) (by repeat constructor) | exact q_len_slice rfl | exact q_len_str rfl | exact q_indexAddr rfl rfl (by omega) | exact q_slice_str rfl rfl rfl (by omega) (by omega) | exact q_makeInterface rfl | exact q_assert rfl | exact p_build rfl (by repeat' (first | exact BFill.nil | refine' BFill.one (by rfl) (by rfl) (by repeat constructor) ?_ | refine' BFill.agg (by rfl) (by rfl) (by repeat constructor) ?_))) ?_
  refine OpsH.first 3 _ (by kernel_rfl) rfl (by kernel_rfl) (by kernel_rfl) rfl (by first | exact p_move rfl | exact p_assign rfl | exact p_extract rfl rfl | exact q_fieldAddr rfl | exact p_nilCheck rfl | exact q_load rfl (by repeat (first | exact HMem.here | apply HMem.skip | apply HMem.there)) rfl | exact q_load_agg rfl (by repeat (first | exact HMem.here | apply HMem.skip | apply HMem.there)) (by repeat constructor) | exact q_len_slice rfl | exact q_len_str rfl | exact q_indexAddr rfl rfl (by omega) | exact q_slice_str rfl rfl rfl (by omega) (by omega) | exact q_makeInterface rfl | exact q_assert rfl | exact p_build rfl (by repeat' (first | exact BFill.nil | refine' BFill.one (by rfl) (by rfl) (by repeat constructor) ?_ | refine' BFill.agg (by rfl) (by rfl) (by repeat constructor) ?_))) ?_
  refine OpsH.first 4 _ (by kernel_rfl) rfl (by kernel_rfl) (by kernel_rfl) rfl (by first | exact p_move rfl | exact p_assign rfl | exact p_extract rfl rfl | exact q_fieldAddr rfl | exact p_nilCheck rfl | exact q_load rfl (by repeat (first | exact HMem.here | apply HMem.skip | apply HMem.there)) rfl | exact q_load_agg rfl (by repeat (first | exact HMem.here | apply HMem.skip | apply HMem.there)) (by repeat constructor) | exact q_len_slice rfl | exact q_len_str rfl | exact q_indexAddr rfl rfl (by omega) | exact q_slice_str rfl rfl rfl (by omega) (by omega) | exact q_makeInterface rfl | exact q_assert rfl | exact p_build rfl (by repeat' (first | exact BFill.nil | refine' BFill.one (by rfl) (by rfl) (by repeat constructor) ?_ | refine' BFill.agg (by rfl) (by rfl) (by repeat constructor) ?_))) ?_
  refine OpsH.first 5 _ (by kernel_rfl) rfl (by kernel_rfl) (by kernel_rfl) rfl (q_load rfl (hm _) rfl) ?_
  refine OpsH.only 0 _ (by kernel_rfl) rfl ?_
  refine s_call htmlEscaper_tr (fun u K hR => ?_)
  obtain ⟨g, rfl, rfl⟩ := hR
  (repeat' (first | refine k_nil ?_ | refine k_then ?_))
  refine ⟨(by repeat (first | exact SubH.nilR _ | refine SubH.pick (by repeat (first | exact HTake.here | apply HTake.there)) ?_)), ?_⟩
  refine OpsH.only 6 _ (by kernel_rfl) rfl ?_
  refine s_call (pairsWrite_tr g b v l R lr t hR (by omega)) (fun u K hR => ?_)
  obtain ⟨rfl, v', R', lr', h9, rfl⟩ := hR
  (repeat' (first | refine k_nil ?_ | refine k_then ?_))
  refine ⟨(by repeat (first | exact SubH.nilR _ | refine SubH.pick (by repeat (first | exact HTake.here | apply HTake.there)) ?_)), ?_⟩
  refine OpsH.nil (by kernel_rfl) ?_
  refine Fin.out (e_norm [G, bufb b v' lr', R'] ⟨rfl, v', R', lr', h9, rfl⟩ (by repeat (first | exact SubH.nilR _ | refine SubH.pick (by repeat (first | exact HTake.here | apply HTake.there)) ?_)))

theorem prnPlain (q : Nat) (t : List UInt8) (G : Blk) (hx : (q, cellsOf [str t] 130) ∈ G) (ht : t.length ≤ 10000) : Prn 149 (lp q) G (escH t) :=
  ⟨by have := escH_len t; omega, 247, inferInstance, fun w => by kernel_rfl, fun b v l R lr hR _ hl => plainP_tr q b t v l R G lr hx ht hR (by omega)⟩

/-- A row of inlines that put these texts into the buffer. -/
structure Shown (g m : Nat) (G : Blk) (outs : List (List UInt8)) : Prop where
  row : ∃ cur, (g, cellsOf cur 125) ∈ G ∧ m ≤ cur.length ∧ ∀ j, j < m → ∃ t u out, cur[j]? = some (.iface t u) ∧ outs[j]? = some out ∧ Prn t u G out
  len : outs.length = m
  lim : outs.flatten.length ≤ 400000

theorem flat_snoc {outs : List (List UInt8)} {j : Nat} {x : List UInt8} (h : outs[j]? = some x) : (outs.take (j + 1)).flatten = (outs.take j).flatten ++ x := by
  rw [List.take_add_one, h]; simp
theorem flat_le (outs : List (List UInt8)) (j : Nat) : (outs.take j).flatten.length ≤ outs.flatten.length := by
  conv => rhs; rw [← List.take_append_drop j outs]
  rw [List.flatten_append, List.length_append]; omega

theorem delP_tr (x b gx capx q2 : Nat) (mk t : List UInt8) (curx : List Value) (v : Value) (l : List UInt8) (R G : Blk) (lr : Int) (hx : (x, cellsOf [str mk, .slice (some ⟨gx, 0, none⟩) 1 capx] 209) ∈ G) (hg : (gx, cellsOf curx 125) ∈ G) (hc : curx[0]? = some (.iface 149 (lp q2))) (hq : (q2, cellsOf [str t] 130) ∈ G) (ht : t.length ≤ 10000) (hR : BRow v l R) (hlim : l.length ≤ 500000) :
    Tr Tryz.prog 307 [lp x, lp b] [G, bufb b v lr, R] fun u K => u = unit ∧ ∃ v' R' lr', BRow v' (l ++ ([60, 100, 101, 108, 62] ++ escH t ++ [60, 47, 100, 101, 108, 62])) R' ∧ K = [G, bufb b v' lr', R'] := by
  have hm : ∀ H, HMem (G :: H) x (cellsOf [str mk, .slice (some ⟨gx, 0, none⟩) 1 capx] 209) := fun H => HMem.of_chunk hx
  have hmg : ∀ H, HMem (G :: H) gx (cellsOf curx 125) := fun H => HMem.of_chunk hg
  have hc' : curx[0 + 0 * 1]? = some (.iface 149 (lp q2)) := hc
  have hel := escH_len t
  refine Tr.start (n := 23) (rs := []) rfl rfl rfl rfl fun B => ?_
  (repeat' (first | refine k_seq ?_ | refine k_region ?_ | refine s_move ?_))
  refine s_call (writeString_tr b v l R lr [60, 100, 101, 108, 62] hR (by simp) (by simp) (by simp only [List.length_cons, List.length_nil]; omega)) (fun u K hR => ?_)
  obtain ⟨rfl, v1, R1, h1, rfl⟩ := hR
  (repeat' (first | refine Ops.pure _ (q_load (by rfl) (by repeat (first | exact hm _ | apply HMem.there)) (by rfl)) (by rfl) ?_ | refine k_seq ?_ | refine k_region ?_ | refine k_nil ?_ | refine k_then ?_ | refine k_blk ?_ | refine s_move ?_ | refine s_field ?_ | refine s_nilp ?_ | refine s_len ?_))
  refine k_loop (fun y : PW => [(0, lp x), (1, lp b), (11, .slice (some ⟨gx, 0, none⟩) 1 capx), (12, inat 1), (13, inat y.j)]) (fun y => [G, bufb b y.v y.lr, y.R])
    (fun y => y.j = 0 ∧ BRow y.v (l ++ [60, 100, 101, 108, 62]) y.R ∨ y.j = 1 ∧ BRow y.v (l ++ [60, 100, 101, 108, 62] ++ escH t) y.R) (fun y => 1 - y.j) ⟨0, v1, R1, 0⟩ (.inl ⟨rfl, h1⟩) (Knows.spec (by repeat (first | exact trivial | refine ⟨rfl, ?_⟩))) (by repeat (first | exact SubH.nilR _ | refine SubH.pick (by repeat (first | exact HTake.here | apply HTake.there)) ?_)) fun y hy => ?_
  obtain ⟨j, v, R, lr⟩ := y
  simp only at hy ⊢
  rcases hy with ⟨rfl, y2⟩ | ⟨rfl, y2⟩
  · (repeat' (first | refine Ops.pure _ (q_load (by rfl) (by repeat (first | exact hmg _ | apply HMem.there)) hc') (by rfl) ?_ | refine k_seq ?_ | refine k_region ?_ | refine k_nil ?_ | refine k_then ?_ | refine k_true ?_ | refine k_blk ?_ | refine k_skip ?_ | refine s_move ?_ | refine s_assign ?_ | refine s_lss_t ?_ | refine s_idxa ?_))
    refine s_inv (plainP_tr q2 b t v _ R G lr hq ht y2 (by simp only [List.length_append, List.length_cons, List.length_nil]; omega)) (fun u K hR => ?_)
    obtain ⟨rfl, v', R', lr', h9, rfl⟩ := hR
    (repeat' (first | refine k_region ?_ | refine k_nil ?_ | refine k_then ?_ | refine k_block ?_ | refine s_move ?_ | refine s_add1 ?_))
    exact ⟨⟨1, v', R', lr'⟩, (Knows.spec (by repeat (first | exact trivial | refine ⟨rfl, ?_⟩))), (by repeat (first | exact SubH.nilR _ | refine SubH.pick (by repeat (first | exact HTake.here | apply HTake.there)) ?_)), .inr ⟨rfl, h9⟩, by simp only; omega⟩
  · (repeat' (first | refine k_seq ?_ | refine k_region ?_ | refine k_nil ?_ | refine k_then ?_ | refine k_false ?_ | refine k_exit ?_ | refine k_exit_then ?_ | refine k_hit ?_ | refine s_move ?_ | refine s_lss_f ?_))
    refine s_call (writeString_tr b v _ R lr [60, 47, 100, 101, 108, 62] y2 (by simp) (by simp) (by simp only [List.length_append, List.length_cons, List.length_nil]; omega)) (fun u K hR => ?_)
    obtain ⟨rfl, v3, R3, h3, rfl⟩ := hR
    (repeat' (first | refine k_nil ?_))
    exact e_norm [G, bufb b v3 0, R3] ⟨rfl, v3, R3, 0, by simpa only [List.append_assoc] using h3, rfl⟩ (by repeat (first | exact SubH.nilR _ | refine SubH.pick (by repeat (first | exact HTake.here | apply HTake.there)) ?_))

theorem prnDel (x gx capx q2 : Nat) (mk t : List UInt8) (curx : List Value) (G : Blk) (hx : (x, cellsOf [str mk, .slice (some ⟨gx, 0, none⟩) 1 capx] 209) ∈ G) (hg : (gx, cellsOf curx 125) ∈ G) (hc : curx[0]? = some (.iface 149 (lp q2))) (hq : (q2, cellsOf [str t] 130) ∈ G) (ht : t.length ≤ 10000) : Prn 210 (lp x) G ([60, 100, 101, 108, 62] ++ escH t ++ [60, 47, 100, 101, 108, 62]) :=
  ⟨by have := escH_len t; simp only [List.length_append, List.length_cons, List.length_nil]; omega, 307, inferInstance, fun w => by kernel_rfl, fun b v l R lr hR _ hl => delP_tr x b gx capx q2 mk t curx v l R G lr hx hg hc hq ht hR hl⟩

theorem textP_tr (t a b' b : Nat) (g m c : Nat) (raw : List UInt8) (outs : List (List UInt8)) (v : Value) (l : List UInt8) (R G : Blk) (lr : Int) (hS : Shown g m G outs) (hm1 : m ≤ 100000) (hR : BRow v l R) (hln : l ≠ []) (hlim : l.length ≤ 1000) :
    Tr Tryz.prog 234 [lp t, lp b] [txb t a b' (.slice (some ⟨g, 0, none⟩) m c) raw, G, bufb b v lr, R] fun u K => u = unit ∧ ∃ v' R' lr', BRow v' (l ++ outs.flatten) R' ∧ K = [bufb b v' lr', R'] := by
  obtain ⟨cur, hg, hml, hrow⟩ := hS.row
  have hmg : ∀ H, HMem (G :: H) g (cellsOf cur 125) := fun H => HMem.of_chunk hg
  have hlim2 := hS.lim
  refine Tr.start (n := 19) (rs := []) rfl rfl rfl rfl fun B => ?_
  (repeat' (first | refine k_seq ?_ | refine k_region ?_ | refine k_nil ?_ | refine k_then ?_ | refine k_blk ?_ | refine s_move ?_ | refine s_load ?_ | refine s_field ?_ | refine s_nilp ?_ | refine s_len ?_))
  refine k_loop (fun y : PW => [(1, lp b), (9, .slice (some ⟨g, 0, none⟩) m c), (10, inat m), (11, inat y.j)]) (fun y => [G, bufb b y.v y.lr, y.R])
    (fun y => y.j ≤ m ∧ BRow y.v (l ++ (outs.take y.j).flatten) y.R) (fun y => m - y.j) ⟨0, v, R, lr⟩ ⟨Nat.zero_le _, by simpa using hR⟩ (Knows.spec (by repeat (first | exact trivial | refine ⟨rfl, ?_⟩))) (by repeat (first | exact SubH.nilR _ | refine SubH.pick (by repeat (first | exact HTake.here | apply HTake.there)) ?_)) fun y hy => ?_
  obtain ⟨j, v, R, lr⟩ := y
  obtain ⟨y1, y2⟩ := hy
  simp only at y1 y2 ⊢
  by_cases hj : j < m
  · obtain ⟨ty, u, out, hc, ho, hP⟩ := hrow j hj
    obtain ⟨f, hf, hme, htr⟩ := hP.pr
    have hc' : cur[0 + j * 1]? = some (.iface ty u) := by rw [show 0 + j * 1 = j by omega]; exact hc
    have hfl := flat_le outs j
    (repeat' (first | refine Ops.pure _ (q_load (by rfl) (by repeat (first | exact hmg _ | apply HMem.there)) hc') (by rfl) ?_ | refine k_seq ?_ | refine k_region ?_ | refine k_nil ?_ | refine k_then ?_ | refine k_true ?_ | refine k_blk ?_ | refine k_skip ?_ | refine s_move ?_ | refine s_assign ?_ | refine s_lss_t ?_ | refine s_idxa ?_))
    refine Ops.invoke (f := f) (args := [lp b]) hf.out rfl hme rfl (htr b v _ R lr y2 (by simp [hln]) (by simp only [List.length_append]; omega)) (by repeat' (first | exact HTakes.nil | exact HTake.here | apply HTakes.cons | apply HTake.there)) rfl (fun u K hR => ?_)
    obtain ⟨rfl, v', R', lr', h9, rfl⟩ := hR
    (repeat' (first | refine k_region ?_ | refine k_nil ?_ | refine k_then ?_ | refine k_block ?_ | refine s_move ?_ | refine s_add1 ?_))
    exact ⟨⟨j + 1, v', R', lr'⟩, (Knows.spec (by repeat (first | exact trivial | refine ⟨rfl, ?_⟩))), (by repeat (first | exact SubH.nilR _ | refine SubH.pick (by repeat (first | exact HTake.here | apply HTake.there)) ?_)), ⟨by simp only; omega, by simp only; rw [flat_snoc ho, ← List.append_assoc]; exact h9⟩, by simp only; omega⟩
  · have : j = m := by omega
    subst this
    have hol := hS.len
    rw [List.take_of_length_le (by omega)] at y2
    (repeat' (first | refine k_seq ?_ | refine k_region ?_ | refine k_nil ?_ | refine k_then ?_ | refine k_false ?_ | refine k_exit ?_ | refine k_exit_then ?_ | refine k_hit ?_ | refine s_lss_f ?_))
    exact e_norm [bufb b v lr, R] ⟨rfl, v, R, lr, y2, rfl⟩ (by repeat (first | exact SubH.nilR _ | refine SubH.pick (by repeat (first | exact HTake.here | apply HTake.there)) ?_))

/-- The HTML of a document of one paragraph. -/
abbrev paraO (o : List UInt8) : List UInt8 := [60, 112, 62] ++ o ++ [60, 47, 112, 62, 10]
theorem paraP_tr (q t a b' b g m c : Nat) (raw : List UInt8) (outs : List (List UInt8)) (G : Blk) (hS : Shown g m G outs) (hm1 : m ≤ 100000) :
    Tr Tryz.prog 267 [lp q, lp b] [pgb q a b' t, txb t a b' (.slice (some ⟨g, 0, none⟩) m c) raw, G, bufb b (.slice none 0 0) 0, []] fun u K => u = unit ∧ ∃ v' R' lr', BRow v' (paraO outs.flatten) R' ∧ K = [bufb b v' lr', R'] := by
  have hlim2 := hS.lim
  refine Tr.start (n := 14) (rs := []) rfl rfl rfl rfl fun B => ?_
  (repeat' (first | refine k_seq ?_ | refine k_region ?_ | refine s_move ?_))
  refine s_call (writeString_tr b (.slice none 0 0) [] [] 0 [60, 112, 62] BRow.nil (by simp) (by simp) (by simp)) (fun u K hR => ?_)
  obtain ⟨rfl, v1, R1, h1, rfl⟩ := hR
  (repeat' (first | refine k_seq ?_ | refine k_region ?_ | refine k_nil ?_ | refine k_then ?_ | refine s_move ?_ | refine s_load ?_ | refine s_field ?_ | refine s_nilp ?_))
  refine s_call (textP_tr t a b' b g m c raw outs v1 [60, 112, 62] R1 G 0 hS hm1 h1 (by simp) (by simp)) (fun u K hR => ?_)
  obtain ⟨rfl, v2, R2, lr2, h2, rfl⟩ := hR
  (repeat' (first | refine k_region ?_ | refine k_nil ?_ | refine k_then ?_ | refine s_move ?_))
  refine s_call (writeString_tr b v2 ([60, 112, 62] ++ outs.flatten) R2 lr2 [60, 47, 112, 62, 10] h2 (by simp) (by simp) (by simp only [List.length_append, List.length_cons, List.length_nil]; omega)) (fun u K hR => ?_)
  obtain ⟨rfl, v3, R3, h3, rfl⟩ := hR
  (repeat' (first | refine k_nil ?_))
  exact e_norm _ ⟨rfl, v3, R3, 0, h3, rfl⟩ (by repeat (first | exact SubH.nilR _ | refine SubH.pick (by repeat (first | exact HTake.here | apply HTake.there)) ?_))

theorem docP_tr (d a b' q t a2 b2 b : Nat) (lk : Value) (ia : Option Addr) (im ic : Nat) (KB : Blk) (g m c : Nat) (raw : List UInt8) (outs : List (List UInt8)) (G : Blk)
    (hB : Blks (.slice ia im ic) [.iface 146 (lp q)] KB) (hS : Shown g m G outs) (hm1 : m ≤ 100000) :
    Tr Tryz.prog 229 [lp d, lp b] [docb d a b' (.slice ia im ic) lk, pgb q a2 b2 t, txb t a2 b2 (.slice (some ⟨g, 0, none⟩) m c) raw, KB, G, bufb b (.slice none 0 0) 0, []] fun u K => u = unit ∧ ∃ v' R' lr', BRow v' (paraO outs.flatten) R' ∧ K = [bufb b v' lr', R'] := by
  obtain ⟨g2, cap, cur, e1, rfl, k1, k2, k3, k4⟩ := (show Own 61 1 (.slice ia im ic) (0 + 1) _ KB from hB).pos
  injection e1 with e1 e2 e3
  subst e1 e2 e3
  have hc : cur[0]? = some (.iface 146 (lp q)) := by
    have h : (cur.take ((0 + 1) * 1))[0]? = cur[0]? := by rw [List.getElem?_take, if_pos (by omega)]
    rw [← h, k4]; rfl
  refine Tr.start (n := 19) (rs := []) rfl rfl rfl rfl fun B => ?_
  (repeat' (first | refine k_seq ?_ | refine k_region ?_ | refine k_nil ?_ | refine k_then ?_ | refine k_blk ?_ | refine s_move ?_ | refine s_load ?_ | refine s_field ?_ | refine s_nilp ?_ | refine s_len ?_))
  refine k_loop (fun x : PW => [(1, lp b), (9, .slice (some ⟨g2, 0, none⟩) 1 ic), (10, inat 1), (11, inat x.j)]) (fun x => if x.j = 0 then [pgb q a2 b2 t, txb t a2 b2 (.slice (some ⟨g, 0, none⟩) m c) raw, [(g2, cellsOf cur 61)], G, bufb b (.slice none 0 0) 0, []] else [bufb b x.v x.lr, x.R])
    (fun x => x.j = 0 ∨ (x.j = 1 ∧ BRow x.v (paraO outs.flatten) x.R)) (fun x => 1 - x.j) ⟨0, .slice none 0 0, [], 0⟩ (.inl rfl) (Knows.spec (by repeat (first | exact trivial | refine ⟨rfl, ?_⟩))) (by repeat (first | exact SubH.nilR _ | refine SubH.pick (by repeat (first | exact HTake.here | apply HTake.there)) ?_)) fun x hx => ?_
  obtain ⟨j, v, R, lr⟩ := x
  simp only at hx ⊢
  rcases hx with rfl | ⟨rfl, hx⟩
  · have hc' : cur[0 + 0 * 1]? = some (.iface 146 (lp q)) := hc
    simp only [if_pos]
    (repeat' (first | refine s_load (hc := hc') ?_ | refine k_seq ?_ | refine k_region ?_ | refine k_nil ?_ | refine k_then ?_ | refine k_true ?_ | refine k_blk ?_ | refine k_skip ?_ | refine s_move ?_ | refine s_assign ?_ | refine s_lss_t ?_ | refine s_idxa ?_))
    refine s_inv (paraP_tr q t a2 b2 b g m c raw outs G hS hm1) (fun u K hR => ?_)
    obtain ⟨rfl, v3, R3, lr3, h3, rfl⟩ := hR
    (repeat' (first | refine k_region ?_ | refine k_nil ?_ | refine k_then ?_ | refine k_block ?_ | refine s_move ?_ | refine s_add1 ?_))
    exact ⟨⟨1, v3, R3, lr3⟩, (Knows.spec (by repeat (first | exact trivial | refine ⟨rfl, ?_⟩))), (by repeat (first | exact SubH.nilR _ | refine SubH.pick (by repeat (first | exact HTake.here | apply HTake.there)) ?_)), .inr ⟨rfl, h3⟩, by simp only; omega⟩
  · rw [if_neg (by omega)]
    (repeat' (first | refine k_seq ?_ | refine k_region ?_ | refine k_nil ?_ | refine k_then ?_ | refine k_false ?_ | refine k_exit ?_ | refine k_exit_then ?_ | refine k_hit ?_ | refine s_lss_f ?_))
    exact e_norm _ ⟨rfl, v, R, lr, hx, rfl⟩ (by repeat (first | exact SubH.nilR _ | refine SubH.pick (by repeat (first | exact HTake.here | apply HTake.there)) ?_))

theorem toP_tr (d a b' q t a2 b2 : Nat) (lk : Value) (ia : Option Addr) (im ic : Nat) (KB : Blk) (g m c : Nat) (raw : List UInt8) (outs : List (List UInt8)) (G : Blk)
    (hB : Blks (.slice ia im ic) [.iface 146 (lp q)] KB) (hS : Shown g m G outs) (hm1 : m ≤ 100000) :
    Tr Tryz.prog 22 [.iface 42 (lp d)] [docb d a b' (.slice ia im ic) lk, pgb q a2 b2 t, txb t a2 b2 (.slice (some ⟨g, 0, none⟩) m c) raw, KB, G] fun u K => u = str (paraO outs.flatten) ∧ K = [] := by
  refine Tr.start (n := 7) (rs := [.tmp 2]) rfl rfl rfl rfl fun B => ?_
  (repeat' (first | refine k_seq ?_ | refine k_region ?_ | refine k_nil ?_ | refine k_then ?_ | refine s_move ?_ | refine s_assign ?_ | refine s_alloc (fun _ => ?_)))
  rename_i b
  refine s_nilblk ?_
  refine s_inv (docP_tr d a b' q t a2 b2 b lk ia im ic KB g m c raw outs G hB hS hm1) (fun u K hR => ?_)
  obtain ⟨rfl, v3, R3, lr3, h3, rfl⟩ := hR
  (repeat' (first | refine s_callD (bufString_tr b v3 (paraO outs.flatten) R3 lr3 h3 (by simp)) ?_ | refine k_seq ?_ | refine k_region ?_ | refine k_nil ?_ | refine k_then ?_ | refine k_ret ?_ | refine s_assign ?_))
  exact e_ret [] ⟨rfl, rfl⟩ (by repeat (first | exact SubH.nilR _ | refine SubH.pick (by repeat (first | exact HTake.here | apply HTake.there)) ?_))
end Go.Proofs

namespace Go.Proofs
open Go Go.Eng
set_option maxRecDepth 20000
set_option maxHeartbeats 4000000

/-- Letters; letters and digits. -/
abbrev let8 (c : Nat) : Prop := 65 ≤ c ∧ c ≤ 90 ∨ 97 ≤ c ∧ c ≤ 122
abbrev ld8 (c : Nat) : Prop := 65 ≤ c ∧ c ≤ 90 ∨ 97 ≤ c ∧ c ≤ 122 ∨ 48 ≤ c ∧ c ≤ 57
theorem isLetF (c : Nat) (hc : c < 256) : TrP Tryz.prog 136 [.int .u8 c] (.bool (decide (let8 c))) := by
  refine Tr.start (n := 17) (rs := [.tmp 2]) rfl rfl rfl rfl fun B => ?_
  (repeat' (first | refine k_seq ?_ | refine k_region ?_ | refine k_nil ?_ | refine k_then ?_ | refine k_ret ?_ | refine s_grun ?_ | refine s_gskipt ?_ | refine s_gskipf ?_ | refine s_gskipu ?_ | refine s_move ?_ | refine s_assign ?_ | refine s_leq_f ?_ | refine s_leq ?_ | refine s_pickt ?_ | refine s_pickf ?_ | refine Ops.split_run (fun hg => ?_) (fun hg => ?_) | refine Ops.split_skip (fun hg => ?_) (fun hg => ?_)))
  all_goals (refine e_pure ?_; refine ⟨?_, rfl⟩; simp only [oneOr, Value.bool.injEq]; first | (symm; exact decide_eq_true (by omega)) | (symm; exact decide_eq_false (by omega)) | (rw [decide_eq_decide]; omega))
theorem isLet_yes (c : UInt8) (h : let8 c.toNat) : TrP Tryz.prog 136 [.int .u8 c.toNat] (.bool true) := by
  have := isLetF c.toNat c.toNat_lt
  rwa [decide_eq_true h] at this
theorem isLet_no (c : UInt8) (h : ¬ let8 c.toNat) : TrP Tryz.prog 136 [.int .u8 c.toNat] (.bool false) := by
  have := isLetF c.toNat c.toNat_lt
  rwa [decide_eq_false h] at this
theorem isLDF (c : Nat) (hc : c < 256) : TrP Tryz.prog 124 [.int .u8 c] (.bool (decide (ld8 c))) := by
  refine Tr.start (n := 25) (rs := [.tmp 2]) rfl rfl rfl rfl fun B => ?_
  (repeat' (first | refine k_seq ?_ | refine k_region ?_ | refine k_nil ?_ | refine k_then ?_ | refine k_ret ?_ | refine s_grun ?_ | refine s_gskipt ?_ | refine s_gskipf ?_ | refine s_gskipu ?_ | refine s_move ?_ | refine s_assign ?_ | refine s_leq_t ?_ | refine s_leq_f ?_ | refine s_leq ?_ | refine s_pickt ?_ | refine s_pickf ?_ | refine Ops.split_run (fun hg => ?_) (fun hg => ?_) | refine Ops.split_skip (fun hg => ?_) (fun hg => ?_)))
  all_goals (refine e_pure ?_; refine ⟨?_, rfl⟩; simp only [oneOr, Value.bool.injEq]; first | (symm; exact decide_eq_true (by omega)) | (symm; exact decide_eq_false (by omega)) | (rw [decide_eq_decide]; omega))
theorem isLD_yes (c : UInt8) (h : ld8 c.toNat) : TrP Tryz.prog 124 [.int .u8 c.toNat] (.bool true) := by
  have := isLDF c.toNat c.toNat_lt
  rwa [decide_eq_true h] at this
theorem isLD_no (c : UInt8) (h : ¬ ld8 c.toNat) : TrP Tryz.prog 124 [.int .u8 c.toNat] (.bool false) := by
  have := isLDF c.toNat c.toNat_lt
  rwa [decide_eq_false h] at this
theorem isLDH_yes (c : UInt8) (h : ld8 c.toNat) : TrP Tryz.prog 178 [.int .u8 c.toNat] (.bool true) := by
  refine Tr.start (n := 9) (rs := [.tmp 2]) rfl rfl rfl rfl fun B => ?_
  (repeat' (first | refine s_pure (isLD_yes c h) ?_ | refine k_seq ?_ | refine k_region ?_ | refine k_nil ?_ | refine k_then ?_ | refine k_ret ?_ | refine s_gskipf ?_ | refine s_move ?_ | refine s_assign ?_ | refine s_pickt ?_))
  exact e_pure ⟨rfl, rfl⟩
theorem isLDH_no (c : UInt8) (h : ¬ ld8 c.toNat) (h2 : c.toNat ≠ 45) : TrP Tryz.prog 178 [.int .u8 c.toNat] (.bool false) := by
  refine Tr.start (n := 9) (rs := [.tmp 2]) rfl rfl rfl rfl fun B => ?_
  (repeat' (first | refine s_pure (isLD_no c h) ?_ | refine k_seq ?_ | refine k_region ?_ | refine k_nil ?_ | refine k_then ?_ | refine k_ret ?_ | refine s_grun ?_ | refine s_move ?_ | refine s_assign ?_ | refine s_eql_f ?_ | refine s_pickf ?_))
  exact e_pure ⟨rfl, rfl⟩
theorem isScheme_yes (c : UInt8) (h : ld8 c.toNat) : TrP Tryz.prog 142 [.int .u8 c.toNat] (.bool true) := by
  refine Tr.start (n := 17) (rs := [.tmp 2]) rfl rfl rfl rfl fun B => ?_
  (repeat' (first | refine s_pure (isLD_yes c h) ?_ | refine k_seq ?_ | refine k_region ?_ | refine k_nil ?_ | refine k_then ?_ | refine k_ret ?_ | refine s_gskipf ?_ | refine s_move ?_ | refine s_assign ?_ | refine s_pickt ?_))
  exact e_pure ⟨rfl, rfl⟩
theorem isScheme_no (c : UInt8) (h : ¬ ld8 c.toNat) (h2 : c.toNat ≠ 43) (h3 : c.toNat ≠ 46) (h4 : c.toNat ≠ 45) : TrP Tryz.prog 142 [.int .u8 c.toNat] (.bool false) := by
  refine Tr.start (n := 17) (rs := [.tmp 2]) rfl rfl rfl rfl fun B => ?_
  (repeat' (first | refine s_pure (isLD_no c h) ?_ | refine k_seq ?_ | refine k_region ?_ | refine k_nil ?_ | refine k_then ?_ | refine k_ret ?_ | refine s_grun ?_ | refine s_move ?_ | refine s_assign ?_ | refine s_eql_f ?_ | refine s_pickf ?_))
  exact e_pure ⟨rfl, rfl⟩
theorem isURL_yes (c : UInt8) (h : 32 < c.toNat) (h2 : c.toNat ≠ 60) (h3 : c.toNat ≠ 62) : TrP Tryz.prog 143 [.int .u8 c.toNat] (.bool true) := by
  refine Tr.start (n := 13) (rs := [.tmp 2]) rfl rfl rfl rfl fun B => ?_
  (repeat' (first | refine k_seq ?_ | refine k_region ?_ | refine k_nil ?_ | refine k_then ?_ | refine k_ret ?_ | refine s_grun ?_ | refine s_move ?_ | refine s_assign ?_ | refine s_gtr_t ?_ | refine s_neq_t ?_ | refine s_pickt ?_))
  exact e_pure ⟨rfl, rfl⟩
theorem isURL_no (c : UInt8) (h : c.toNat = 62) : TrP Tryz.prog 143 [.int .u8 c.toNat] (.bool false) := by
  refine Tr.start (n := 13) (rs := [.tmp 2]) rfl rfl rfl rfl fun B => ?_
  (repeat' (first | refine k_seq ?_ | refine k_region ?_ | refine k_nil ?_ | refine k_then ?_ | refine k_ret ?_ | refine s_grun ?_ | refine s_move ?_ | refine s_assign ?_ | refine s_gtr_t ?_ | refine s_neq_t ?_ | refine s_neq_f ?_ | refine s_pickt ?_))
  exact e_pure ⟨rfl, rfl⟩

/-- A name of letters and digits, that begins with a letter, and what follows. -/
theorem parseTagName_tr (tx : List UInt8) (i j : Nat) (hl : tx.length ≤ 140737488355328) (hij : i < j) (h0 : ∃ c, tx[i]? = some c ∧ let8 c.toNat) (hn : ∀ k, i ≤ k → k < j → ∃ c, tx[k]? = some c ∧ ld8 c.toNat)
    (he : ∃ c, tx[j]? = some c ∧ ¬ ld8 c.toNat ∧ c.toNat ≠ 45) :
    TrP Tryz.prog 179 [str tx, inat i] (.tuple #[str ((tx.take j).drop i), inat j, .bool true]) := by
  obtain ⟨c0, hc0, hl0⟩ := h0
  obtain ⟨ce, hce, hle, hle2⟩ := he
  have hj := (List.getElem?_eq_some_iff.1 hce).1
  refine Tr.start (n := 37) (rs := [.tmp 4, .tmp 5, .tmp 6]) rfl rfl rfl rfl fun B => ?_
  (repeat' (first | refine s_pure (isLet_yes c0 hl0) ?_ | refine k_seq ?_ | refine k_region ?_ | refine k_nil ?_ | refine k_then ?_ | refine k_true ?_ | refine k_blk ?_ | refine s_grun ?_ | refine s_move ?_ | refine s_assign ?_ | refine s_add1 ?_ | refine s_lss_t ?_ | refine s_pickt ?_ | refine s_lens ?_ | refine s_index ?_))
  refine k_loop (fun k : Nat => [(0, str tx), (1, inat i), (7, inat k)]) (fun _ => []) (fun k => i < k ∧ k ≤ j) (fun k => j - k) (i + 1) ⟨by omega, by omega⟩ (Knows.spec (by repeat (first | exact trivial | refine ⟨rfl, ?_⟩))) (by repeat (first | exact SubH.nilR _ | refine SubH.pick (by repeat (first | exact HTake.here | apply HTake.there)) ?_)) fun k hk => ?_
  obtain ⟨hk1, hk2⟩ := hk
  by_cases hlt : k < j
  · obtain ⟨c, hc, hlc⟩ := hn k (by omega) hlt
    (repeat' (first | refine s_pure (isLDH_yes c hlc) ?_ | refine k_seq ?_ | refine k_region ?_ | refine k_nil ?_ | refine k_then ?_ | refine k_true ?_ | refine k_blk ?_ | refine k_skip ?_ | refine k_block ?_ | refine s_grun ?_ | refine s_move ?_ | refine s_assign ?_ | refine s_add1 ?_ | refine s_lss_t ?_ | refine s_pickt ?_ | refine s_lens ?_ | refine s_index ?_))
    exact ⟨k + 1, (Knows.spec (by repeat (first | exact trivial | refine ⟨rfl, ?_⟩))), (by repeat (first | exact SubH.nilR _ | refine SubH.pick (by repeat (first | exact HTake.here | apply HTake.there)) ?_)), ⟨by omega, by omega⟩, by omega⟩
  · have : k = j := by omega
    subst this
    (repeat' (first | refine s_pure (isLDH_no ce hle hle2) ?_ | refine k_seq ?_ | refine k_region ?_ | refine k_nil ?_ | refine k_then ?_ | refine k_false ?_ | refine k_exit ?_ | refine k_exit_then ?_ | refine k_hit ?_ | refine k_ret ?_ | refine k_ret_then ?_ | refine s_grun ?_ | refine s_move ?_ | refine s_assign ?_ | refine s_lss_t ?_ | refine s_pickt ?_ | refine s_lens ?_ | refine s_index ?_ | refine s_slices ?_))
    exact e_pure ⟨rfl, rfl⟩
theorem parseTagName_none (tx : List UInt8) (i : Nat) (_hl : tx.length ≤ 140737488355328) (h0 : ∃ c, tx[i]? = some c ∧ ¬ let8 c.toNat) :
    TrP Tryz.prog 179 [str tx, inat i] (.tuple #[str [], inat 0, .bool false]) := by
  obtain ⟨c0, hc0, hl0⟩ := h0
  have hj := (List.getElem?_eq_some_iff.1 hc0).1
  refine Tr.start (n := 37) (rs := [.tmp 4, .tmp 5, .tmp 6]) rfl rfl rfl rfl fun B => ?_
  (repeat' (first | refine s_pure (isLet_no c0 hl0) ?_ | refine k_seq ?_ | refine k_region ?_ | refine k_nil ?_ | refine k_then ?_ | refine k_false ?_ | refine k_skip ?_ | refine k_ret ?_ | refine s_grun ?_ | refine s_move ?_ | refine s_assign ?_ | refine s_lss_t ?_ | refine s_pickt ?_ | refine s_lens ?_ | refine s_index ?_))
  exact e_pure ⟨rfl, rfl⟩

/-- A scheme of letters, a colon and what may follow is no tag. -/
theorem openTag_colon (p : Nat) (s : PS) (tx : List UInt8) (i j : Nat) (hl : tx.length ≤ 140737488355328) (hij : i + 1 < j) (h60 : ∃ c, tx[i]? = some c ∧ c.toNat = 60) (h0 : ∃ c, tx[i + 1]? = some c ∧ let8 c.toNat) (hn : ∀ k, i + 1 ≤ k → k < j → ∃ c, tx[k]? = some c ∧ ld8 c.toNat)
    (he : ∃ c, tx[j]? = some c ∧ c.toNat = 58) (cn : Bool) (hcn : s.corner = .bool cn) :
    Tr Tryz.prog 146 [lp p, str tx, inat i] [s.blk p] fun u K => ∃ cn', u = .tuple #[.nilIface, inat 0, .bool false] ∧ K = [({ s with corner := .bool cn' } : PS).blk p] := by
  obtain ⟨par, root, links, lineno, stack, depth, corner, sv, em, list, lists, texts, bt⟩ := s
  subst hcn
  obtain ⟨c60, hc60, h60⟩ := h60
  have hj60 := (List.getElem?_eq_some_iff.1 hc60).1
  obtain ⟨ce, hce, hle⟩ := he
  have hj := (List.getElem?_eq_some_iff.1 hce).1
  have ht := parseTagName_tr tx (i + 1) j hl hij h0 hn ⟨ce, hce, by omega, by omega⟩
  refine Tr.start (n := 131) (rs := [.tmp 6, .tmp 7, .tmp 8]) rfl rfl rfl rfl fun B => ?_
  (repeat' (first | refine s_pure (ht) ?_ | refine k_seq ?_ | refine k_region ?_ | refine k_nil ?_ | refine k_then ?_ | refine k_true ?_ | refine k_false ?_ | refine k_skip ?_ | refine s_grun ?_ | refine s_move ?_ | refine s_assign ?_ | refine s_add1 ?_ | refine s_geq_f ?_ | refine s_neq_f ?_ | refine s_pickf ?_ | refine s_lens ?_ | refine s_index ?_ | refine s_ext ?_))
  generalize (tx.take j).drop (i + 1) = nm
  refine k_midx (fun c : Bool => [(0, lp p), (1, str tx), (2, inat i), (9, str nm), (10, inat j)]) (fun c => [(⟨par, root, links, lineno, stack, depth, .bool c, sv, em, list, lists, texts, bt⟩ : PS).blk p]) (fun _ => True) ?_ ?_
  · by_cases h1 : nm = [112, 114, 101]
    · subst h1
      (repeat' (first | refine k_seq ?_ | refine k_region ?_ | refine k_nil ?_ | refine k_then ?_ | refine k_true ?_ | refine k_blk ?_ | refine k_skip ?_ | refine k_block ?_ | refine s_move ?_ | refine s_assign ?_ | refine s_field ?_ | refine s_nilp ?_ | refine s_eqs_t ?_ | refine s_store ?_))
      exact ⟨true, (by repeat (first | exact trivial | refine ⟨rfl, ?_⟩)), (by repeat (first | exact SubH.nilR _ | refine SubH.pick (by repeat (first | exact HTake.here | apply HTake.there)) ?_)), trivial⟩
    · by_cases h2 : nm = [115, 99, 114, 105, 112, 116]
      · subst h2
        (repeat' (first | refine k_seq ?_ | refine k_region ?_ | refine k_nil ?_ | refine k_then ?_ | refine k_true ?_ | refine k_false ?_ | refine k_blk ?_ | refine k_skip ?_ | refine k_block ?_ | refine s_move ?_ | refine s_assign ?_ | refine s_field ?_ | refine s_nilp ?_ | refine s_eqs_t ?_ | refine s_eqs_f ?_ | refine s_store ?_))
        exact ⟨true, (by repeat (first | exact trivial | refine ⟨rfl, ?_⟩)), (by repeat (first | exact SubH.nilR _ | refine SubH.pick (by repeat (first | exact HTake.here | apply HTake.there)) ?_)), trivial⟩
      · by_cases h3 : nm = [115, 116, 121, 108, 101]
        · subst h3
          (repeat' (first | refine k_seq ?_ | refine k_region ?_ | refine k_nil ?_ | refine k_then ?_ | refine k_true ?_ | refine k_false ?_ | refine k_blk ?_ | refine k_skip ?_ | refine k_block ?_ | refine s_move ?_ | refine s_assign ?_ | refine s_field ?_ | refine s_nilp ?_ | refine s_eqs_t ?_ | refine s_eqs_f ?_ | refine s_store ?_))
          exact ⟨true, (by repeat (first | exact trivial | refine ⟨rfl, ?_⟩)), (by repeat (first | exact SubH.nilR _ | refine SubH.pick (by repeat (first | exact HTake.here | apply HTake.there)) ?_)), trivial⟩
        · by_cases h4 : nm = [116, 101, 120, 116, 97, 114, 101, 97]
          · subst h4
            (repeat' (first | refine k_seq ?_ | refine k_region ?_ | refine k_nil ?_ | refine k_then ?_ | refine k_true ?_ | refine k_false ?_ | refine k_blk ?_ | refine k_block ?_ | refine s_move ?_ | refine s_assign ?_ | refine s_field ?_ | refine s_nilp ?_ | refine s_eqs_t ?_ | refine s_eqs_f ?_ | refine s_store ?_))
            exact ⟨true, (by repeat (first | exact trivial | refine ⟨rfl, ?_⟩)), (by repeat (first | exact SubH.nilR _ | refine SubH.pick (by repeat (first | exact HTake.here | apply HTake.there)) ?_)), trivial⟩
          · (repeat' (first | refine k_seq ?_ | refine k_region ?_ | refine k_nil ?_ | refine k_then ?_ | refine k_false ?_ | refine k_blk ?_ | refine k_skip ?_ | refine k_block ?_ | refine s_assign ?_ | refine s_eqs_f ?_))
            exact ⟨cn, (by repeat (first | exact trivial | refine ⟨rfl, ?_⟩)), (by repeat (first | exact SubH.nilR _ | refine SubH.pick (by repeat (first | exact HTake.here | apply HTake.there)) ?_)), trivial⟩
  · rintro c -
    (repeat' (first | refine k_seq ?_ | refine k_blk ?_))
    refine k_loop (fun _ : Unit => [(0, lp p), (1, str tx), (2, inat i), (9, str nm), (10, inat j)]) (fun _ => [(⟨par, root, links, lineno, stack, depth, .bool c, sv, em, list, lists, texts, bt⟩ : PS).blk p]) (fun _ => True) (fun _ => 0) () trivial (Knows.spec (by repeat (first | exact trivial | refine ⟨rfl, ?_⟩))) (by repeat (first | exact SubH.nilR _ | refine SubH.pick (by repeat (first | exact HTake.here | apply HTake.there)) ?_)) fun k hk => ?_
    (repeat' (first | refine k_seq ?_ | refine k_region ?_ | refine k_nil ?_ | refine k_then ?_ | refine k_true ?_ | refine k_blk ?_ | refine k_ret ?_ | refine k_ret_then ?_ | refine k_ret_block ?_ | refine s_grun ?_ | refine s_move ?_ | refine s_assign ?_ | refine s_geq_f ?_ | refine s_neq_t ?_ | refine s_pickt ?_ | refine s_pickf ?_ | refine s_lens ?_ | refine s_index ?_))
    exact e_ret _ ⟨c, rfl, rfl⟩ (by repeat (first | exact SubH.nilR _ | refine SubH.pick (by repeat (first | exact HTake.here | apply HTake.there)) ?_))

theorem closeTag_no (p : Nat) (tx : List UInt8) (hl : tx.length ≤ 140737488355328) (h2 : 3 ≤ tx.length) (h0 : ∃ c, tx[1]? = some c ∧ c.toNat ≠ 47) (h60 : ∃ c, tx[0]? = some c ∧ c.toNat = 60) :
    TrP Tryz.prog 147 [lp p, str tx, inat 0] (.tuple #[.nilIface, inat 0, .bool false]) := by
  obtain ⟨c0, hc0, hl0⟩ := h0
  obtain ⟨c60, hc60, h60⟩ := h60
  refine Tr.start (n := 72) (rs := [.tmp 6, .tmp 7, .tmp 8]) rfl rfl rfl rfl fun B => ?_
  (repeat' (first | refine k_seq ?_ | refine k_region ?_ | refine k_nil ?_ | refine k_then ?_ | refine k_true ?_ | refine k_ret ?_ | refine k_ret_then ?_ | refine s_grun ?_ | refine s_move ?_ | refine s_assign ?_ | refine s_add1 ?_ | refine s_add2 ?_ | refine s_geq_f ?_ | refine s_neq_t ?_ | refine s_neq_f ?_ | refine s_pickf ?_ | refine s_lens ?_ | refine s_index ?_))
  exact e_pure ⟨rfl, rfl⟩
end Go.Proofs

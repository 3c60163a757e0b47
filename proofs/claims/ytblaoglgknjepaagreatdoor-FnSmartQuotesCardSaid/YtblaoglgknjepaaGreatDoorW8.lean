/- newPara at a first line. Conditions: no table option. -/
import Derived.Test.YtblaoglgknjepaaGreatDoorW7
namespace Go.Proofs
open Go Go.Eng
set_option maxRecDepth 20000
set_option maxHeartbeats 4000000

/-- A paragraph's builder, and its lines. -/
abbrev pbb (b : Nat) (tv : Value) : Blk := [(b, cellsOf [tv, .pointer none] 134)]
abbrev Strs (v : Value) (l : List (List UInt8)) (Bk : Blk) : Prop := Own 9 1 v l.length (l.map str) Bk
/-- A parser's options. -/
structure PO where
  headID : Bool
  del : Bool
  tasks : Bool
  auto : Bool
  autoHTTP : Bool
  table : Bool
  emoji : Bool
  dots : Bool
  dashes : Bool
  quotes : Bool
abbrev PO.blk (o : PO) (r : Nat) : Blk := [(r, cellsOf [.bool o.headID, .bool o.del, .bool o.tasks, .bool o.auto, .bool o.autoHTTP, .bool o.table, .bool o.emoji, .bool o.dots, .bool o.dashes, .bool o.quotes] 51)]

theorem newPara_first (p g d cap pr : Nat) (o : PO) (s : PS) (xs cur : List Value) (bty : Nat) (bv : Value) (ln i : Nat) (tx : List UInt8) (nl : Nat) (hl : tx.length ≤ 140737488355328) (hi : i ≤ tx.length) (hd : d ≤ 100000)
    (hO : Stk (stk g (d + 1) cap) (d + 1) xs (stb g cur)) (hb : xs[d * 4]? = some (.iface bty bv)) (ht : Nat.beq bty 129 = false)
    (hs : s.stack = stk g (d + 1) cap) (hdep : s.depth = inat d) (hln : s.lineno = inat ln) (hpar : s.par = lp pr) (htab : o.table = false) :
    Tr Tryz.prog 35 [lp p, lnv i tx nl] [s.blk p, stb g cur, o.blk pr] fun u K => u = .tuple #[lnv 0 [] 0, .bool true] ∧ ∃ g' cap' cur' pb tv Bt, Stk (stk g' (d + 2) cap') (d + 2) (xs ++ [.iface 129 (lp pb), .slice none 0 0, inat ln, inat ln]) (stb g' cur') ∧
      Strs tv [ltrim (tx.drop i)] Bt ∧ K = [({ s with stack := stk g' (d + 2) cap' } : PS).blk p, stb g' cur', o.blk pr, pbb pb tv, Bt] := by
  obtain ⟨par, root, links, lineno, stack, depth, corner, str, em, list, lists, texts, bt⟩ := s
  obtain ⟨o1, o2, o3, o4, o5, o6, o7, o8, o9, o10⟩ := o
  subst hs; subst hdep; subst hln; subst hpar; subst htab
  have hb' : cur[0 + (d + 1 - 1) * 4 + 0]? = some (.iface bty bv) := by
    rw [show 0 + (d + 1 - 1) * 4 + 0 = d * 4 by omega]; exact hO.get hb
  refine Tr.start (n := 175) (rs := [.cell 4 73, .tmp 5]) rfl rfl rfl rfl fun B => ?_
  (repeat' (first | refine Wp.draw_all (id := 2) Mixed.out (by kernel_rfl) ?_ | refine Wp.draw_tail (id := 9) 36 Mixed.out (by kernel_rfl) ?_ | refine s_callD (para_no p g (d + 1) cap _ cur bty bv (by omega) (by omega) hb' ht rfl) ?_ | refine s_callD (trimSpaceString_tr _ i tx nl hl hi) ?_ | refine k_seq ?_ | refine k_region ?_ | refine k_nil ?_ | refine k_then ?_ | refine k_false ?_ | refine k_skip ?_ | refine s_gskipt ?_ | refine s_move ?_ | refine s_assign ?_ | refine s_pickf ?_ | refine s_mki ?_ | refine s_nep0 ?_ | refine s_alloc (fun _ => ?_) | refine s_box (fun _ => ?_) | refine u_nil ?_ | refine u_gskipt ?_ | refine u_move ?_ | refine u_assign ?_ | refine u_load ?_ | refine u_field ?_ | refine u_nilp ?_ | refine u_eql_f ?_ | refine u_pickf ?_ | refine u_len ?_ | refine u_subz ?_))
  rename_i r0 r1 pb
  refine s_call (addBlock_tr p g d cap _ xs cur _ _ ln hd hO rfl rfl rfl) (fun u K hR => ?_)
  obtain ⟨rfl, g', cap', cur', hO', rfl⟩ := hR
  (repeat' (first | refine k_seq ?_ | refine k_region ?_ | refine k_nil ?_ | refine k_then ?_ | refine s_move ?_ | refine s_load ?_ | refine s_field ?_ | refine s_nilp ?_ | refine s_bsl1 (fun _ => ?_)))
  refine s_nilblk ?_
  refine s_app (Own.nil _ _) (by omega) (fun v' Bk' hT => ?_)
  obtain ⟨g2, cap2, cur2, rfl, rfl, h1, h2, h3, h4⟩ := hT.pos
  (repeat' (first | refine k_seq ?_ | refine k_region ?_ | refine k_nil ?_ | refine k_then ?_ | refine k_ret ?_ | refine s_assign ?_ | refine s_field ?_ | refine s_nilp ?_ | refine s_store ?_ | refine s_storea ?_ | refine s_build ?_))
  exact e_ret _ ⟨rfl, g', cap', cur', pb, _, _, hO', hT, rfl⟩ (by repeat (first | exact SubH.nilR _ | refine SubH.pick (by repeat (first | exact HTake.here | apply HTake.there)) ?_))
end Go.Proofs

/- Steps of the walk of the program and plain facts on what it computes. Conditions: as each theorem states them. -/
import Derived.Test.YthmgajolaekpdaaGreatDoorT15
import Derived.Test.YthmgajolaekpdaaGreatDoorT14
import Derived.Test.YthmgajolaekpdaaGreatDoorT08
namespace Go.Proofs
open Go Go.Eng
set_option maxRecDepth 20000
set_option maxHeartbeats 8000000

/-- Where the loop over the lines stands. -/
inductive ALoop where
  | a
  | b (cn : Bool) (e : Nat) (g cap : Nat) (cur : List Value) (pb : Nat) (tv : Value) (Bt : Blk)

theorem parse_al (pr : Nat) (o : PO) (tx : List UInt8) (m j : Nat) (hA : ALink tx 0 m j) (hp : ALine tx) (hcc : ∀ d ∈ tx, d ≠ 10 ∧ d ≠ 13 ∧ d ≠ 0) (hlt0 : ltrim tx = tx) (IL : Option Addr → Nat → Nat → Blk → Prop) (htab : o.table = false) (htask : o.tasks = false) (h1 : at0 tx 0 ≠ 32) (h2 : at0 tx 0 ≠ 9) (h3 : at0 tx 0 ≠ 10) (h4 : at0 tx 0 ≠ 91)
    (hI : ∀ (p : Nat) (s : PS), s.par = lp pr → (∃ cn, s.corner = .bool cn) → Tr Tryz.prog 50 [lp p, str tx] [s.blk p, o.blk pr] fun u K => ∃ s' : PS, ∃ ia im ic G, u = .slice ia im ic ∧ IL ia im ic G ∧ s'.par = s.par ∧ s'.root = s.root ∧ K = [s'.blk p, o.blk pr, G]) :
    Tr Tryz.prog 35 [lp pr, str tx] [o.blk pr] fun u K => ∃ d q t cv e ia im ic IB ja jm jc G, u = .tuple #[lp d, cv] ∧ Blks (.slice ia im ic) [.iface 146 (lp q)] IB ∧ IL ja jm jc G ∧
      K = [o.blk pr, docb d 0 e (.slice ia im ic) (.map none), pgb q 1 (1 + 1 - 1) t, txb t 1 (1 + 1 - 1) (.slice ja jm jc) tx, IB, G] := by
  have hno : ∀ c : UInt8, c = 0 ∨ c = 13 → ∀ d ∈ tx, d ≠ c := by
    intro c hc d hd e
    subst e
    rcases hc with hc | hc
    · exact (hcc d hd).2.2 hc
    · exact (hcc d hd).2.1 hc
  have htl : tx.length ≤ 100000 := hp.len1
  have n0 := fst1_no (hno 0 (.inl rfl))
  have htl' : tx.length ≤ 140737488355328 := by omega
  have hne : ¬ tx = [] := by intro h; subst h; exact hp.ink rfl
  have hpos : 0 < tx.length := by cases tx with | nil => exact absurd rfl hne | cons _ _ => simp
  obtain ⟨o1, o2, o3, o4, o5, o6, o7, o8, o9, o10⟩ := o
  subst htab; subst htask
  refine Tr.start (n := 114) (rs := [.tmp 4, .tmp 5]) rfl rfl rfl rfl fun B => ?_
  (repeat' (first | refine s_pure (zzContains_tr tx 0 htl' n0) ?_ | refine k_seq ?_ | refine k_region ?_ | refine k_nil ?_ | refine k_then ?_ | refine k_false ?_ | refine k_skip ?_ | refine s_move ?_ | refine s_assign ?_ | refine s_field ?_ | refine s_mki ?_ | refine s_store ?_ | refine s_buildx ?_ | refine s_alloc (fun _ => ?_) | refine s_box (fun _ => ?_)))
  rename_i p rb
  refine s_call (addBlock_root p (⟨lp pr, .pointer none, .map none, inat 0, .slice none 0 0, .int .i64 (-1), .bool false, str [], .int .i64 0, .slice none 0 0, .slice none 0 0, .slice none 0 0, bt0⟩ : PS) _ (lp rb) 0 rfl rfl rfl) (fun u K hR => ?_)
  obtain ⟨rfl, g, cap, cur, hO, rfl⟩ := hR
  (repeat' (first | refine k_seq ?_ | refine k_nil ?_ | refine k_then ?_))
  refine k_midx (fun x : ALoop => [(0, lp pr), (6, lp p)])
    (fun x => match x with
      | .a => []
      | .b cn e g' cap' cur' pb tv Bt => [(⟨lp pr, .pointer none, .map none, inat 1, stk g' 2 cap', inat 0, .bool cn, str [], .int .i64 0, .slice none 0 0, .slice none 0 0, .slice none 0 0, bt0⟩ : PS).blk p, stb g' cur', (⟨o1, o2, false, o4, o5, false, o7, o8, o9, o10⟩ : PO).blk pr, pbb pb tv, Bt])
    (fun x => match x with
      | .a => False
      | .b cn e g' cap' cur' pb tv Bt => Stk (stk g' 2 cap') 2 ([.iface 91 (lp rb), .slice none 0 0, inat 0, inat e] ++ [.iface 155 (lp pb), .slice none 0 0, inat 1, inat 1]) (stb g' cur') ∧ Strs tv [tx] Bt) ?_ ?_
  · (repeat' (first | refine k_blk ?_))
    refine k_loop (fun x : ALoop => match x with
      | .a => [(0, lp pr), (1, str tx), (6, lp p)]
      | .b .. => [(0, lp pr), (1, str []), (6, lp p)])
      (fun x => match x with
      | .a => [(⟨lp pr, .pointer none, .map none, inat 0, stk g 1 cap, .int .i64 (-1), .bool false, str [], .int .i64 0, .slice none 0 0, .slice none 0 0, .slice none 0 0, bt0⟩ : PS).blk p, stb g cur, (⟨o1, o2, false, o4, o5, false, o7, o8, o9, o10⟩ : PO).blk pr]
      | .b cn e g' cap' cur' pb tv Bt => [(⟨lp pr, .pointer none, .map none, inat 1, stk g' 2 cap', inat 0, .bool cn, str [], .int .i64 0, .slice none 0 0, .slice none 0 0, .slice none 0 0, bt0⟩ : PS).blk p, stb g' cur', (⟨o1, o2, false, o4, o5, false, o7, o8, o9, o10⟩ : PO).blk pr, pbb pb tv, Bt])
      (fun x => match x with
      | .a => True
      | .b cn e g' cap' cur' pb tv Bt => Stk (stk g' 2 cap') 2 ([.iface 91 (lp rb), .slice none 0 0, inat 0, inat e] ++ [.iface 155 (lp pb), .slice none 0 0, inat 1, inat 1]) (stb g' cur') ∧ Strs tv [tx] Bt)
      (fun x => match x with
      | .a => 1
      | .b .. => 0) .a trivial (Knows.spec (by repeat (first | exact trivial | refine ⟨rfl, ?_⟩))) (by repeat (first | exact SubH.nilR _ | refine SubH.pick (by repeat (first | exact HTake.here | apply HTake.there)) ?_)) fun x hx => ?_
    cases x with
    | a =>
      have n13 := fst1_no (hno 13 (.inr rfl))
      have n10 := fst1_no (c := 10) (l := tx) (fun d hd => (hcc d hd).1)
      (repeat' (first | refine s_pure (zzIndex_tr tx 10 htl' (-1) (by rw [if_neg n10])) ?_ | refine s_pure (zzIndex_tr tx 13 htl' (-1) (by rw [if_neg n13])) ?_ | refine k_seq ?_ | refine k_region ?_ | refine k_nil ?_ | refine k_then ?_ | refine k_true ?_ | refine k_false ?_ | refine k_blk ?_ | refine k_skip ?_ | refine k_block ?_ | refine s_gskipt ?_ | refine s_gskipu ?_ | refine s_move ?_ | refine s_assign ?_ | refine s_load ?_ | refine s_field ?_ | refine s_add1 ?_ | refine s_geq_f ?_ | refine s_pickf ?_ | refine s_nes_t ?_ | refine s_store ?_ | refine s_buildx ?_))
      refine s_call (addLine_al p g cap pr (⟨o1, o2, false, o4, o5, false, o7, o8, o9, o10⟩ : PO) (⟨lp pr, .pointer none, .map none, inat 1, stk g 1 cap, .int .i64 (-1), .bool false, str [], .int .i64 0, .slice none 0 0, .slice none 0 0, .slice none 0 0, bt0⟩ : PS) cur _ (lp rb) _ _ _ 1 tx 0 m j hA hp false rfl hO rfl rfl rfl rfl rfl rfl) (fun u K hR => ?_)
      obtain ⟨rfl, g', cap', cur', pb, tv, Bt, k1, k2, cn, rfl⟩ := hR
      rw [hlt0] at k2
      (repeat' (first | refine k_nil ?_ | refine k_then ?_ | refine k_block ?_))
      exact ⟨.b cn 0 g' cap' cur' pb tv Bt, (Knows.spec (by repeat (first | exact trivial | refine ⟨rfl, ?_⟩))), (by repeat (first | exact SubH.nilR _ | refine SubH.pick (by repeat (first | exact HTake.here | apply HTake.there)) ?_)), ⟨k1, k2⟩, (by show _ < _; simp)⟩
    | b cn e g' cap' cur' pb tv Bt =>
      (repeat' (first | refine k_seq ?_ | refine k_region ?_ | refine k_nil ?_ | refine k_then ?_ | refine k_false ?_ | refine k_exit ?_ | refine k_exit_then ?_ | refine k_hit ?_ | refine s_move ?_ | refine s_nes_f ?_))
      exact ⟨.b cn e g' cap' cur' pb tv Bt, (by repeat (first | exact trivial | refine ⟨rfl, ?_⟩)), (by repeat (first | exact SubH.nilR _ | refine SubH.pick (by repeat (first | exact HTake.here | apply HTake.there)) ?_)), hx⟩
  · intro x hx
    cases x with
    | a => exact hx.elim
    | b cn e g' cap' cur' pb tv Bt =>
      obtain ⟨k1, k2⟩ := hx
      (repeat' (first | refine k_seq ?_ | refine k_region ?_))
      refine s_nilblk ?_
      refine s_call (trimAll p g' cap' pb rb (⟨lp pr, .pointer none, .map none, inat 1, stk g' 2 cap', inat 0, .bool cn, str [], .int .i64 0, .slice none 0 0, .slice none 0 0, .slice none 0 0, bt0⟩ : PS) cur' tv Bt tx [] [] _ 1 1 0 e htl' hpos h1 h2 h3 h4 (by omega) k1 rfl none rfl (Own.nil _ _) (by simp) [tx] k2 (jn_one tx) (by simp) (by simp) (by omega)) (fun u K hR => ?_)
      obtain ⟨q, t, v', TB', cur2, ia, im, ic, IB, d, rfl, j1, j2, rfl⟩ := hR
      have j1' : Own 98 1 v' (0 + 1) [lp t] TB' := j1
      obtain ⟨g3, cap3, cur3, rfl, rfl, i1, i2, i3, i4⟩ := j1'.pos
      have c0 : cur3[0 + 0 * 1]? = some (lp t) := j1'.get rfl
      (repeat' (first | refine k_seq ?_ | refine k_region ?_ | refine k_nil ?_ | refine k_then ?_ | refine s_move ?_ | refine s_load ?_ | refine s_field ?_ | refine s_len ?_))
      refine k_midx (fun x : ILoop => [(0, lp pr), (6, lp p)])
        (fun x => match x with
          | .a => []
          | .b s' ja jm jc G => [s'.blk p, (⟨o1, o2, false, o4, o5, false, o7, o8, o9, o10⟩ : PO).blk pr, txb t 1 (1 + 1 - 1) (.slice ja jm jc) tx, G, [(g3, cellsOf cur3 98)], pgb q 1 (1 + 1 - 1) t, IB, docb d 0 e (.slice ia im ic) (.map none)])
        (fun x => match x with
          | .a => False
          | .b s' ja jm jc G => IL ja jm jc G ∧ s'.par = lp pr ∧ s'.root = lp d) ?_ ?_
      · (repeat' (first | refine k_blk ?_))
        refine k_loop (fun x : ILoop => match x with
          | .a => [(0, lp pr), (6, lp p), (81, .slice (some ⟨g3, 0, none⟩) (0 + 1) cap3), (82, inat (0 + 1)), (83, inat 0)]
          | .b .. => [(0, lp pr), (6, lp p), (81, .slice (some ⟨g3, 0, none⟩) (0 + 1) cap3), (82, inat (0 + 1)), (83, inat 1)])
          (fun x => match x with
          | .a => [(⟨lp pr, lp d, .map none, inat 1, stk g' 0 cap', inat 0, .bool cn, str [], .int .i64 0, .slice none 0 0, .slice none 0 0, .slice (some ⟨g3, 0, none⟩) (0 + 1) cap3, bt0⟩ : PS).blk p, (⟨o1, o2, false, o4, o5, false, o7, o8, o9, o10⟩ : PO).blk pr, txb t 1 (1 + 1 - 1) (.slice none 0 0) tx, [(g3, cellsOf cur3 98)], pgb q 1 (1 + 1 - 1) t, IB, docb d 0 e (.slice ia im ic) (.map none)]
          | .b s' ja jm jc G => [s'.blk p, (⟨o1, o2, false, o4, o5, false, o7, o8, o9, o10⟩ : PO).blk pr, txb t 1 (1 + 1 - 1) (.slice ja jm jc) tx, G, [(g3, cellsOf cur3 98)], pgb q 1 (1 + 1 - 1) t, IB, docb d 0 e (.slice ia im ic) (.map none)])
          (fun x => match x with
          | .a => True
          | .b s' ja jm jc G => IL ja jm jc G ∧ s'.par = lp pr ∧ s'.root = lp d)
          (fun x => match x with
          | .a => 1
          | .b .. => 0) .a trivial (Knows.spec (by repeat (first | exact trivial | refine ⟨rfl, ?_⟩))) (by repeat (first | exact SubH.nilR _ | refine SubH.pick (by repeat (first | exact HTake.here | apply HTake.there)) ?_)) fun x hx => ?_
        cases x with
        | a =>
          (repeat' (first | refine s_load (hc := c0) ?_ | refine k_seq ?_ | refine k_region ?_ | refine k_nil ?_ | refine k_then ?_ | refine k_true ?_ | refine k_blk ?_ | refine k_skip ?_ | refine s_move ?_ | refine s_assign ?_ | refine s_load ?_ | refine s_field ?_ | refine s_nilp ?_ | refine s_lss_t ?_ | refine s_idxa ?_))
          refine s_call (hI p (⟨lp pr, lp d, .map none, inat 1, stk g' 0 cap', inat 0, .bool cn, str [], .int .i64 0, .slice none 0 0, .slice none 0 0, .slice (some ⟨g3, 0, none⟩) (0 + 1) cap3, bt0⟩ : PS) rfl ⟨cn, rfl⟩) (fun u K hR => ?_)
          obtain ⟨s', ja, jm, jc, G, rfl, m1, m2, m3, rfl⟩ := hR
          (repeat' (first | refine k_region ?_ | refine k_nil ?_ | refine k_then ?_ | refine k_block ?_ | refine s_move ?_ | refine s_field ?_ | refine s_nilp ?_ | refine s_add1 ?_ | refine s_store ?_))
          exact ⟨.b s' ja jm jc G, (Knows.spec (by repeat (first | exact trivial | refine ⟨rfl, ?_⟩))), (by repeat (first | exact SubH.nilR _ | refine SubH.pick (by repeat (first | exact HTake.here | apply HTake.there)) ?_)), ⟨m1, m2, m3⟩, (by show 0 < 1; omega)⟩
        | b s' ja jm jc G =>
          (repeat' (first | refine k_seq ?_ | refine k_region ?_ | refine k_nil ?_ | refine k_then ?_ | refine k_false ?_ | refine k_exit ?_ | refine k_exit_then ?_ | refine k_hit ?_ | refine s_lss_f ?_))
          exact ⟨.b s' ja jm jc G, (by repeat (first | exact trivial | refine ⟨rfl, ?_⟩)), (by repeat (first | exact SubH.nilR _ | refine SubH.pick (by repeat (first | exact HTake.here | apply HTake.there)) ?_)), hx⟩
      · intro x hx
        cases x with
        | a => exact hx.elim
        | b s' ja jm jc G =>
          obtain ⟨m1, m2, m3⟩ := hx
          obtain ⟨par, root, links, lineno, stack, depth, corner, sv, em, list, lists, texts, bt⟩ := s'
          subst m2 m3
          (repeat' (first | refine Wp.draw_all (id := 38) Mixed.out (by kernel_rfl) ?_ | refine k_seq ?_ | refine k_region ?_ | refine k_nil ?_ | refine k_then ?_ | refine k_false ?_ | refine k_skip ?_ | refine k_ret ?_ | refine s_move ?_ | refine s_load ?_ | refine s_field ?_ | refine s_nilp ?_ | refine u_nil ?_ | refine u_assign ?_ | refine u_load ?_ | refine u_field ?_))
          exact e_ret _ ⟨d, q, t, _, e, ia, im, ic, IB, ja, jm, jc, G, rfl, j2, m1, rfl⟩ (by repeat (first | exact SubH.nilR _ | refine SubH.pick (by repeat (first | exact HTake.here | apply HTake.there)) ?_))
end Go.Proofs

namespace Go.Proofs
open Go Go.Eng
set_option maxRecDepth 20000
set_option maxHeartbeats 8000000

/-- Where the scan for inlines stands. -/
structure LA where
  d : List LTk
  r : List LTk
  e : Nat
  cn : Bool
  vals : List Value
  v : Value
  LB : Blk
  IB : Blk

/-- What the scan asks of its tokens. -/
structure LTkOK (toks : List LTk) : Prop where
  lit : ∀ c, .lit c ∈ toks → quiet c
  leaf : ∀ d r bs x, toks = d ++ .leaf bs x :: r → bs ≠ [] ∧ (∃ c, (bytesL toks)[(bytesL d).length]? = some c ∧ c.toNat = 60) ∧ Nat.beq x.ty 127 = false ∧
    ∀ (p : Nat) (s : PS) (cn : Bool), s.corner = .bool cn → Tr Tryz.prog 62 [lp p, str (bytesL toks), inat (bytesL d).length] [s.blk p] fun u K => ∃ q cn', u = .tuple #[.iface x.ty (lp q), inat (bytesL d).length, inat ((bytesL d).length + bs.length), .bool true] ∧ K = [({ s with corner := .bool cn' } : PS).blk p, [x.cell q]]
  len : (bytesL toks).length ≤ 100000
  trim : btrim (bytesL toks) = bytesL toks
  ne : itemsL toks ≠ []
  kind : ∀ x ∈ itemsL toks, x.ty = 149 ∨ (Nat.beq x.ty 149 = false ∧ Nat.beq x.ty 183 = false ∧ Nat.beq x.ty 127 = false)
  adj : ∀ (j : Nat) (x y : LIt), (itemsL toks)[j]? = some x → (itemsL toks)[j + 1]? = some y → x.ty = 149 → y.ty ≠ 149

theorem inlineL_tr (p pr : Nat) (o : PO) (s : PS) (toks : List LTk) (hok : LTkOK toks) (cn0 : Bool) (hcn : s.corner = .bool cn0)
    (hq1 : o.dots = false) (hq2 : o.dashes = false) (hq3 : o.quotes = false) (hq4 : o.del = false) (hq5 : o.emoji = false) (hq6 : o.auto = false) (hpar : s.par = lp pr) :
    Tr Tryz.prog 50 [lp p, str (bytesL toks)] [s.blk p, o.blk pr] fun u K => ∃ (s' : PS) (ia : Option Addr) (im ic : Nat) (G : Blk), u = .slice ia im ic ∧ (∃ vals LB IB, ItsL (itemsL toks) vals IB ∧ Inls (.slice ia im ic) vals LB ∧ G = LB ++ IB) ∧ s'.par = s.par ∧ s'.root = s.root ∧ K = [s'.blk p, o.blk pr, G] := by
  obtain ⟨par, root, links, lineno, stack, depth, corner, sv, em, list, lists, texts, bt⟩ := s
  obtain ⟨o1, o2, o3, o4, o5, o6, o7, o8, o9, o10⟩ := o
  subst hq1; subst hq2; subst hq3; subst hq4; subst hq5; subst hq6; subst hpar; subst hcn
  have hlen0 := hok.len
  have hl' : (bytesL toks).length ≤ 140737488355328 := by omega
  have hbt := btrim_tr (bytesL toks) hl'
  rw [hok.trim] at hbt
  refine Tr.start (n := 335) (rs := [.tmp 4]) rfl rfl rfl rfl fun B => ?_
  (repeat' (first | refine s_pure (hbt) ?_ | refine k_seq ?_ | refine k_region ?_ | refine k_nil ?_ | refine k_then ?_ | refine s_move ?_ | refine s_assign ?_ | refine s_field ?_ | refine s_nilp ?_ | refine s_store ?_))
  refine k_midx (fun x : LA => [(0, lp p), (1, str (bytesL toks))]) (fun x => [(⟨lp pr, root, links, lineno, stack, depth, .bool x.cn, str (bytesL toks), inat x.e, x.v, lists, texts, bt⟩ : PS).blk p, (⟨o1, false, o3, false, o5, o6, false, false, false, false⟩ : PO).blk pr, x.LB, x.IB])
    (fun x => x.r = [] ∧ toks = x.d ++ x.r ∧ x.e ≤ (bytesL x.d).length ∧ ((bytesL toks).take (bytesL x.d).length).drop x.e = (stL x.d).2 ∧ ItsL (stL x.d).1 x.vals x.IB ∧ Inls x.v x.vals x.LB ∧ x.vals.length ≤ 2 * x.e) ?_ ?_
  · (repeat' (first | refine k_blk ?_))
    refine k_loop (fun x : LA => [(0, lp p), (1, str (bytesL toks)), (5, .slice none 0 0), (6, .int .i64 0), (7, .bool false), (8, inat (bytesL x.d).length)]) (fun x => [(⟨lp pr, root, links, lineno, stack, depth, .bool x.cn, str (bytesL toks), inat x.e, x.v, lists, texts, bt⟩ : PS).blk p, (⟨o1, false, o3, false, o5, o6, false, false, false, false⟩ : PO).blk pr, x.LB, x.IB])
      (fun x => toks = x.d ++ x.r ∧ x.e ≤ (bytesL x.d).length ∧ ((bytesL toks).take (bytesL x.d).length).drop x.e = (stL x.d).2 ∧ ItsL (stL x.d).1 x.vals x.IB ∧ Inls x.v x.vals x.LB ∧ x.vals.length ≤ 2 * x.e) (fun x => x.r.length) ⟨[], toks, 0, cn0, [], .slice none 0 0, [], []⟩ ⟨rfl, Nat.le_refl _, by simp [bytesL], .nil, Own.nil _ _, Nat.le_refl _⟩ (Knows.spec (by repeat (first | exact trivial | refine ⟨rfl, ?_⟩))) (SubH.trans (H' := [_, _]) (by repeat (first | exact SubH.nilR _ | refine SubH.pick (by repeat (first | exact HTake.here | apply HTake.there)) ?_)) SubH.nil2) fun x hx => ?_
    obtain ⟨d, r, e, cn, vals, v, LB, IB⟩ := x
    obtain ⟨i1, i2, i3, i4, i5, i6⟩ := hx
    simp only at i1 i2 i3 i4 i5 i6 ⊢
    cases r with
    | nil =>
      have hd : d = toks := by simpa using i1.symm
      subst hd
      (repeat' (first | refine k_seq ?_ | refine k_region ?_ | refine k_nil ?_ | refine k_then ?_ | refine k_false ?_ | refine k_exit ?_ | refine k_exit_then ?_ | refine k_hit ?_ | refine s_move ?_ | refine s_lss_f ?_ | refine s_lens ?_))
      exact ⟨⟨d, [], e, cn, vals, v, LB, IB⟩, (by repeat (first | exact trivial | refine ⟨rfl, ?_⟩)), (by repeat (first | exact SubH.nilR _ | refine SubH.pick (by repeat (first | exact HTake.here | apply HTake.there)) ?_)), rfl, (by simp), i2, i3, i4, i5, i6⟩
    | cons t r =>
      have hlen : (bytesL toks).length = (bytesL d).length + t.bytes.length + (bytesL r).length := by rw [i1]; simp [bytesL]; omega
      cases t with
      | lit c =>
        have hc : (bytesL toks)[(bytesL d).length]? = some c := by rw [i1]; exact at_litL d r c
        have hq : quiet c := hok.lit c (by rw [i1]; simp)
        simp only [LTk.bytes, List.length_cons, List.length_nil] at hlen
        have e1 : (bytesL (d ++ [.lit c])).length = (bytesL d).length + 1 := by simp [bytesL, LTk.bytes]
        (repeat' (first | refine k_seq ?_ | refine k_region ?_ | refine k_nil ?_ | refine k_then ?_ | refine k_true ?_ | refine k_false ?_ | refine k_blk ?_ | refine k_skip ?_ | refine k_block ?_ | refine s_gskipt ?_ | refine s_move ?_ | refine s_assign ?_ | refine s_add1 ?_ | refine s_lss_t ?_ | refine s_eql_f ?_ | refine s_pickf ?_ | refine s_lens ?_ | refine s_index ?_ | refine s_nenf ?_))
        refine ⟨⟨d ++ [.lit c], r, e, cn, vals, v, LB, IB⟩, ?_, (by repeat (first | exact SubH.nilR _ | refine SubH.pick (by repeat (first | exact HTake.here | apply HTake.there)) ?_)), ⟨?_, ?_, ?_, ?_, i5, i6⟩, ?_⟩
        · simp only [e1]; exact (Knows.spec (by repeat (first | exact trivial | refine ⟨rfl, ?_⟩)))
        · simp [i1]
        · simp only [e1]; omega
        · simp only [e1]
          rw [stL_snoc, take_snoc hc, List.drop_append_of_le_length (by rw [List.length_take]; omega), i3]; rfl
        · simp only []
          rw [stL_snoc]; exact i4
        · simp
      | leaf bs x =>
        obtain ⟨hne, ⟨c, hc, h60⟩, hop, hP⟩ := hok.leaf d r bs x i1
        have hbl : 0 < bs.length := by cases bs with | nil => exact absurd rfl hne | cons _ _ => simp
        simp only [LTk.bytes] at hlen
        have e1 : (bytesL (d ++ [.leaf bs x])).length = (bytesL d).length + bs.length := by simp [bytesL, LTk.bytes]
        (repeat' (first | refine k_seq ?_ | refine k_region ?_ | refine k_nil ?_ | refine k_then ?_ | refine k_true ?_ | refine k_false ?_ | refine k_blk ?_ | refine k_skip ?_ | refine k_block ?_ | refine s_move ?_ | refine s_assign ?_ | refine s_lss_t ?_ | refine s_eql_t ?_ | refine s_eql_f ?_ | refine s_lens ?_ | refine s_index ?_ | refine s_nefn ?_))
        refine s_valR (hP p _ cn rfl) (fun u K hR => ?_)
        obtain ⟨q, cn', rfl, rfl⟩ := hR
        (repeat' (first | refine k_seq ?_ | refine k_region ?_ | refine k_nil ?_ | refine k_then ?_ | refine k_true ?_ | refine s_move ?_ | refine s_assign ?_ | refine s_ext ?_))
        refine s_call (emitL p (bytesL d).length e _ (bytesL toks) (stL d).1 vals LB IB rfl rfl i2 (by omega) hl' i5 (by omega) i4) (fun u K hR => ?_)
        obtain ⟨rfl, vals', v', LB', IB', hL', hI', rfl⟩ := hR
        have hvl : vals'.length ≤ vals.length + 1 := by
          have h1 := hI'.length
          have h2 := i4.length
          rw [h1, h2]
          unfold outL
          split <;> simp
        (repeat' (first | refine s_asno (hne := hop) ?_ | refine k_seq ?_ | refine k_region ?_ | refine k_nil ?_ | refine k_then ?_ | refine k_false ?_ | refine k_skip ?_ | refine s_move ?_ | refine s_assign ?_ | refine s_load ?_ | refine s_field ?_ | refine s_nilp ?_ | refine s_ext ?_ | refine s_bsl1 (fun _ => ?_)))
        refine s_app hL' (by omega) (fun v2 LB2 hL2 => ?_)
        obtain ⟨g2, cap2, cur2, rfl, rfl, k1, k2, k3, k4⟩ := hL2.pos
        (repeat' (first | refine s_callD (skip_tr p ((bytesL d).length + bs.length) (⟨lp pr, root, links, lineno, stack, depth, .bool cn', str (bytesL toks), inat (bytesL d).length, .slice (some ⟨g2, 0, none⟩) (vals'.length + 1) cap2, lists, texts, bt⟩ : PS)) ?_ | refine k_seq ?_ | refine k_region ?_ | refine k_nil ?_ | refine k_then ?_ | refine k_exit ?_ | refine k_exit_then ?_ | refine k_hit ?_ | refine s_move ?_ | refine s_assign ?_ | refine s_field ?_ | refine s_nilp ?_ | refine s_store ?_))
        have hL3 : Inls (.slice (some ⟨g2, 0, none⟩) (vals'.length + 1) cap2) (vals' ++ [.iface x.ty (lp q)]) [(g2, cellsOf cur2 125)] := by simpa [Inls] using hL2
        refine ⟨⟨d ++ [.leaf bs x], r, (bytesL d).length + bs.length, cn', vals' ++ [.iface x.ty (lp q)], _, _, x.cell q :: IB'⟩, ?_, SubH.trans (H' := [_, _, _, [x.cell q], IB']) (by repeat (first | exact SubH.nilR _ | refine SubH.pick (by repeat (first | exact HTake.here | apply HTake.there)) ?_)) (SubH.keep (SubH.keep (SubH.keep SubH.join))), ⟨?_, ?_, ?_, ?_, hL3, ?_⟩, ?_⟩
        · simp only [e1]; exact (Knows.spec (by repeat (first | exact trivial | refine ⟨rfl, ?_⟩)))
        · simp [i1]
        · simp only [e1]; omega
        · simp only [e1]
          rw [stL_snoc]
          exact List.drop_eq_nil_of_le (by rw [List.length_take]; omega)
        · simp only []
          rw [stL_snoc]
          simp only [LTk.step]
          exact .snoc x q (i3 ▸ hI')
        · simp only [List.length_append, List.length_cons, List.length_nil]; omega
        · simp
  · rintro ⟨d, r, e, cn, vals, v, LB, IB⟩ ⟨hr, i1, i2, i3, i4, i5, i6⟩
    simp only at hr i1 i2 i3 i4 i5 i6 ⊢
    subst hr
    have hd : d = toks := by simpa using i1.symm
    subst hd
    (repeat' (first | refine k_seq ?_ | refine k_region ?_ | refine s_move ?_ | refine s_lens ?_))
    refine s_call (emitL p (bytesL d).length e _ (bytesL d) (stL d).1 vals LB IB rfl rfl i2 (Nat.le_refl _) hl' i5 (by omega) i4) (fun u K hR => ?_)
    obtain ⟨rfl, vals', v', LB', IB', hL', hI', rfl⟩ := hR
    rw [i3] at hI'
    have hvl := hI'.length
    have hpos : itemsL d ≠ [] := hok.ne
    obtain ⟨k, hk⟩ : ∃ k, vals'.length = k + 1 := by
      cases hh : itemsL d with
      | nil => exact absurd hh hpos
      | cons a b => exact ⟨b.length, by rw [hvl]; show (itemsL d).length = _; rw [hh]; rfl⟩
    have hk2 : k ≤ 300000 := by
      have h2 := i4.length
      have : vals'.length ≤ vals.length + 1 := by rw [hvl, h2]; unfold outL; split <;> simp
      omega
    have j2' : Own 125 1 v' (k + 1) vals' LB' := hk ▸ hL'
    obtain ⟨g, cap, cur, rfl, rfl, k1, k2, k3, k4⟩ := j2'.pos
    rw [Nat.mul_one] at k4
    have j1 : ItsL (itemsL d) vals' IB' := hI'
    have hcv : ∀ j, j < k + 1 → ∃ (x : LIt) (q : Nat), (itemsL d)[j]? = some x ∧ cur[j]? = some (.iface x.ty (lp q)) := by
      intro j hj
      have hlt : j < (itemsL d).length := by
        have : (itemsL d).length = k + 1 := by rw [← hk]; exact hvl.symm
        omega
      have hx : (itemsL d)[j]? = some ((itemsL d)[j]'hlt) := List.getElem?_eq_getElem _
      obtain ⟨q, h1, _⟩ := j1.get j _ hx
      have h2 : vals'[j]? = cur[j]? := by rw [← k4, List.getElem?_take, if_pos (by omega)]
      exact ⟨_, q, hx, by rw [← h2]; exact h1⟩
    have he := emph_tr p g (k + 1) cap cur (by omega) k1 (by omega) (fun j hj => by
      obtain ⟨x, q, hx, hc⟩ := hcv j hj
      rcases hok.kind x (List.mem_of_getElem? hx) with h | ⟨h1, h2, h3⟩
      · exact ⟨_, _, hc, by rw [h]; rfl, by rw [h]; rfl⟩
      · exact ⟨_, _, hc, h3, h2⟩)
    have hm := mergePlain_tr p g (k + 1) cap cur (by omega) (by omega) k1 (by omega) (fun j hj => by
      obtain ⟨x, q, hx, hc⟩ := hcv j hj
      refine ⟨_, hc, ?_⟩
      rcases hok.kind x (List.mem_of_getElem? hx) with h | ⟨h1, h2, h3⟩
      · exact .inl ⟨q, by rw [h]⟩
      · exact .inr ⟨_, _, rfl, h1, h2, h3⟩) (fun j v w hj hv hw hp hq => by
      obtain ⟨x, q, hx, hc⟩ := hcv j (by omega)
      obtain ⟨y, q', hy, hc'⟩ := hcv (j + 1) hj
      rw [hc] at hv
      rw [hc'] at hw
      cases hv
      cases hw
      obtain ⟨r1, e1⟩ := hp
      obtain ⟨r2, e2⟩ := hq
      injection e1 with e1 _
      injection e2 with e2 _
      exact hok.adj j x y hx hy e1 e2)
    (repeat' (first | refine k_seq ?_ | refine k_nil ?_ | refine k_then ?_))
    refine Wp.draw_till (id := 78) [(⟨lp pr, root, links, lineno, stack, depth, .bool cn, str (bytesL d), inat (bytesL d).length, .slice (some ⟨g, 0, none⟩) (k + 1) cap, lists, texts, bt⟩ : PS).blk p, [(g, cellsOf cur 125)]] 14 15 Mixed.out (by repeat (first | exact SubH.nilR _ | refine SubH.pick (by repeat (first | exact HTake.here | apply HTake.there)) ?_)) rfl ?_
    refine OpsK.first 0 _ (by rfl) (by kernel_rfl) rfl (by kernel_rfl) (by kernel_rfl) rfl (by first | exact p_move rfl | exact p_assign rfl | exact p_extract rfl rfl | exact q_fieldAddr rfl | exact p_nilCheck rfl | exact q_load rfl (by repeat (first | exact HMem.here | apply HMem.skip | apply HMem.there)) rfl | exact q_load_agg rfl (by repeat (first | exact HMem.here | apply HMem.skip | apply HMem.there)) (by repeat constructor) | exact q_len_slice rfl | exact q_len_str rfl | exact q_indexAddr rfl rfl (by omega) | exact q_slice_str rfl rfl rfl (by omega) (by omega) | exact q_makeInterface rfl | exact q_assert rfl | exact p_build rfl (by repeat' (first | exact BFill.nil | refine' BFill.one (by rfl) (by rfl) (by repeat constructor) ?_ | refine' BFill.agg (by rfl) (by rfl) (by repeat constructor) ?_))) ?_
    refine OpsK.first 1 _ (by rfl) (by kernel_rfl) rfl (by kernel_rfl) (by kernel_rfl) rfl (by first | exact p_move rfl | exact p_assign rfl | exact p_extract rfl rfl | exact q_fieldAddr rfl | exact p_nilCheck rfl | exact q_load rfl (by repeat (first | exact HMem.here | apply HMem.skip | apply HMem.there)) rfl | exact q_load_agg rfl (by repeat (first | exact HMem.here | apply HMem.skip | apply HMem.there)) (by repeat constructor) | exact q_len_slice rfl | exact q_len_str rfl | exact q_indexAddr rfl rfl (by omega) | exact q_slice_str rfl rfl rfl (by omega) (by omega) | exact q_makeInterface rfl | exact q_assert rfl | exact p_build rfl (by repeat' (first | exact BFill.nil | refine' BFill.one (by rfl) (by rfl) (by repeat constructor) ?_ | refine' BFill.agg (by rfl) (by rfl) (by repeat constructor) ?_))) ?_
    refine OpsK.first 2 _ (by rfl) (by kernel_rfl) rfl (by kernel_rfl) (by kernel_rfl) rfl (by first | exact p_move rfl | exact p_assign rfl | exact p_extract rfl rfl | exact q_fieldAddr rfl | exact p_nilCheck rfl | exact q_load rfl (by repeat (first | exact HMem.here | apply HMem.skip | apply HMem.there)) rfl | exact q_load_agg rfl (by repeat (first | exact HMem.here | apply HMem.skip | apply HMem.there)) (by repeat constructor) | exact q_len_slice rfl | exact q_len_str rfl | exact q_indexAddr rfl rfl (by omega) | exact q_slice_str rfl rfl rfl (by omega) (by omega) | exact q_makeInterface rfl | exact q_assert rfl | exact p_build rfl (by repeat' (first | exact BFill.nil | refine' BFill.one (by rfl) (by rfl) (by repeat constructor) ?_ | refine' BFill.agg (by rfl) (by rfl) (by repeat constructor) ?_))) ?_
    refine OpsK.first 3 _ (by rfl) (by kernel_rfl) rfl (by kernel_rfl) (by kernel_rfl) rfl (by first | exact p_move rfl | exact p_assign rfl | exact p_extract rfl rfl | exact q_fieldAddr rfl | exact p_nilCheck rfl | exact q_load rfl (by repeat (first | exact HMem.here | apply HMem.skip | apply HMem.there)) rfl | exact q_load_agg rfl (by repeat (first | exact HMem.here | apply HMem.skip | apply HMem.there)) (by repeat constructor) | exact q_len_slice rfl | exact q_len_str rfl | exact q_indexAddr rfl rfl (by omega) | exact q_slice_str rfl rfl rfl (by omega) (by omega) | exact q_makeInterface rfl | exact q_assert rfl | exact p_build rfl (by repeat' (first | exact BFill.nil | refine' BFill.one (by rfl) (by rfl) (by repeat constructor) ?_ | refine' BFill.agg (by rfl) (by rfl) (by repeat constructor) ?_))) ?_
    refine OpsK.first 4 _ (by rfl) (by kernel_rfl) rfl (by kernel_rfl) (by kernel_rfl) rfl (by first | exact p_move rfl | exact p_assign rfl | exact p_extract rfl rfl | exact q_fieldAddr rfl | exact p_nilCheck rfl | exact q_load rfl (by repeat (first | exact HMem.here | apply HMem.skip | apply HMem.there)) rfl | exact q_load_agg rfl (by repeat (first | exact HMem.here | apply HMem.skip | apply HMem.there)) (by repeat constructor) | exact q_len_slice rfl | exact q_len_str rfl | exact q_indexAddr rfl rfl (by omega) | exact q_slice_str rfl rfl rfl (by omega) (by omega) | exact q_makeInterface rfl | exact q_assert rfl | exact p_build rfl (by repeat' (first | exact BFill.nil | refine' BFill.one (by rfl) (by rfl) (by repeat constructor) ?_ | refine' BFill.agg (by rfl) (by rfl) (by repeat constructor) ?_))) ?_
    refine OpsK.firstL 5 [] _ (by rfl) (by kernel_rfl) (by kernel_rfl) rfl (by kernel_rfl) (by kernel_rfl) rfl (by first | exact p_move rfl | exact p_assign rfl | exact p_extract rfl rfl | exact q_fieldAddr rfl | exact p_nilCheck rfl | exact q_load rfl (by repeat (first | exact HMem.here | apply HMem.skip | apply HMem.there)) rfl | exact q_load_agg rfl (by repeat (first | exact HMem.here | apply HMem.skip | apply HMem.there)) (by repeat constructor) | exact q_len_slice rfl | exact q_len_str rfl | exact q_indexAddr rfl rfl (by omega) | exact q_slice_str rfl rfl rfl (by omega) (by omega) | exact q_makeInterface rfl | exact q_assert rfl | exact p_build rfl (by repeat' (first | exact BFill.nil | refine' BFill.one (by rfl) (by rfl) (by repeat constructor) ?_ | refine' BFill.agg (by rfl) (by rfl) (by repeat constructor) ?_))) ?_
    refine OpsK.first 6 _ (by rfl) (by kernel_rfl) rfl (by kernel_rfl) (by kernel_rfl) rfl (p_slice_hi (b := 0) USlice.out Siz.out rfl rfl (Nat.zero_le _)) ?_
    refine OpsK.first 7 _ (by rfl) (by kernel_rfl) rfl (by kernel_rfl) (by kernel_rfl) rfl (by first | exact p_move rfl | exact p_assign rfl | exact p_extract rfl rfl | exact q_fieldAddr rfl | exact p_nilCheck rfl | exact q_load rfl (by repeat (first | exact HMem.here | apply HMem.skip | apply HMem.there)) rfl | exact q_load_agg rfl (by repeat (first | exact HMem.here | apply HMem.skip | apply HMem.there)) (by repeat constructor) | exact q_len_slice rfl | exact q_len_str rfl | exact q_indexAddr rfl rfl (by omega) | exact q_slice_str rfl rfl rfl (by omega) (by omega) | exact q_makeInterface rfl | exact q_assert rfl | exact p_build rfl (by repeat' (first | exact BFill.nil | refine' BFill.one (by rfl) (by rfl) (by repeat constructor) ?_ | refine' BFill.agg (by rfl) (by rfl) (by repeat constructor) ?_))) ?_
    refine OpsK.first 8 _ (by rfl) (by kernel_rfl) rfl (by kernel_rfl) (by kernel_rfl) rfl (by first | exact p_move rfl | exact p_assign rfl | exact p_extract rfl rfl | exact q_fieldAddr rfl | exact p_nilCheck rfl | exact q_load rfl (by repeat (first | exact HMem.here | apply HMem.skip | apply HMem.there)) rfl | exact q_load_agg rfl (by repeat (first | exact HMem.here | apply HMem.skip | apply HMem.there)) (by repeat constructor) | exact q_len_slice rfl | exact q_len_str rfl | exact q_indexAddr rfl rfl (by omega) | exact q_slice_str rfl rfl rfl (by omega) (by omega) | exact q_makeInterface rfl | exact q_assert rfl | exact p_build rfl (by repeat' (first | exact BFill.nil | refine' BFill.one (by rfl) (by rfl) (by repeat constructor) ?_ | refine' BFill.agg (by rfl) (by rfl) (by repeat constructor) ?_))) ?_
    refine OpsK.first 9 _ (by rfl) (by kernel_rfl) rfl (by kernel_rfl) (by kernel_rfl) rfl (by first | exact p_move rfl | exact p_assign rfl | exact p_extract rfl rfl | exact q_fieldAddr rfl | exact p_nilCheck rfl | exact q_load rfl (by repeat (first | exact HMem.here | apply HMem.skip | apply HMem.there)) rfl | exact q_load_agg rfl (by repeat (first | exact HMem.here | apply HMem.skip | apply HMem.there)) (by repeat constructor) | exact q_len_slice rfl | exact q_len_str rfl | exact q_indexAddr rfl rfl (by omega) | exact q_slice_str rfl rfl rfl (by omega) (by omega) | exact q_makeInterface rfl | exact q_assert rfl | exact p_build rfl (by repeat' (first | exact BFill.nil | refine' BFill.one (by rfl) (by rfl) (by repeat constructor) ?_ | refine' BFill.agg (by rfl) (by rfl) (by repeat constructor) ?_))) ?_
    refine OpsK.firstL 10 [] _ (by rfl) (by kernel_rfl) (by kernel_rfl) rfl (by kernel_rfl) (by kernel_rfl) rfl (by first | exact p_move rfl | exact p_assign rfl | exact p_extract rfl rfl | exact q_fieldAddr rfl | exact p_nilCheck rfl | exact q_load rfl (by repeat (first | exact HMem.here | apply HMem.skip | apply HMem.there)) rfl | exact q_load_agg rfl (by repeat (first | exact HMem.here | apply HMem.skip | apply HMem.there)) (by repeat constructor) | exact q_len_slice rfl | exact q_len_str rfl | exact q_indexAddr rfl rfl (by omega) | exact q_slice_str rfl rfl rfl (by omega) (by omega) | exact q_makeInterface rfl | exact q_assert rfl | exact p_build rfl (by repeat' (first | exact BFill.nil | refine' BFill.one (by rfl) (by rfl) (by repeat constructor) ?_ | refine' BFill.agg (by rfl) (by rfl) (by repeat constructor) ?_))) ?_
    refine OpsK.only 11 _ (by kernel_rfl) rfl ?_
    (repeat' (first | refine s_callD (he) ?_ | refine k_nil ?_ | refine k_then ?_))
    refine ⟨fun _ => (by repeat (first | exact SubH.nilR _ | refine SubH.pick (by repeat (first | exact HTake.here | apply HTake.there)) ?_)), ?_⟩
    refine OpsK.first 12 _ (by rfl) (by kernel_rfl) rfl (by kernel_rfl) (by kernel_rfl) rfl (by first | exact p_move rfl | exact p_assign rfl | exact p_extract rfl rfl | exact q_fieldAddr rfl | exact p_nilCheck rfl | exact q_load rfl (by repeat (first | exact HMem.here | apply HMem.skip | apply HMem.there)) rfl | exact q_load_agg rfl (by repeat (first | exact HMem.here | apply HMem.skip | apply HMem.there)) (by repeat constructor) | exact q_len_slice rfl | exact q_len_str rfl | exact q_indexAddr rfl rfl (by omega) | exact q_slice_str rfl rfl rfl (by omega) (by omega) | exact q_makeInterface rfl | exact q_assert rfl | exact p_build rfl (by repeat' (first | exact BFill.nil | refine' BFill.one (by rfl) (by rfl) (by repeat constructor) ?_ | refine' BFill.agg (by rfl) (by rfl) (by repeat constructor) ?_))) ?_
    refine OpsK.first 13 _ (by rfl) (by kernel_rfl) rfl (by kernel_rfl) (by kernel_rfl) rfl (by first | exact p_move rfl | exact p_assign rfl | exact p_extract rfl rfl | exact q_fieldAddr rfl | exact p_nilCheck rfl | exact q_load rfl (by repeat (first | exact HMem.here | apply HMem.skip | apply HMem.there)) rfl | exact q_load_agg rfl (by repeat (first | exact HMem.here | apply HMem.skip | apply HMem.there)) (by repeat constructor) | exact q_len_slice rfl | exact q_len_str rfl | exact q_indexAddr rfl rfl (by omega) | exact q_slice_str rfl rfl rfl (by omega) (by omega) | exact q_makeInterface rfl | exact q_assert rfl | exact p_build rfl (by repeat' (first | exact BFill.nil | refine' BFill.one (by rfl) (by rfl) (by repeat constructor) ?_ | refine' BFill.agg (by rfl) (by rfl) (by repeat constructor) ?_))) ?_
    refine OpsK.only 14 _ (by kernel_rfl) rfl ?_
    (repeat' (first | refine k_nil ?_ | refine k_then ?_ | refine s_store ?_))
    refine ⟨(fun h0 => Bool.noConfusion (show true = false from h0)), ?_⟩
    refine OpsK.nil (by kernel_rfl) ?_
    (repeat' (first | refine s_callD (hm) ?_ | refine s_callD (autoLinkText_no p pr (⟨o1, false, o3, false, o5, o6, false, false, false, false⟩ : PO) (⟨lp pr, root, links, lineno, stack, depth, .bool cn, str (bytesL d), inat (bytesL d).length, .slice (some ⟨g, 0, none⟩) (k + 1) cap, lists, texts, bt⟩ : PS) (.slice (some ⟨g, 0, none⟩) (k + 1) cap) rfl rfl) ?_ | refine k_seq ?_ | refine k_region ?_ | refine k_nil ?_ | refine k_then ?_ | refine k_ret ?_ | refine s_move ?_ | refine s_assign ?_ | refine s_load ?_ | refine s_field ?_ | refine s_nilp ?_ | refine s_store ?_))
    have j2 : Inls (.slice (some ⟨g, 0, none⟩) (k + 1) cap) vals' [(g, cellsOf cur 125)] := by
      show Own _ _ _ vals'.length _ _
      rw [hk]; exact j2'
    refine e_ret _ ⟨(⟨lp pr, root, links, lineno, stack, depth, .bool cn, str (bytesL d), inat (bytesL d).length, .slice (some ⟨g, 0, none⟩) (k + 1) cap, lists, texts, bt⟩ : PS), some ⟨g, 0, none⟩, k + 1, cap, [(g, cellsOf cur 125)] ++ IB', rfl, ⟨vals', [(g, cellsOf cur 125)], IB', j1, j2, rfl⟩, rfl, rfl, rfl⟩ ?_
    exact SubH.trans (H' := [_, _, [(g, cellsOf cur 125)], IB']) (by repeat (first | exact SubH.nilR _ | refine SubH.pick (by repeat (first | exact HTake.here | apply HTake.there)) ?_)) (SubH.keep (SubH.keep SubH.join))
end Go.Proofs

namespace Go.Proofs
open Go Go.Eng
set_option maxRecDepth 20000
set_option maxHeartbeats 8000000

/-- A byte by a table of pairs. -/
abbrev Pairs := List (UInt8 × List UInt8)
def pairB : Pairs → UInt8 → List UInt8
  | [], c => [c]
  | x :: r, c => if x.1 = c then x.2 else pairB r c
abbrev pairH (ps : Pairs) (l : List UInt8) : List UInt8 := l.flatMap (pairB ps)
def pairCells (ps : Pairs) : List Value := ps.flatMap fun x => [str [x.1], str x.2]
abbrev pairRow (g : Nat) (ps : Pairs) : Blk := [(g, cellsOf (pairCells ps) 9)]
structure PairsOK (ps : Pairs) : Prop where
  all : ∀ x ∈ ps, x.2 ≠ [] ∧ x.2.length ≤ 6
  len : ps.length ≤ 1000
theorem pairCells_len (ps : Pairs) : (pairCells ps).length = 2 * ps.length := by
  induction ps with
  | nil => rfl
  | cons x r ih => simp only [pairCells, List.flatMap_cons, List.length_append, List.length_cons, List.length_nil] at ih ⊢; omega
theorem pairCells_at : ∀ {ps : Pairs} {m : Nat} {x : UInt8 × List UInt8}, ps[m]? = some x → (pairCells ps)[2 * m]? = some (str [x.1]) ∧ (pairCells ps)[2 * m + 1]? = some (str x.2)
  | [], m, x, h => by simp at h
  | y :: r, 0, x, h => by
    simp only [List.getElem?_cons_zero, Option.some.injEq] at h
    subst h
    exact ⟨rfl, rfl⟩
  | y :: r, m + 1, x, h => by
    have ih := pairCells_at (ps := r) (m := m) (x := x) (by simpa using h)
    have e : pairCells (y :: r) = str [y.1] :: str y.2 :: pairCells r := by simp [pairCells]
    rw [e, show 2 * (m + 1) = 2 * m + 1 + 1 by omega, show 2 * m + 1 + 1 + 1 = (2 * m + 1) + 1 + 1 by omega]
    simpa using ih
theorem pairB_hit : ∀ {ps : Pairs} {c : UInt8} {m : Nat} {x : UInt8 × List UInt8}, ps[m]? = some x → x.1 = c → (∀ k y, k < m → ps[k]? = some y → y.1 ≠ c) → pairB ps c = x.2
  | [], c, m, x, h, _, _ => by simp at h
  | y :: r, c, 0, x, h, e, _ => by
    simp only [List.getElem?_cons_zero, Option.some.injEq] at h
    subst h
    simp [pairB, e]
  | y :: r, c, m + 1, x, h, e, hn => by
    have h0 : ¬ y.1 = c := hn 0 y (by omega) rfl
    simp only [pairB, if_neg h0]
    exact pairB_hit (m := m) (by simpa using h) e (fun k z hk hz => hn (k + 1) z (by omega) (by simpa using hz))
theorem pairB_none : ∀ {ps : Pairs} {c : UInt8}, (∀ k y, k < ps.length → ps[k]? = some y → y.1 ≠ c) → pairB ps c = [c]
  | [], c, _ => rfl
  | y :: r, c, hn => by
    have h0 : ¬ y.1 = c := hn 0 y (by simp) rfl
    simp only [pairB, if_neg h0]
    exact pairB_none fun k z hk hz => hn (k + 1) z (by simp; omega) (by simpa using hz)
theorem pairB_len : ∀ {ps : Pairs} (_ : ∀ x ∈ ps, x.2 ≠ [] ∧ x.2.length ≤ 6) (c : UInt8), (pairB ps c).length ≤ 6
  | [], _, c => by simp [pairB]
  | y :: r, h, c => by
    simp only [pairB]
    split
    · exact (h y (by simp)).2
    · exact pairB_len (fun x hx => h x (by simp [hx])) c
theorem pairH_len {ps : Pairs} (h : PairsOK ps) (l : List UInt8) : (pairH ps l).length ≤ 6 * l.length := by
  induction l with
  | nil => simp
  | cons c l ih => have := pairB_len h.all c; simp only [pairH, List.flatMap_cons, List.length_append, List.length_cons] at ih ⊢; omega
theorem pairH_snoc {ps : Pairs} {s : List UInt8} {j : Nat} {c : UInt8} (h : s[j]? = some c) : pairH ps (s.take (j + 1)) = pairH ps (s.take j) ++ pairB ps c := by
  obtain ⟨h1, h2⟩ := List.getElem?_eq_some_iff.1 h
  rw [List.take_succ_eq_append_getElem h1, h2]; simp [pairH]

theorem pairsW_tr (ps : Pairs) (hps : PairsOK ps) (g b : Nat) (v : Value) (l : List UInt8) (R : Blk) (lr : Int) (s : List UInt8) (hR : BRow v l R) (hlim : l.length + 6 * s.length ≤ 1000000) :
    Tr Tryz.prog 251 [.slice (some ⟨g, 0, none⟩) (2 * ps.length) (2 * ps.length), lp b, str s] [pairRow g ps, bufb b v lr, R] fun u K => u = unit ∧ ∃ v' R' lr', BRow v' (l ++ pairH ps s) R' ∧ K = [pairRow g ps, bufb b v' lr', R'] := by
  have hpl := pairCells_len ps
  have hp1000 := hps.len
  refine Tr.start (n := 41) (rs := []) rfl rfl rfl rfl fun B => ?_
  (repeat' (first | refine k_seq ?_ | refine k_region ?_ | refine k_nil ?_ | refine k_then ?_ | refine k_blk ?_ | refine k_scope ?_ | refine k_label ?_ | refine s_assign ?_))
  refine k_loop (fun x : PW => [(0, .slice (some ⟨g, 0, none⟩) (2 * ps.length) (2 * ps.length)), (1, lp b), (2, str s), (6, inat x.j)]) (fun x => [pairRow g ps, bufb b x.v x.lr, x.R])
    (fun x => x.j ≤ s.length ∧ BRow x.v (l ++ pairH ps (s.take x.j)) x.R) (fun x => s.length - x.j) ⟨0, v, R, lr⟩ ⟨Nat.zero_le _, by simpa using hR⟩ (Knows.spec (by repeat (first | exact trivial | refine ⟨rfl, ?_⟩))) (by repeat (first | exact SubH.nilR _ | refine SubH.pick (by repeat (first | exact HTake.here | apply HTake.there)) ?_)) fun x hx => ?_
  obtain ⟨j, v, R, lr⟩ := x
  obtain ⟨x1, x2⟩ := hx
  simp only at x1 x2 ⊢
  have hb : (l ++ pairH ps (s.take j)).length ≤ l.length + 6 * j := by
    have := pairH_len hps (s.take j)
    rw [List.length_append]; rw [List.length_take] at this; omega
  by_cases hj : j < s.length
  · obtain ⟨c, hc⟩ : ∃ c, s[j]? = some c := ⟨_, List.getElem?_eq_getElem hj⟩
    have hsn := pairH_snoc (ps := ps) hc
    (repeat' (first | refine k_seq ?_ | refine k_region ?_ | refine k_nil ?_ | refine k_then ?_ | refine k_true ?_ | refine k_blk ?_ | refine k_skip ?_ | refine s_move ?_ | refine s_assign ?_ | refine s_lss_t ?_ | refine s_lens ?_))
    refine k_loop (fun k : Nat => [(0, .slice (some ⟨g, 0, none⟩) (2 * ps.length) (2 * ps.length)), (1, lp b), (2, str s), (6, inat j), (7, inat (2 * k))]) (fun _ => [pairRow g ps, bufb b v lr, R])
      (fun k => k ≤ ps.length ∧ ∀ k' y, k' < k → ps[k']? = some y → y.1 ≠ c) (fun k => ps.length - k) 0 ⟨by omega, fun k' y h => by omega⟩ (Knows.spec (by repeat (first | exact trivial | refine ⟨rfl, ?_⟩))) (by repeat (first | exact SubH.nilR _ | refine SubH.pick (by repeat (first | exact HTake.here | apply HTake.there)) ?_)) fun k hk => ?_
    obtain ⟨hk1, hk2⟩ := hk
    by_cases hkl : k < ps.length
    · obtain ⟨x, hx⟩ : ∃ x, ps[k]? = some x := ⟨_, List.getElem?_eq_getElem hkl⟩
      obtain ⟨c1, c2⟩ := pairCells_at hx
      have c1' : (pairCells ps)[0 + 2 * k * 1]? = some (str [x.1]) := by rw [show 0 + 2 * k * 1 = 2 * k by omega]; exact c1
      have c2' : (pairCells ps)[0 + (2 * k + 1) * 1]? = some (str x.2) := by rw [show 0 + (2 * k + 1) * 1 = 2 * k + 1 by omega]; exact c2
      have z1 : ([x.1] : List UInt8)[0]? = some x.1 := rfl
      obtain ⟨hx1, hx2⟩ := hps.all x (List.mem_of_getElem? hx)
      by_cases hxc : x.1 = c
      · have e1 := pairB_hit hx hxc hk2
        have hcn : c.toNat = x.1.toNat := by rw [hxc]
        (repeat' (first | refine Wp.draw_all (id := 6) Mixed.out (by kernel_rfl) ?_ | refine u_load (hc := c1') ?_ | refine s_load (hc := c2') ?_ | refine k_seq ?_ | refine k_region ?_ | refine k_nil ?_ | refine k_then ?_ | refine k_true ?_ | refine k_blk ?_ | refine k_skip ?_ | refine s_move ?_ | refine s_add1 ?_ | refine s_lss_t ?_ | refine s_len ?_ | refine s_idxa ?_ | refine u_nil ?_ | refine u_move ?_ | refine u_eql_t ?_ | refine u_index ?_ | refine u_idxa ?_))
        refine s_call (writeString_tr b v (l ++ pairH ps (s.take j)) R lr x.2 x2 hx1 (by omega) (by omega)) (fun u K hR => ?_)
        obtain ⟨rfl, v', R', h9, rfl⟩ := hR
        (repeat' (first | refine k_region ?_ | refine k_nil ?_ | refine k_then ?_ | refine k_exit ?_ | refine k_exit_then ?_ | refine k_hit ?_ | refine k_miss ?_ | refine s_move ?_ | refine s_assign ?_ | refine s_add1 ?_))
        exact ⟨⟨j + 1, v', R', 0⟩, (Knows.spec (by repeat (first | exact trivial | refine ⟨rfl, ?_⟩))), (by repeat (first | exact SubH.nilR _ | refine SubH.pick (by repeat (first | exact HTake.here | apply HTake.there)) ?_)), ⟨by simp only; omega, by simp only; rw [hsn, e1, ← List.append_assoc]; exact h9⟩, by simp only; omega⟩
      · have hcn : ¬ c.toNat = x.1.toNat := fun h => hxc (UInt8.toNat_inj.1 h.symm)
        (repeat' (first | refine Wp.draw_all (id := 6) Mixed.out (by kernel_rfl) ?_ | refine u_load (hc := c1') ?_ | refine k_seq ?_ | refine k_region ?_ | refine k_nil ?_ | refine k_then ?_ | refine k_true ?_ | refine k_false ?_ | refine k_blk ?_ | refine k_skip ?_ | refine k_block ?_ | refine s_move ?_ | refine s_assign ?_ | refine s_add2 ?_ | refine s_lss_t ?_ | refine s_len ?_ | refine u_nil ?_ | refine u_move ?_ | refine u_eql_f ?_ | refine u_index ?_ | refine u_idxa ?_))
        exact ⟨k + 1, (Knows.spec (by repeat (first | exact trivial | refine ⟨rfl, ?_⟩))), (by repeat (first | exact SubH.nilR _ | refine SubH.pick (by repeat (first | exact HTake.here | apply HTake.there)) ?_)), ⟨by omega, fun k' y hk' hy => by
          by_cases hkk : k' < k
          · exact hk2 k' y hkk hy
          · have : k' = k := by omega
            subst this
            rw [hx] at hy
            injection hy with hy
            subst hy
            exact hxc⟩, by omega⟩
    · have hkk : k = ps.length := by omega
      subst hkk
      have e1 := pairB_none hk2
      (repeat' (first | refine k_seq ?_ | refine k_region ?_ | refine k_nil ?_ | refine k_then ?_ | refine k_false ?_ | refine k_exit ?_ | refine k_exit_then ?_ | refine k_hit ?_ | refine s_move ?_ | refine s_lss_f ?_ | refine s_len ?_ | refine s_index ?_))
      refine s_call (writeByte_tr b v (l ++ pairH ps (s.take j)) R lr c x2 (by omega)) (fun u K hR => ?_)
      obtain ⟨rfl, v', R', h9, rfl⟩ := hR
      (repeat' (first | refine k_region ?_ | refine k_nil ?_ | refine k_then ?_ | refine k_block ?_ | refine s_move ?_ | refine s_assign ?_ | refine s_add1 ?_))
      exact ⟨⟨j + 1, v', R', 0⟩, (Knows.spec (by repeat (first | exact trivial | refine ⟨rfl, ?_⟩))), (by repeat (first | exact SubH.nilR _ | refine SubH.pick (by repeat (first | exact HTake.here | apply HTake.there)) ?_)), ⟨by simp only; omega, by simp only; rw [hsn, e1, ← List.append_assoc]; exact h9⟩, by simp only; omega⟩
  · have : j = s.length := by omega
    subst this
    rw [List.take_length] at x2
    (repeat' (first | refine k_seq ?_ | refine k_region ?_ | refine k_nil ?_ | refine k_then ?_ | refine k_false ?_ | refine k_exit ?_ | refine k_exit_then ?_ | refine k_hit ?_ | refine k_nogo ?_ | refine s_move ?_ | refine s_lss_f ?_ | refine s_lens ?_))
    exact e_norm _ ⟨rfl, v, R, lr, x2, rfl⟩ (by repeat (first | exact SubH.nilR _ | refine SubH.pick (by repeat (first | exact HTake.here | apply HTake.there)) ?_))

theorem replaceP_tr (ps : Pairs) (hps : PairsOK ps) (g : Nat) (s : List UInt8) (hlim : 6 * s.length ≤ 1000000) :
    Tr Tryz.prog 258 [.slice (some ⟨g, 0, none⟩) (2 * ps.length) (2 * ps.length), str s] [pairRow g ps] fun u K => u = str (pairH ps s) ∧ K = [] := by
  refine Tr.start (n := 10) (rs := [.tmp 4]) rfl rfl rfl rfl fun B => ?_
  (repeat' (first | refine k_seq ?_ | refine k_region ?_ | refine k_nil ?_ | refine k_then ?_ | refine s_move ?_ | refine s_assign ?_ | refine s_alloc (fun _ => ?_)))
  rename_i b
  refine s_nilblk ?_
  refine s_call (pairsW_tr ps hps g b (.slice none 0 0) [] [] 0 s BRow.nil (by simp; omega)) (fun u K hR => ?_)
  obtain ⟨rfl, v', R', lr', h9, rfl⟩ := hR
  rw [List.nil_append] at h9
  by_cases hn : pairH ps s = []
  · rw [hn] at h9 ⊢
    rcases h9 with ⟨_, rfl, rfl⟩ | ⟨h, _⟩
    · (repeat' (first | refine s_callD (bufString_nil b lr') ?_ | refine k_seq ?_ | refine k_region ?_ | refine k_nil ?_ | refine k_then ?_ | refine k_ret ?_ | refine s_assign ?_))
      exact e_ret [] ⟨rfl, rfl⟩ (by repeat (first | exact SubH.nilR _ | refine SubH.pick (by repeat (first | exact HTake.here | apply HTake.there)) ?_))
    · exact absurd rfl h
  · (repeat' (first | refine s_callD (bufString_tr b v' (pairH ps s) R' lr' h9 hn) ?_ | refine k_seq ?_ | refine k_region ?_ | refine k_nil ?_ | refine k_then ?_ | refine k_ret ?_ | refine s_assign ?_))
    exact e_ret [] ⟨rfl, rfl⟩ (by repeat (first | exact SubH.nilR _ | refine SubH.pick (by repeat (first | exact HTake.here | apply HTake.there)) ?_))
end Go.Proofs

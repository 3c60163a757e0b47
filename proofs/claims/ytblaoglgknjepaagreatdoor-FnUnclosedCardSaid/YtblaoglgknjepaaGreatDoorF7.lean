/- parse of a text that begins with a fence. Conditions: Body. -/
import Derived.Test.YtblaoglgknjepaaGreatDoorF6
import Derived.Test.YtblaoglgknjepaaGreatDoorW15
namespace Go.Proofs
open Go Go.Eng
set_option maxRecDepth 20000
set_option maxHeartbeats 4000000

def bt0 : List Value := List.replicate 80 (.int .i64 0) ++ [.bool false]
abbrev ps0 : PS := ⟨.pointer none, .pointer none, .map none, .int .i64 0, .slice none 0 0, .int .i64 0, .bool false, str [], .int .i64 0, .slice none 0 0, .slice none 0 0, .slice none 0 0, bt0⟩
instance zerPS : Zer Tryz.prog 63 (.agg ps0.cells.toArray) := ⟨fun w => Tryz.zeroValue63 w⟩

theorem Own.isSlice {E sz : Nat} {v : Value} {m : Nat} {xs : List Value} {Bk : Blk} (h : Own E sz v m xs Bk) : ∃ a c, v = .slice a m c := by
  rcases h.2 with ⟨rfl, rfl, rfl⟩ | ⟨g, cap, cur, rfl, _⟩
  · exact ⟨_, _, rfl⟩
  · exact ⟨_, _, rfl⟩
theorem Body.no {K : Nat} {t : List UInt8} {ls : List (List UInt8)} (h : Body K t ls) : ∀ d ∈ t, d ≠ 13 ∧ d ≠ 0 := by
  induction h with
  | nil => intro d hd; simp at hd
  | close =>
    intro d hd
    rcases List.mem_append.1 hd with hd | hd
    · rw [List.eq_of_mem_replicate hd]; decide
    · simp at hd; subst hd; decide
  | last l hl _ => intro d hd; exact (hl.c d hd).2
  | cons l t ls hl _ ih =>
    intro d hd
    rcases List.mem_append.1 hd with hd | hd
    · exact (hl.c d hd).2
    · rcases List.mem_cons.1 hd with rfl | hd
      · decide
      · exact ih d hd
theorem fst1_mid : ∀ (a t : List UInt8), (∀ d ∈ a, d ≠ 10) → fst1 10 (a ++ 10 :: t) = a.length
  | [], t, _ => by simp [fst1]
  | d :: a, t, h => by
    have hd : d ≠ 10 := h d (by simp)
    have := fst1_mid a t (fun e he => h e (by simp [he]))
    simp only [List.cons_append, fst1, if_neg hd, this, List.length_cons]
theorem fst1_no {c : UInt8} {l : List UInt8} (h : ∀ d ∈ l, d ≠ c) : ¬ fst1 c l < l.length := fun hlt =>
  h c (List.mem_of_getElem? (fst1_at hlt)) rfl
theorem tildes_no10 (K : Nat) : ∀ d ∈ tildes K, d ≠ 10 := fun d hd => by rw [List.eq_of_mem_replicate hd]; decide

structure FO where
  k : Nat
  t : List UInt8
  done : List (List UInt8)
  rest : List (List UInt8)
  cn : Bool
  dp : Nat
  g : Nat
  cap : Nat
  cur : List Value
  b : Nat
  ia : Option Addr
  im : Nat
  ic : Nat
  Bt : Blk
  fe : Nat
  e : Nat
structure FC where
  k : Nat
  cn : Bool
  g : Nat
  cap : Nat
  cur : List Value
  q : Nat
  ja : Option Addr
  jm : Nat
  jc : Nat
  IB : Blk
  ia : Option Addr
  im : Nat
  ic : Nat
  Bt : Blk
  fe : Nat
  e : Nat
inductive FL where
  | a
  | o (x : FO)
  | c (x : FC)

theorem parse_fence (T : Nat) (es : List Value) (hE : EntOK es) (pr : Nat) (o : PO) (K : Nat) (t0 : List UInt8) (ls : List (List UInt8)) (tx : List UInt8) (htx : tx = tildes K ++ 10 :: t0) (hB : Body K t0 ls) (hK : 3 ≤ K) (hK2 : K ≤ 10000) (htl : t0.length ≤ 1000000) (hll : ls.length ≤ 1000000) (htask : o.tasks = false) :
    Tr Tryz.prog 22 [lp pr, str tx] [o.blk pr, ent T es] fun u K' => ∃ d e q fe cv ja jm jc IB ia im ic Bt, u = .tuple #[lp d, cv] ∧ Blks (.slice ja jm jc) [.iface 234 (lp q)] IB ∧ Strs (.slice ia im ic) ls Bt ∧
      K' = [o.blk pr, ent T es, docb d 0 e (.slice ja jm jc) (.map none), cdb q 1 fe K (.slice ia im ic), IB, Bt] := by
  have hnoB := hB.no
  have hno : ∀ d ∈ tx, d ≠ 13 ∧ d ≠ 0 := by
    intro d hd
    rw [htx] at hd
    rcases List.mem_append.1 hd with hd | hd
    · rw [List.eq_of_mem_replicate hd]; decide
    · rcases List.mem_cons.1 hd with rfl | hd
      · decide
      · exact hnoB d hd
  have n0 := fst1_no (c := 0) (fun d hd => (hno d hd).2)
  have n13 := fst1_no (c := 13) (fun d hd => (hno d hd).1)
  have hlen : tx.length = K + t0.length + 1 := by rw [htx, List.length_append, tildes_len, List.length_cons]; omega
  have htl' : tx.length ≤ 140737488355328 := by omega
  have hne : ¬ tx = [] := by intro h; rw [h] at hlen; simp at hlen
  obtain ⟨o1, o2, o3, o4, o5, o6, o7, o8, o9, o10⟩ := o
  subst htask
  refine Tr.start (n := 114) (rs := [.tmp 4, .tmp 5]) rfl rfl rfl rfl fun B => ?_
  (repeat' (first | refine s_pure (zzContains_tr tx 0 htl' n0) ?_ | refine k_seq ?_ | refine k_region ?_ | refine k_nil ?_ | refine k_then ?_ | refine k_false ?_ | refine k_skip ?_ | refine s_move ?_ | refine s_assign ?_ | refine s_field ?_ | refine s_mki ?_ | refine s_store ?_ | refine s_buildx ?_ | refine s_alloc (fun _ => ?_) | refine s_box (fun _ => ?_)))
  rename_i p rb
  refine s_call (addBlock_root p (⟨lp pr, .pointer none, .map none, inat 0, .slice none 0 0, .int .i64 (-1), .bool false, str [], .int .i64 0, .slice none 0 0, .slice none 0 0, .slice none 0 0, bt0⟩ : PS) _ (lp rb) 0 rfl rfl rfl) (fun u K' hR => ?_)
  obtain ⟨rfl, g, cap, cur, hO, rfl⟩ := hR
  (repeat' (first | refine k_seq ?_ | refine k_nil ?_ | refine k_then ?_))
  refine k_midx (fun x : FL => [(0, lp pr), (6, lp p)])
    (fun x => match x with
      | .a => []
      | .o x => [(⟨lp pr, .pointer none, .map none, inat x.k, stk x.g 2 x.cap, inat x.dp, .bool x.cn, str [], .int .i64 0, .slice none 0 0, .slice none 0 0, .slice none 0 0, bt0⟩ : PS).blk p, stb x.g x.cur, (⟨o1, o2, false, o4, o5, o6, o7, o8, o9, o10⟩ : PO).blk pr, fbb x.b K (.slice x.ia x.im x.ic), x.Bt, ent T es]
      | .c x => [(⟨lp pr, .pointer none, .map none, inat x.k, stk x.g 1 x.cap, inat 0, .bool x.cn, str [], .int .i64 0, .slice none 0 0, .slice none 0 0, .slice none 0 0, bt0⟩ : PS).blk p, stb x.g x.cur, (⟨o1, o2, false, o4, o5, o6, o7, o8, o9, o10⟩ : PO).blk pr, cdb x.q 1 x.fe K (.slice x.ia x.im x.ic), x.IB, x.Bt, ent T es])
    (fun x => match x with
      | .a => False
      | .o x => Stk (stk x.g 2 x.cap) 2 [.iface 67 (lp rb), .slice none 0 0, inat 0, inat x.e, .iface 224 (lp x.b), .slice none 0 0, inat 1, inat x.fe] (stb x.g x.cur) ∧ Strs (.slice x.ia x.im x.ic) ls x.Bt
      | .c x => Stk (stk x.g 1 x.cap) 1 [.iface 67 (lp rb), .slice x.ja x.jm x.jc, inat 0, inat x.e] (stb x.g x.cur) ∧ Blks (.slice x.ja x.jm x.jc) [.iface 234 (lp x.q)] x.IB ∧ Strs (.slice x.ia x.im x.ic) ls x.Bt) ?_ ?_
  · (repeat' (first | refine k_blk ?_))
    refine k_loop (fun x : FL => match x with
      | .a => [(0, lp pr), (1, str tx), (6, lp p)]
      | .o x => [(0, lp pr), (1, str x.t), (6, lp p)]
      | .c _ => [(0, lp pr), (1, str []), (6, lp p)])
      (fun x => match x with
      | .a => [(⟨lp pr, .pointer none, .map none, inat 0, stk g 1 cap, .int .i64 (-1), .bool false, str [], .int .i64 0, .slice none 0 0, .slice none 0 0, .slice none 0 0, bt0⟩ : PS).blk p, stb g cur, (⟨o1, o2, false, o4, o5, o6, o7, o8, o9, o10⟩ : PO).blk pr, ent T es]
      | .o x => [(⟨lp pr, .pointer none, .map none, inat x.k, stk x.g 2 x.cap, inat x.dp, .bool x.cn, str [], .int .i64 0, .slice none 0 0, .slice none 0 0, .slice none 0 0, bt0⟩ : PS).blk p, stb x.g x.cur, (⟨o1, o2, false, o4, o5, o6, o7, o8, o9, o10⟩ : PO).blk pr, fbb x.b K (.slice x.ia x.im x.ic), x.Bt, ent T es]
      | .c x => [(⟨lp pr, .pointer none, .map none, inat x.k, stk x.g 1 x.cap, inat 0, .bool x.cn, str [], .int .i64 0, .slice none 0 0, .slice none 0 0, .slice none 0 0, bt0⟩ : PS).blk p, stb x.g x.cur, (⟨o1, o2, false, o4, o5, o6, o7, o8, o9, o10⟩ : PO).blk pr, cdb x.q 1 x.fe K (.slice x.ia x.im x.ic), x.IB, x.Bt, ent T es])
      (fun x => match x with
      | .a => True
      | .o x => (Body K x.t x.rest ∧ ls = x.done ++ x.rest ∧ x.k = x.done.length + 1 ∧ x.t.length ≤ t0.length) ∧ Stk (stk x.g 2 x.cap) 2 [.iface 67 (lp rb), .slice none 0 0, inat 0, inat x.e, .iface 224 (lp x.b), .slice none 0 0, inat 1, inat x.fe] (stb x.g x.cur) ∧ Strs (.slice x.ia x.im x.ic) x.done x.Bt
      | .c x => Stk (stk x.g 1 x.cap) 1 [.iface 67 (lp rb), .slice x.ja x.jm x.jc, inat 0, inat x.e] (stb x.g x.cur) ∧ Blks (.slice x.ja x.jm x.jc) [.iface 234 (lp x.q)] x.IB ∧ Strs (.slice x.ia x.im x.ic) ls x.Bt)
      (fun x => match x with
      | .a => t0.length + 2
      | .o x => x.t.length + 1
      | .c _ => 0) .a trivial (Knows.spec (by repeat (first | exact trivial | refine ⟨rfl, ?_⟩))) (by repeat (first | exact SubH.nilR _ | refine SubH.pick (by repeat (first | exact HTake.here | apply HTake.there)) ?_)) fun x hx => ?_
    cases x with
    | a =>
      have f10 := fst1_mid (tildes K) t0 (tildes_no10 K)
      have e2 : tx.take K = tildes K := by rw [htx, List.take_left' (tildes_len K)]
      have e3 : tx.drop (K + 1) = t0 := by
        rw [htx]
        have : (tildes K ++ 10 :: t0) = (tildes K ++ [10]) ++ t0 := by simp
        rw [this, List.drop_left' (by rw [List.length_append, tildes_len]; rfl)]
      (repeat' (first | refine Wp.draw_all (id := 22) Mixed.out (by kernel_rfl) ?_ | refine s_pure (zzIndex_tr tx 10 htl' K (by rw [htx, f10, tildes_len, ← htx, if_pos (by omega)])) ?_ | refine s_pure (zzIndex_tr tx 13 htl' (-1) (by rw [if_neg n13])) ?_ | refine k_seq ?_ | refine k_region ?_ | refine k_nil ?_ | refine k_then ?_ | refine k_true ?_ | refine k_false ?_ | refine k_blk ?_ | refine k_skip ?_ | refine k_block ?_ | refine s_gskipt ?_ | refine s_gskipu ?_ | refine s_move ?_ | refine s_assign ?_ | refine s_load ?_ | refine s_field ?_ | refine s_add1 ?_ | refine s_geq_t ?_ | refine s_geq_f ?_ | refine s_pickf ?_ | refine s_nes_t ?_ | refine s_store ?_ | refine s_buildx ?_ | refine u_nil ?_ | refine u_move ?_ | refine u_assign ?_ | refine u_add1 ?_ | refine u_slicef ?_ | refine u_slicet ?_))
      have ha := addLine_open T es hE p g cap K (⟨lp pr, .pointer none, .map none, inat 1, stk g 1 cap, .int .i64 (-1), .bool false, str [], .int .i64 0, .slice none 0 0, .slice none 0 0, .slice none 0 0, bt0⟩ : PS) cur _ (lp rb) _ _ _ 1 10 hK hK2 hO rfl rfl rfl rfl
      rw [← e2] at ha
      refine s_call ha (fun u K' hR => ?_)
      obtain ⟨rfl, g', cap', cur', b, k1, rfl⟩ := hR
      refine s_nilblk ?_
      (repeat' (first | refine k_nil ?_ | refine k_then ?_ | refine k_block ?_))
      exact ⟨.o ⟨1, tx.drop (K + 1), [], ls, false, 0, g', cap', cur', b, none, 0, 0, [], 1, 0⟩, (Knows.spec (by repeat (first | exact trivial | refine ⟨rfl, ?_⟩))), (by repeat (first | exact SubH.nilR _ | refine SubH.pick (by repeat (first | exact HTake.here | apply HTake.there)) ?_)), ⟨⟨by simp only; rw [e3]; exact hB, rfl, rfl, by simp only; rw [e3]; exact Nat.le_refl _⟩, k1, Own.nil _ _⟩, (by show (tx.drop (K + 1)).length + 1 < t0.length + 2; rw [e3]; omega)⟩
    | o x =>
      obtain ⟨k, t, done, rest, cn, dp, g, cap, cur, b, ia, im, ic, Bt, fe, e⟩ := x
      obtain ⟨⟨hb, hls, hk, htt⟩, k1, k2⟩ := hx
      simp only at hb hls hk htt k1 k2 ⊢
      have hdl : done.length ≤ 1000000 := by have := congrArg List.length hls; rw [List.length_append] at this; omega
      have hjl : t.length ≤ 140737488355328 := by omega
      have m13 := fst1_no (c := 13) (fun d hd => (hb.no d hd).1)
      cases hb with
      | nil =>
        rw [List.append_nil] at hls
        subst hls
        (repeat' (first | refine k_seq ?_ | refine k_region ?_ | refine k_nil ?_ | refine k_then ?_ | refine k_false ?_ | refine k_exit ?_ | refine k_exit_then ?_ | refine k_hit ?_ | refine s_move ?_ | refine s_nes_f ?_))
        exact ⟨.o ⟨k, [], ls, [], cn, dp, g, cap, cur, b, ia, im, ic, Bt, fe, e⟩, (by repeat (first | exact trivial | refine ⟨rfl, ?_⟩)), (by repeat (first | exact SubH.nilR _ | refine SubH.pick (by repeat (first | exact HTake.here | apply HTake.there)) ?_)), k1, k2⟩
      | close =>
        rw [List.append_nil] at hls
        subst hls
        generalize ht : tildes K ++ [10] = t at *
        have f10 := fst1_mid (tildes K) [] (tildes_no10 K)
        rw [ht, tildes_len] at f10
        have hl1 : t.length = K + 1 := by rw [← ht, List.length_append, tildes_len]; rfl
        have e2 : t.take K = tildes K := by rw [← ht, List.take_left' (tildes_len K)]
        have e3 : t.drop (K + 1) = [] := List.drop_eq_nil_of_le (by omega)
        have hn0 : ¬ t = [] := by intro h; rw [h] at hl1; simp at hl1
        (repeat' (first | refine Wp.draw_all (id := 22) Mixed.out (by kernel_rfl) ?_ | refine s_pure (zzIndex_tr t 10 hjl K (by rw [f10, if_pos (by omega)])) ?_ | refine s_pure (zzIndex_tr t 13 hjl (-1) (by rw [if_neg m13])) ?_ | refine k_seq ?_ | refine k_region ?_ | refine k_nil ?_ | refine k_then ?_ | refine k_true ?_ | refine k_false ?_ | refine k_blk ?_ | refine k_skip ?_ | refine k_block ?_ | refine s_gskipt ?_ | refine s_gskipu ?_ | refine s_move ?_ | refine s_assign ?_ | refine s_load ?_ | refine s_field ?_ | refine s_add1 ?_ | refine s_geq_t ?_ | refine s_geq_f ?_ | refine s_pickf ?_ | refine s_nes_t ?_ | refine s_store ?_ | refine s_buildx ?_ | refine u_nil ?_ | refine u_move ?_ | refine u_assign ?_ | refine u_add1 ?_ | refine u_slicef ?_ | refine u_slicet ?_))
        have ha := addLine_close T es hE p g cap b K (⟨lp pr, .pointer none, .map none, inat (k + 1), stk g 2 cap, inat dp, .bool cn, str [], .int .i64 0, .slice none 0 0, .slice none 0 0, .slice none 0 0, bt0⟩ : PS) cur _ (lp rb) _ _ _ 1 fe (k + 1) 10 hK hK2 ia im ic k1 rfl rfl
        rw [← e2] at ha
        refine s_call ha (fun u K' hR => ?_)
        obtain ⟨rfl, q, cur2, ja, jm, jc, IB, j1, j2, rfl⟩ := hR
        rw [e3]
        (repeat' (first | refine k_nil ?_ | refine k_then ?_ | refine k_block ?_))
        exact ⟨.c ⟨k + 1, cn, g, cap, cur2, q, ja, jm, jc, IB, ia, im, ic, Bt, k + 1, e⟩, (Knows.spec (by repeat (first | exact trivial | refine ⟨rfl, ?_⟩))), (by repeat (first | exact SubH.nilR _ | refine SubH.pick (by repeat (first | exact HTake.here | apply HTake.there)) ?_)), ⟨j1, j2, k2⟩, (by show 0 < t.length + 1; omega)⟩
      | last l hl hl0 =>
        have n10 := fst1_no (c := 10) (l := t) (fun d hd => (hl.c d hd).1)
        (repeat' (first | refine s_pure (zzIndex_tr t 10 hjl (-1) (by rw [if_neg n10])) ?_ | refine s_pure (zzIndex_tr t 13 hjl (-1) (by rw [if_neg m13])) ?_ | refine k_seq ?_ | refine k_region ?_ | refine k_nil ?_ | refine k_then ?_ | refine k_true ?_ | refine k_false ?_ | refine k_blk ?_ | refine k_skip ?_ | refine k_block ?_ | refine s_gskipt ?_ | refine s_gskipu ?_ | refine s_move ?_ | refine s_assign ?_ | refine s_load ?_ | refine s_field ?_ | refine s_add1 ?_ | refine s_geq_f ?_ | refine s_pickf ?_ | refine s_nes_t ?_ | refine s_store ?_ | refine s_buildx ?_))
        refine s_call (addLine_in T es hE p g cap b K (⟨lp pr, .pointer none, .map none, inat (k + 1), stk g 2 cap, inat dp, .bool cn, str [], .int .i64 0, .slice none 0 0, .slice none 0 0, .slice none 0 0, bt0⟩ : PS) cn rfl cur _ (lp rb) _ _ _ _ 1 fe (k + 1) t 0 hl hK hK2 (.slice ia im ic) done Bt k2 hdl k1 rfl rfl) (fun u K' hR => ?_)
        obtain ⟨rfl, cn', cur', tv', Bt', fe', j1, j2, rfl⟩ := hR
        obtain ⟨ia', ic', rfl⟩ := Own.isSlice j2
        (repeat' (first | refine k_nil ?_ | refine k_then ?_ | refine k_block ?_))
        exact ⟨.o ⟨k + 1, [], done ++ [t], [], cn', 1, g, cap, cur', b, ia', _, ic', Bt', fe', e⟩, (Knows.spec (by repeat (first | exact trivial | refine ⟨rfl, ?_⟩))), (by repeat (first | exact SubH.nilR _ | refine SubH.pick (by repeat (first | exact HTake.here | apply HTake.there)) ?_)), ⟨⟨Body.nil, by rw [hls]; simp, by simp; omega, by simp⟩, j1, j2⟩, (by show 0 + 1 < t.length + 1; have := List.length_pos_iff.2 hl0; omega)⟩
      | cons l t' ls' hl hb' =>
        generalize ht : l ++ 10 :: t' = t at *
        have f10 := fst1_mid l t' (fun d hd => (hl.c d hd).1)
        rw [ht] at f10
        have hl1 : t.length = l.length + t'.length + 1 := by rw [← ht, List.length_append, List.length_cons]; omega
        have e2 : t.take l.length = l := by rw [← ht, List.take_left' rfl]
        have e3 : t.drop (l.length + 1) = t' := by
          rw [← ht]
          have : (l ++ 10 :: t') = (l ++ [10]) ++ t' := by simp
          rw [this, List.drop_left' (by rw [List.length_append]; rfl)]
        have hn0 : ¬ t = [] := by intro h; rw [h] at hl1; simp at hl1
        (repeat' (first | refine Wp.draw_all (id := 22) Mixed.out (by kernel_rfl) ?_ | refine s_pure (zzIndex_tr t 10 hjl l.length (by rw [f10, if_pos (by omega)])) ?_ | refine s_pure (zzIndex_tr t 13 hjl (-1) (by rw [if_neg m13])) ?_ | refine k_seq ?_ | refine k_region ?_ | refine k_nil ?_ | refine k_then ?_ | refine k_true ?_ | refine k_false ?_ | refine k_blk ?_ | refine k_skip ?_ | refine k_block ?_ | refine s_gskipt ?_ | refine s_gskipu ?_ | refine s_move ?_ | refine s_assign ?_ | refine s_load ?_ | refine s_field ?_ | refine s_add1 ?_ | refine s_geq_t ?_ | refine s_geq_f ?_ | refine s_pickf ?_ | refine s_nes_t ?_ | refine s_store ?_ | refine s_buildx ?_ | refine u_nil ?_ | refine u_move ?_ | refine u_assign ?_ | refine u_add1 ?_ | refine u_slicef ?_ | refine u_slicet ?_))
        have hl2 : FLine K (t.take l.length) := e2.symm ▸ hl
        refine s_call (addLine_in T es hE p g cap b K (⟨lp pr, .pointer none, .map none, inat (k + 1), stk g 2 cap, inat dp, .bool cn, str [], .int .i64 0, .slice none 0 0, .slice none 0 0, .slice none 0 0, bt0⟩ : PS) cn rfl cur _ (lp rb) _ _ _ _ 1 fe (k + 1) (t.take l.length) 10 hl2 hK hK2 (.slice ia im ic) done Bt k2 hdl k1 rfl rfl) (fun u K' hR => ?_)
        obtain ⟨rfl, cn', cur', tv', Bt', fe', j1, j2, rfl⟩ := hR
        rw [e2] at j2
        obtain ⟨ia', ic', rfl⟩ := Own.isSlice j2
        (repeat' (first | refine k_nil ?_ | refine k_then ?_ | refine k_block ?_))
        exact ⟨.o ⟨k + 1, t.drop (l.length + 1), done ++ [l], ls', cn', 1, g, cap, cur', b, ia', _, ic', Bt', fe', e⟩, (Knows.spec (by repeat (first | exact trivial | refine ⟨rfl, ?_⟩))), (by repeat (first | exact SubH.nilR _ | refine SubH.pick (by repeat (first | exact HTake.here | apply HTake.there)) ?_)), ⟨⟨by simp only; rw [e3]; exact hb', by rw [hls]; simp, by simp; omega, by simp only; rw [e3]; omega⟩, j1, j2⟩, (by show (t.drop (l.length + 1)).length + 1 < t.length + 1; rw [e3]; omega)⟩
    | c x =>
      (repeat' (first | refine k_seq ?_ | refine k_region ?_ | refine k_nil ?_ | refine k_then ?_ | refine k_false ?_ | refine k_exit ?_ | refine k_exit_then ?_ | refine k_hit ?_ | refine s_move ?_ | refine s_nes_f ?_))
      exact ⟨.c x, (by repeat (first | exact trivial | refine ⟨rfl, ?_⟩)), (by repeat (first | exact SubH.nilR _ | refine SubH.pick (by repeat (first | exact HTake.here | apply HTake.there)) ?_)), hx⟩
  · intro x hx
    cases x with
    | a => exact hx.elim
    | o x =>
      obtain ⟨k, t, done, rest, cn, dp, g, cap, cur, b, ia, im, ic, Bt, fe, e⟩ := x
      obtain ⟨k1, k2⟩ := hx
      simp only at k1 k2 ⊢
      (repeat' (first | refine k_seq ?_ | refine k_region ?_))
      refine s_call (trimFenceAll p g cap b K rb _ cur ia im ic _ 1 fe 0 e none rfl k1 rfl) (fun u K' hR => ?_)
      obtain ⟨rfl, q, cur', ja, jm, jc, IB, d, j1, rfl⟩ := hR
      (repeat' (first | refine k_seq ?_ | refine k_region ?_ | refine k_nil ?_ | refine k_then ?_ | refine s_move ?_ | refine s_load ?_ | refine s_field ?_ | refine s_len ?_))
      refine k_mid [(0, lp pr), (6, lp p)] [(⟨lp pr, lp d, .map none, inat k, stk g 0 cap, inat dp, .bool cn, str [], .int .i64 0, .slice none 0 0, .slice none 0 0, .slice none 0 0, bt0⟩ : PS).blk p, (⟨o1, o2, false, o4, o5, o6, o7, o8, o9, o10⟩ : PO).blk pr, ent T es, docb d 0 e (.slice ja jm jc) (.map none), cdb q 1 fe K (.slice ia im ic), IB, Bt] ?_ ?_
      · (repeat' (first | refine k_blk ?_))
        refine k_loop (fun _ : Unit => [(0, lp pr), (6, lp p), (81, .slice none 0 0), (82, inat 0), (83, inat 0)]) (fun _ => [(⟨lp pr, lp d, .map none, inat k, stk g 0 cap, inat dp, .bool cn, str [], .int .i64 0, .slice none 0 0, .slice none 0 0, .slice none 0 0, bt0⟩ : PS).blk p, (⟨o1, o2, false, o4, o5, o6, o7, o8, o9, o10⟩ : PO).blk pr, ent T es, docb d 0 e (.slice ja jm jc) (.map none), cdb q 1 fe K (.slice ia im ic), IB, Bt]) (fun _ => True) (fun _ => 0) () trivial (Knows.spec (by repeat (first | exact trivial | refine ⟨rfl, ?_⟩))) (by repeat (first | exact SubH.nilR _ | refine SubH.pick (by repeat (first | exact HTake.here | apply HTake.there)) ?_)) fun x hx => ?_
        (repeat' (first | refine k_seq ?_ | refine k_region ?_ | refine k_nil ?_ | refine k_then ?_ | refine k_false ?_ | refine k_exit ?_ | refine k_exit_then ?_ | refine k_hit ?_ | refine s_lss_f ?_))
        exact ⟨(by repeat (first | exact trivial | refine ⟨rfl, ?_⟩)), (by repeat (first | exact SubH.nilR _ | refine SubH.pick (by repeat (first | exact HTake.here | apply HTake.there)) ?_))⟩
      · (repeat' (first | refine Wp.draw_all (id := 38) Mixed.out (by kernel_rfl) ?_ | refine k_seq ?_ | refine k_region ?_ | refine k_nil ?_ | refine k_then ?_ | refine k_false ?_ | refine k_skip ?_ | refine k_ret ?_ | refine s_move ?_ | refine s_load ?_ | refine s_field ?_ | refine s_nilp ?_ | refine u_nil ?_ | refine u_assign ?_ | refine u_load ?_ | refine u_field ?_))
        exact e_ret _ ⟨d, e, q, fe, _, ja, jm, jc, IB, ia, im, ic, Bt, rfl, j1, k2, rfl⟩ (by repeat (first | exact SubH.nilR _ | refine SubH.pick (by repeat (first | exact HTake.here | apply HTake.there)) ?_))
    | c x =>
      obtain ⟨k, cn, g, cap, cur, q, ja, jm, jc, IB, ia, im, ic, Bt, fe, e⟩ := x
      obtain ⟨k1, k2, k3⟩ := hx
      simp only at k1 k2 k3 ⊢
      (repeat' (first | refine k_seq ?_ | refine k_region ?_))
      refine s_call (trimDoc p g cap rb _ cur ja jm jc 0 e none rfl k1 rfl) (fun u K' hR => ?_)
      obtain ⟨rfl, d, rfl⟩ := hR
      (repeat' (first | refine k_seq ?_ | refine k_region ?_ | refine k_nil ?_ | refine k_then ?_ | refine s_move ?_ | refine s_load ?_ | refine s_field ?_ | refine s_len ?_))
      refine k_mid [(0, lp pr), (6, lp p)] [(⟨lp pr, lp d, .map none, inat k, stk g 0 cap, inat 0, .bool cn, str [], .int .i64 0, .slice none 0 0, .slice none 0 0, .slice none 0 0, bt0⟩ : PS).blk p, (⟨o1, o2, false, o4, o5, o6, o7, o8, o9, o10⟩ : PO).blk pr, ent T es, docb d 0 e (.slice ja jm jc) (.map none), cdb q 1 fe K (.slice ia im ic), IB, Bt] ?_ ?_
      · (repeat' (first | refine k_blk ?_))
        refine k_loop (fun _ : Unit => [(0, lp pr), (6, lp p), (81, .slice none 0 0), (82, inat 0), (83, inat 0)]) (fun _ => [(⟨lp pr, lp d, .map none, inat k, stk g 0 cap, inat 0, .bool cn, str [], .int .i64 0, .slice none 0 0, .slice none 0 0, .slice none 0 0, bt0⟩ : PS).blk p, (⟨o1, o2, false, o4, o5, o6, o7, o8, o9, o10⟩ : PO).blk pr, ent T es, docb d 0 e (.slice ja jm jc) (.map none), cdb q 1 fe K (.slice ia im ic), IB, Bt]) (fun _ => True) (fun _ => 0) () trivial (Knows.spec (by repeat (first | exact trivial | refine ⟨rfl, ?_⟩))) (by repeat (first | exact SubH.nilR _ | refine SubH.pick (by repeat (first | exact HTake.here | apply HTake.there)) ?_)) fun x hx => ?_
        (repeat' (first | refine k_seq ?_ | refine k_region ?_ | refine k_nil ?_ | refine k_then ?_ | refine k_false ?_ | refine k_exit ?_ | refine k_exit_then ?_ | refine k_hit ?_ | refine s_lss_f ?_))
        exact ⟨(by repeat (first | exact trivial | refine ⟨rfl, ?_⟩)), (by repeat (first | exact SubH.nilR _ | refine SubH.pick (by repeat (first | exact HTake.here | apply HTake.there)) ?_))⟩
      · (repeat' (first | refine Wp.draw_all (id := 38) Mixed.out (by kernel_rfl) ?_ | refine k_seq ?_ | refine k_region ?_ | refine k_nil ?_ | refine k_then ?_ | refine k_false ?_ | refine k_skip ?_ | refine k_ret ?_ | refine s_move ?_ | refine s_load ?_ | refine s_field ?_ | refine s_nilp ?_ | refine u_nil ?_ | refine u_assign ?_ | refine u_load ?_ | refine u_field ?_))
        exact e_ret _ ⟨d, e, q, fe, _, ja, jm, jc, IB, ia, im, ic, Bt, rfl, k2, k3, rfl⟩ (by repeat (first | exact SubH.nilR _ | refine SubH.pick (by repeat (first | exact HTake.here | apply HTake.there)) ?_))
end Go.Proofs

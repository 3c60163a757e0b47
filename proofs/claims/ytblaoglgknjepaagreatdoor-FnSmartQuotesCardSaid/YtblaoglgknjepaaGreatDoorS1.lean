/- parseEmph at a run of tildes or at a quotation mark beside words and spaces of ASCII. Conditions: Run. -/
import Derived.Test.YtblaoglgknjepaaGreatDoorF8
namespace Go.Proofs
open Go Go.Eng
set_option maxRecDepth 20000
set_option maxHeartbeats 4000000

/-- A letter or a digit of a word. -/
abbrev wch (c : Nat) : Prop := 48 ≤ c ∧ c ≤ 57 ∨ 97 ≤ c ∧ c ≤ 122

theorem wrap32_of {a : Int} (h1 : 0 ≤ a) (h2 : a < 256) : IntKind.i32.wrap a = a := by
  rw [IntKind.wrap_i32]; omega
theorem s_cv32 {B : Base} {n : Nat} {L : Eng.Loc} {H : Heap} {Q : Eng.Post} {all : Array Oper} {rest : List Oper} {d : Nat} {ty : TypeId} {pos : String} {after : Array Edge} {x : Operand} {s t : TypeId} {k0 k1 : IntKind} {a : Int} [hs : UInt Tryz.prog s k1] [ht : UInt Tryz.prog t .i32] (h : Ops Tryz.prog B n all rest ((d, .int .i32 a) :: L) H Q) (hx : ev L x = some (.int k0 a) := by rfl) (ha : 0 ≤ a ∧ a < 256 := by omega) (hd : Nat.blt d n = true := by rfl) : Ops Tryz.prog B n all (⟨some d, .convert s t x, ty, pos, after, none⟩ :: rest) L H Q := Ops.pure _ (p_cvi hx (wrap32_of ha.1 ha.2)) hd h

theorem decLast_tr (l : List UInt8) (c : UInt8) (hl : l.length ≤ 140737488355328) (h0 : 0 < l.length) (hc : l[l.length - 1]? = some c) (h : c.toNat < 128) : TrP Tryz.prog 77 [str l] (.tuple #[.int .i32 c.toNat, .int .i64 1]) := by
  refine Tr.start (n := 51) (rs := [.tmp 2, .tmp 3]) rfl rfl rfl rfl fun B => ?_
  (repeat' (first | refine s_cv32 ?_ | refine k_seq ?_ | refine k_region ?_ | refine k_nil ?_ | refine k_then ?_ | refine k_true ?_ | refine k_false ?_ | refine k_skip ?_ | refine k_ret ?_ | refine k_ret_then ?_ | refine s_move ?_ | refine s_assign ?_ | refine s_sub1 ?_ | refine s_lss_t ?_ | refine s_eql_f ?_ | refine s_lens ?_ | refine s_index ?_))
  exact e_pure ⟨rfl, rfl⟩
theorem dec_tr (l : List UInt8) (c : UInt8) (hc : l[0]? = some c) (h : c.toNat < 128) : TrP Tryz.prog 78 [str l] (.tuple #[.int .i32 c.toNat, .int .i64 1]) := by
  have hne : ¬ l = [] := by intro e; subst e; simp at hc
  refine Tr.start (n := 19) (rs := [.tmp 2, .tmp 3]) rfl rfl rfl rfl fun B => ?_
  (repeat' (first | refine s_cv32 ?_ | refine k_seq ?_ | refine k_region ?_ | refine k_nil ?_ | refine k_then ?_ | refine k_true ?_ | refine k_ret ?_ | refine k_ret_then ?_ | refine s_grun ?_ | refine s_move ?_ | refine s_assign ?_ | refine s_lss_t ?_ | refine s_pickt ?_ | refine s_index ?_ | refine s_nes_t ?_))
  exact e_pure ⟨rfl, rfl⟩
theorem usp_yes (c : Nat) (h : c = 32) : TrP Tryz.prog 79 [.int .i32 c] (.bool true) := by
  refine Tr.start (n := 21) (rs := [.tmp 2]) rfl rfl rfl rfl fun B => ?_
  (repeat' (first | refine k_seq ?_ | refine k_region ?_ | refine k_nil ?_ | refine k_then ?_ | refine k_true ?_ | refine k_ret ?_ | refine k_ret_then ?_ | refine s_gskipf ?_ | refine s_move ?_ | refine s_assign ?_ | refine s_lss_t ?_ | refine s_eql_t ?_ | refine s_pickt ?_))
  exact e_pure ⟨rfl, rfl⟩
theorem usp_no (c : Nat) (h : wch c) : TrP Tryz.prog 79 [.int .i32 c] (.bool false) := by
  refine Tr.start (n := 21) (rs := [.tmp 2]) rfl rfl rfl rfl fun B => ?_
  (repeat' (first | refine k_seq ?_ | refine k_region ?_ | refine k_nil ?_ | refine k_then ?_ | refine k_true ?_ | refine k_ret ?_ | refine k_ret_then ?_ | refine s_grun ?_ | refine s_move ?_ | refine s_assign ?_ | refine s_lss_t ?_ | refine s_eql_f ?_ | refine s_pickf ?_))
  exact e_pure ⟨rfl, rfl⟩
theorem isPunct_no (c : Nat) (h : c = 32 ∨ wch c) : TrP Tryz.prog 72 [.int .u8 c] (.bool false) := by
  have := isPunctF c (by omega)
  rwa [decide_eq_false (by omega)] at this
theorem upu_no (c : Nat) (h : c = 32 ∨ wch c) : TrP Tryz.prog 80 [.int .i32 c] (.bool false) := by
  refine Tr.start (n := 10) (rs := [.tmp 2]) rfl rfl rfl rfl fun B => ?_
  (repeat' (first | refine s_pure (isPunct_no c h) ?_ | refine k_seq ?_ | refine k_region ?_ | refine k_nil ?_ | refine k_then ?_ | refine k_true ?_ | refine k_ret ?_ | refine k_ret_then ?_ | refine s_move ?_ | refine s_assign ?_ | refine s_lss_t ?_ | refine s_cv8 ?_))
  exact e_pure ⟨rfl, rfl⟩

abbrev epb (q : Nat) (r : List UInt8) (o c : Bool) (iv n : Nat) : Blk := [(q, cellsOf [str r, .bool o, .bool c, inat iv, inat n] 161)]

/-- A run of tildes or a quotation mark between a word and a space, or within a word. -/
structure Run (tx : List UInt8) (i n : Nat) (r b a : UInt8) : Prop where
  kind : r.toNat = 126 ∧ n = 1 ∨ r.toNat = 126 ∧ n = 2 ∨ r.toNat = 34 ∧ n = 1 ∨ r.toNat = 39 ∧ n = 1
  run : ∀ k, k < n → tx[i + k]? = some r
  pos : 0 < i
  bef : tx[i - 1]? = some b
  aft : tx[i + n]? = some a
  side : b.toNat = 32 ∧ wch a.toNat ∨ wch b.toNat ∧ a.toNat = 32 ∨ wch b.toNat ∧ wch a.toNat ∧ r.toNat ≠ 126

theorem parseEmph_tr (p : Nat) (s : PS) (tx : List UInt8) (i n : Nat) (r b a : UInt8) (cn : Bool) (hcn : s.corner = .bool cn) (hl : tx.length ≤ 1000000) (h : Run tx i n r b a) :
    Tr Tryz.prog 44 [lp p, str tx, inat i] [s.blk p] fun u K => ∃ q cn', u = .tuple #[.iface 159 (lp q), inat i, inat (i + n), .bool true] ∧ K = [({ s with corner := .bool cn' } : PS).blk p, epb q ((tx.take (i + n)).drop i) (decide (b.toNat = 32)) (decide (b.toNat ≠ 32)) 0 n] := by
  obtain ⟨par, root, links, lineno, stack, depth, corner, sv, em, list, lists, texts, bt⟩ := s
  subst hcn
  have hl' : tx.length ≤ 140737488355328 := by omega
  have hlen := (List.getElem?_eq_some_iff.1 h.aft).1
  have hpos := h.pos
  have haft := h.aft
  have hr0 : tx[i]? = some r := by
    have := h.run 0 (by rcases h.kind with h | h | h | h <;> omega)
    simpa using this
  have htl : (tx.take i).length = i := by rw [List.length_take]; omega
  have hdl : (tx.drop (i + n)).length = tx.length - (i + n) := List.length_drop
  have hbl : (tx.take i)[(tx.take i).length - 1]? = some b := by rw [htl, List.getElem?_take, if_pos (by omega)]; exact h.bef
  have hal : (tx.drop (i + n))[0]? = some a := by rw [List.getElem?_drop, Nat.add_zero]; exact h.aft
  have hb128 : b.toNat < 128 := by rcases h.side with h | h | h <;> omega
  have ha128 : a.toNat < 128 := by rcases h.side with h | h | h <;> omega
  have hD1 := decLast_tr (tx.take i) b (by omega) (by omega) hbl hb128
  have hD2 := dec_tr (tx.drop (i + n)) a hal ha128
  have hn12 : 1 ≤ n ∧ n ≤ 2 := by rcases h.kind with h | h | h | h <;> omega
  rcases h.side with ⟨hb, ha⟩ | ⟨hb, ha⟩ | ⟨hb, ha, hr⟩
  · rw [show decide (b.toNat = 32) = true from decide_eq_true hb, show decide (b.toNat ≠ 32) = false from decide_eq_false (by omega)]
    rcases h.kind with ⟨hk, hn⟩ | ⟨hk, hn⟩ | ⟨hk, hn⟩ | ⟨hk, hn⟩
    · refine Tr.start (n := 184) (rs := [.tmp 6, .tmp 7, .tmp 8, .tmp 9]) rfl rfl rfl rfl fun B => ?_
      (repeat' (first | refine k_seq ?_ | refine k_region ?_ | refine k_nil ?_ | refine k_then ?_ | refine k_true ?_ | refine k_blk ?_ | refine s_grun ?_ | refine s_gskipf ?_ | refine s_move ?_ | refine s_assign ?_ | refine s_add1 ?_ | refine s_eql_t ?_ | refine s_eql_f ?_ | refine s_pickt ?_ | refine s_pickf ?_ | refine s_index ?_))
      refine k_loop (fun k : Nat => [(0, lp p), (1, str tx), (2, inat i), (10, .int .u8 r.toNat), (11, inat (i + k))]) (fun _ => [(⟨par, root, links, lineno, stack, depth, .bool cn, sv, em, list, lists, texts, bt⟩ : PS).blk p]) (fun k => 1 ≤ k ∧ k ≤ n) (fun k => n - k) 1 ⟨Nat.le_refl _, by omega⟩ (Knows.spec (by repeat (first | exact trivial | refine ⟨rfl, ?_⟩))) (by repeat (first | exact SubH.nilR _ | refine SubH.pick (by repeat (first | exact HTake.here | apply HTake.there)) ?_)) fun k hkk => ?_
      obtain ⟨hk1, hk2⟩ := hkk
      by_cases hlt : k < n
      · have hrk := h.run k hlt
        (repeat' (first | refine k_seq ?_ | refine k_region ?_ | refine k_nil ?_ | refine k_then ?_ | refine k_true ?_ | refine k_blk ?_ | refine k_skip ?_ | refine k_block ?_ | refine s_grun ?_ | refine s_move ?_ | refine s_assign ?_ | refine s_add1 ?_ | refine s_lss_t ?_ | refine s_eql_t ?_ | refine s_pickt ?_ | refine s_lens ?_ | refine s_index ?_))
        exact ⟨k + 1, (Knows.spec (by repeat (first | exact trivial | refine ⟨rfl, ?_⟩))), (by repeat (first | exact SubH.nilR _ | refine SubH.pick (by repeat (first | exact HTake.here | apply HTake.there)) ?_)), by omega, by omega⟩
      · have : k = n := by omega
        subst this
        (repeat' (first | refine Ops.pure _ (p_sub (a := i + k) (b := i) (c := k) (by rfl) (by rfl) (by omega) (by omega)) (by rfl) ?_ | refine s_pure (hD1) ?_ | refine s_pure (hD2) ?_ | refine s_pure (usp_no a.toNat ha) ?_ | refine s_pure (upu_no a.toNat (.inr ha)) ?_ | refine s_pure (usp_yes b.toNat hb) ?_ | refine k_seq ?_ | refine k_region ?_ | refine k_nil ?_ | refine k_then ?_ | refine k_true ?_ | refine k_false ?_ | refine k_blk ?_ | refine k_skip ?_ | refine k_block ?_ | refine k_exit ?_ | refine k_exit_then ?_ | refine k_hit ?_ | refine k_ret ?_ | refine s_grun ?_ | refine s_gskipt ?_ | refine s_gskipf ?_ | refine s_gskipu ?_ | refine s_move ?_ | refine s_assign ?_ | refine s_field ?_ | refine s_nilp ?_ | refine s_lss_t ?_ | refine s_gtr_f ?_ | refine s_geq_f ?_ | refine s_eql_t ?_ | refine s_eql_f ?_ | refine s_neq_t ?_ | refine s_pickt ?_ | refine s_pickf ?_ | refine s_lens ?_ | refine s_index ?_ | refine s_ext ?_ | refine s_slices ?_ | refine s_slicef ?_ | refine s_slicet ?_ | refine s_nott ?_ | refine s_notf ?_ | refine s_mki ?_ | refine s_store ?_ | refine s_buildx ?_ | refine s_box (fun _ => ?_)))
        rename_i q
        exact e_ret _ ⟨q, true, rfl, rfl⟩ (by repeat (first | exact SubH.nilR _ | refine SubH.pick (by repeat (first | exact HTake.here | apply HTake.there)) ?_))
    · refine Tr.start (n := 184) (rs := [.tmp 6, .tmp 7, .tmp 8, .tmp 9]) rfl rfl rfl rfl fun B => ?_
      (repeat' (first | refine k_seq ?_ | refine k_region ?_ | refine k_nil ?_ | refine k_then ?_ | refine k_true ?_ | refine k_blk ?_ | refine s_grun ?_ | refine s_gskipf ?_ | refine s_move ?_ | refine s_assign ?_ | refine s_add1 ?_ | refine s_eql_t ?_ | refine s_eql_f ?_ | refine s_pickt ?_ | refine s_pickf ?_ | refine s_index ?_))
      refine k_loop (fun k : Nat => [(0, lp p), (1, str tx), (2, inat i), (10, .int .u8 r.toNat), (11, inat (i + k))]) (fun _ => [(⟨par, root, links, lineno, stack, depth, .bool cn, sv, em, list, lists, texts, bt⟩ : PS).blk p]) (fun k => 1 ≤ k ∧ k ≤ n) (fun k => n - k) 1 ⟨Nat.le_refl _, by omega⟩ (Knows.spec (by repeat (first | exact trivial | refine ⟨rfl, ?_⟩))) (by repeat (first | exact SubH.nilR _ | refine SubH.pick (by repeat (first | exact HTake.here | apply HTake.there)) ?_)) fun k hkk => ?_
      obtain ⟨hk1, hk2⟩ := hkk
      by_cases hlt : k < n
      · have hrk := h.run k hlt
        (repeat' (first | refine k_seq ?_ | refine k_region ?_ | refine k_nil ?_ | refine k_then ?_ | refine k_true ?_ | refine k_blk ?_ | refine k_skip ?_ | refine k_block ?_ | refine s_grun ?_ | refine s_move ?_ | refine s_assign ?_ | refine s_add1 ?_ | refine s_lss_t ?_ | refine s_eql_t ?_ | refine s_pickt ?_ | refine s_lens ?_ | refine s_index ?_))
        exact ⟨k + 1, (Knows.spec (by repeat (first | exact trivial | refine ⟨rfl, ?_⟩))), (by repeat (first | exact SubH.nilR _ | refine SubH.pick (by repeat (first | exact HTake.here | apply HTake.there)) ?_)), by omega, by omega⟩
      · have : k = n := by omega
        subst this
        (repeat' (first | refine Ops.pure _ (p_sub (a := i + k) (b := i) (c := k) (by rfl) (by rfl) (by omega) (by omega)) (by rfl) ?_ | refine s_pure (hD1) ?_ | refine s_pure (hD2) ?_ | refine s_pure (usp_no a.toNat ha) ?_ | refine s_pure (upu_no a.toNat (.inr ha)) ?_ | refine s_pure (usp_yes b.toNat hb) ?_ | refine k_seq ?_ | refine k_region ?_ | refine k_nil ?_ | refine k_then ?_ | refine k_true ?_ | refine k_false ?_ | refine k_blk ?_ | refine k_skip ?_ | refine k_block ?_ | refine k_exit ?_ | refine k_exit_then ?_ | refine k_hit ?_ | refine k_ret ?_ | refine s_grun ?_ | refine s_gskipt ?_ | refine s_gskipf ?_ | refine s_gskipu ?_ | refine s_move ?_ | refine s_assign ?_ | refine s_lss_t ?_ | refine s_gtr_f ?_ | refine s_geq_f ?_ | refine s_eql_t ?_ | refine s_eql_f ?_ | refine s_neq_f ?_ | refine s_pickt ?_ | refine s_pickf ?_ | refine s_lens ?_ | refine s_index ?_ | refine s_ext ?_ | refine s_slices ?_ | refine s_slicef ?_ | refine s_slicet ?_ | refine s_nott ?_ | refine s_notf ?_ | refine s_mki ?_ | refine s_buildx ?_ | refine s_box (fun _ => ?_)))
        rename_i q
        exact e_ret _ ⟨q, cn, rfl, rfl⟩ (by repeat (first | exact SubH.nilR _ | refine SubH.pick (by repeat (first | exact HTake.here | apply HTake.there)) ?_))
    · subst hn
      refine Tr.start (n := 184) (rs := [.tmp 6, .tmp 7, .tmp 8, .tmp 9]) rfl rfl rfl rfl fun B => ?_
      (repeat' (first | refine Ops.pure _ (p_sub (a := i + 1) (b := i) (c := 1) (by rfl) (by rfl) (by omega) (by omega)) (by rfl) ?_ | refine s_pure (hD1) ?_ | refine s_pure (hD2) ?_ | refine s_pure (usp_no a.toNat ha) ?_ | refine s_pure (upu_no a.toNat (.inr ha)) ?_ | refine s_pure (usp_yes b.toNat hb) ?_ | refine k_seq ?_ | refine k_region ?_ | refine k_nil ?_ | refine k_then ?_ | refine k_true ?_ | refine k_false ?_ | refine k_blk ?_ | refine k_skip ?_ | refine k_block ?_ | refine k_ret ?_ | refine s_grun ?_ | refine s_gskipt ?_ | refine s_gskipf ?_ | refine s_gskipu ?_ | refine s_move ?_ | refine s_assign ?_ | refine s_add1 ?_ | refine s_geq_f ?_ | refine s_eql_t ?_ | refine s_eql_f ?_ | refine s_neq_t ?_ | refine s_pickt ?_ | refine s_pickf ?_ | refine s_lens ?_ | refine s_index ?_ | refine s_ext ?_ | refine s_slices ?_ | refine s_slicef ?_ | refine s_slicet ?_ | refine s_nott ?_ | refine s_notf ?_ | refine s_mki ?_ | refine s_buildx ?_ | refine s_box (fun _ => ?_)))
      rename_i q
      exact e_ret _ ⟨q, cn, rfl, rfl⟩ (by repeat (first | exact SubH.nilR _ | refine SubH.pick (by repeat (first | exact HTake.here | apply HTake.there)) ?_))
    · subst hn
      refine Tr.start (n := 184) (rs := [.tmp 6, .tmp 7, .tmp 8, .tmp 9]) rfl rfl rfl rfl fun B => ?_
      (repeat' (first | refine Ops.pure _ (p_sub (a := i + 1) (b := i) (c := 1) (by rfl) (by rfl) (by omega) (by omega)) (by rfl) ?_ | refine s_pure (hD1) ?_ | refine s_pure (hD2) ?_ | refine s_pure (usp_no a.toNat ha) ?_ | refine s_pure (upu_no a.toNat (.inr ha)) ?_ | refine s_pure (usp_yes b.toNat hb) ?_ | refine k_seq ?_ | refine k_region ?_ | refine k_nil ?_ | refine k_then ?_ | refine k_true ?_ | refine k_false ?_ | refine k_blk ?_ | refine k_skip ?_ | refine k_block ?_ | refine k_ret ?_ | refine s_grun ?_ | refine s_gskipt ?_ | refine s_gskipf ?_ | refine s_gskipu ?_ | refine s_move ?_ | refine s_assign ?_ | refine s_add1 ?_ | refine s_geq_f ?_ | refine s_eql_t ?_ | refine s_eql_f ?_ | refine s_neq_t ?_ | refine s_pickt ?_ | refine s_pickf ?_ | refine s_lens ?_ | refine s_index ?_ | refine s_ext ?_ | refine s_slices ?_ | refine s_slicef ?_ | refine s_slicet ?_ | refine s_nott ?_ | refine s_notf ?_ | refine s_mki ?_ | refine s_buildx ?_ | refine s_box (fun _ => ?_)))
      rename_i q
      exact e_ret _ ⟨q, cn, rfl, rfl⟩ (by repeat (first | exact SubH.nilR _ | refine SubH.pick (by repeat (first | exact HTake.here | apply HTake.there)) ?_))
  · rw [show decide (b.toNat = 32) = false from decide_eq_false (by omega), show decide (b.toNat ≠ 32) = true from decide_eq_true (by omega)]
    rcases h.kind with ⟨hk, hn⟩ | ⟨hk, hn⟩ | ⟨hk, hn⟩ | ⟨hk, hn⟩
    · refine Tr.start (n := 184) (rs := [.tmp 6, .tmp 7, .tmp 8, .tmp 9]) rfl rfl rfl rfl fun B => ?_
      (repeat' (first | refine k_seq ?_ | refine k_region ?_ | refine k_nil ?_ | refine k_then ?_ | refine k_true ?_ | refine k_blk ?_ | refine s_grun ?_ | refine s_gskipf ?_ | refine s_move ?_ | refine s_assign ?_ | refine s_add1 ?_ | refine s_eql_t ?_ | refine s_eql_f ?_ | refine s_pickt ?_ | refine s_pickf ?_ | refine s_index ?_))
      refine k_loop (fun k : Nat => [(0, lp p), (1, str tx), (2, inat i), (10, .int .u8 r.toNat), (11, inat (i + k))]) (fun _ => [(⟨par, root, links, lineno, stack, depth, .bool cn, sv, em, list, lists, texts, bt⟩ : PS).blk p]) (fun k => 1 ≤ k ∧ k ≤ n) (fun k => n - k) 1 ⟨Nat.le_refl _, by omega⟩ (Knows.spec (by repeat (first | exact trivial | refine ⟨rfl, ?_⟩))) (by repeat (first | exact SubH.nilR _ | refine SubH.pick (by repeat (first | exact HTake.here | apply HTake.there)) ?_)) fun k hkk => ?_
      obtain ⟨hk1, hk2⟩ := hkk
      by_cases hlt : k < n
      · have hrk := h.run k hlt
        (repeat' (first | refine k_seq ?_ | refine k_region ?_ | refine k_nil ?_ | refine k_then ?_ | refine k_true ?_ | refine k_blk ?_ | refine k_skip ?_ | refine k_block ?_ | refine s_grun ?_ | refine s_move ?_ | refine s_assign ?_ | refine s_add1 ?_ | refine s_lss_t ?_ | refine s_eql_t ?_ | refine s_pickt ?_ | refine s_lens ?_ | refine s_index ?_))
        exact ⟨k + 1, (Knows.spec (by repeat (first | exact trivial | refine ⟨rfl, ?_⟩))), (by repeat (first | exact SubH.nilR _ | refine SubH.pick (by repeat (first | exact HTake.here | apply HTake.there)) ?_)), by omega, by omega⟩
      · have : k = n := by omega
        subst this
        (repeat' (first | refine Ops.pure _ (p_sub (a := i + k) (b := i) (c := k) (by rfl) (by rfl) (by omega) (by omega)) (by rfl) ?_ | refine s_pure (hD1) ?_ | refine s_pure (hD2) ?_ | refine s_pure (usp_yes a.toNat ha) ?_ | refine s_pure (usp_no b.toNat hb) ?_ | refine s_pure (upu_no b.toNat (.inr hb)) ?_ | refine k_seq ?_ | refine k_region ?_ | refine k_nil ?_ | refine k_then ?_ | refine k_true ?_ | refine k_false ?_ | refine k_blk ?_ | refine k_skip ?_ | refine k_block ?_ | refine k_exit ?_ | refine k_exit_then ?_ | refine k_hit ?_ | refine k_ret ?_ | refine s_grun ?_ | refine s_gskipt ?_ | refine s_gskipf ?_ | refine s_gskipu ?_ | refine s_move ?_ | refine s_assign ?_ | refine s_field ?_ | refine s_nilp ?_ | refine s_lss_t ?_ | refine s_gtr_f ?_ | refine s_geq_f ?_ | refine s_eql_t ?_ | refine s_eql_f ?_ | refine s_neq_t ?_ | refine s_pickt ?_ | refine s_pickf ?_ | refine s_lens ?_ | refine s_index ?_ | refine s_ext ?_ | refine s_slices ?_ | refine s_slicef ?_ | refine s_slicet ?_ | refine s_nott ?_ | refine s_notf ?_ | refine s_mki ?_ | refine s_store ?_ | refine s_buildx ?_ | refine s_box (fun _ => ?_)))
        rename_i q
        exact e_ret _ ⟨q, true, rfl, rfl⟩ (by repeat (first | exact SubH.nilR _ | refine SubH.pick (by repeat (first | exact HTake.here | apply HTake.there)) ?_))
    · refine Tr.start (n := 184) (rs := [.tmp 6, .tmp 7, .tmp 8, .tmp 9]) rfl rfl rfl rfl fun B => ?_
      (repeat' (first | refine k_seq ?_ | refine k_region ?_ | refine k_nil ?_ | refine k_then ?_ | refine k_true ?_ | refine k_blk ?_ | refine s_grun ?_ | refine s_gskipf ?_ | refine s_move ?_ | refine s_assign ?_ | refine s_add1 ?_ | refine s_eql_t ?_ | refine s_eql_f ?_ | refine s_pickt ?_ | refine s_pickf ?_ | refine s_index ?_))
      refine k_loop (fun k : Nat => [(0, lp p), (1, str tx), (2, inat i), (10, .int .u8 r.toNat), (11, inat (i + k))]) (fun _ => [(⟨par, root, links, lineno, stack, depth, .bool cn, sv, em, list, lists, texts, bt⟩ : PS).blk p]) (fun k => 1 ≤ k ∧ k ≤ n) (fun k => n - k) 1 ⟨Nat.le_refl _, by omega⟩ (Knows.spec (by repeat (first | exact trivial | refine ⟨rfl, ?_⟩))) (by repeat (first | exact SubH.nilR _ | refine SubH.pick (by repeat (first | exact HTake.here | apply HTake.there)) ?_)) fun k hkk => ?_
      obtain ⟨hk1, hk2⟩ := hkk
      by_cases hlt : k < n
      · have hrk := h.run k hlt
        (repeat' (first | refine k_seq ?_ | refine k_region ?_ | refine k_nil ?_ | refine k_then ?_ | refine k_true ?_ | refine k_blk ?_ | refine k_skip ?_ | refine k_block ?_ | refine s_grun ?_ | refine s_move ?_ | refine s_assign ?_ | refine s_add1 ?_ | refine s_lss_t ?_ | refine s_eql_t ?_ | refine s_pickt ?_ | refine s_lens ?_ | refine s_index ?_))
        exact ⟨k + 1, (Knows.spec (by repeat (first | exact trivial | refine ⟨rfl, ?_⟩))), (by repeat (first | exact SubH.nilR _ | refine SubH.pick (by repeat (first | exact HTake.here | apply HTake.there)) ?_)), by omega, by omega⟩
      · have : k = n := by omega
        subst this
        (repeat' (first | refine Ops.pure _ (p_sub (a := i + k) (b := i) (c := k) (by rfl) (by rfl) (by omega) (by omega)) (by rfl) ?_ | refine s_pure (hD1) ?_ | refine s_pure (hD2) ?_ | refine s_pure (usp_yes a.toNat ha) ?_ | refine s_pure (usp_no b.toNat hb) ?_ | refine s_pure (upu_no b.toNat (.inr hb)) ?_ | refine k_seq ?_ | refine k_region ?_ | refine k_nil ?_ | refine k_then ?_ | refine k_true ?_ | refine k_false ?_ | refine k_blk ?_ | refine k_skip ?_ | refine k_block ?_ | refine k_exit ?_ | refine k_exit_then ?_ | refine k_hit ?_ | refine k_ret ?_ | refine s_grun ?_ | refine s_gskipt ?_ | refine s_gskipf ?_ | refine s_gskipu ?_ | refine s_move ?_ | refine s_assign ?_ | refine s_lss_t ?_ | refine s_gtr_f ?_ | refine s_geq_f ?_ | refine s_eql_t ?_ | refine s_eql_f ?_ | refine s_neq_f ?_ | refine s_pickt ?_ | refine s_pickf ?_ | refine s_lens ?_ | refine s_index ?_ | refine s_ext ?_ | refine s_slices ?_ | refine s_slicef ?_ | refine s_slicet ?_ | refine s_nott ?_ | refine s_notf ?_ | refine s_mki ?_ | refine s_buildx ?_ | refine s_box (fun _ => ?_)))
        rename_i q
        exact e_ret _ ⟨q, cn, rfl, rfl⟩ (by repeat (first | exact SubH.nilR _ | refine SubH.pick (by repeat (first | exact HTake.here | apply HTake.there)) ?_))
    · subst hn
      refine Tr.start (n := 184) (rs := [.tmp 6, .tmp 7, .tmp 8, .tmp 9]) rfl rfl rfl rfl fun B => ?_
      (repeat' (first | refine Ops.pure _ (p_sub (a := i + 1) (b := i) (c := 1) (by rfl) (by rfl) (by omega) (by omega)) (by rfl) ?_ | refine s_pure (hD1) ?_ | refine s_pure (hD2) ?_ | refine s_pure (usp_yes a.toNat ha) ?_ | refine s_pure (usp_no b.toNat hb) ?_ | refine s_pure (upu_no b.toNat (.inr hb)) ?_ | refine k_seq ?_ | refine k_region ?_ | refine k_nil ?_ | refine k_then ?_ | refine k_true ?_ | refine k_false ?_ | refine k_blk ?_ | refine k_skip ?_ | refine k_block ?_ | refine k_ret ?_ | refine s_grun ?_ | refine s_gskipt ?_ | refine s_gskipf ?_ | refine s_gskipu ?_ | refine s_move ?_ | refine s_assign ?_ | refine s_add1 ?_ | refine s_geq_f ?_ | refine s_eql_t ?_ | refine s_eql_f ?_ | refine s_pickt ?_ | refine s_pickf ?_ | refine s_lens ?_ | refine s_index ?_ | refine s_ext ?_ | refine s_slices ?_ | refine s_slicef ?_ | refine s_slicet ?_ | refine s_nott ?_ | refine s_notf ?_ | refine s_mki ?_ | refine s_buildx ?_ | refine s_box (fun _ => ?_)))
      rename_i q
      exact e_ret _ ⟨q, cn, rfl, rfl⟩ (by repeat (first | exact SubH.nilR _ | refine SubH.pick (by repeat (first | exact HTake.here | apply HTake.there)) ?_))
    · subst hn
      refine Tr.start (n := 184) (rs := [.tmp 6, .tmp 7, .tmp 8, .tmp 9]) rfl rfl rfl rfl fun B => ?_
      (repeat' (first | refine Ops.pure _ (p_sub (a := i + 1) (b := i) (c := 1) (by rfl) (by rfl) (by omega) (by omega)) (by rfl) ?_ | refine s_pure (hD1) ?_ | refine s_pure (hD2) ?_ | refine s_pure (usp_yes a.toNat ha) ?_ | refine s_pure (usp_no b.toNat hb) ?_ | refine s_pure (upu_no b.toNat (.inr hb)) ?_ | refine k_seq ?_ | refine k_region ?_ | refine k_nil ?_ | refine k_then ?_ | refine k_true ?_ | refine k_false ?_ | refine k_blk ?_ | refine k_skip ?_ | refine k_block ?_ | refine k_ret ?_ | refine s_grun ?_ | refine s_gskipt ?_ | refine s_gskipf ?_ | refine s_gskipu ?_ | refine s_move ?_ | refine s_assign ?_ | refine s_add1 ?_ | refine s_geq_f ?_ | refine s_eql_t ?_ | refine s_eql_f ?_ | refine s_pickt ?_ | refine s_pickf ?_ | refine s_lens ?_ | refine s_index ?_ | refine s_ext ?_ | refine s_slices ?_ | refine s_slicef ?_ | refine s_slicet ?_ | refine s_nott ?_ | refine s_notf ?_ | refine s_mki ?_ | refine s_buildx ?_ | refine s_box (fun _ => ?_)))
      rename_i q
      exact e_ret _ ⟨q, cn, rfl, rfl⟩ (by repeat (first | exact SubH.nilR _ | refine SubH.pick (by repeat (first | exact HTake.here | apply HTake.there)) ?_))
  · rw [show decide (b.toNat = 32) = false from decide_eq_false (by omega), show decide (b.toNat ≠ 32) = true from decide_eq_true (by omega)]
    rcases h.kind with ⟨hk, hn⟩ | ⟨hk, hn⟩ | ⟨hk, hn⟩ | ⟨hk, hn⟩
    · exact absurd hk hr
    · exact absurd hk hr
    · subst hn
      refine Tr.start (n := 184) (rs := [.tmp 6, .tmp 7, .tmp 8, .tmp 9]) rfl rfl rfl rfl fun B => ?_
      (repeat' (first | refine Ops.pure _ (p_sub (a := i + 1) (b := i) (c := 1) (by rfl) (by rfl) (by omega) (by omega)) (by rfl) ?_ | refine s_pure (hD1) ?_ | refine s_pure (hD2) ?_ | refine s_pure (usp_no a.toNat ha) ?_ | refine s_pure (upu_no a.toNat (.inr ha)) ?_ | refine s_pure (usp_no b.toNat hb) ?_ | refine s_pure (upu_no b.toNat (.inr hb)) ?_ | refine k_seq ?_ | refine k_region ?_ | refine k_nil ?_ | refine k_then ?_ | refine k_true ?_ | refine k_false ?_ | refine k_blk ?_ | refine k_skip ?_ | refine k_block ?_ | refine k_ret ?_ | refine s_grun ?_ | refine s_gskipt ?_ | refine s_gskipf ?_ | refine s_move ?_ | refine s_assign ?_ | refine s_add1 ?_ | refine s_geq_f ?_ | refine s_eql_t ?_ | refine s_eql_f ?_ | refine s_pickt ?_ | refine s_pickf ?_ | refine s_lens ?_ | refine s_index ?_ | refine s_ext ?_ | refine s_slices ?_ | refine s_slicef ?_ | refine s_slicet ?_ | refine s_nott ?_ | refine s_notf ?_ | refine s_mki ?_ | refine s_buildx ?_ | refine s_box (fun _ => ?_)))
      rename_i q
      exact e_ret _ ⟨q, cn, rfl, rfl⟩ (by repeat (first | exact SubH.nilR _ | refine SubH.pick (by repeat (first | exact HTake.here | apply HTake.there)) ?_))
    · subst hn
      refine Tr.start (n := 184) (rs := [.tmp 6, .tmp 7, .tmp 8, .tmp 9]) rfl rfl rfl rfl fun B => ?_
      (repeat' (first | refine Ops.pure _ (p_sub (a := i + 1) (b := i) (c := 1) (by rfl) (by rfl) (by omega) (by omega)) (by rfl) ?_ | refine s_pure (hD1) ?_ | refine s_pure (hD2) ?_ | refine s_pure (usp_no a.toNat ha) ?_ | refine s_pure (upu_no a.toNat (.inr ha)) ?_ | refine s_pure (usp_no b.toNat hb) ?_ | refine s_pure (upu_no b.toNat (.inr hb)) ?_ | refine k_seq ?_ | refine k_region ?_ | refine k_nil ?_ | refine k_then ?_ | refine k_true ?_ | refine k_false ?_ | refine k_blk ?_ | refine k_skip ?_ | refine k_block ?_ | refine k_ret ?_ | refine s_grun ?_ | refine s_gskipt ?_ | refine s_gskipf ?_ | refine s_move ?_ | refine s_assign ?_ | refine s_add1 ?_ | refine s_geq_f ?_ | refine s_eql_t ?_ | refine s_eql_f ?_ | refine s_pickt ?_ | refine s_pickf ?_ | refine s_lens ?_ | refine s_index ?_ | refine s_ext ?_ | refine s_slices ?_ | refine s_slicef ?_ | refine s_slicet ?_ | refine s_nott ?_ | refine s_notf ?_ | refine s_mki ?_ | refine s_buildx ?_ | refine s_box (fun _ => ?_)))
      rename_i q
      exact e_ret _ ⟨q, cn, rfl, rfl⟩ (by repeat (first | exact SubH.nilR _ | refine SubH.pick (by repeat (first | exact HTake.here | apply HTake.there)) ?_))
end Go.Proofs

/- parseEmph at a run of tildes or at a quotation mark beside words and spaces of ASCII. Conditions: Run. isPunct, and parseEscape at punctuation. Conditions: bounds. Texts as literal and escaped characters, and the inlines that they make: plain facts on lists. The scan's state. emph without openers and delimiters leaves the list. Conditions: bounds. toPlain and autoLinkText (off). Conditions: the option is off. -/
import Derived.Test.YthmgajolaekpdaaGreatDoorT08
import Derived.Test.YthmgajolaekpdaaGreatDoorT09
import Derived.Test.YthmgajolaekpdaaGreatDoorEngB
namespace Go.Proofs
open Go Go.Eng
set_option maxRecDepth 20000
set_option maxHeartbeats 4000000

/-- A letter or a digit of a word. -/
abbrev wch (c : Nat) : Prop := 48 ≤ c ∧ c ≤ 57 ∨ 97 ≤ c ∧ c ≤ 122

theorem wrap32_of {a : Int} (h1 : 0 ≤ a) (h2 : a < 256) : IntKind.i32.wrap a = a := by
  rw [IntKind.wrap_i32]; omega
theorem s_cv32 {B : Base} {n : Nat} {L : Eng.Loc} {H : Heap} {Q : Eng.Post} {all : Array Oper} {rest : List Oper} {d : Nat} {ty : TypeId} {pos : String} {after : Array Edge} {x : Operand} {s t : TypeId} {k0 k1 : IntKind} {a : Int} [hs : UInt Tryz.prog s k1] [ht : UInt Tryz.prog t .i32] (h : Ops Tryz.prog B n all rest ((d, .int .i32 a) :: L) H Q) (hx : ev L x = some (.int k0 a) := by rfl) (ha : 0 ≤ a ∧ a < 256 := by omega) (hd : Nat.blt d n = true := by rfl) : Ops Tryz.prog B n all (⟨some d, .convert s t x, ty, pos, after, none⟩ :: rest) L H Q := Ops.pure _ (p_cvi hx (wrap32_of ha.1 ha.2)) hd h

theorem decLast_tr (l : List UInt8) (c : UInt8) (hl : l.length ≤ 140737488355328) (h0 : 0 < l.length) (hc : l[l.length - 1]? = some c) (h : c.toNat < 128) : TrP Tryz.prog 98 [str l] (.tuple #[.int .i32 c.toNat, .int .i64 1]) := by
  refine Tr.start (n := 51) (rs := [.tmp 2, .tmp 3]) rfl rfl rfl rfl fun B => ?_
  (repeat' (first | refine s_cv32 ?_ | refine k_seq ?_ | refine k_region ?_ | refine k_nil ?_ | refine k_then ?_ | refine k_true ?_ | refine k_false ?_ | refine k_skip ?_ | refine k_ret ?_ | refine k_ret_then ?_ | refine s_move ?_ | refine s_assign ?_ | refine s_sub1 ?_ | refine s_lss_t ?_ | refine s_eql_f ?_ | refine s_lens ?_ | refine s_index ?_))
  exact e_pure ⟨rfl, rfl⟩
theorem dec_tr (l : List UInt8) (c : UInt8) (hc : l[0]? = some c) (h : c.toNat < 128) : TrP Tryz.prog 99 [str l] (.tuple #[.int .i32 c.toNat, .int .i64 1]) := by
  have hne : ¬ l = [] := by intro e; subst e; simp at hc
  refine Tr.start (n := 19) (rs := [.tmp 2, .tmp 3]) rfl rfl rfl rfl fun B => ?_
  (repeat' (first | refine s_cv32 ?_ | refine k_seq ?_ | refine k_region ?_ | refine k_nil ?_ | refine k_then ?_ | refine k_true ?_ | refine k_ret ?_ | refine k_ret_then ?_ | refine s_grun ?_ | refine s_move ?_ | refine s_assign ?_ | refine s_lss_t ?_ | refine s_pickt ?_ | refine s_index ?_ | refine s_nes_t ?_))
  exact e_pure ⟨rfl, rfl⟩
theorem usp_yes (c : Nat) (h : c = 32) : TrP Tryz.prog 100 [.int .i32 c] (.bool true) := by
  refine Tr.start (n := 21) (rs := [.tmp 2]) rfl rfl rfl rfl fun B => ?_
  (repeat' (first | refine k_seq ?_ | refine k_region ?_ | refine k_nil ?_ | refine k_then ?_ | refine k_true ?_ | refine k_ret ?_ | refine k_ret_then ?_ | refine s_gskipf ?_ | refine s_move ?_ | refine s_assign ?_ | refine s_lss_t ?_ | refine s_eql_t ?_ | refine s_pickt ?_))
  exact e_pure ⟨rfl, rfl⟩
theorem usp_no (c : Nat) (h : wch c) : TrP Tryz.prog 100 [.int .i32 c] (.bool false) := by
  refine Tr.start (n := 21) (rs := [.tmp 2]) rfl rfl rfl rfl fun B => ?_
  (repeat' (first | refine k_seq ?_ | refine k_region ?_ | refine k_nil ?_ | refine k_then ?_ | refine k_true ?_ | refine k_ret ?_ | refine k_ret_then ?_ | refine s_grun ?_ | refine s_move ?_ | refine s_assign ?_ | refine s_lss_t ?_ | refine s_eql_f ?_ | refine s_pickf ?_))
  exact e_pure ⟨rfl, rfl⟩
theorem isPunct_no (c : Nat) (h : c = 32 ∨ wch c) : TrP Tryz.prog 93 [.int .u8 c] (.bool false) := by
  have := isPunctF c (by omega)
  rwa [decide_eq_false (by omega)] at this
theorem upu_no (c : Nat) (h : c = 32 ∨ wch c) : TrP Tryz.prog 101 [.int .i32 c] (.bool false) := by
  refine Tr.start (n := 10) (rs := [.tmp 2]) rfl rfl rfl rfl fun B => ?_
  (repeat' (first | refine s_pure (isPunct_no c h) ?_ | refine k_seq ?_ | refine k_region ?_ | refine k_nil ?_ | refine k_then ?_ | refine k_true ?_ | refine k_ret ?_ | refine k_ret_then ?_ | refine s_move ?_ | refine s_assign ?_ | refine s_lss_t ?_ | refine s_cv8 ?_))
  exact e_pure ⟨rfl, rfl⟩

abbrev epb (q : Nat) (r : List UInt8) (o c : Bool) (iv n : Nat) : Blk := [(q, cellsOf [str r, .bool o, .bool c, inat iv, inat n] 185)]

/-- A run of tildes or a quotation mark between a word and a space, or within a word. -/
structure Run (tx : List UInt8) (i n : Nat) (r b a : UInt8) : Prop where
  kind : r.toNat = 126 ∧ n = 1 ∨ r.toNat = 126 ∧ n = 2 ∨ r.toNat = 34 ∧ n = 1 ∨ r.toNat = 39 ∧ n = 1
  run : ∀ k, k < n → tx[i + k]? = some r
  pos : 0 < i
  bef : tx[i - 1]? = some b
  aft : tx[i + n]? = some a
  side : b.toNat = 32 ∧ wch a.toNat ∨ wch b.toNat ∧ a.toNat = 32 ∨ wch b.toNat ∧ wch a.toNat ∧ r.toNat ≠ 126

theorem parseEmph_tr (p : Nat) (s : PS) (tx : List UInt8) (i n : Nat) (r b a : UInt8) (cn : Bool) (hcn : s.corner = .bool cn) (hl : tx.length ≤ 1000000) (h : Run tx i n r b a) :
    Tr Tryz.prog 65 [lp p, str tx, inat i] [s.blk p] fun u K => ∃ q cn', u = .tuple #[.iface 183 (lp q), inat i, inat (i + n), .bool true] ∧ K = [({ s with corner := .bool cn' } : PS).blk p, epb q ((tx.take (i + n)).drop i) (decide (b.toNat = 32)) (decide (b.toNat ≠ 32)) 0 n] := by
  obtain ⟨par, root, links, lineno, stack, depth, corner, sv, em, list, lists, texts, bt⟩ := s
  subst hcn
  have hl' : tx.length ≤ 140737488355328 := by omega
  have hlen := (List.getElem?_eq_some_iff.1 h.aft).1
  have hpos := h.pos
  have haft := h.aft
  have hr0 : tx[i]? = some r := by
    have := h.run 0 (by rcases h.kind with h | h | h | h <;> omega)
    simpa using this
  have htl : (tx.take i).length = i := by rw [List.length_take]; omega
  have hdl : (tx.drop (i + n)).length = tx.length - (i + n) := List.length_drop
  have hbl : (tx.take i)[(tx.take i).length - 1]? = some b := by rw [htl, List.getElem?_take, if_pos (by omega)]; exact h.bef
  have hal : (tx.drop (i + n))[0]? = some a := by rw [List.getElem?_drop, Nat.add_zero]; exact h.aft
  have hb128 : b.toNat < 128 := by rcases h.side with h | h | h <;> omega
  have ha128 : a.toNat < 128 := by rcases h.side with h | h | h <;> omega
  have hD1 := decLast_tr (tx.take i) b (by omega) (by omega) hbl hb128
  have hD2 := dec_tr (tx.drop (i + n)) a hal ha128
  have hn12 : 1 ≤ n ∧ n ≤ 2 := by rcases h.kind with h | h | h | h <;> omega
  rcases h.side with ⟨hb, ha⟩ | ⟨hb, ha⟩ | ⟨hb, ha, hr⟩
  · rw [show decide (b.toNat = 32) = true from decide_eq_true hb, show decide (b.toNat ≠ 32) = false from decide_eq_false (by omega)]
    rcases h.kind with ⟨hk, hn⟩ | ⟨hk, hn⟩ | ⟨hk, hn⟩ | ⟨hk, hn⟩
    · refine Tr.start (n := 184) (rs := [.tmp 6, .tmp 7, .tmp 8, .tmp 9]) rfl rfl rfl rfl fun B => ?_
      (repeat' (first | refine k_seq ?_ | refine k_region ?_ | refine k_nil ?_ | refine k_then ?_ | refine k_true ?_ | refine k_blk ?_ | refine s_grun ?_ | refine s_gskipf ?_ | refine s_move ?_ | refine s_assign ?_ | refine s_add1 ?_ | refine s_eql_t ?_ | refine s_eql_f ?_ | refine s_pickt ?_ | refine s_pickf ?_ | refine s_index ?_))
      refine k_loop (fun k : Nat => [(0, lp p), (1, str tx), (2, inat i), (10, .int .u8 r.toNat), (11, inat (i + k))]) (fun _ => [(⟨par, root, links, lineno, stack, depth, .bool cn, sv, em, list, lists, texts, bt⟩ : PS).blk p]) (fun k => 1 ≤ k ∧ k ≤ n) (fun k => n - k) 1 ⟨Nat.le_refl _, by omega⟩ (Knows.spec (by repeat (first | exact trivial | refine ⟨rfl, ?_⟩))) (by repeat (first | exact SubH.nilR _ | refine SubH.pick (by repeat (first | exact HTake.here | apply HTake.there)) ?_)) fun k hkk => ?_
      obtain ⟨hk1, hk2⟩ := hkk
      by_cases hlt : k < n
      · have hrk := h.run k hlt
        (repeat' (first | refine k_seq ?_ | refine k_region ?_ | refine k_nil ?_ | refine k_then ?_ | refine k_true ?_ | refine k_blk ?_ | refine k_skip ?_ | refine k_block ?_ | refine s_grun ?_ | refine s_move ?_ | refine s_assign ?_ | refine s_add1 ?_ | refine s_lss_t ?_ | refine s_eql_t ?_ | refine s_pickt ?_ | refine s_lens ?_ | refine s_index ?_))
        exact ⟨k + 1, (Knows.spec (by repeat (first | exact trivial | refine ⟨rfl, ?_⟩))), (by repeat (first | exact SubH.nilR _ | refine SubH.pick (by repeat (first | exact HTake.here | apply HTake.there)) ?_)), by omega, by omega⟩
      · have : k = n := by omega
        subst this
        (repeat' (first | refine Ops.pure _ (p_sub (a := i + k) (b := i) (c := k) (by rfl) (by rfl) (by omega) (by omega)) (by rfl) ?_ | refine s_pure (hD1) ?_ | refine s_pure (hD2) ?_ | refine s_pure (usp_no a.toNat ha) ?_ | refine s_pure (upu_no a.toNat (.inr ha)) ?_ | refine s_pure (usp_yes b.toNat hb) ?_ | refine k_seq ?_ | refine k_region ?_ | refine k_nil ?_ | refine k_then ?_ | refine k_true ?_ | refine k_false ?_ | refine k_blk ?_ | refine k_skip ?_ | refine k_block ?_ | refine k_exit ?_ | refine k_exit_then ?_ | refine k_hit ?_ | refine k_ret ?_ | refine s_grun ?_ | refine s_gskipt ?_ | refine s_gskipf ?_ | refine s_gskipu ?_ | refine s_move ?_ | refine s_assign ?_ | refine s_field ?_ | refine s_nilp ?_ | refine s_lss_t ?_ | refine s_gtr_f ?_ | refine s_geq_f ?_ | refine s_eql_t ?_ | refine s_eql_f ?_ | refine s_neq_t ?_ | refine s_pickt ?_ | refine s_pickf ?_ | refine s_lens ?_ | refine s_index ?_ | refine s_ext ?_ | refine s_slices ?_ | refine s_slicef ?_ | refine s_slicet ?_ | refine s_nott ?_ | refine s_notf ?_ | refine s_mki ?_ | refine s_store ?_ | refine s_buildx ?_ | refine s_box (fun _ => ?_)))
        rename_i q
        exact e_ret _ ⟨q, true, rfl, rfl⟩ (by repeat (first | exact SubH.nilR _ | refine SubH.pick (by repeat (first | exact HTake.here | apply HTake.there)) ?_))
    · refine Tr.start (n := 184) (rs := [.tmp 6, .tmp 7, .tmp 8, .tmp 9]) rfl rfl rfl rfl fun B => ?_
      (repeat' (first | refine k_seq ?_ | refine k_region ?_ | refine k_nil ?_ | refine k_then ?_ | refine k_true ?_ | refine k_blk ?_ | refine s_grun ?_ | refine s_gskipf ?_ | refine s_move ?_ | refine s_assign ?_ | refine s_add1 ?_ | refine s_eql_t ?_ | refine s_eql_f ?_ | refine s_pickt ?_ | refine s_pickf ?_ | refine s_index ?_))
      refine k_loop (fun k : Nat => [(0, lp p), (1, str tx), (2, inat i), (10, .int .u8 r.toNat), (11, inat (i + k))]) (fun _ => [(⟨par, root, links, lineno, stack, depth, .bool cn, sv, em, list, lists, texts, bt⟩ : PS).blk p]) (fun k => 1 ≤ k ∧ k ≤ n) (fun k => n - k) 1 ⟨Nat.le_refl _, by omega⟩ (Knows.spec (by repeat (first | exact trivial | refine ⟨rfl, ?_⟩))) (by repeat (first | exact SubH.nilR _ | refine SubH.pick (by repeat (first | exact HTake.here | apply HTake.there)) ?_)) fun k hkk => ?_
      obtain ⟨hk1, hk2⟩ := hkk
      by_cases hlt : k < n
      · have hrk := h.run k hlt
        (repeat' (first | refine k_seq ?_ | refine k_region ?_ | refine k_nil ?_ | refine k_then ?_ | refine k_true ?_ | refine k_blk ?_ | refine k_skip ?_ | refine k_block ?_ | refine s_grun ?_ | refine s_move ?_ | refine s_assign ?_ | refine s_add1 ?_ | refine s_lss_t ?_ | refine s_eql_t ?_ | refine s_pickt ?_ | refine s_lens ?_ | refine s_index ?_))
        exact ⟨k + 1, (Knows.spec (by repeat (first | exact trivial | refine ⟨rfl, ?_⟩))), (by repeat (first | exact SubH.nilR _ | refine SubH.pick (by repeat (first | exact HTake.here | apply HTake.there)) ?_)), by omega, by omega⟩
      · have : k = n := by omega
        subst this
        (repeat' (first | refine Ops.pure _ (p_sub (a := i + k) (b := i) (c := k) (by rfl) (by rfl) (by omega) (by omega)) (by rfl) ?_ | refine s_pure (hD1) ?_ | refine s_pure (hD2) ?_ | refine s_pure (usp_no a.toNat ha) ?_ | refine s_pure (upu_no a.toNat (.inr ha)) ?_ | refine s_pure (usp_yes b.toNat hb) ?_ | refine k_seq ?_ | refine k_region ?_ | refine k_nil ?_ | refine k_then ?_ | refine k_true ?_ | refine k_false ?_ | refine k_blk ?_ | refine k_skip ?_ | refine k_block ?_ | refine k_exit ?_ | refine k_exit_then ?_ | refine k_hit ?_ | refine k_ret ?_ | refine s_grun ?_ | refine s_gskipt ?_ | refine s_gskipf ?_ | refine s_gskipu ?_ | refine s_move ?_ | refine s_assign ?_ | refine s_lss_t ?_ | refine s_gtr_f ?_ | refine s_geq_f ?_ | refine s_eql_t ?_ | refine s_eql_f ?_ | refine s_neq_f ?_ | refine s_pickt ?_ | refine s_pickf ?_ | refine s_lens ?_ | refine s_index ?_ | refine s_ext ?_ | refine s_slices ?_ | refine s_slicef ?_ | refine s_slicet ?_ | refine s_nott ?_ | refine s_notf ?_ | refine s_mki ?_ | refine s_buildx ?_ | refine s_box (fun _ => ?_)))
        rename_i q
        exact e_ret _ ⟨q, cn, rfl, rfl⟩ (by repeat (first | exact SubH.nilR _ | refine SubH.pick (by repeat (first | exact HTake.here | apply HTake.there)) ?_))
    · subst hn
      refine Tr.start (n := 184) (rs := [.tmp 6, .tmp 7, .tmp 8, .tmp 9]) rfl rfl rfl rfl fun B => ?_
      (repeat' (first | refine Ops.pure _ (p_sub (a := i + 1) (b := i) (c := 1) (by rfl) (by rfl) (by omega) (by omega)) (by rfl) ?_ | refine s_pure (hD1) ?_ | refine s_pure (hD2) ?_ | refine s_pure (usp_no a.toNat ha) ?_ | refine s_pure (upu_no a.toNat (.inr ha)) ?_ | refine s_pure (usp_yes b.toNat hb) ?_ | refine k_seq ?_ | refine k_region ?_ | refine k_nil ?_ | refine k_then ?_ | refine k_true ?_ | refine k_false ?_ | refine k_blk ?_ | refine k_skip ?_ | refine k_block ?_ | refine k_ret ?_ | refine s_grun ?_ | refine s_gskipt ?_ | refine s_gskipf ?_ | refine s_gskipu ?_ | refine s_move ?_ | refine s_assign ?_ | refine s_add1 ?_ | refine s_geq_f ?_ | refine s_eql_t ?_ | refine s_eql_f ?_ | refine s_neq_t ?_ | refine s_pickt ?_ | refine s_pickf ?_ | refine s_lens ?_ | refine s_index ?_ | refine s_ext ?_ | refine s_slices ?_ | refine s_slicef ?_ | refine s_slicet ?_ | refine s_nott ?_ | refine s_notf ?_ | refine s_mki ?_ | refine s_buildx ?_ | refine s_box (fun _ => ?_)))
      rename_i q
      exact e_ret _ ⟨q, cn, rfl, rfl⟩ (by repeat (first | exact SubH.nilR _ | refine SubH.pick (by repeat (first | exact HTake.here | apply HTake.there)) ?_))
    · subst hn
      refine Tr.start (n := 184) (rs := [.tmp 6, .tmp 7, .tmp 8, .tmp 9]) rfl rfl rfl rfl fun B => ?_
      (repeat' (first | refine Ops.pure _ (p_sub (a := i + 1) (b := i) (c := 1) (by rfl) (by rfl) (by omega) (by omega)) (by rfl) ?_ | refine s_pure (hD1) ?_ | refine s_pure (hD2) ?_ | refine s_pure (usp_no a.toNat ha) ?_ | refine s_pure (upu_no a.toNat (.inr ha)) ?_ | refine s_pure (usp_yes b.toNat hb) ?_ | refine k_seq ?_ | refine k_region ?_ | refine k_nil ?_ | refine k_then ?_ | refine k_true ?_ | refine k_false ?_ | refine k_blk ?_ | refine k_skip ?_ | refine k_block ?_ | refine k_ret ?_ | refine s_grun ?_ | refine s_gskipt ?_ | refine s_gskipf ?_ | refine s_gskipu ?_ | refine s_move ?_ | refine s_assign ?_ | refine s_add1 ?_ | refine s_geq_f ?_ | refine s_eql_t ?_ | refine s_eql_f ?_ | refine s_neq_t ?_ | refine s_pickt ?_ | refine s_pickf ?_ | refine s_lens ?_ | refine s_index ?_ | refine s_ext ?_ | refine s_slices ?_ | refine s_slicef ?_ | refine s_slicet ?_ | refine s_nott ?_ | refine s_notf ?_ | refine s_mki ?_ | refine s_buildx ?_ | refine s_box (fun _ => ?_)))
      rename_i q
      exact e_ret _ ⟨q, cn, rfl, rfl⟩ (by repeat (first | exact SubH.nilR _ | refine SubH.pick (by repeat (first | exact HTake.here | apply HTake.there)) ?_))
  · rw [show decide (b.toNat = 32) = false from decide_eq_false (by omega), show decide (b.toNat ≠ 32) = true from decide_eq_true (by omega)]
    rcases h.kind with ⟨hk, hn⟩ | ⟨hk, hn⟩ | ⟨hk, hn⟩ | ⟨hk, hn⟩
    · refine Tr.start (n := 184) (rs := [.tmp 6, .tmp 7, .tmp 8, .tmp 9]) rfl rfl rfl rfl fun B => ?_
      (repeat' (first | refine k_seq ?_ | refine k_region ?_ | refine k_nil ?_ | refine k_then ?_ | refine k_true ?_ | refine k_blk ?_ | refine s_grun ?_ | refine s_gskipf ?_ | refine s_move ?_ | refine s_assign ?_ | refine s_add1 ?_ | refine s_eql_t ?_ | refine s_eql_f ?_ | refine s_pickt ?_ | refine s_pickf ?_ | refine s_index ?_))
      refine k_loop (fun k : Nat => [(0, lp p), (1, str tx), (2, inat i), (10, .int .u8 r.toNat), (11, inat (i + k))]) (fun _ => [(⟨par, root, links, lineno, stack, depth, .bool cn, sv, em, list, lists, texts, bt⟩ : PS).blk p]) (fun k => 1 ≤ k ∧ k ≤ n) (fun k => n - k) 1 ⟨Nat.le_refl _, by omega⟩ (Knows.spec (by repeat (first | exact trivial | refine ⟨rfl, ?_⟩))) (by repeat (first | exact SubH.nilR _ | refine SubH.pick (by repeat (first | exact HTake.here | apply HTake.there)) ?_)) fun k hkk => ?_
      obtain ⟨hk1, hk2⟩ := hkk
      by_cases hlt : k < n
      · have hrk := h.run k hlt
        (repeat' (first | refine k_seq ?_ | refine k_region ?_ | refine k_nil ?_ | refine k_then ?_ | refine k_true ?_ | refine k_blk ?_ | refine k_skip ?_ | refine k_block ?_ | refine s_grun ?_ | refine s_move ?_ | refine s_assign ?_ | refine s_add1 ?_ | refine s_lss_t ?_ | refine s_eql_t ?_ | refine s_pickt ?_ | refine s_lens ?_ | refine s_index ?_))
        exact ⟨k + 1, (Knows.spec (by repeat (first | exact trivial | refine ⟨rfl, ?_⟩))), (by repeat (first | exact SubH.nilR _ | refine SubH.pick (by repeat (first | exact HTake.here | apply HTake.there)) ?_)), by omega, by omega⟩
      · have : k = n := by omega
        subst this
        (repeat' (first | refine Ops.pure _ (p_sub (a := i + k) (b := i) (c := k) (by rfl) (by rfl) (by omega) (by omega)) (by rfl) ?_ | refine s_pure (hD1) ?_ | refine s_pure (hD2) ?_ | refine s_pure (usp_yes a.toNat ha) ?_ | refine s_pure (usp_no b.toNat hb) ?_ | refine s_pure (upu_no b.toNat (.inr hb)) ?_ | refine k_seq ?_ | refine k_region ?_ | refine k_nil ?_ | refine k_then ?_ | refine k_true ?_ | refine k_false ?_ | refine k_blk ?_ | refine k_skip ?_ | refine k_block ?_ | refine k_exit ?_ | refine k_exit_then ?_ | refine k_hit ?_ | refine k_ret ?_ | refine s_grun ?_ | refine s_gskipt ?_ | refine s_gskipf ?_ | refine s_gskipu ?_ | refine s_move ?_ | refine s_assign ?_ | refine s_field ?_ | refine s_nilp ?_ | refine s_lss_t ?_ | refine s_gtr_f ?_ | refine s_geq_f ?_ | refine s_eql_t ?_ | refine s_eql_f ?_ | refine s_neq_t ?_ | refine s_pickt ?_ | refine s_pickf ?_ | refine s_lens ?_ | refine s_index ?_ | refine s_ext ?_ | refine s_slices ?_ | refine s_slicef ?_ | refine s_slicet ?_ | refine s_nott ?_ | refine s_notf ?_ | refine s_mki ?_ | refine s_store ?_ | refine s_buildx ?_ | refine s_box (fun _ => ?_)))
        rename_i q
        exact e_ret _ ⟨q, true, rfl, rfl⟩ (by repeat (first | exact SubH.nilR _ | refine SubH.pick (by repeat (first | exact HTake.here | apply HTake.there)) ?_))
    · refine Tr.start (n := 184) (rs := [.tmp 6, .tmp 7, .tmp 8, .tmp 9]) rfl rfl rfl rfl fun B => ?_
      (repeat' (first | refine k_seq ?_ | refine k_region ?_ | refine k_nil ?_ | refine k_then ?_ | refine k_true ?_ | refine k_blk ?_ | refine s_grun ?_ | refine s_gskipf ?_ | refine s_move ?_ | refine s_assign ?_ | refine s_add1 ?_ | refine s_eql_t ?_ | refine s_eql_f ?_ | refine s_pickt ?_ | refine s_pickf ?_ | refine s_index ?_))
      refine k_loop (fun k : Nat => [(0, lp p), (1, str tx), (2, inat i), (10, .int .u8 r.toNat), (11, inat (i + k))]) (fun _ => [(⟨par, root, links, lineno, stack, depth, .bool cn, sv, em, list, lists, texts, bt⟩ : PS).blk p]) (fun k => 1 ≤ k ∧ k ≤ n) (fun k => n - k) 1 ⟨Nat.le_refl _, by omega⟩ (Knows.spec (by repeat (first | exact trivial | refine ⟨rfl, ?_⟩))) (by repeat (first | exact SubH.nilR _ | refine SubH.pick (by repeat (first | exact HTake.here | apply HTake.there)) ?_)) fun k hkk => ?_
      obtain ⟨hk1, hk2⟩ := hkk
      by_cases hlt : k < n
      · have hrk := h.run k hlt
        (repeat' (first | refine k_seq ?_ | refine k_region ?_ | refine k_nil ?_ | refine k_then ?_ | refine k_true ?_ | refine k_blk ?_ | refine k_skip ?_ | refine k_block ?_ | refine s_grun ?_ | refine s_move ?_ | refine s_assign ?_ | refine s_add1 ?_ | refine s_lss_t ?_ | refine s_eql_t ?_ | refine s_pickt ?_ | refine s_lens ?_ | refine s_index ?_))
        exact ⟨k + 1, (Knows.spec (by repeat (first | exact trivial | refine ⟨rfl, ?_⟩))), (by repeat (first | exact SubH.nilR _ | refine SubH.pick (by repeat (first | exact HTake.here | apply HTake.there)) ?_)), by omega, by omega⟩
      · have : k = n := by omega
        subst this
        (repeat' (first | refine Ops.pure _ (p_sub (a := i + k) (b := i) (c := k) (by rfl) (by rfl) (by omega) (by omega)) (by rfl) ?_ | refine s_pure (hD1) ?_ | refine s_pure (hD2) ?_ | refine s_pure (usp_yes a.toNat ha) ?_ | refine s_pure (usp_no b.toNat hb) ?_ | refine s_pure (upu_no b.toNat (.inr hb)) ?_ | refine k_seq ?_ | refine k_region ?_ | refine k_nil ?_ | refine k_then ?_ | refine k_true ?_ | refine k_false ?_ | refine k_blk ?_ | refine k_skip ?_ | refine k_block ?_ | refine k_exit ?_ | refine k_exit_then ?_ | refine k_hit ?_ | refine k_ret ?_ | refine s_grun ?_ | refine s_gskipt ?_ | refine s_gskipf ?_ | refine s_gskipu ?_ | refine s_move ?_ | refine s_assign ?_ | refine s_lss_t ?_ | refine s_gtr_f ?_ | refine s_geq_f ?_ | refine s_eql_t ?_ | refine s_eql_f ?_ | refine s_neq_f ?_ | refine s_pickt ?_ | refine s_pickf ?_ | refine s_lens ?_ | refine s_index ?_ | refine s_ext ?_ | refine s_slices ?_ | refine s_slicef ?_ | refine s_slicet ?_ | refine s_nott ?_ | refine s_notf ?_ | refine s_mki ?_ | refine s_buildx ?_ | refine s_box (fun _ => ?_)))
        rename_i q
        exact e_ret _ ⟨q, cn, rfl, rfl⟩ (by repeat (first | exact SubH.nilR _ | refine SubH.pick (by repeat (first | exact HTake.here | apply HTake.there)) ?_))
    · subst hn
      refine Tr.start (n := 184) (rs := [.tmp 6, .tmp 7, .tmp 8, .tmp 9]) rfl rfl rfl rfl fun B => ?_
      (repeat' (first | refine Ops.pure _ (p_sub (a := i + 1) (b := i) (c := 1) (by rfl) (by rfl) (by omega) (by omega)) (by rfl) ?_ | refine s_pure (hD1) ?_ | refine s_pure (hD2) ?_ | refine s_pure (usp_yes a.toNat ha) ?_ | refine s_pure (usp_no b.toNat hb) ?_ | refine s_pure (upu_no b.toNat (.inr hb)) ?_ | refine k_seq ?_ | refine k_region ?_ | refine k_nil ?_ | refine k_then ?_ | refine k_true ?_ | refine k_false ?_ | refine k_blk ?_ | refine k_skip ?_ | refine k_block ?_ | refine k_ret ?_ | refine s_grun ?_ | refine s_gskipt ?_ | refine s_gskipf ?_ | refine s_gskipu ?_ | refine s_move ?_ | refine s_assign ?_ | refine s_add1 ?_ | refine s_geq_f ?_ | refine s_eql_t ?_ | refine s_eql_f ?_ | refine s_pickt ?_ | refine s_pickf ?_ | refine s_lens ?_ | refine s_index ?_ | refine s_ext ?_ | refine s_slices ?_ | refine s_slicef ?_ | refine s_slicet ?_ | refine s_nott ?_ | refine s_notf ?_ | refine s_mki ?_ | refine s_buildx ?_ | refine s_box (fun _ => ?_)))
      rename_i q
      exact e_ret _ ⟨q, cn, rfl, rfl⟩ (by repeat (first | exact SubH.nilR _ | refine SubH.pick (by repeat (first | exact HTake.here | apply HTake.there)) ?_))
    · subst hn
      refine Tr.start (n := 184) (rs := [.tmp 6, .tmp 7, .tmp 8, .tmp 9]) rfl rfl rfl rfl fun B => ?_
      (repeat' (first | refine Ops.pure _ (p_sub (a := i + 1) (b := i) (c := 1) (by rfl) (by rfl) (by omega) (by omega)) (by rfl) ?_ | refine s_pure (hD1) ?_ | refine s_pure (hD2) ?_ | refine s_pure (usp_yes a.toNat ha) ?_ | refine s_pure (usp_no b.toNat hb) ?_ | refine s_pure (upu_no b.toNat (.inr hb)) ?_ | refine k_seq ?_ | refine k_region ?_ | refine k_nil ?_ | refine k_then ?_ | refine k_true ?_ | refine k_false ?_ | refine k_blk ?_ | refine k_skip ?_ | refine k_block ?_ | refine k_ret ?_ | refine s_grun ?_ | refine s_gskipt ?_ | refine s_gskipf ?_ | refine s_gskipu ?_ | refine s_move ?_ | refine s_assign ?_ | refine s_add1 ?_ | refine s_geq_f ?_ | refine s_eql_t ?_ | refine s_eql_f ?_ | refine s_pickt ?_ | refine s_pickf ?_ | refine s_lens ?_ | refine s_index ?_ | refine s_ext ?_ | refine s_slices ?_ | refine s_slicef ?_ | refine s_slicet ?_ | refine s_nott ?_ | refine s_notf ?_ | refine s_mki ?_ | refine s_buildx ?_ | refine s_box (fun _ => ?_)))
      rename_i q
      exact e_ret _ ⟨q, cn, rfl, rfl⟩ (by repeat (first | exact SubH.nilR _ | refine SubH.pick (by repeat (first | exact HTake.here | apply HTake.there)) ?_))
  · rw [show decide (b.toNat = 32) = false from decide_eq_false (by omega), show decide (b.toNat ≠ 32) = true from decide_eq_true (by omega)]
    rcases h.kind with ⟨hk, hn⟩ | ⟨hk, hn⟩ | ⟨hk, hn⟩ | ⟨hk, hn⟩
    · exact absurd hk hr
    · exact absurd hk hr
    · subst hn
      refine Tr.start (n := 184) (rs := [.tmp 6, .tmp 7, .tmp 8, .tmp 9]) rfl rfl rfl rfl fun B => ?_
      (repeat' (first | refine Ops.pure _ (p_sub (a := i + 1) (b := i) (c := 1) (by rfl) (by rfl) (by omega) (by omega)) (by rfl) ?_ | refine s_pure (hD1) ?_ | refine s_pure (hD2) ?_ | refine s_pure (usp_no a.toNat ha) ?_ | refine s_pure (upu_no a.toNat (.inr ha)) ?_ | refine s_pure (usp_no b.toNat hb) ?_ | refine s_pure (upu_no b.toNat (.inr hb)) ?_ | refine k_seq ?_ | refine k_region ?_ | refine k_nil ?_ | refine k_then ?_ | refine k_true ?_ | refine k_false ?_ | refine k_blk ?_ | refine k_skip ?_ | refine k_block ?_ | refine k_ret ?_ | refine s_grun ?_ | refine s_gskipt ?_ | refine s_gskipf ?_ | refine s_move ?_ | refine s_assign ?_ | refine s_add1 ?_ | refine s_geq_f ?_ | refine s_eql_t ?_ | refine s_eql_f ?_ | refine s_pickt ?_ | refine s_pickf ?_ | refine s_lens ?_ | refine s_index ?_ | refine s_ext ?_ | refine s_slices ?_ | refine s_slicef ?_ | refine s_slicet ?_ | refine s_nott ?_ | refine s_notf ?_ | refine s_mki ?_ | refine s_buildx ?_ | refine s_box (fun _ => ?_)))
      rename_i q
      exact e_ret _ ⟨q, cn, rfl, rfl⟩ (by repeat (first | exact SubH.nilR _ | refine SubH.pick (by repeat (first | exact HTake.here | apply HTake.there)) ?_))
    · subst hn
      refine Tr.start (n := 184) (rs := [.tmp 6, .tmp 7, .tmp 8, .tmp 9]) rfl rfl rfl rfl fun B => ?_
      (repeat' (first | refine Ops.pure _ (p_sub (a := i + 1) (b := i) (c := 1) (by rfl) (by rfl) (by omega) (by omega)) (by rfl) ?_ | refine s_pure (hD1) ?_ | refine s_pure (hD2) ?_ | refine s_pure (usp_no a.toNat ha) ?_ | refine s_pure (upu_no a.toNat (.inr ha)) ?_ | refine s_pure (usp_no b.toNat hb) ?_ | refine s_pure (upu_no b.toNat (.inr hb)) ?_ | refine k_seq ?_ | refine k_region ?_ | refine k_nil ?_ | refine k_then ?_ | refine k_true ?_ | refine k_false ?_ | refine k_blk ?_ | refine k_skip ?_ | refine k_block ?_ | refine k_ret ?_ | refine s_grun ?_ | refine s_gskipt ?_ | refine s_gskipf ?_ | refine s_move ?_ | refine s_assign ?_ | refine s_add1 ?_ | refine s_geq_f ?_ | refine s_eql_t ?_ | refine s_eql_f ?_ | refine s_pickt ?_ | refine s_pickf ?_ | refine s_lens ?_ | refine s_index ?_ | refine s_ext ?_ | refine s_slices ?_ | refine s_slicef ?_ | refine s_slicet ?_ | refine s_nott ?_ | refine s_notf ?_ | refine s_mki ?_ | refine s_buildx ?_ | refine s_box (fun _ => ?_)))
      rename_i q
      exact e_ret _ ⟨q, cn, rfl, rfl⟩ (by repeat (first | exact SubH.nilR _ | refine SubH.pick (by repeat (first | exact HTake.here | apply HTake.there)) ?_))
end Go.Proofs

namespace Go.Proofs
open Go Go.Eng
set_option maxRecDepth 20000
set_option maxHeartbeats 4000000

theorem isPunct_tr (c : Nat) (hc : c < 256) : TrP Tryz.prog 93 [.int .u8 c] (.bool (decide (33 ≤ c ∧ c ≤ 47 ∨ 58 ≤ c ∧ c ≤ 64 ∨ 91 ≤ c ∧ c ≤ 96 ∨ 123 ≤ c ∧ c ≤ 126))) := by
  refine Tr.start (n := 33) (rs := [.tmp 2]) rfl rfl rfl rfl fun B => ?_
  (repeat' (first | refine k_seq ?_ | refine k_region ?_ | refine k_nil ?_ | refine k_then ?_ | refine k_ret ?_ | refine s_grun ?_ | refine s_gskipt ?_ | refine s_gskipf ?_ | refine s_gskipu ?_ | refine s_move ?_ | refine s_assign ?_ | refine s_leq_f ?_ | refine s_leq ?_ | refine s_pickt ?_ | refine s_pickf ?_ | refine Ops.split_run (fun hg => ?_) (fun hg => ?_) | refine Ops.split_skip (fun hg => ?_) (fun hg => ?_)))
  all_goals (refine e_pure ?_; refine ⟨?_, rfl⟩; simp only [oneOr, Value.bool.injEq]; first | (symm; exact decide_eq_true (by omega)) | (symm; exact decide_eq_false (by omega)) | (rw [decide_eq_decide]; omega))

abbrev punct (c : UInt8) : Prop := 33 ≤ c.toNat ∧ c.toNat ≤ 47 ∨ 58 ≤ c.toNat ∧ c.toNat ≤ 64 ∨ 91 ≤ c.toNat ∧ c.toNat ≤ 96 ∨ 123 ≤ c.toNat ∧ c.toNat ≤ 126
theorem isPunct_yes (c : UInt8) (h : punct c) : TrP Tryz.prog 93 [.int .u8 c.toNat] (.bool true) := by
  have := isPunct_tr c.toNat c.toNat_lt
  rwa [decide_eq_true h] at this

theorem parseEscape_yes (p i : Nat) (tx : List UInt8) (c : UInt8) (hl : tx.length ≤ 140737488355328) (hc : tx[i + 1]? = some c) (hp : punct c) :
    Tr Tryz.prog 59 [lp p, str tx, inat i] [] fun u K => ∃ q, u = .tuple #[.iface 169 (lp q), inat i, inat (i + 2), .bool true] ∧ K = [[Itm.cell (.esc [c]) q]] := by
  have hi := (List.getElem?_eq_some_iff.1 hc).1
  have hs : (tx.take (i + 2)).drop (i + 1) = [c] := slice1 hc
  refine Tr.start (n := 75) (rs := [.tmp 6, .tmp 7, .tmp 8, .tmp 9]) rfl rfl rfl rfl fun B => ?_
  (repeat' (first | refine s_pure (isPunct_yes c hp) ?_ | refine k_seq ?_ | refine k_region ?_ | refine k_nil ?_ | refine k_then ?_ | refine k_true ?_ | refine k_ret ?_ | refine k_ret_then ?_ | refine s_move ?_ | refine s_assign ?_ | refine s_add1 ?_ | refine s_add2 ?_ | refine s_lss_t ?_ | refine s_lens ?_ | refine s_index ?_ | refine s_slices ?_ | refine s_mki ?_ | refine s_buildx ?_ | refine s_box (fun _ => ?_)))
  rename_i q
  rw [hs]
  exact e_ret [[Itm.cell (.esc [c]) q]] ⟨q, rfl, rfl⟩ (by repeat (first | exact SubH.nilR _ | refine SubH.pick (by repeat (first | exact HTake.here | apply HTake.there)) ?_))

/-- A line feed with no white space beside it. -/
theorem parseBreak_soft (p i : Nat) (tx : List UInt8) (hl : tx.length ≤ 140737488355328) (hi : i < tx.length) (hb : ∀ c, 0 < i → tx[i - 1]? = some c → ¬ c.toNat = 32 ∧ ¬ c.toNat = 9) (ha : ∀ c, tx[i + 1]? = some c → ¬ c.toNat = 32 ∧ ¬ c.toNat = 9) :
    Tr Tryz.prog 68 [lp p, str tx, inat i] [] fun u K => ∃ q, u = .tuple #[.iface 186 (lp q), inat i, inat (i + 1), .bool true] ∧ K = [[Itm.cell .brk q]] := by
  refine Tr.start (n := 77) (rs := [.tmp 6, .tmp 7, .tmp 8, .tmp 9]) rfl rfl rfl rfl fun B => ?_
  (repeat' (first | refine k_seq ?_ | refine k_region ?_ | refine k_nil ?_ | refine k_then ?_ | refine s_move ?_ | refine s_assign ?_))
  refine k_mid [(0, lp p), (1, str tx), (2, inat i), (10, inat i)] [] ?_ ?_
  · (repeat' (first | refine k_blk ?_))
    refine k_loop (fun _ : Unit => [(0, lp p), (1, str tx), (2, inat i), (10, inat i)]) (fun _ => []) (fun _ => True) (fun _ => 0) () trivial (Knows.spec (by repeat (first | exact trivial | refine ⟨rfl, ?_⟩))) (by repeat (first | exact SubH.nilR _ | refine SubH.pick (by repeat (first | exact HTake.here | apply HTake.there)) ?_)) fun k hk => ?_
    by_cases h0 : 0 < i
    · obtain ⟨c, hc⟩ : ∃ c, tx[i - 1]? = some c := ⟨_, List.getElem?_eq_getElem (by omega)⟩
      obtain ⟨h1, h2⟩ := hb c h0 hc
      (repeat' (first | refine k_seq ?_ | refine k_region ?_ | refine k_nil ?_ | refine k_then ?_ | refine k_false ?_ | refine k_exit ?_ | refine k_exit_then ?_ | refine k_hit ?_ | refine s_grun ?_ | refine s_move ?_ | refine s_sub1 ?_ | refine s_gtr_t ?_ | refine s_eql_f ?_ | refine s_pickt ?_ | refine s_pickf ?_ | refine s_index ?_))
      exact ⟨(by repeat (first | exact trivial | refine ⟨rfl, ?_⟩)), (by repeat (first | exact SubH.nilR _ | refine SubH.pick (by repeat (first | exact HTake.here | apply HTake.there)) ?_))⟩
    · (repeat' (first | refine k_seq ?_ | refine k_region ?_ | refine k_nil ?_ | refine k_then ?_ | refine k_false ?_ | refine k_exit ?_ | refine k_exit_then ?_ | refine k_hit ?_ | refine s_gskipt ?_ | refine s_gskipu ?_ | refine s_move ?_ | refine s_gtr_f ?_ | refine s_pickf ?_))
      exact ⟨(by repeat (first | exact trivial | refine ⟨rfl, ?_⟩)), (by repeat (first | exact SubH.nilR _ | refine SubH.pick (by repeat (first | exact HTake.here | apply HTake.there)) ?_))⟩
  · (repeat' (first | refine k_seq ?_ | refine k_region ?_ | refine k_nil ?_ | refine k_then ?_ | refine s_move ?_ | refine s_assign ?_ | refine s_add1 ?_))
    refine k_mid [(0, lp p), (1, str tx), (2, inat i), (10, inat i), (11, inat (i + 1))] [] ?_ ?_
    · (repeat' (first | refine k_blk ?_))
      refine k_loop (fun _ : Unit => [(0, lp p), (1, str tx), (2, inat i), (10, inat i), (11, inat (i + 1))]) (fun _ => []) (fun _ => True) (fun _ => 0) () trivial (Knows.spec (by repeat (first | exact trivial | refine ⟨rfl, ?_⟩))) (by repeat (first | exact SubH.nilR _ | refine SubH.pick (by repeat (first | exact HTake.here | apply HTake.there)) ?_)) fun k hk => ?_
      by_cases h0 : i + 1 < tx.length
      · obtain ⟨c, hc⟩ : ∃ c, tx[i + 1]? = some c := ⟨_, List.getElem?_eq_getElem h0⟩
        obtain ⟨h1, h2⟩ := ha c hc
        (repeat' (first | refine k_seq ?_ | refine k_region ?_ | refine k_nil ?_ | refine k_then ?_ | refine k_false ?_ | refine k_exit ?_ | refine k_exit_then ?_ | refine k_hit ?_ | refine s_grun ?_ | refine s_move ?_ | refine s_lss_t ?_ | refine s_eql_f ?_ | refine s_pickt ?_ | refine s_pickf ?_ | refine s_lens ?_ | refine s_index ?_))
        exact ⟨(by repeat (first | exact trivial | refine ⟨rfl, ?_⟩)), (by repeat (first | exact SubH.nilR _ | refine SubH.pick (by repeat (first | exact HTake.here | apply HTake.there)) ?_))⟩
      · (repeat' (first | refine k_seq ?_ | refine k_region ?_ | refine k_nil ?_ | refine k_then ?_ | refine k_false ?_ | refine k_exit ?_ | refine k_exit_then ?_ | refine k_hit ?_ | refine s_gskipt ?_ | refine s_gskipu ?_ | refine s_move ?_ | refine s_lss_f ?_ | refine s_pickf ?_ | refine s_lens ?_))
        exact ⟨(by repeat (first | exact trivial | refine ⟨rfl, ?_⟩)), (by repeat (first | exact SubH.nilR _ | refine SubH.pick (by repeat (first | exact HTake.here | apply HTake.there)) ?_))⟩
    · by_cases h0 : 2 ≤ i
      · obtain ⟨c, hc⟩ : ∃ c, tx[i - 1]? = some c := ⟨_, List.getElem?_eq_getElem (by omega)⟩
        obtain ⟨h1, h2⟩ := hb c (by omega) hc
        (repeat' (first | refine k_seq ?_ | refine k_region ?_ | refine k_nil ?_ | refine k_then ?_ | refine k_false ?_ | refine k_skip ?_ | refine k_ret ?_ | refine s_grun ?_ | refine s_gskipt ?_ | refine s_move ?_ | refine s_assign ?_ | refine s_sub1 ?_ | refine s_geq_t ?_ | refine s_eql_f ?_ | refine s_pickt ?_ | refine s_pickf ?_ | refine s_index ?_ | refine s_mki ?_ | refine s_buildx ?_ | refine s_box (fun _ => ?_)))
        rename_i q
        exact e_ret [[Itm.cell .brk q]] ⟨q, rfl, rfl⟩ (by repeat (first | exact SubH.nilR _ | refine SubH.pick (by repeat (first | exact HTake.here | apply HTake.there)) ?_))
      · (repeat' (first | refine k_seq ?_ | refine k_region ?_ | refine k_nil ?_ | refine k_then ?_ | refine k_false ?_ | refine k_skip ?_ | refine k_ret ?_ | refine s_gskipt ?_ | refine s_move ?_ | refine s_assign ?_ | refine s_geq_f ?_ | refine s_pickf ?_ | refine s_mki ?_ | refine s_buildx ?_ | refine s_box (fun _ => ?_)))
        rename_i q
        exact e_ret [[Itm.cell .brk q]] ⟨q, rfl, rfl⟩ (by repeat (first | exact SubH.nilR _ | refine SubH.pick (by repeat (first | exact HTake.here | apply HTake.there)) ?_))
end Go.Proofs

namespace Go.Proofs
open Go Go.Eng
set_option maxRecDepth 20000
set_option maxHeartbeats 4000000

/-- A literal byte, or one behind a backslash. -/
inductive Tok where
  | lit (c : UInt8)
  | esc (c : UInt8)
  | nl
def Tok.bytes : Tok → List UInt8
  | .lit c => [c]
  | .esc c => [92, c]
  | .nl => [10]
abbrev bytesOf (l : List Tok) : List UInt8 := l.flatMap Tok.bytes
/-- A byte that begins no inline. -/
abbrev quiet (c : UInt8) : Prop := c.toNat ≠ 92 ∧ c.toNat ≠ 96 ∧ c.toNat ≠ 60 ∧ c.toNat ≠ 91 ∧ c.toNat ≠ 33 ∧ c.toNat ≠ 95 ∧ c.toNat ≠ 42 ∧ c.toNat ≠ 46 ∧ c.toNat ≠ 45 ∧ c.toNat ≠ 34 ∧ c.toNat ≠ 39 ∧ c.toNat ≠ 126 ∧ c.toNat ≠ 10 ∧ c.toNat ≠ 38 ∧ c.toNat ≠ 58 ∧ c.toNat ≠ 93
def Tok.ok : Tok → Prop
  | .lit c => quiet c
  | .esc c => punct c
  | .nl => True
/-- Inlines so far, and the text that is not yet an inline. -/
def Tok.step (st : List Itm × List UInt8) : Tok → List Itm × List UInt8
  | .lit c => (st.1, st.2 ++ [c])
  | .esc c => ((if st.2 = [] then st.1 else st.1 ++ [.plain st.2]) ++ [.esc [c]], [])
  | .nl => ((if st.2 = [] then st.1 else st.1 ++ [.plain st.2]) ++ [.brk], [])
abbrev stOf (l : List Tok) : List Itm × List UInt8 := l.foldl Tok.step ([], [])
theorem stOf_snoc (l : List Tok) (t : Tok) : stOf (l ++ [t]) = Tok.step (stOf l) t := by simp [stOf, Tok.step]
def itemsOf (l : List Tok) : List Itm := if (stOf l).2 = [] then (stOf l).1 else (stOf l).1 ++ [.plain (stOf l).2]

theorem at_lit (d r : List Tok) (c : UInt8) : (bytesOf (d ++ .lit c :: r))[(bytesOf d).length]? = some c := by
  simp [bytesOf, Tok.bytes]
theorem at_esc (d r : List Tok) (c : UInt8) : (bytesOf (d ++ .esc c :: r))[(bytesOf d).length]? = some 92 := by
  simp [bytesOf, Tok.bytes]
theorem at_nl (d r : List Tok) : (bytesOf (d ++ .nl :: r))[(bytesOf d).length]? = some 10 := by
  simp [bytesOf, Tok.bytes]
theorem at_esc1 (d r : List Tok) (c : UInt8) : (bytesOf (d ++ .esc c :: r))[(bytesOf d).length + 1]? = some c := by
  simp [bytesOf, Tok.bytes]

def Itm.isPlain : Itm → Bool
  | .plain _ => true
  | .esc _ => false
  | .brk => false
/-- No two texts side by side. -/
def NoAdj (l : List Itm) : Prop := ∀ (j : Nat) (x y : Itm), l[j]? = some x → l[j + 1]? = some y → x.isPlain = true → y.isPlain = false
def LastEsc (l : List Itm) : Prop := ∀ x, l.getLast? = some x → x.isPlain = false
theorem NoAdj.other {l : List Itm} (h : NoAdj l) (z : Itm) (hz : z.isPlain = false) : NoAdj (l ++ [z]) := by
  intro j x y hx hy hp
  by_cases hlt : j + 1 < l.length
  · rw [List.getElem?_append_left (by omega)] at hx
    rw [List.getElem?_append_left hlt] at hy
    exact h j x y hx hy hp
  · rw [List.getElem?_append_right (by omega)] at hy
    cases hk : j + 1 - l.length with
    | zero => rw [hk] at hy; simp at hy; subst hy; exact hz
    | succ m => rw [hk] at hy; simp at hy
theorem NoAdj.plain {l : List Itm} (h : NoAdj l) (hl : LastEsc l) (t : List UInt8) : NoAdj (l ++ [.plain t]) := by
  intro j x y hx hy hp
  by_cases hlt : j + 1 < l.length
  · rw [List.getElem?_append_left (by omega)] at hx
    rw [List.getElem?_append_left hlt] at hy
    exact h j x y hx hy hp
  · rw [List.getElem?_append_right (by omega)] at hy
    cases hk : j + 1 - l.length with
    | zero =>
      rw [List.getElem?_append_left (by omega)] at hx
      have := hl x (by rw [List.getLast?_eq_getElem?]; rw [show l.length - 1 = j by omega]; exact hx)
      rw [this] at hp; cases hp
    | succ m => rw [hk] at hy; simp at hy
theorem LastEsc.other (l : List Itm) (z : Itm) (hz : z.isPlain = false) : LastEsc (l ++ [z]) := by
  intro x hx; simp at hx; subst hx; exact hz
theorem st_ok (l : List Tok) : NoAdj (stOf l).1 ∧ LastEsc (stOf l).1 := by
  have key : ∀ (l : List Tok) (st : List Itm × List UInt8), NoAdj st.1 ∧ LastEsc st.1 → NoAdj (l.foldl Tok.step st).1 ∧ LastEsc (l.foldl Tok.step st).1 := by
    intro l
    induction l with
    | nil => intro st h; exact h
    | cons t l ih =>
      intro st h
      refine ih _ ?_
      cases t with
      | lit c => exact h
      | esc c =>
        simp only [Tok.step]
        refine ⟨?_, LastEsc.other _ _ rfl⟩
        split
        · exact h.1.other _ rfl
        · exact (h.1.plain h.2 _).other _ rfl
      | nl =>
        simp only [Tok.step]
        refine ⟨?_, LastEsc.other _ _ rfl⟩
        split
        · exact h.1.other _ rfl
        · exact (h.1.plain h.2 _).other _ rfl
  exact key l ([], []) ⟨fun j x y hx => by simp at hx, fun x hx => by simp at hx⟩
theorem items_ok (l : List Tok) : NoAdj (itemsOf l) := by
  have h := st_ok l
  unfold itemsOf
  split
  · exact h.1
  · exact h.1.plain h.2 _
theorem items_ne (l : List Tok) (hl : l ≠ []) : itemsOf l ≠ [] := by
  rcases List.eq_nil_or_concat l with h | ⟨d, t, h⟩
  · exact absurd h hl
  · subst h
    rw [List.concat_eq_append]
    unfold itemsOf
    rw [stOf_snoc]
    cases t with
    | lit c => simp [Tok.step]
    | esc c => simp [Tok.step]
    | nl => simp [Tok.step]
end Go.Proofs

namespace Go.Proofs
open Go Go.Eng
set_option maxRecDepth 20000
set_option maxHeartbeats 8000000

/-- Where the scan for inlines stands. -/
structure LS where
  d : List Tok
  r : List Tok
  e : Nat
  vals : List Value
  v : Value
  LB : Blk
  IB : Blk

theorem SubH.nil2 {a b : Blk} : SubH [a, b] [a, b, [], []] := ⟨[], by simp⟩

end Go.Proofs

namespace Go.Proofs
open Go Go.Eng
set_option maxRecDepth 20000
set_option maxHeartbeats 4000000

/-- Without openers and delimiters the list stays as it is. -/
theorem emph_tr (p g n cap : Nat) (cur : List Value) (hn : n ≤ 1000000) (hcap : n ≤ cap) (hcl : cur.length = cap)
    (hv : ∀ j, j < n → ∃ t u, cur[j]? = some (.iface t u) ∧ Nat.beq t 127 = false ∧ Nat.beq t 183 = false) :
    TrD Tryz.prog 75 [lp p, .slice (some ⟨g, 0, none⟩) 0 cap, .slice (some ⟨g, 0, none⟩) n cap] [[(g, cellsOf cur 125)]] (.slice (some ⟨g, 0, none⟩) n cap) [[(g, cellsOf cur 125)]] := by
  refine Tr.start (n := 436) (rs := [.tmp 6]) rfl rfl rfl rfl fun B => ?_
  (repeat' (first | refine k_seq ?_ | refine k_region ?_ | refine k_nil ?_ | refine k_then ?_ | refine k_scope ?_ | refine k_label ?_ | refine s_assign ?_ | refine s_mkfc ?_ | refine s_alloc (fun _ => ?_) | refine s_box1 (fun _ => ?_)))
  rename_i r4 r7
  refine k_mid [(0, lp p), (4, lp r4)] [[(g, cellsOf cur 125)], [(r4, cellsOf [.slice (some ⟨g, 0, none⟩) n cap] 81)]] ?_ ?_
  · (repeat' (first | refine k_blk ?_))
    refine k_loop (fun j : Nat => [(0, lp p), (2, .slice (some ⟨g, 0, none⟩) n cap), (4, lp r4), (10, inat j)]) (fun j => [[(g, cellsOf cur 125)], [(r4, cellsOf [.slice (some ⟨g, 0, none⟩) j cap] 81)]]) (fun j => j ≤ n) (fun j => n - j) 0 (by omega) (Knows.spec (by repeat (first | exact trivial | refine ⟨rfl, ?_⟩))) (by repeat (first | exact SubH.nilR _ | refine SubH.pick (by repeat (first | exact HTake.here | apply HTake.there)) ?_)) fun j hj => ?_
    by_cases hlt : j < n
    · obtain ⟨t, u, hu, ht1, ht2⟩ := hv j hlt
      have hu' : cur[0 + j * 1]? = some (.iface t u) := by rw [show 0 + j * 1 = j by omega]; exact hu
      have hset : cur.set j (.iface t u) = cur := by
        obtain ⟨h1, h2⟩ := List.getElem?_eq_some_iff.1 hu
        rw [← h2, List.set_getElem_self]
      (repeat' (first | refine s_load (hc := hu') ?_ | refine s_asno (hne := ht1) ?_ | refine s_asno (hne := ht2) ?_ | refine k_seq ?_ | refine k_region ?_ | refine k_nil ?_ | refine k_then ?_ | refine k_true ?_ | refine k_false ?_ | refine k_blk ?_ | refine k_skip ?_ | refine s_move ?_ | refine s_assign ?_ | refine s_lss_t ?_ | refine s_len ?_ | refine s_ext ?_ | refine s_idxa ?_ | refine s_notf ?_))
      refine Wp.draw_till (id := 12) [[(g, cellsOf cur 125)], [(r4, cellsOf [.slice (some ⟨g, 0, none⟩) j cap] 81)]] 7 8 Mixed.out (by repeat (first | exact SubH.nilR _ | refine SubH.pick (by repeat (first | exact HTake.here | apply HTake.there)) ?_)) rfl ?_
      refine OpsK.firstL 0 [] _ (by rfl) (by kernel_rfl) (by kernel_rfl) rfl (by kernel_rfl) (by kernel_rfl) rfl (by first | exact p_move rfl | exact p_assign rfl | exact p_extract rfl rfl | exact q_fieldAddr rfl | exact p_nilCheck rfl | exact q_load rfl (by repeat (first | exact HMem.here | apply HMem.skip | apply HMem.there)) rfl | exact q_load_agg rfl (by repeat (first | exact HMem.here | apply HMem.skip | apply HMem.there)) (by repeat constructor) | exact q_len_slice rfl | exact q_len_str rfl | exact q_indexAddr rfl rfl (by omega) | exact q_slice_str rfl rfl rfl (by omega) (by omega) | exact q_makeInterface rfl | exact q_assert rfl | exact p_build rfl (by repeat' (first | exact BFill.nil | refine' BFill.one (by rfl) (by rfl) (by repeat constructor) ?_ | refine' BFill.agg (by rfl) (by rfl) (by repeat constructor) ?_))) ?_
      refine OpsK.first 1 _ (by rfl) (by kernel_rfl) rfl (by kernel_rfl) (by kernel_rfl) rfl (by first | exact p_move rfl | exact p_assign rfl | exact p_extract rfl rfl | exact q_fieldAddr rfl | exact p_nilCheck rfl | exact q_load rfl (by repeat (first | exact HMem.here | apply HMem.skip | apply HMem.there)) rfl | exact q_load_agg rfl (by repeat (first | exact HMem.here | apply HMem.skip | apply HMem.there)) (by repeat constructor) | exact q_len_slice rfl | exact q_len_str rfl | exact q_indexAddr rfl rfl (by omega) | exact q_slice_str rfl rfl rfl (by omega) (by omega) | exact q_makeInterface rfl | exact q_assert rfl | exact p_build rfl (by repeat' (first | exact BFill.nil | refine' BFill.one (by rfl) (by rfl) (by repeat constructor) ?_ | refine' BFill.agg (by rfl) (by rfl) (by repeat constructor) ?_))) ?_
      refine OpsK.first 2 _ (by rfl) (by kernel_rfl) rfl (by kernel_rfl) (by kernel_rfl) rfl (by first | exact p_move rfl | exact p_assign rfl | exact p_extract rfl rfl | exact q_fieldAddr rfl | exact p_nilCheck rfl | exact q_load rfl (by repeat (first | exact HMem.here | apply HMem.skip | apply HMem.there)) rfl | exact q_load_agg rfl (by repeat (first | exact HMem.here | apply HMem.skip | apply HMem.there)) (by repeat constructor) | exact q_len_slice rfl | exact q_len_str rfl | exact q_indexAddr rfl rfl (by omega) | exact q_slice_str rfl rfl rfl (by omega) (by omega) | exact q_makeInterface rfl | exact q_assert rfl | exact p_build rfl (by repeat' (first | exact BFill.nil | refine' BFill.one (by rfl) (by rfl) (by repeat constructor) ?_ | refine' BFill.agg (by rfl) (by rfl) (by repeat constructor) ?_))) ?_
      refine OpsK.first 3 _ (by rfl) (by kernel_rfl) rfl (by kernel_rfl) (by kernel_rfl) rfl (by first | exact p_move rfl | exact p_assign rfl | exact p_extract rfl rfl | exact q_fieldAddr rfl | exact p_nilCheck rfl | exact q_load rfl (by repeat (first | exact HMem.here | apply HMem.skip | apply HMem.there)) rfl | exact q_load_agg rfl (by repeat (first | exact HMem.here | apply HMem.skip | apply HMem.there)) (by repeat constructor) | exact q_len_slice rfl | exact q_len_str rfl | exact q_indexAddr rfl rfl (by omega) | exact q_slice_str rfl rfl rfl (by omega) (by omega) | exact q_makeInterface rfl | exact q_assert rfl | exact p_build rfl (by repeat' (first | exact BFill.nil | refine' BFill.one (by rfl) (by rfl) (by repeat constructor) ?_ | refine' BFill.agg (by rfl) (by rfl) (by repeat constructor) ?_))) ?_
      refine OpsK.firstL 4 [] _ (by rfl) (by kernel_rfl) (by kernel_rfl) rfl (by kernel_rfl) (by kernel_rfl) rfl (q_load rfl (by repeat (first | exact HMem.here | apply HMem.skip | apply HMem.there)) hu') ?_
      refine OpsK.only 5 _ (by kernel_rfl) rfl ?_
      (repeat' (first | refine k_nil ?_ | refine k_then ?_ | refine s_bsl1 (fun _ => ?_)))
      refine ⟨fun _ => (by repeat (first | exact SubH.nilR _ | refine SubH.pick (by repeat (first | exact HTake.here | apply HTake.there)) ?_)), ?_⟩
      refine OpsK.only 6 _ (by kernel_rfl) rfl ?_
      refine s_appin (m := j) (u := .iface t u) hcl (by omega) ?_
      rw [hset]
      (repeat' (first | refine k_nil ?_ | refine k_then ?_))
      refine ⟨fun _ => (by repeat (first | exact SubH.nilR _ | refine SubH.pick (by repeat (first | exact HTake.here | apply HTake.there)) ?_)), ?_⟩
      refine OpsK.only 7 _ (by kernel_rfl) rfl ?_
      (repeat' (first | refine k_nil ?_ | refine k_then ?_ | refine s_store ?_))
      refine ⟨(fun h0 => Bool.noConfusion (show true = false from h0)), ?_⟩
      refine OpsK.nil (by kernel_rfl) ?_
      (repeat' (first | refine k_region ?_ | refine k_nil ?_ | refine k_then ?_ | refine k_exit ?_ | refine k_exit_then ?_ | refine k_hit ?_ | refine s_move ?_ | refine s_assign ?_ | refine s_add1 ?_))
      exact ⟨j + 1, (Knows.spec (by repeat (first | exact trivial | refine ⟨rfl, ?_⟩))), (by repeat (first | exact SubH.nilR _ | refine SubH.pick (by repeat (first | exact HTake.here | apply HTake.there)) ?_)), by omega, by omega⟩
    · have : j = n := by omega
      subst this
      (repeat' (first | refine k_seq ?_ | refine k_region ?_ | refine k_nil ?_ | refine k_then ?_ | refine k_false ?_ | refine k_exit ?_ | refine k_exit_then ?_ | refine k_hit ?_ | refine s_move ?_ | refine s_lss_f ?_ | refine s_len ?_))
      exact ⟨(by repeat (first | exact trivial | refine ⟨rfl, ?_⟩)), (by repeat (first | exact SubH.nilR _ | refine SubH.pick (by repeat (first | exact HTake.here | apply HTake.there)) ?_))⟩
  · (repeat' (first | refine k_seq ?_ | refine k_region ?_ | refine k_nil ?_ | refine k_then ?_ | refine k_ret ?_ | refine k_ret_nogo ?_ | refine s_assign ?_ | refine s_load ?_))
    exact e_ret _ ⟨rfl, rfl⟩ (by repeat (first | exact SubH.nilR _ | refine SubH.pick (by repeat (first | exact HTake.here | apply HTake.there)) ?_))
end Go.Proofs

namespace Go.Proofs
open Go Go.Eng
set_option maxRecDepth 20000
set_option maxHeartbeats 4000000

theorem toPlain_yes (q : Nat) : TrP Tryz.prog 115 [.iface 149 (lp q)] (lp q) := by
  refine Tr.start (n := 23) (rs := [.tmp 2]) rfl rfl rfl rfl fun B => ?_
  (repeat' (first | refine k_seq ?_ | refine k_region ?_ | refine k_nil ?_ | refine k_then ?_ | refine k_true ?_ | refine k_blk ?_ | refine k_ret ?_ | refine k_ret_then ?_ | refine k_ret_block ?_ | refine s_move ?_ | refine s_assign ?_ | refine s_ext ?_ | refine s_asok ?_))
  exact e_pure ⟨rfl, rfl⟩
theorem toPlain_no (t : Nat) (u : Value) (h1 : Nat.beq t 149 = false) (h2 : Nat.beq t 183 = false) (h3 : Nat.beq t 127 = false) : TrP Tryz.prog 115 [.iface t u] (.pointer none) := by
  refine Tr.start (n := 23) (rs := [.tmp 2]) rfl rfl rfl rfl fun B => ?_
  (repeat' (first | refine s_asno (hne := h1) ?_ | refine s_asno (hne := h2) ?_ | refine s_asno (hne := h3) ?_ | refine k_seq ?_ | refine k_region ?_ | refine k_nil ?_ | refine k_then ?_ | refine k_false ?_ | refine k_blk ?_ | refine k_skip ?_ | refine k_block ?_ | refine k_ret ?_ | refine s_move ?_ | refine s_assign ?_ | refine s_ext ?_))
  exact e_pure ⟨rfl, rfl⟩
theorem autoLinkText_no (p pr : Nat) (o : PO) (s : PS) (v : Value) (h : o.auto = false) (hpar : s.par = lp pr) : TrD Tryz.prog 77 [lp p, v] [s.blk p, o.blk pr] v [s.blk p, o.blk pr] := by
  obtain ⟨par, root, links, lineno, stack, depth, corner, sv, em, list, lists, texts, bt⟩ := s
  obtain ⟨o1, o2, o3, o4, o5, o6, o7, o8, o9, o10⟩ := o
  subst h; subst hpar
  refine Tr.start (n := 98) (rs := [.tmp 4]) rfl rfl rfl rfl fun B => ?_
  (repeat' (first | refine k_seq ?_ | refine k_region ?_ | refine k_nil ?_ | refine k_then ?_ | refine k_true ?_ | refine k_ret ?_ | refine k_ret_then ?_ | refine s_move ?_ | refine s_assign ?_ | refine s_load ?_ | refine s_field ?_ | refine s_nilp ?_ | refine s_notf ?_))
  exact e_ret _ ⟨rfl, rfl⟩ (by repeat (first | exact SubH.nilR _ | refine SubH.pick (by repeat (first | exact HTake.here | apply HTake.there)) ?_))
end Go.Proofs

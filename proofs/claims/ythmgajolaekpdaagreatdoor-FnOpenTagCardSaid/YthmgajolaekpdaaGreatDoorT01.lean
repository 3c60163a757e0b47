/- Contracts of the trimming of texts. Conditions: lengths below a bound. Contract of line.trimSpace without tabs. Conditions: no tab in the line, lengths below a bound. Contracts of the line's small methods. Conditions: no tab, lengths below a bound. newQuote, newATXHeading, newHR and newHTML answer no at lines that begin none. Conditions: how the line begins. -/
import Derived.Test.YthmgajolaekpdaaGreatDoorFacts
import Derived.Test.YthmgajolaekpdaaGreatDoorEngB
namespace Go.Proofs
open Go Go.Eng
set_option maxRecDepth 20000
set_option maxHeartbeats 4000000

/-! Plain words: lists of bytes -/
def isBl (c : UInt8) : Bool := c.toNat == 32 || c.toNat == 9
def isSp (c : UInt8) : Bool := c.toNat == 32 || c.toNat == 9 || c.toNat == 10
def ltrim (l : List UInt8) : List UInt8 := l.dropWhile isBl
def rtrim (l : List UInt8) : List UInt8 := (l.reverse.dropWhile isBl).reverse
def btrim (l : List UInt8) : List UInt8 := rtrim (ltrim l)

theorem drop_at (p : UInt8 → Bool) : ∀ (l : List UInt8) (k : Nat), (∀ c ∈ l.take k, p c = true) → (∀ c, l[k]? = some c → p c = false) → l.drop k = l.dropWhile p
  | [], k, _, _ => by simp
  | c :: l, 0, _, h => by have := h c (by simp); simp [this]
  | c :: l, k + 1, h1, h2 => by
    have := h1 c (by simp)
    have ih := drop_at p l k (fun d hd => h1 d (by simp [hd])) (fun d hd => h2 d (by simpa using hd))
    simp [this, ih]

theorem take_snoc {l : List UInt8} {k : Nat} {c : UInt8} (h : l[k]? = some c) : l.take (k + 1) = l.take k ++ [c] := by
  obtain ⟨h1, h2⟩ := List.getElem?_eq_some_iff.1 h
  rw [List.take_succ_eq_append_getElem h1, h2]

theorem all_snoc {l : List UInt8} {k : Nat} {c : UInt8} {p : UInt8 → Prop} (h : l[k]? = some c) (h1 : ∀ d ∈ l.take k, p d) (h2 : p c) : ∀ d ∈ l.take (k + 1), p d := by
  rw [take_snoc h]; intro d hd
  rcases List.mem_append.1 hd with hd | hd
  · exact h1 d hd
  · simp at hd; subst hd; exact h2

theorem get_some {l : List UInt8} {k : Nat} (h : k < l.length) : ∃ c, l[k]? = some c := ⟨l[k], by simp [h]⟩
theorem get_none {l : List UInt8} {k : Nat} {c : UInt8} (h : l.length ≤ k) (hc : l[k]? = some c) : False := by rw [List.getElem?_eq_none h] at hc; cases hc

theorem rtrim_at {l : List UInt8} {k : Nat} (hk : k ≤ l.length) (h1 : ∀ c ∈ l.drop k, isBl c = true) (h2 : ∀ c, 0 < k → l[k - 1]? = some c → isBl c = false) : l.take k = rtrim l := by
  have e : l.reverse.dropWhile isBl = (l.take k).reverse := by
    have h := drop_at isBl l.reverse (l.length - k) (fun c hc => by
      rw [List.take_reverse] at hc
      rw [show l.length - (l.length - k) = k by omega] at hc
      exact h1 c (by simpa using hc)) (fun c hc => by
      by_cases h0 : 0 < k
      · have hlt : l.length - k < l.length := by omega
        rw [List.getElem?_reverse hlt] at hc
        exact h2 c h0 (by rw [show k - 1 = l.length - 1 - (l.length - k) by omega]; exact hc)
      · have : k = 0 := by omega
        subst this
        rw [List.getElem?_eq_none (by simp)] at hc; cases hc)
    rw [← h, List.drop_reverse]
    congr 2
    omega
  simp [rtrim, e]

theorem drop_pred {l : List UInt8} {k : Nat} {c : UInt8} (h0 : 0 < k) (h : l[k - 1]? = some c) {p : UInt8 → Prop} (h1 : ∀ d ∈ l.drop k, p d) (h2 : p c) : ∀ d ∈ l.drop (k - 1), p d := by
  obtain ⟨h3, h4⟩ := List.getElem?_eq_some_iff.1 h
  rw [List.drop_eq_getElem_cons h3, h4, show k - 1 + 1 = k by omega]
  intro d hd
  rcases List.mem_cons.1 hd with rfl | hd
  · exact h2
  · exact h1 d hd

theorem ltrim_tr (l : List UInt8) (hl : l.length ≤ 140737488355328) : TrP Tryz.prog 78 [str l] (str (ltrim l)) := by
  refine Tr.start (n := 25) (rs := [.tmp 2]) rfl rfl rfl rfl fun B => ?_
  (repeat' (first | refine k_seq ?_ | refine k_region ?_ | refine k_nil ?_ | refine k_then ?_ | refine k_blk ?_ | refine s_assign ?_))
  refine k_loop (fun k : Nat => [(0, str l), (3, .int .i64 k)]) (fun _ => []) (fun k => k ≤ l.length ∧ ∀ c ∈ l.take k, isBl c = true) (fun k => l.length - k) 0 ⟨by omega, by simp⟩ (Knows.spec (by repeat (first | exact trivial | refine ⟨rfl, ?_⟩))) (SubH.nilR _) fun k ⟨hk, hb⟩ => ?_
  by_cases hlt : k < l.length
  · obtain ⟨c, hc⟩ := get_some hlt
    by_cases h1 : c.toNat = 32
    · (repeat' (first | refine k_seq ?_ | refine k_region ?_ | refine k_nil ?_ | refine k_then ?_ | refine k_true ?_ | refine k_blk ?_ | refine k_skip ?_ | refine k_block ?_ | refine s_grun ?_ | refine s_gskipf ?_ | refine s_move ?_ | refine s_assign ?_ | refine s_add1 ?_ | refine s_lss_t ?_ | refine s_eql_t ?_ | refine s_pickt ?_ | refine s_lens ?_ | refine s_index ?_))
      exact ⟨k + 1, (Knows.spec (by repeat (first | exact trivial | refine ⟨rfl, ?_⟩))), SubH.refl _, ⟨by omega, all_snoc hc hb (by simp [isBl, h1])⟩, by omega⟩
    · by_cases h2 : c.toNat = 9
      · (repeat' (first | refine k_seq ?_ | refine k_region ?_ | refine k_nil ?_ | refine k_then ?_ | refine k_true ?_ | refine k_blk ?_ | refine k_skip ?_ | refine k_block ?_ | refine s_grun ?_ | refine s_move ?_ | refine s_assign ?_ | refine s_add1 ?_ | refine s_lss_t ?_ | refine s_eql_t ?_ | refine s_eql_f ?_ | refine s_pickt ?_ | refine s_pickf ?_ | refine s_lens ?_ | refine s_index ?_))
        exact ⟨k + 1, (Knows.spec (by repeat (first | exact trivial | refine ⟨rfl, ?_⟩))), SubH.refl _, ⟨by omega, all_snoc hc hb (by simp [isBl, h2])⟩, by omega⟩
      · (repeat' (first | refine k_seq ?_ | refine k_region ?_ | refine k_nil ?_ | refine k_then ?_ | refine k_false ?_ | refine k_exit ?_ | refine k_exit_then ?_ | refine k_hit ?_ | refine k_ret ?_ | refine s_grun ?_ | refine s_move ?_ | refine s_assign ?_ | refine s_lss_t ?_ | refine s_eql_f ?_ | refine s_pickt ?_ | refine s_pickf ?_ | refine s_lens ?_ | refine s_index ?_ | refine s_slicef ?_))
        refine e_pure ⟨?_, rfl⟩
        simp only [oneOr]
        rw [drop_at isBl l k hb (fun d hd => by rw [hc] at hd; cases hd; simp [isBl, h1, h2])]; rfl
  · (repeat' (first | refine k_seq ?_ | refine k_region ?_ | refine k_nil ?_ | refine k_then ?_ | refine k_false ?_ | refine k_exit ?_ | refine k_exit_then ?_ | refine k_hit ?_ | refine k_ret ?_ | refine s_gskipt ?_ | refine s_gskipu ?_ | refine s_move ?_ | refine s_assign ?_ | refine s_lss_f ?_ | refine s_pickf ?_ | refine s_lens ?_ | refine s_slicef ?_))
    refine e_pure ⟨?_, rfl⟩
    simp only [oneOr]
    rw [drop_at isBl l k hb (fun d hd => (get_none (by omega) hd).elim)]; rfl

theorem rtrim_tr (l : List UInt8) (hl : l.length ≤ 140737488355328) : TrP Tryz.prog 121 [str l] (str (rtrim l)) := by
  refine Tr.start (n := 27) (rs := [.tmp 2]) rfl rfl rfl rfl fun B => ?_
  (repeat' (first | refine k_seq ?_ | refine k_region ?_ | refine k_nil ?_ | refine k_then ?_ | refine k_blk ?_ | refine s_move ?_ | refine s_assign ?_ | refine s_lens ?_))
  refine k_loop (fun k : Nat => [(0, str l), (3, .int .i64 k)]) (fun _ => []) (fun k => k ≤ l.length ∧ ∀ c ∈ l.drop k, isBl c = true) (fun k => k) l.length ⟨by omega, by simp⟩ (Knows.spec (by repeat (first | exact trivial | refine ⟨rfl, ?_⟩))) (SubH.nilR _) fun k ⟨hk, hb⟩ => ?_
  by_cases hlt : 0 < k
  · obtain ⟨c, hc⟩ := get_some (l := l) (k := k - 1) (by omega)
    by_cases h1 : c.toNat = 32
    · (repeat' (first | refine k_seq ?_ | refine k_region ?_ | refine k_nil ?_ | refine k_then ?_ | refine k_true ?_ | refine k_blk ?_ | refine k_skip ?_ | refine k_block ?_ | refine s_grun ?_ | refine s_gskipf ?_ | refine s_move ?_ | refine s_assign ?_ | refine s_sub1 ?_ | refine s_gtr_t ?_ | refine s_eql_t ?_ | refine s_pickt ?_ | refine s_index ?_))
      exact ⟨k - 1, (Knows.spec (by repeat (first | exact trivial | refine ⟨rfl, ?_⟩))), SubH.refl _, ⟨by omega, drop_pred hlt hc hb (by simp [isBl, h1])⟩, by omega⟩
    · by_cases h2 : c.toNat = 9
      · (repeat' (first | refine k_seq ?_ | refine k_region ?_ | refine k_nil ?_ | refine k_then ?_ | refine k_true ?_ | refine k_blk ?_ | refine k_skip ?_ | refine k_block ?_ | refine s_grun ?_ | refine s_move ?_ | refine s_assign ?_ | refine s_sub1 ?_ | refine s_gtr_t ?_ | refine s_eql_t ?_ | refine s_eql_f ?_ | refine s_pickt ?_ | refine s_pickf ?_ | refine s_index ?_))
        exact ⟨k - 1, (Knows.spec (by repeat (first | exact trivial | refine ⟨rfl, ?_⟩))), SubH.refl _, ⟨by omega, drop_pred hlt hc hb (by simp [isBl, h2])⟩, by omega⟩
      · (repeat' (first | refine k_seq ?_ | refine k_region ?_ | refine k_nil ?_ | refine k_then ?_ | refine k_false ?_ | refine k_exit ?_ | refine k_exit_then ?_ | refine k_hit ?_ | refine k_ret ?_ | refine s_grun ?_ | refine s_move ?_ | refine s_assign ?_ | refine s_sub1 ?_ | refine s_gtr_t ?_ | refine s_eql_f ?_ | refine s_pickt ?_ | refine s_pickf ?_ | refine s_index ?_ | refine s_slicet ?_))
        refine e_pure ⟨?_, rfl⟩
        simp only [oneOr]
        rw [rtrim_at hk hb (fun d _ hd => by rw [hc] at hd; cases hd; simp [isBl, h1, h2])]
  · (repeat' (first | refine k_seq ?_ | refine k_region ?_ | refine k_nil ?_ | refine k_then ?_ | refine k_false ?_ | refine k_exit ?_ | refine k_exit_then ?_ | refine k_hit ?_ | refine k_ret ?_ | refine s_gskipt ?_ | refine s_gskipu ?_ | refine s_move ?_ | refine s_assign ?_ | refine s_gtr_f ?_ | refine s_pickf ?_ | refine s_slicet ?_))
    refine e_pure ⟨?_, rfl⟩
    simp only [oneOr]
    rw [rtrim_at hk hb (fun d h _ => by omega)]

theorem btrim_tr (l : List UInt8) (hl : l.length ≤ 140737488355328) : TrP Tryz.prog 58 [str l] (str (btrim l)) := by
  refine Tr.start (n := 49) (rs := [.tmp 2]) rfl rfl rfl rfl fun B => ?_
  (repeat' (first | refine k_seq ?_ | refine k_region ?_ | refine k_nil ?_ | refine k_then ?_ | refine s_assign ?_))
  have hd : (ltrim l).length ≤ l.length := (List.dropWhile_sublist _).length_le
  refine k_mid [(0, str l), (3, .int .i64 ((l.length - (ltrim l).length : Nat) : Int))] [] ?_ ?_
  · (repeat' (first | refine k_blk ?_))
    refine k_loop (fun k : Nat => [(0, str l), (3, .int .i64 k)]) (fun _ => []) (fun k => k ≤ l.length ∧ ∀ c ∈ l.take k, isBl c = true) (fun k => l.length - k) 0 ⟨by omega, by simp⟩ (Knows.spec (by repeat (first | exact trivial | refine ⟨rfl, ?_⟩))) (SubH.nilR _) fun k ⟨hk, hb⟩ => ?_
    have fin : (∀ c, l[k]? = some c → isBl c = false) → l.length - (ltrim l).length = k := fun h => by
      have := congrArg List.length (drop_at isBl l k hb h); simp only [List.length_drop] at this; unfold ltrim; omega
    by_cases hlt : k < l.length
    · obtain ⟨c, hc⟩ := get_some hlt
      by_cases h0 : c.toNat = 32
      · (repeat' (first | refine k_seq ?_ | refine k_region ?_ | refine k_nil ?_ | refine k_then ?_ | refine k_true ?_ | refine k_blk ?_ | refine k_skip ?_ | refine k_block ?_ | refine s_grun ?_ | refine s_gskipf ?_ | refine s_move ?_ | refine s_assign ?_ | refine s_add1 ?_ | refine s_lss_t ?_ | refine s_eql_t ?_ | refine s_pickt ?_ | refine s_lens ?_ | refine s_index ?_))
        exact ⟨k + 1, (Knows.spec (by repeat (first | exact trivial | refine ⟨rfl, ?_⟩))), SubH.refl _, ⟨by omega, all_snoc hc hb (by simp [isBl, h0])⟩, by omega⟩
      · skip
        by_cases h1 : c.toNat = 9
        · (repeat' (first | refine k_seq ?_ | refine k_region ?_ | refine k_nil ?_ | refine k_then ?_ | refine k_true ?_ | refine k_blk ?_ | refine k_skip ?_ | refine k_block ?_ | refine s_grun ?_ | refine s_move ?_ | refine s_assign ?_ | refine s_add1 ?_ | refine s_lss_t ?_ | refine s_eql_t ?_ | refine s_eql_f ?_ | refine s_pickt ?_ | refine s_pickf ?_ | refine s_lens ?_ | refine s_index ?_))
          exact ⟨k + 1, (Knows.spec (by repeat (first | exact trivial | refine ⟨rfl, ?_⟩))), SubH.refl _, ⟨by omega, all_snoc hc hb (by simp [isBl, h1])⟩, by omega⟩
        · skip
          (repeat' (first | refine k_seq ?_ | refine k_region ?_ | refine k_nil ?_ | refine k_then ?_ | refine k_false ?_ | refine k_exit ?_ | refine k_exit_then ?_ | refine k_hit ?_ | refine s_grun ?_ | refine s_move ?_ | refine s_lss_t ?_ | refine s_eql_f ?_ | refine s_pickt ?_ | refine s_pickf ?_ | refine s_lens ?_ | refine s_index ?_))
          rw [fin (fun d hd => by rw [hc] at hd; cases hd; simp [isBl, h0, h1])]
          exact ⟨(by repeat (first | exact trivial | refine ⟨rfl, ?_⟩)), SubH.refl _⟩
    · (repeat' (first | refine k_seq ?_ | refine k_region ?_ | refine k_nil ?_ | refine k_then ?_ | refine k_false ?_ | refine k_exit ?_ | refine k_exit_then ?_ | refine k_hit ?_ | refine s_gskipt ?_ | refine s_gskipu ?_ | refine s_move ?_ | refine s_lss_f ?_ | refine s_pickf ?_ | refine s_lens ?_))
      rw [fin (fun d hd => (get_none (by omega) hd).elim)]
      exact ⟨(by repeat (first | exact trivial | refine ⟨rfl, ?_⟩)), SubH.refl _⟩
  · (repeat' (first | refine k_seq ?_ | refine k_region ?_ | refine k_nil ?_ | refine k_then ?_ | refine k_blk ?_ | refine s_move ?_ | refine s_assign ?_ | refine s_lens ?_ | refine s_slicef ?_))
    have e : List.drop (l.length - (ltrim l).length) l = ltrim l := by
      have h1 : ltrim l <:+ l := List.dropWhile_suffix _
      obtain ⟨p, hp⟩ := h1
      have h2 : p.length = l.length - (ltrim l).length := by have := congrArg List.length hp; simp only [List.length_append] at this; omega
      rw [← h2]; conv => lhs; rw [← hp]
      exact List.drop_left
    rw [e, show btrim l = rtrim (ltrim l) from rfl]
    generalize ltrim l = m at *
    refine k_loop (fun k : Nat => [(0, str m), (4, .int .i64 k)]) (fun _ => []) (fun k => k ≤ m.length ∧ ∀ c ∈ m.drop k, isBl c = true) (fun k => k) m.length ⟨by omega, by simp⟩ (Knows.spec (by repeat (first | exact trivial | refine ⟨rfl, ?_⟩))) (SubH.nilR _) fun k ⟨hk, hb⟩ => ?_
    by_cases hlt : 0 < k
    · obtain ⟨c, hc⟩ := get_some (l := m) (k := k - 1) (by omega)
      by_cases h0 : c.toNat = 32
      · (repeat' (first | refine k_seq ?_ | refine k_region ?_ | refine k_nil ?_ | refine k_then ?_ | refine k_true ?_ | refine k_blk ?_ | refine k_skip ?_ | refine k_block ?_ | refine s_grun ?_ | refine s_gskipf ?_ | refine s_move ?_ | refine s_assign ?_ | refine s_sub1 ?_ | refine s_gtr_t ?_ | refine s_eql_t ?_ | refine s_pickt ?_ | refine s_index ?_))
        exact ⟨k - 1, (Knows.spec (by repeat (first | exact trivial | refine ⟨rfl, ?_⟩))), SubH.refl _, ⟨by omega, drop_pred hlt hc hb (by simp [isBl, h0])⟩, by omega⟩
      · skip
        by_cases h1 : c.toNat = 9
        · (repeat' (first | refine k_seq ?_ | refine k_region ?_ | refine k_nil ?_ | refine k_then ?_ | refine k_true ?_ | refine k_blk ?_ | refine k_skip ?_ | refine k_block ?_ | refine s_grun ?_ | refine s_move ?_ | refine s_assign ?_ | refine s_sub1 ?_ | refine s_gtr_t ?_ | refine s_eql_t ?_ | refine s_eql_f ?_ | refine s_pickt ?_ | refine s_pickf ?_ | refine s_index ?_))
          exact ⟨k - 1, (Knows.spec (by repeat (first | exact trivial | refine ⟨rfl, ?_⟩))), SubH.refl _, ⟨by omega, drop_pred hlt hc hb (by simp [isBl, h1])⟩, by omega⟩
        · skip
          (repeat' (first | refine k_seq ?_ | refine k_region ?_ | refine k_nil ?_ | refine k_then ?_ | refine k_false ?_ | refine k_exit ?_ | refine k_exit_then ?_ | refine k_hit ?_ | refine k_ret ?_ | refine s_grun ?_ | refine s_move ?_ | refine s_assign ?_ | refine s_sub1 ?_ | refine s_gtr_t ?_ | refine s_eql_f ?_ | refine s_pickt ?_ | refine s_pickf ?_ | refine s_index ?_ | refine s_slicet ?_))
          refine e_pure ⟨?_, rfl⟩
          simp only [oneOr]
          rw [rtrim_at hk hb (fun d _ hd => by rw [hc] at hd; cases hd; simp [isBl, h0, h1])]
    · (repeat' (first | refine k_seq ?_ | refine k_region ?_ | refine k_nil ?_ | refine k_then ?_ | refine k_false ?_ | refine k_exit ?_ | refine k_exit_then ?_ | refine k_hit ?_ | refine k_ret ?_ | refine s_gskipt ?_ | refine s_gskipu ?_ | refine s_move ?_ | refine s_assign ?_ | refine s_gtr_f ?_ | refine s_pickf ?_ | refine s_slicet ?_))
      refine e_pure ⟨?_, rfl⟩
      simp only [oneOr]
      rw [rtrim_at hk hb (fun d h _ => by omega)]

theorem btrim_tr2 (l : List UInt8) (hl : l.length ≤ 140737488355328) : TrP Tryz.prog 94 [str l] (str (btrim l)) := by
  refine Tr.start (n := 49) (rs := [.tmp 2]) rfl rfl rfl rfl fun B => ?_
  (repeat' (first | refine k_seq ?_ | refine k_region ?_ | refine k_nil ?_ | refine k_then ?_ | refine s_assign ?_))
  have hd : (ltrim l).length ≤ l.length := (List.dropWhile_sublist _).length_le
  refine k_mid [(0, str l), (3, .int .i64 ((l.length - (ltrim l).length : Nat) : Int))] [] ?_ ?_
  · (repeat' (first | refine k_blk ?_))
    refine k_loop (fun k : Nat => [(0, str l), (3, .int .i64 k)]) (fun _ => []) (fun k => k ≤ l.length ∧ ∀ c ∈ l.take k, isBl c = true) (fun k => l.length - k) 0 ⟨by omega, by simp⟩ (Knows.spec (by repeat (first | exact trivial | refine ⟨rfl, ?_⟩))) (SubH.nilR _) fun k ⟨hk, hb⟩ => ?_
    have fin : (∀ c, l[k]? = some c → isBl c = false) → l.length - (ltrim l).length = k := fun h => by
      have := congrArg List.length (drop_at isBl l k hb h); simp only [List.length_drop] at this; unfold ltrim; omega
    by_cases hlt : k < l.length
    · obtain ⟨c, hc⟩ := get_some hlt
      by_cases h0 : c.toNat = 32
      · (repeat' (first | refine k_seq ?_ | refine k_region ?_ | refine k_nil ?_ | refine k_then ?_ | refine k_true ?_ | refine k_blk ?_ | refine k_skip ?_ | refine k_block ?_ | refine s_grun ?_ | refine s_gskipf ?_ | refine s_move ?_ | refine s_assign ?_ | refine s_add1 ?_ | refine s_lss_t ?_ | refine s_eql_t ?_ | refine s_pickt ?_ | refine s_lens ?_ | refine s_index ?_))
        exact ⟨k + 1, (Knows.spec (by repeat (first | exact trivial | refine ⟨rfl, ?_⟩))), SubH.refl _, ⟨by omega, all_snoc hc hb (by simp [isBl, h0])⟩, by omega⟩
      · skip
        by_cases h1 : c.toNat = 9
        · (repeat' (first | refine k_seq ?_ | refine k_region ?_ | refine k_nil ?_ | refine k_then ?_ | refine k_true ?_ | refine k_blk ?_ | refine k_skip ?_ | refine k_block ?_ | refine s_grun ?_ | refine s_move ?_ | refine s_assign ?_ | refine s_add1 ?_ | refine s_lss_t ?_ | refine s_eql_t ?_ | refine s_eql_f ?_ | refine s_pickt ?_ | refine s_pickf ?_ | refine s_lens ?_ | refine s_index ?_))
          exact ⟨k + 1, (Knows.spec (by repeat (first | exact trivial | refine ⟨rfl, ?_⟩))), SubH.refl _, ⟨by omega, all_snoc hc hb (by simp [isBl, h1])⟩, by omega⟩
        · skip
          (repeat' (first | refine k_seq ?_ | refine k_region ?_ | refine k_nil ?_ | refine k_then ?_ | refine k_false ?_ | refine k_exit ?_ | refine k_exit_then ?_ | refine k_hit ?_ | refine s_grun ?_ | refine s_move ?_ | refine s_lss_t ?_ | refine s_eql_f ?_ | refine s_pickt ?_ | refine s_pickf ?_ | refine s_lens ?_ | refine s_index ?_))
          rw [fin (fun d hd => by rw [hc] at hd; cases hd; simp [isBl, h0, h1])]
          exact ⟨(by repeat (first | exact trivial | refine ⟨rfl, ?_⟩)), SubH.refl _⟩
    · (repeat' (first | refine k_seq ?_ | refine k_region ?_ | refine k_nil ?_ | refine k_then ?_ | refine k_false ?_ | refine k_exit ?_ | refine k_exit_then ?_ | refine k_hit ?_ | refine s_gskipt ?_ | refine s_gskipu ?_ | refine s_move ?_ | refine s_lss_f ?_ | refine s_pickf ?_ | refine s_lens ?_))
      rw [fin (fun d hd => (get_none (by omega) hd).elim)]
      exact ⟨(by repeat (first | exact trivial | refine ⟨rfl, ?_⟩)), SubH.refl _⟩
  · (repeat' (first | refine k_seq ?_ | refine k_region ?_ | refine k_nil ?_ | refine k_then ?_ | refine k_blk ?_ | refine s_move ?_ | refine s_assign ?_ | refine s_lens ?_ | refine s_slicef ?_))
    have e : List.drop (l.length - (ltrim l).length) l = ltrim l := by
      have h1 : ltrim l <:+ l := List.dropWhile_suffix _
      obtain ⟨p, hp⟩ := h1
      have h2 : p.length = l.length - (ltrim l).length := by have := congrArg List.length hp; simp only [List.length_append] at this; omega
      rw [← h2]; conv => lhs; rw [← hp]
      exact List.drop_left
    rw [e, show btrim l = rtrim (ltrim l) from rfl]
    generalize ltrim l = m at *
    refine k_loop (fun k : Nat => [(0, str m), (4, .int .i64 k)]) (fun _ => []) (fun k => k ≤ m.length ∧ ∀ c ∈ m.drop k, isBl c = true) (fun k => k) m.length ⟨by omega, by simp⟩ (Knows.spec (by repeat (first | exact trivial | refine ⟨rfl, ?_⟩))) (SubH.nilR _) fun k ⟨hk, hb⟩ => ?_
    by_cases hlt : 0 < k
    · obtain ⟨c, hc⟩ := get_some (l := m) (k := k - 1) (by omega)
      by_cases h0 : c.toNat = 32
      · (repeat' (first | refine k_seq ?_ | refine k_region ?_ | refine k_nil ?_ | refine k_then ?_ | refine k_true ?_ | refine k_blk ?_ | refine k_skip ?_ | refine k_block ?_ | refine s_grun ?_ | refine s_gskipf ?_ | refine s_move ?_ | refine s_assign ?_ | refine s_sub1 ?_ | refine s_gtr_t ?_ | refine s_eql_t ?_ | refine s_pickt ?_ | refine s_index ?_))
        exact ⟨k - 1, (Knows.spec (by repeat (first | exact trivial | refine ⟨rfl, ?_⟩))), SubH.refl _, ⟨by omega, drop_pred hlt hc hb (by simp [isBl, h0])⟩, by omega⟩
      · skip
        by_cases h1 : c.toNat = 9
        · (repeat' (first | refine k_seq ?_ | refine k_region ?_ | refine k_nil ?_ | refine k_then ?_ | refine k_true ?_ | refine k_blk ?_ | refine k_skip ?_ | refine k_block ?_ | refine s_grun ?_ | refine s_move ?_ | refine s_assign ?_ | refine s_sub1 ?_ | refine s_gtr_t ?_ | refine s_eql_t ?_ | refine s_eql_f ?_ | refine s_pickt ?_ | refine s_pickf ?_ | refine s_index ?_))
          exact ⟨k - 1, (Knows.spec (by repeat (first | exact trivial | refine ⟨rfl, ?_⟩))), SubH.refl _, ⟨by omega, drop_pred hlt hc hb (by simp [isBl, h1])⟩, by omega⟩
        · skip
          (repeat' (first | refine k_seq ?_ | refine k_region ?_ | refine k_nil ?_ | refine k_then ?_ | refine k_false ?_ | refine k_exit ?_ | refine k_exit_then ?_ | refine k_hit ?_ | refine k_ret ?_ | refine s_grun ?_ | refine s_move ?_ | refine s_assign ?_ | refine s_sub1 ?_ | refine s_gtr_t ?_ | refine s_eql_f ?_ | refine s_pickt ?_ | refine s_pickf ?_ | refine s_index ?_ | refine s_slicet ?_))
          refine e_pure ⟨?_, rfl⟩
          simp only [oneOr]
          rw [rtrim_at hk hb (fun d _ hd => by rw [hc] at hd; cases hd; simp [isBl, h0, h1])]
    · (repeat' (first | refine k_seq ?_ | refine k_region ?_ | refine k_nil ?_ | refine k_then ?_ | refine k_false ?_ | refine k_exit ?_ | refine k_exit_then ?_ | refine k_hit ?_ | refine k_ret ?_ | refine s_gskipt ?_ | refine s_gskipu ?_ | refine s_move ?_ | refine s_assign ?_ | refine s_gtr_f ?_ | refine s_pickf ?_ | refine s_slicet ?_))
      refine e_pure ⟨?_, rfl⟩
      simp only [oneOr]
      rw [rtrim_at hk hb (fun d h _ => by omega)]

end Go.Proofs

namespace Go.Proofs
open Go Go.Eng
set_option maxRecDepth 20000
set_option maxHeartbeats 4000000

/-- The cells of a line that is read from place i on (no tabs: nothing is left of one). -/
abbrev lnc (i : Nat) (tx : List UInt8) (nl : Nat) : List Value := [.int .i64 0, .int .i64 i, .int .i64 0, str tx, .int .u8 nl]
abbrev lnb (q i : Nat) (tx : List UInt8) (nl : Nat) : Blk := [(q, cellsOf (lnc i tx nl) 97)]
def NoTab (l : List UInt8) : Prop := ∀ c ∈ l, c.toNat ≠ 9
/-- The spaces at the front. -/
def nsp : List UInt8 → Nat
  | [] => 0
  | c :: l => if c.toNat = 32 then nsp l + 1 else 0

theorem nsp_le : ∀ l : List UInt8, nsp l ≤ l.length
  | [] => by simp [nsp]
  | c :: l => by have := nsp_le l; simp only [nsp, List.length_cons]; split <;> omega
theorem nsp_lt : ∀ {l : List UInt8} {j : Nat}, j < nsp l → ∃ c, l[j]? = some c ∧ c.toNat = 32
  | [], j, h => by simp [nsp] at h
  | c :: l, j, h => by
    simp only [nsp] at h
    split at h
    · rename_i hc
      cases j with
      | zero => exact ⟨c, by simp, hc⟩
      | succ j => obtain ⟨d, h1, h2⟩ := nsp_lt (l := l) (j := j) (by omega); exact ⟨d, by simpa using h1, h2⟩
    · omega
theorem nsp_at : ∀ {l : List UInt8} {c : UInt8}, l[nsp l]? = some c → c.toNat ≠ 32
  | [], c, h => by simp at h
  | d :: l, c, h => by
    by_cases hd : d.toNat = 32
    · have e : nsp (d :: l) = nsp l + 1 := by simp [nsp, hd]
      rw [e] at h; exact nsp_at (l := l) (by simpa using h)
    · have e : nsp (d :: l) = 0 := by simp [nsp, hd]
      rw [e] at h; simp at h; subst h; exact hd

/-- What line.trimSpace answers, and where the line stands behind it. -/
def tsOK (i : Nat) (tx : List UInt8) (lo hi : Nat) (eol : Bool) : Bool := decide (lo ≤ min (nsp (tx.drop i)) hi) || (eol && decide (tx.length ≤ i + nsp (tx.drop i)))
def tsI (i : Nat) (tx : List UInt8) (lo hi : Nat) (eol : Bool) : Nat := if tsOK i tx lo hi eol then i + min (nsp (tx.drop i)) hi else i

theorem trimSpace_tr (q i : Nat) (tx : List UInt8) (nl lo hi : Nat) (eol : Bool) (hnt : NoTab tx) (hi' : i ≤ tx.length) (hl : tx.length ≤ 140737488355328) (hlh : lo ≤ hi) (hh : hi ≤ 1000) :
    TrD Tryz.prog 137 [.pointer (some ⟨q, 0, none⟩), .int .i64 lo, .int .i64 hi, .bool eol] [lnb q i tx nl]
      (.bool (tsOK i tx lo hi eol)) [lnb q (tsI i tx lo hi eol) tx nl] := by
  refine Tr.start (n := 76) (rs := [.tmp 8]) rfl rfl rfl rfl fun B => ?_
  (repeat' (first | refine k_seq ?_ | refine k_region ?_ | refine k_nil ?_ | refine k_then ?_ | refine s_move ?_ | refine s_assign ?_ | refine s_nilp ?_ | refine s_loada ?_))
  refine s_alloc fun r => ?_
  (repeat' (first | refine k_seq ?_ | refine k_region ?_ | refine k_nil ?_ | refine k_then ?_ | refine s_assign ?_ | refine s_storea ?_))
  have hk := nsp_le (tx.drop i)
  simp only [List.length_drop] at hk
  have hlt := fun j (h : j < nsp (tx.drop i)) => nsp_lt h
  have hat := fun c (h : (tx.drop i)[nsp (tx.drop i)]? = some c) => nsp_at h
  simp only [List.getElem?_drop] at hlt hat
  unfold tsI tsOK
  generalize nsp (tx.drop i) = k at *
  -- the ways on which the loop ends well come to the same place
  refine k_midx (fun _ : Unit => [(0, .pointer (some ⟨q, 0, none⟩)), (9, .pointer (some ⟨r, 0, none⟩))]) (fun _ => [lnb r (i + min k hi) tx nl, lnb q i tx nl])
    (fun _ => (decide (lo ≤ min k hi) || (eol && decide (tx.length ≤ i + k))) = true) ?_ ?_
  · (repeat' (first | refine k_blk ?_))
    refine k_loop (fun x : Nat × Nat => [(0, .pointer (some ⟨q, 0, none⟩)), (1, .int .i64 lo), (2, .int .i64 hi), (3, .bool eol), (9, .pointer (some ⟨r, 0, none⟩)), (10, .int .i64 x.1)])
      (fun x => [lnb r x.2 tx nl, lnb q i tx nl]) (fun x => x.1 ≤ hi ∧ x.2 = i + min x.1 k ∧ (x.1 ≤ k ∨ eol = true ∧ i + k = tx.length)) (fun x => hi - x.1) (0, i) ⟨by omega, by simp, by simp⟩ (Knows.spec (by repeat (first | exact trivial | refine ⟨rfl, ?_⟩))) (SubH.refl _) ?_
    rintro ⟨m, j⟩ ⟨h1, h2, h3⟩
    simp only at h1 h2 h3
    by_cases hm : m < hi
    · by_cases hmk : m < k
      · obtain ⟨c, hc, hc2⟩ := hlt m hmk
        have hc' : tx[j]? = some c := by rw [h2, Nat.min_eq_left (by omega)]; exact hc
        have hj : j < tx.length := (List.getElem?_eq_some_iff.1 hc').1
        clear hc hlt hat h3
        cases eol <;> (repeat' (first | refine k_seq ?_ | refine k_region ?_ | refine k_nil ?_ | refine k_then ?_ | refine k_true ?_ | refine k_false ?_ | refine k_blk ?_ | refine k_skip ?_ | refine k_exit ?_ | refine k_exit_then ?_ | refine k_hit ?_ | refine k_miss ?_ | refine s_gskipt ?_ | refine s_move ?_ | refine s_assign ?_ | refine s_load ?_ | refine s_field ?_ | refine s_add1 ?_ | refine s_lss_t ?_ | refine s_gtr_f ?_ | refine s_geq_f ?_ | refine s_eql_t ?_ | refine s_eql_f ?_ | refine s_pickf ?_ | refine s_lens ?_ | refine s_index ?_ | refine s_store ?_)) <;> exact ⟨(m + 1, j + 1), (Knows.spec (by repeat (first | exact trivial | refine ⟨rfl, ?_⟩))), SubH.refl _, ⟨by simp; omega, by simp; omega, by simp; omega⟩, by simp; omega⟩
      · by_cases hj : j < tx.length
        · have hjk : j = i + k := by omega
          obtain ⟨c, hc'⟩ := get_some hj
          have hc2 : ¬ c.toNat = 32 := hat c (by rw [← hjk]; exact hc')
          have hc3 : ¬ c.toNat = 9 := hnt c (List.mem_of_getElem? hc')
          have hmk' : m = k := by
            rcases h3 with h3 | h3
            · omega
            · omega
          subst hmk' hjk
          have hf0 : ¬ tx.length ≤ i + m := by omega
          have hf : (eol && decide (tx.length ≤ i + m)) = false := by simp; intro _; omega
          rw [hf, Nat.min_eq_left (by omega : m ≤ hi)]
          clear hlt hat h3
          by_cases hlo : lo ≤ m
          · cases eol <;> (repeat' (first | refine k_seq ?_ | refine k_region ?_ | refine k_nil ?_ | refine k_then ?_ | refine k_true ?_ | refine k_false ?_ | refine k_blk ?_ | refine k_skip ?_ | refine k_block ?_ | refine k_exit ?_ | refine k_exit_then ?_ | refine k_hit ?_ | refine k_miss ?_ | refine s_gskipt ?_ | refine s_move ?_ | refine s_assign ?_ | refine s_load ?_ | refine s_field ?_ | refine s_lss_t ?_ | refine s_gtr_f ?_ | refine s_geq_t ?_ | refine s_geq_f ?_ | refine s_eql_f ?_ | refine s_pickf ?_ | refine s_lens ?_ | refine s_index ?_)) <;> exact ⟨(), (by repeat (first | exact trivial | refine ⟨rfl, ?_⟩)), SubH.refl _, by simp [hlo]⟩
          · cases eol <;> (repeat' (first | refine k_seq ?_ | refine k_region ?_ | refine k_nil ?_ | refine k_then ?_ | refine k_true ?_ | refine k_false ?_ | refine k_blk ?_ | refine k_skip ?_ | refine k_block ?_ | refine k_ret ?_ | refine k_ret_then ?_ | refine k_ret_block ?_ | refine s_gskipt ?_ | refine s_move ?_ | refine s_assign ?_ | refine s_load ?_ | refine s_field ?_ | refine s_lss_t ?_ | refine s_gtr_f ?_ | refine s_geq_f ?_ | refine s_eql_f ?_ | refine s_pickf ?_ | refine s_lens ?_ | refine s_index ?_)) <;> refine e_ret [lnb q i tx nl] ?_ SubH.drop1 <;> simp [oneOr, hlo]
        · clear hlt hat
          cases eol
          · have hmk' : m = k := by
              rcases h3 with h3 | h3
              · omega
              · cases h3.1
            subst hmk'
            clear h3
            rw [Nat.min_eq_left (by omega : m ≤ hi)]
            by_cases hlo : lo ≤ m
            · (repeat' (first | refine k_seq ?_ | refine k_region ?_ | refine k_nil ?_ | refine k_then ?_ | refine k_true ?_ | refine k_false ?_ | refine k_blk ?_ | refine k_skip ?_ | refine k_exit ?_ | refine k_exit_then ?_ | refine k_hit ?_ | refine k_miss ?_ | refine s_grun ?_ | refine s_move ?_ | refine s_load ?_ | refine s_field ?_ | refine s_lss_t ?_ | refine s_lss_f ?_ | refine s_gtr_f ?_ | refine s_geq_t ?_ | refine s_pickt ?_ | refine s_lens ?_))
              exact ⟨(), (by repeat (first | exact trivial | refine ⟨rfl, ?_⟩)), by rw [h2, Nat.min_self]; exact SubH.refl _, by simp [hlo]⟩
            · (repeat' (first | refine k_seq ?_ | refine k_region ?_ | refine k_nil ?_ | refine k_then ?_ | refine k_true ?_ | refine k_false ?_ | refine k_blk ?_ | refine k_skip ?_ | refine k_ret ?_ | refine k_ret_then ?_ | refine k_ret_block ?_ | refine s_grun ?_ | refine s_move ?_ | refine s_assign ?_ | refine s_load ?_ | refine s_field ?_ | refine s_lss_t ?_ | refine s_lss_f ?_ | refine s_gtr_f ?_ | refine s_geq_t ?_ | refine s_geq_f ?_ | refine s_pickt ?_ | refine s_lens ?_))
              refine e_ret [lnb q i tx nl] ?_ SubH.drop1; simp [oneOr, hlo]
          · clear h3
            (repeat' (first | refine k_seq ?_ | refine k_region ?_ | refine k_nil ?_ | refine k_then ?_ | refine k_true ?_ | refine k_false ?_ | refine k_blk ?_ | refine k_skip ?_ | refine k_exit ?_ | refine k_exit_then ?_ | refine k_hit ?_ | refine s_grun ?_ | refine s_move ?_ | refine s_assign ?_ | refine s_load ?_ | refine s_field ?_ | refine s_add1 ?_ | refine s_lss_t ?_ | refine s_gtr_f ?_ | refine s_geq_t ?_ | refine s_pickt ?_ | refine s_lens ?_))
            exact ⟨(m + 1, j), (Knows.spec (by repeat (first | exact trivial | refine ⟨rfl, ?_⟩))), SubH.refl _, ⟨by simp; omega, by simp; omega, by simp; omega⟩, by simp; omega⟩
    · clear hlt hat
      have : m = hi := by omega
      subst this
      (repeat' (first | refine k_seq ?_ | refine k_region ?_ | refine k_nil ?_ | refine k_then ?_ | refine k_false ?_ | refine k_exit ?_ | refine k_exit_then ?_ | refine k_hit ?_ | refine s_move ?_ | refine s_lss_f ?_))
      refine ⟨(), (by repeat (first | exact trivial | refine ⟨rfl, ?_⟩)), by rw [h2, Nat.min_comm]; exact SubH.refl _, ?_⟩
      rcases h3 with h3 | h3
      · have : lo ≤ min k m := by omega
        simp [this]
      · simp [h3.1, h3.2]
  · intro _ hok
    rw [hok]
    simp only [if_true]
    (repeat' (first | refine k_seq ?_ | refine k_region ?_ | refine k_nil ?_ | refine k_then ?_ | refine k_ret ?_ | refine s_move ?_ | refine s_assign ?_ | refine s_nilp ?_ | refine s_loada ?_ | refine s_storea ?_))
    exact e_ret _ ⟨rfl, rfl⟩ SubH.drop1
end Go.Proofs

namespace Go.Proofs
open Go Go.Eng
set_option maxRecDepth 20000
set_option maxHeartbeats 4000000

abbrev lp (q : Nat) : Value := .pointer (some ⟨q, 0, none⟩)

theorem trim_tr (q i : Nat) (tx : List UInt8) (nl c : Nat) (hl : tx.length ≤ 140737488355328) (hi : i ≤ tx.length) (b : Bool) (hb : b = decide (∃ d, tx[i]? = some d ∧ d.toNat = c)) :
    TrD Tryz.prog 166 [lp q, .int .u8 c] [lnb q i tx nl] (.bool b) [lnb q (if b then i + 1 else i) tx nl] := by
  refine Tr.start (n := 49) (rs := [.tmp 4]) rfl rfl rfl rfl fun B => ?_
  by_cases hlt : i < tx.length
  · obtain ⟨d, hd⟩ := get_some hlt
    by_cases hdc : d.toNat = c
    · have : b = true := by rw [hb]; exact decide_eq_true ⟨d, hd, hdc⟩
      subst this
      (repeat' (first | refine Wp.draw_all (id := 6) Mixed.out (by kernel_rfl) ?_ | refine k_seq ?_ | refine k_region ?_ | refine k_nil ?_ | refine k_then ?_ | refine k_true ?_ | refine k_false ?_ | refine k_skip ?_ | refine k_ret ?_ | refine k_ret_then ?_ | refine s_move ?_ | refine s_assign ?_ | refine s_load ?_ | refine s_field ?_ | refine s_nilp ?_ | refine s_add1 ?_ | refine s_gtr_f ?_ | refine s_store ?_ | refine u_nil ?_ | refine u_grun ?_ | refine u_move ?_ | refine u_load ?_ | refine u_field ?_ | refine u_nilp ?_ | refine u_lss_t ?_ | refine u_eql_t ?_ | refine u_pickt ?_ | refine u_lens ?_ | refine u_index ?_))
      exact e_ret _ ⟨rfl, rfl⟩ (SubH.refl _)
    · have : b = false := by rw [hb]; exact decide_eq_false (fun ⟨e, h1, h2⟩ => by rw [hd] at h1; cases h1; exact hdc h2)
      subst this
      (repeat' (first | refine Wp.draw_all (id := 6) Mixed.out (by kernel_rfl) ?_ | refine k_seq ?_ | refine k_region ?_ | refine k_nil ?_ | refine k_then ?_ | refine k_false ?_ | refine k_skip ?_ | refine k_ret ?_ | refine s_move ?_ | refine s_assign ?_ | refine s_load ?_ | refine s_field ?_ | refine s_nilp ?_ | refine s_gtr_f ?_ | refine u_nil ?_ | refine u_grun ?_ | refine u_move ?_ | refine u_load ?_ | refine u_field ?_ | refine u_nilp ?_ | refine u_lss_t ?_ | refine u_eql_f ?_ | refine u_pickt ?_ | refine u_lens ?_ | refine u_index ?_))
      exact e_ret _ ⟨rfl, rfl⟩ (SubH.refl _)
  · have : b = false := by rw [hb]; exact decide_eq_false (fun ⟨e, h1, h2⟩ => get_none (by omega) h1)
    subst this
    (repeat' (first | refine Wp.draw_all (id := 6) Mixed.out (by kernel_rfl) ?_ | refine k_seq ?_ | refine k_region ?_ | refine k_nil ?_ | refine k_then ?_ | refine k_false ?_ | refine k_skip ?_ | refine k_ret ?_ | refine s_move ?_ | refine s_assign ?_ | refine s_load ?_ | refine s_field ?_ | refine s_nilp ?_ | refine s_gtr_f ?_ | refine u_nil ?_ | refine u_gskipt ?_ | refine u_move ?_ | refine u_load ?_ | refine u_field ?_ | refine u_nilp ?_ | refine u_lss_f ?_ | refine u_pickf ?_ | refine u_lens ?_))
    exact e_ret _ ⟨rfl, rfl⟩ (SubH.refl _)

/-- The byte at a place, 0 behind the end. -/
def at0 (tx : List UInt8) (i : Nat) : Nat := match tx[i]? with | some c => c.toNat | none => 0
theorem at0_some {tx : List UInt8} {i : Nat} {c : UInt8} (h : tx[i]? = some c) : at0 tx i = c.toNat := by simp [at0, h]
theorem at0_none {tx : List UInt8} {i : Nat} (h : tx.length ≤ i) : at0 tx i = 0 := by simp [at0, List.getElem?_eq_none h]
theorem at0_lt (tx : List UInt8) (i : Nat) : at0 tx i < 256 := by
  unfold at0; split
  · exact UInt8.toNat_lt _
  · omega

theorem peek_tr (q i : Nat) (tx : List UInt8) (nl : Nat) (_hl : tx.length ≤ 140737488355328) (hi : i ≤ tx.length) :
    TrD Tryz.prog 168 [lp q] [lnb q i tx nl] (.int .u8 (at0 tx i)) [lnb q i tx nl] := by
  refine Tr.start (n := 27) (rs := [.tmp 2]) rfl rfl rfl rfl fun B => ?_
  by_cases hlt : i < tx.length
  · obtain ⟨d, hd⟩ := get_some hlt
    rw [at0_some hd]
    (repeat' (first | refine Wp.draw_all (id := 3) Mixed.out (by kernel_rfl) ?_ | refine Wp.draw_all (id := 5) Mixed.out (by kernel_rfl) ?_ | refine k_seq ?_ | refine k_region ?_ | refine k_nil ?_ | refine k_then ?_ | refine k_false ?_ | refine k_skip ?_ | refine k_ret ?_ | refine s_move ?_ | refine s_assign ?_ | refine s_load ?_ | refine s_field ?_ | refine s_nilp ?_ | refine s_gtr_f ?_ | refine u_nil ?_ | refine u_move ?_ | refine u_assign ?_ | refine u_load ?_ | refine u_field ?_ | refine u_nilp ?_ | refine u_geq_f ?_ | refine u_lens ?_ | refine u_index ?_))
    exact e_ret _ ⟨rfl, rfl⟩ (SubH.refl _)
  · rw [at0_none (by omega)]
    (repeat' (first | refine Wp.draw_all (id := 3) Mixed.out (by kernel_rfl) ?_ | refine k_seq ?_ | refine k_region ?_ | refine k_nil ?_ | refine k_then ?_ | refine k_true ?_ | refine k_false ?_ | refine k_skip ?_ | refine k_ret ?_ | refine k_ret_then ?_ | refine s_move ?_ | refine s_assign ?_ | refine s_load ?_ | refine s_field ?_ | refine s_nilp ?_ | refine s_gtr_f ?_ | refine u_nil ?_ | refine u_move ?_ | refine u_load ?_ | refine u_field ?_ | refine u_nilp ?_ | refine u_geq_t ?_ | refine u_lens ?_))
    exact e_ret _ ⟨rfl, rfl⟩ (SubH.refl _)

theorem eof_tr (q i : Nat) (tx : List UInt8) (nl : Nat) (b : Bool) (hb : b = decide (tx.length ≤ i)) :
    TrD Tryz.prog 170 [lp q] [lnb q i tx nl] (.bool b) [lnb q i tx nl] := by
  refine Tr.start (n := 13) (rs := [.tmp 2]) rfl rfl rfl rfl fun B => ?_
  by_cases h : tx.length ≤ i
  · have : b = true := by rw [hb]; exact decide_eq_true h
    subst this
    (repeat' (first | refine Wp.draw_all (id := 1) Mixed.out (by kernel_rfl) ?_ | refine k_seq ?_ | refine k_region ?_ | refine k_nil ?_ | refine k_then ?_ | refine k_ret ?_ | refine s_assign ?_ | refine u_nil ?_ | refine u_move ?_ | refine u_assign ?_ | refine u_load ?_ | refine u_field ?_ | refine u_nilp ?_ | refine u_geq_t ?_ | refine u_lens ?_))
    exact e_ret _ ⟨rfl, rfl⟩ (SubH.refl _)
  · have : b = false := by rw [hb]; exact decide_eq_false h
    subst this
    (repeat' (first | refine Wp.draw_all (id := 1) Mixed.out (by kernel_rfl) ?_ | refine k_seq ?_ | refine k_region ?_ | refine k_nil ?_ | refine k_then ?_ | refine k_ret ?_ | refine s_assign ?_ | refine u_nil ?_ | refine u_move ?_ | refine u_assign ?_ | refine u_load ?_ | refine u_field ?_ | refine u_nilp ?_ | refine u_geq_f ?_ | refine u_lens ?_))
    exact e_ret _ ⟨rfl, rfl⟩ (SubH.refl _)

theorem string_tr (q i : Nat) (tx : List UInt8) (nl : Nat) (_hl : tx.length ≤ 140737488355328) (hi : i ≤ tx.length) :
    TrD Tryz.prog 120 [lp q] [lnb q i tx nl] (str (tx.drop i)) [lnb q i tx nl] := by
  refine Tr.start (n := 55) (rs := [.tmp 2]) rfl rfl rfl rfl fun B => ?_
  (repeat' (first | refine Wp.draw_all (id := 3) Mixed.out (by kernel_rfl) ?_ | refine k_seq ?_ | refine k_region ?_ | refine k_nil ?_ | refine k_then ?_ | refine k_true ?_ | refine k_blk ?_ | refine k_ret ?_ | refine k_ret_then ?_ | refine k_ret_block ?_ | refine s_move ?_ | refine s_assign ?_ | refine s_load ?_ | refine s_field ?_ | refine s_nilp ?_ | refine s_eql_t ?_ | refine u_nil ?_ | refine u_move ?_ | refine u_assign ?_ | refine u_load ?_ | refine u_field ?_ | refine u_nilp ?_ | refine u_slicef ?_))
  exact e_ret _ ⟨rfl, rfl⟩ (SubH.refl _)

theorem isBlank_tr (q i : Nat) (tx : List UInt8) (nl : Nat) (hl : tx.length ≤ 140737488355328) (hi : i ≤ tx.length) (b : Bool) (hb : b = decide (ltrim (tx.drop i) = [])) :
    TrD Tryz.prog 54 [lp q] [lnb q i tx nl] (.bool b) [lnb q i tx nl] := by
  refine Tr.start (n := 14) (rs := [.tmp 2]) rfl rfl rfl rfl fun B => ?_
  have hd : (tx.drop i).length ≤ 140737488355328 := by simp; omega
  subst hb
  (repeat' (first | refine Wp.draw_tail (id := 1) 8 Mixed.out (by kernel_rfl) ?_ | refine s_pure (ltrim_tr _ hd) ?_ | refine k_seq ?_ | refine k_region ?_ | refine k_nil ?_ | refine k_then ?_ | refine k_ret ?_ | refine s_assign ?_ | refine s_slicef ?_ | refine s_eqs ?_ | refine u_nil ?_ | refine u_move ?_ | refine u_load ?_ | refine u_field ?_ | refine u_nilp ?_))
  exact e_ret _ ⟨rfl, rfl⟩ (SubH.refl _)

theorem trimSpaceString_tr (q i : Nat) (tx : List UInt8) (nl : Nat) (hl : tx.length ≤ 140737488355328) (hi : i ≤ tx.length) :
    TrD Tryz.prog 88 [lp q] [lnb q i tx nl] (str (ltrim (tx.drop i))) [lnb q i tx nl] := by
  refine Tr.start (n := 13) (rs := [.tmp 2]) rfl rfl rfl rfl fun B => ?_
  have hd : (tx.drop i).length ≤ 140737488355328 := by simp; omega
  (repeat' (first | refine Wp.draw_tail (id := 1) 8 Mixed.out (by kernel_rfl) ?_ | refine s_pure (ltrim_tr _ hd) ?_ | refine k_seq ?_ | refine k_region ?_ | refine k_nil ?_ | refine k_then ?_ | refine k_ret ?_ | refine s_assign ?_ | refine s_slicef ?_ | refine u_nil ?_ | refine u_move ?_ | refine u_load ?_ | refine u_field ?_ | refine u_nilp ?_))
  exact e_ret _ ⟨rfl, rfl⟩ (SubH.refl _)

theorem trimString_tr (q i : Nat) (tx : List UInt8) (nl : Nat) (hl : tx.length ≤ 140737488355328) (hi : i ≤ tx.length) :
    TrD Tryz.prog 175 [lp q] [lnb q i tx nl] (str (btrim (tx.drop i))) [lnb q i tx nl] := by
  refine Tr.start (n := 13) (rs := [.tmp 2]) rfl rfl rfl rfl fun B => ?_
  have hd : (tx.drop i).length ≤ 140737488355328 := by simp; omega
  (repeat' (first | refine Wp.draw_tail (id := 1) 8 Mixed.out (by kernel_rfl) ?_ | refine s_pure (btrim_tr _ hd) ?_ | refine k_seq ?_ | refine k_region ?_ | refine k_nil ?_ | refine k_then ?_ | refine k_ret ?_ | refine s_assign ?_ | refine s_slicef ?_ | refine u_nil ?_ | refine u_move ?_ | refine u_load ?_ | refine u_field ?_ | refine u_nilp ?_))
  exact e_ret _ ⟨rfl, rfl⟩ (SubH.refl _)
end Go.Proofs

namespace Go.Proofs
open Go Go.Eng
set_option maxRecDepth 20000
set_option maxHeartbeats 4000000

theorem tsOK_zero (i : Nat) (tx : List UInt8) (hi : Nat) (eol : Bool) : tsOK i tx 0 hi eol = true := by simp [tsOK]
theorem tsI_zero (i : Nat) (tx : List UInt8) (hi : Nat) (eol : Bool) : tsI i tx 0 hi eol = i + min (nsp (tx.drop i)) hi := by simp [tsI, tsOK_zero]
theorem tsI_le (i : Nat) (tx : List UInt8) (lo hi : Nat) (eol : Bool) (h : i ≤ tx.length) : tsI i tx lo hi eol ≤ tx.length := by
  have := nsp_le (tx.drop i); simp only [List.length_drop] at this
  unfold tsI; split <;> omega
theorem nsp_drop : ∀ (l : List UInt8) (j : Nat), j ≤ nsp l → nsp (l.drop j) = nsp l - j
  | l, 0, _ => by simp
  | [], j + 1, h => by simp [nsp] at h
  | c :: l, j + 1, h => by
    simp only [nsp] at h ⊢
    split at h
    · rename_i hc
      simp only [List.drop_succ_cons, hc, if_true]
      rw [nsp_drop l j (by omega)]; omega
    · omega

abbrev lnv (i : Nat) (tx : List UInt8) (nl : Nat) : Value := .agg (lnc i tx nl).toArray

/-- The place behind up to three spaces. -/
def sp3 (i : Nat) (tx : List UInt8) : Nat := i + min (nsp (tx.drop i)) 3
theorem sp3_le {i : Nat} {tx : List UInt8} (h : i ≤ tx.length) : sp3 i tx ≤ tx.length := by
  have := nsp_le (tx.drop i); simp only [List.length_drop] at this; unfold sp3; omega
theorem at0_no {tx : List UInt8} {i c : Nat} (h : at0 tx i ≠ c) : false = decide (∃ d, tx[i]? = some d ∧ d.toNat = c) := by
  symm; refine decide_eq_false fun ⟨d, h1, h2⟩ => h ?_
  rw [at0_some h1]; exact h2
theorem at0_yes {tx : List UInt8} {i c : Nat} (h : at0 tx i = c) (hc : c ≠ 0) : true = decide (∃ d, tx[i]? = some d ∧ d.toNat = c) := by
  symm; refine decide_eq_true ?_
  unfold at0 at h
  split at h
  · rename_i d hd; exact ⟨d, hd, h⟩
  · exact absurd h.symm hc

theorem trimQuote_no (i : Nat) (tx : List UInt8) (nl : Nat) (hnt : NoTab tx) (hl : tx.length ≤ 140737488355328) (hi : i ≤ tx.length) (hq : at0 tx (sp3 i tx) ≠ 62) :
    TrP Tryz.prog 118 [lnv i tx nl] (.tuple #[lnv i tx nl, .bool false]) := by
  refine Tr.start (n := 12) (rs := [.cell 2 97, .tmp 3]) rfl rfl rfl rfl fun B => ?_
  have hs := sp3_le hi
  have e : tsI i tx 0 3 false = sp3 i tx := tsI_zero _ _ _ _
  (repeat' (first | refine k_seq ?_ | refine k_region ?_))
  refine s_box (fun r1 => ?_)
  refine s_alloc (fun r2 => ?_)
  (repeat' (first | refine k_seq ?_ | refine k_region ?_ | refine k_nil ?_ | refine k_then ?_ | refine s_assign ?_ | refine s_loada ?_))
  refine s_alloc (fun r3 => ?_)
  (repeat' (first | refine s_callD (trimSpace_tr r3 i tx nl 0 3 false hnt hi hl (by omega) (by omega)) ?_ | refine k_seq ?_ | refine k_region ?_ | refine k_nil ?_ | refine k_then ?_ | refine s_storea ?_))
  rw [e, tsOK_zero]
  (repeat' (first | refine s_callD (trim_tr r3 (sp3 i tx) tx nl 62 hl hs false (at0_no hq)) ?_ | refine k_seq ?_ | refine k_region ?_ | refine k_nil ?_ | refine k_then ?_ | refine k_true ?_ | refine k_ret ?_ | refine k_ret_then ?_ | refine s_assign ?_ | refine s_notf ?_ | refine s_loada ?_ | refine s_storea ?_))
  exact e_pure ⟨rfl, rfl⟩

theorem newQuote_no (p : Value) (i : Nat) (tx : List UInt8) (nl : Nat) (hnt : NoTab tx) (hl : tx.length ≤ 140737488355328) (hi : i ≤ tx.length) (hq : at0 tx (sp3 i tx) ≠ 62) :
    TrP Tryz.prog 79 [p, lnv i tx nl] (.tuple #[lnv i tx nl, .bool false]) := by
  refine Tr.start (n := 20) (rs := [.cell 4 97, .tmp 5]) rfl rfl rfl rfl fun B => ?_
  (repeat' (first | refine k_seq ?_ | refine k_region ?_))
  refine s_box (fun r1 => ?_)
  refine s_alloc (fun r2 => ?_)
  (repeat' (first | refine s_pure (trimQuote_no i tx nl hnt hl hi hq) ?_ | refine k_seq ?_ | refine k_region ?_ | refine k_nil ?_ | refine k_then ?_ | refine s_move ?_ | refine s_assign ?_ | refine s_ext ?_ | refine s_loada ?_))
  refine s_alloc (fun r3 => ?_)
  (repeat' (first | refine k_seq ?_ | refine k_region ?_ | refine k_nil ?_ | refine k_then ?_ | refine k_false ?_ | refine k_skip ?_ | refine k_ret ?_ | refine s_move ?_ | refine s_assign ?_ | refine s_loada ?_ | refine s_storea ?_))
  exact e_pure ⟨rfl, rfl⟩

theorem trimHeading_no (q nq i : Nat) (nv : Value) (tx : List UInt8) (nl : Nat) (hnt : NoTab tx) (hl : tx.length ≤ 140737488355328) (hi : i ≤ tx.length) (hq : at0 tx (sp3 i tx) ≠ 35) :
    TrD Tryz.prog 119 [lp q, lp nq] [lnb q i tx nl, [(nq, cellsOf [nv] 3)]] (.bool false) [lnb q i tx nl, [(nq, cellsOf [nv] 3)]] := by
  refine Tr.start (n := 28) (rs := [.tmp 4]) rfl rfl rfl rfl fun B => ?_
  have hs := sp3_le hi
  have e : tsI i tx 0 3 false = sp3 i tx := tsI_zero _ _ _ _
  (repeat' (first | refine k_seq ?_ | refine k_region ?_ | refine k_nil ?_ | refine k_then ?_ | refine s_move ?_ | refine s_assign ?_ | refine s_nilp ?_ | refine s_loada ?_))
  refine s_alloc (fun r => ?_)
  (repeat' (first | refine s_callD (trimSpace_tr r i tx nl 0 3 false hnt hi hl (by omega) (by omega)) ?_ | refine k_seq ?_ | refine k_region ?_ | refine k_nil ?_ | refine k_then ?_ | refine s_storea ?_))
  rw [e, tsOK_zero]
  (repeat' (first | refine s_callD (trim_tr r (sp3 i tx) tx nl 35 hl hs false (at0_no hq)) ?_ | refine k_seq ?_ | refine k_region ?_ | refine k_nil ?_ | refine k_then ?_ | refine k_true ?_ | refine k_ret ?_ | refine k_ret_then ?_ | refine s_assign ?_ | refine s_notf ?_))
  exact e_ret _ ⟨rfl, rfl⟩ SubH.drop1

/-- Seven # and more. -/
theorem trimHeading_seven (q nq : Nat) (nv : Value) (tx : List UInt8) (nl : Nat) (hnt : NoTab tx) (hl : tx.length ≤ 140737488355328) (hq : ∀ j, j < 7 → at0 tx j = 35) :
    TrD Tryz.prog 119 [lp q, lp nq] [lnb q 0 tx nl, [(nq, cellsOf [nv] 3)]] (.bool false) [lnb q 0 tx nl, [(nq, cellsOf [nv] 3)]] := by
  refine Tr.start (n := 28) (rs := [.tmp 4]) rfl rfl rfl rfl fun B => ?_
  have hsome : ∀ j, j < 7 → ∃ c, tx[j]? = some c ∧ c.toNat = 35 := fun j hj => by
    have := hq j hj
    unfold at0 at this
    split at this
    · rename_i c hc; exact ⟨c, hc, this⟩
    · cases this
  have hlen : 7 ≤ tx.length := by obtain ⟨c, hc, _⟩ := hsome 6 (by omega); have := (List.getElem?_eq_some_iff.1 hc).1; omega
  have hn : ∀ j, j < 7 → nsp (tx.drop j) = 0 := fun j hj => by
    obtain ⟨c, hc, hc2⟩ := hsome j hj
    obtain ⟨h1, h2⟩ := List.getElem?_eq_some_iff.1 hc
    rw [List.drop_eq_getElem_cons h1, h2]
    simp [nsp, hc2]
  have e : tsI 0 tx 0 3 false = 0 := by rw [tsI_zero, hn 0 (by omega)]; rfl
  (repeat' (first | refine k_seq ?_ | refine k_region ?_ | refine k_nil ?_ | refine k_then ?_ | refine s_move ?_ | refine s_assign ?_ | refine s_nilp ?_ | refine s_loada ?_))
  refine s_alloc (fun r => ?_)
  (repeat' (first | refine s_callD (trimSpace_tr r 0 tx nl 0 3 false hnt (by omega) hl (by omega) (by omega)) ?_ | refine k_seq ?_ | refine k_region ?_ | refine k_nil ?_ | refine k_then ?_ | refine s_storea ?_))
  rw [e, tsOK_zero]
  (repeat' (first | refine s_callD (trim_tr r 0 tx nl 35 hl (by omega) true (at0_yes (hq 0 (by omega)) (by omega))) ?_ | refine k_seq ?_ | refine k_region ?_ | refine k_nil ?_ | refine k_then ?_ | refine k_false ?_ | refine k_skip ?_ | refine s_assign ?_ | refine s_nott ?_))
  refine k_mid [(0, lp q), (1, lp nq), (5, lp r)] [lnb r 6 tx nl, lnb q 0 tx nl, [(nq, cellsOf [nv] 3)]] ?_ ?_
  · (repeat' (first | refine k_blk ?_))
    refine k_loop (fun k : Nat => [(0, lp q), (1, lp nq), (5, lp r), (6, .int .i64 ((k + 1 : Nat) : Int))]) (fun k => [lnb r (k + 1) tx nl, lnb q 0 tx nl, [(nq, cellsOf [nv] 3)]]) (fun k => k ≤ 5) (fun k => 5 - k) 0 (by omega) (Knows.spec (by repeat (first | exact trivial | refine ⟨rfl, ?_⟩))) (SubH.refl _) fun k hk => ?_
    by_cases hlt : k < 5
    · (repeat' (first | refine s_callD (trim_tr r (k + 1) tx nl 35 hl (by omega) true (at0_yes (hq (k + 1) (by omega)) (by omega))) ?_ | refine k_seq ?_ | refine k_region ?_ | refine k_nil ?_ | refine k_then ?_ | refine k_true ?_ | refine k_blk ?_ | refine k_skip ?_ | refine k_block ?_ | refine s_grun ?_ | refine s_move ?_ | refine s_assign ?_ | refine s_add1 ?_ | refine s_lss_t ?_ | refine s_pickt ?_))
      exact ⟨k + 1, (Knows.spec (by repeat (first | exact trivial | refine ⟨rfl, ?_⟩))), SubH.refl _, by omega, by omega⟩
    · have : k = 5 := by omega
      subst this
      (repeat' (first | refine k_seq ?_ | refine k_region ?_ | refine k_nil ?_ | refine k_then ?_ | refine k_false ?_ | refine k_exit ?_ | refine k_exit_then ?_ | refine k_hit ?_ | refine s_gskipt ?_ | refine s_move ?_ | refine s_lss_f ?_ | refine s_pickf ?_))
      exact ⟨(by repeat (first | exact trivial | refine ⟨rfl, ?_⟩)), SubH.refl _⟩
  · have e1 : tsOK 6 tx 1 1 true = false := by
      simp only [tsOK, hn 6 (by omega)]; simp; omega
    have e2 : tsI 6 tx 1 1 true = 6 := by simp [tsI, e1]
    (repeat' (first | refine s_callD (trimSpace_tr r 6 tx nl 1 1 true hnt (by omega) hl (by omega) (by omega)) ?_ | refine k_seq ?_ | refine k_region ?_ | refine k_nil ?_ | refine k_then ?_ | refine s_not ?_))
    rw [e1, e2, Bool.not_false]
    (repeat' (first | refine k_seq ?_ | refine k_region ?_ | refine k_nil ?_ | refine k_then ?_ | refine k_true ?_ | refine k_ret ?_ | refine k_ret_then ?_ | refine s_assign ?_))
    exact e_ret _ ⟨rfl, rfl⟩ SubH.drop1

theorem newATX_no (p : Value) (i : Nat) (tx : List UInt8) (nl : Nat)
    (h : ∀ q nq nv, TrD Tryz.prog 119 [lp q, lp nq] [lnb q i tx nl, [(nq, cellsOf [nv] 3)]] (.bool false) [lnb q i tx nl, [(nq, cellsOf [nv] 3)]]) :
    TrP Tryz.prog 80 [p, lnv i tx nl] (.tuple #[lnv i tx nl, .bool false]) := by
  refine Tr.start (n := 82) (rs := [.cell 4 97, .tmp 5]) rfl rfl rfl rfl fun B => ?_
  (repeat' (first | refine k_seq ?_ | refine k_region ?_))
  refine s_box (fun r1 => ?_)
  refine s_alloc (fun r2 => ?_)
  (repeat' (first | refine k_seq ?_ | refine k_region ?_ | refine k_nil ?_ | refine k_then ?_ | refine s_assign ?_ | refine s_loada ?_))
  refine s_alloc (fun r3 => ?_)
  (repeat' (first | refine k_seq ?_ | refine k_region ?_ | refine k_nil ?_ | refine k_then ?_ | refine s_storea ?_))
  refine s_alloc1 (fun r4 => ?_)
  (repeat' (first | refine s_callD (h r3 r4 _) ?_ | refine k_seq ?_ | refine k_region ?_ | refine k_nil ?_ | refine k_then ?_ | refine k_false ?_ | refine k_skip ?_ | refine k_ret ?_ | refine s_assign ?_ | refine s_loada ?_ | refine s_storea ?_))
  exact e_pure ⟨rfl, rfl⟩

theorem isHR_no (i : Nat) (tx : List UInt8) (nl : Nat) (hnt : NoTab tx) (hl : tx.length ≤ 140737488355328) (hi : i ≤ tx.length) (h1 : at0 tx (sp3 i tx) ≠ 45) (h2 : at0 tx (sp3 i tx) ≠ 95) (h3 : at0 tx (sp3 i tx) ≠ 42) :
    TrP Tryz.prog 131 [lnv i tx nl] (.bool false) := by
  refine Tr.start (n := 23) (rs := [.tmp 2]) rfl rfl rfl rfl fun B => ?_
  have hs := sp3_le hi
  have e : tsI i tx 0 3 false = sp3 i tx := tsI_zero _ _ _ _
  (repeat' (first | refine k_seq ?_ | refine k_region ?_))
  refine s_box (fun r1 => ?_)
  (repeat' (first | refine k_seq ?_ | refine k_region ?_ | refine k_nil ?_ | refine k_then ?_ | refine s_assign ?_ | refine s_loada ?_))
  refine s_alloc (fun r2 => ?_)
  (repeat' (first | refine s_callD (trimSpace_tr r2 i tx nl 0 3 false hnt hi hl (by omega) (by omega)) ?_ | refine k_seq ?_ | refine k_region ?_ | refine k_nil ?_ | refine k_then ?_ | refine s_storea ?_))
  rw [e, tsOK_zero]
  (repeat' (first | refine s_callD (peek_tr r2 (sp3 i tx) tx nl hl hs) ?_ | refine k_seq ?_ | refine k_region ?_ | refine k_nil ?_ | refine k_then ?_ | refine k_false ?_ | refine k_blk ?_ | refine k_skip ?_ | refine k_block ?_ | refine k_ret ?_ | refine s_move ?_ | refine s_assign ?_ | refine s_eql_f ?_))
  exact e_pure ⟨rfl, rfl⟩

theorem newHR_no (p : Value) (i : Nat) (tx : List UInt8) (nl : Nat) (hnt : NoTab tx) (hl : tx.length ≤ 140737488355328) (hi : i ≤ tx.length) (h1 : at0 tx (sp3 i tx) ≠ 45) (h2 : at0 tx (sp3 i tx) ≠ 95) (h3 : at0 tx (sp3 i tx) ≠ 42) :
    TrP Tryz.prog 82 [p, lnv i tx nl] (.tuple #[lnv i tx nl, .bool false]) := by
  refine Tr.start (n := 25) (rs := [.cell 4 97, .tmp 5]) rfl rfl rfl rfl fun B => ?_
  (repeat' (first | refine k_seq ?_ | refine k_region ?_))
  refine s_box (fun r1 => ?_)
  refine s_alloc (fun r2 => ?_)
  (repeat' (first | refine s_pure (isHR_no i tx nl hnt hl hi h1 h2 h3) ?_ | refine k_seq ?_ | refine k_region ?_ | refine k_nil ?_ | refine k_then ?_ | refine k_false ?_ | refine k_skip ?_ | refine k_ret ?_ | refine s_assign ?_ | refine s_loada ?_ | refine s_storea ?_))
  exact e_pure ⟨rfl, rfl⟩

theorem startHTML_no (p : Value) (q i : Nat) (tx : List UInt8) (nl : Nat) (hnt : NoTab tx) (hl : tx.length ≤ 140737488355328) (hi : i ≤ tx.length) (h1 : at0 tx (sp3 i tx) ≠ 60) :
    TrD Tryz.prog 134 [p, lp q] [lnb q i tx nl] (.bool false) [lnb q i tx nl] := by
  refine Tr.start (n := 368) (rs := [.tmp 4]) rfl rfl rfl rfl fun B => ?_
  have hs := sp3_le hi
  have e : tsI i tx 0 3 false = sp3 i tx := tsI_zero _ _ _ _
  (repeat' (first | refine k_seq ?_ | refine k_region ?_ | refine k_nil ?_ | refine k_then ?_ | refine k_scope ?_ | refine s_move ?_ | refine s_assign ?_ | refine s_nilp ?_ | refine s_loada ?_))
  refine s_alloc (fun r2 => ?_)
  (repeat' (first | refine s_callD (trimSpace_tr r2 i tx nl 0 3 false hnt hi hl (by omega) (by omega)) ?_ | refine k_seq ?_ | refine k_region ?_ | refine k_nil ?_ | refine k_then ?_ | refine s_storea ?_))
  rw [e, tsOK_zero]
  (repeat' (first | refine s_callD (peek_tr r2 (sp3 i tx) tx nl hl hs) ?_ | refine k_seq ?_ | refine k_region ?_ | refine k_nil ?_ | refine k_then ?_ | refine k_true ?_ | refine k_ret ?_ | refine k_ret_then ?_ | refine k_ret_nogo ?_ | refine s_assign ?_ | refine s_neq_t ?_))
  exact e_ret _ ⟨rfl, rfl⟩ SubH.drop1

theorem newHTML_no (p : Value) (i : Nat) (tx : List UInt8) (nl : Nat) (hnt : NoTab tx) (hl : tx.length ≤ 140737488355328) (hi : i ≤ tx.length) (h1 : at0 tx (sp3 i tx) ≠ 60) :
    TrP Tryz.prog 84 [p, lnv i tx nl] (.tuple #[lnv i tx nl, .bool false]) := by
  refine Tr.start (n := 12) (rs := [.cell 4 97, .tmp 5]) rfl rfl rfl rfl fun B => ?_
  (repeat' (first | refine k_seq ?_ | refine k_region ?_))
  refine s_box (fun r1 => ?_)
  refine s_alloc (fun r2 => ?_)
  (repeat' (first | refine k_seq ?_ | refine k_region ?_ | refine k_nil ?_ | refine k_then ?_ | refine s_assign ?_ | refine s_loada ?_))
  refine s_alloc (fun r3 => ?_)
  (repeat' (first | refine s_callD (startHTML_no _ r3 i tx nl hnt hl hi h1) ?_ | refine k_seq ?_ | refine k_region ?_ | refine k_nil ?_ | refine k_then ?_ | refine k_false ?_ | refine k_skip ?_ | refine k_ret ?_ | refine s_move ?_ | refine s_assign ?_ | refine s_loada ?_ | refine s_storea ?_))
  exact e_pure ⟨rfl, rfl⟩
end Go.Proofs

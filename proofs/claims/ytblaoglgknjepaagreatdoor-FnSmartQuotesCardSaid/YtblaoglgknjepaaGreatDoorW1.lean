/- Contracts of the trimming of texts. Conditions: lengths below a bound. -/
import Derived.Test.YtblaoglgknjepaaGreatDoorFacts
namespace Go.Proofs
open Go Go.Eng
set_option maxRecDepth 20000
set_option maxHeartbeats 4000000

/-! Plain words: lists of bytes -/
def isBl (c : UInt8) : Bool := c.toNat == 32 || c.toNat == 9
def isSp (c : UInt8) : Bool := c.toNat == 32 || c.toNat == 9 || c.toNat == 10
def ltrim (l : List UInt8) : List UInt8 := l.dropWhile isBl
def rtrim (l : List UInt8) : List UInt8 := (l.reverse.dropWhile isBl).reverse
def btrim (l : List UInt8) : List UInt8 := rtrim (ltrim l)

theorem drop_at (p : UInt8 → Bool) : ∀ (l : List UInt8) (k : Nat), (∀ c ∈ l.take k, p c = true) → (∀ c, l[k]? = some c → p c = false) → l.drop k = l.dropWhile p
  | [], k, _, _ => by simp
  | c :: l, 0, _, h => by have := h c (by simp); simp [this]
  | c :: l, k + 1, h1, h2 => by
    have := h1 c (by simp)
    have ih := drop_at p l k (fun d hd => h1 d (by simp [hd])) (fun d hd => h2 d (by simpa using hd))
    simp [this, ih]

theorem take_snoc {l : List UInt8} {k : Nat} {c : UInt8} (h : l[k]? = some c) : l.take (k + 1) = l.take k ++ [c] := by
  obtain ⟨h1, h2⟩ := List.getElem?_eq_some_iff.1 h
  rw [List.take_succ_eq_append_getElem h1, h2]

theorem all_snoc {l : List UInt8} {k : Nat} {c : UInt8} {p : UInt8 → Prop} (h : l[k]? = some c) (h1 : ∀ d ∈ l.take k, p d) (h2 : p c) : ∀ d ∈ l.take (k + 1), p d := by
  rw [take_snoc h]; intro d hd
  rcases List.mem_append.1 hd with hd | hd
  · exact h1 d hd
  · simp at hd; subst hd; exact h2

theorem get_some {l : List UInt8} {k : Nat} (h : k < l.length) : ∃ c, l[k]? = some c := ⟨l[k], by simp [h]⟩
theorem get_none {l : List UInt8} {k : Nat} {c : UInt8} (h : l.length ≤ k) (hc : l[k]? = some c) : False := by rw [List.getElem?_eq_none h] at hc; cases hc

theorem rtrim_at {l : List UInt8} {k : Nat} (hk : k ≤ l.length) (h1 : ∀ c ∈ l.drop k, isBl c = true) (h2 : ∀ c, 0 < k → l[k - 1]? = some c → isBl c = false) : l.take k = rtrim l := by
  have e : l.reverse.dropWhile isBl = (l.take k).reverse := by
    have h := drop_at isBl l.reverse (l.length - k) (fun c hc => by
      rw [List.take_reverse] at hc
      rw [show l.length - (l.length - k) = k by omega] at hc
      exact h1 c (by simpa using hc)) (fun c hc => by
      by_cases h0 : 0 < k
      · have hlt : l.length - k < l.length := by omega
        rw [List.getElem?_reverse hlt] at hc
        exact h2 c h0 (by rw [show k - 1 = l.length - 1 - (l.length - k) by omega]; exact hc)
      · have : k = 0 := by omega
        subst this
        rw [List.getElem?_eq_none (by simp)] at hc; cases hc)
    rw [← h, List.drop_reverse]
    congr 2
    omega
  simp [rtrim, e]

theorem drop_pred {l : List UInt8} {k : Nat} {c : UInt8} (h0 : 0 < k) (h : l[k - 1]? = some c) {p : UInt8 → Prop} (h1 : ∀ d ∈ l.drop k, p d) (h2 : p c) : ∀ d ∈ l.drop (k - 1), p d := by
  obtain ⟨h3, h4⟩ := List.getElem?_eq_some_iff.1 h
  rw [List.drop_eq_getElem_cons h3, h4, show k - 1 + 1 = k by omega]
  intro d hd
  rcases List.mem_cons.1 hd with rfl | hd
  · exact h2
  · exact h1 d hd

theorem ltrim_tr (l : List UInt8) (hl : l.length ≤ 140737488355328) : TrP Tryz.prog 57 [str l] (str (ltrim l)) := by
  refine Tr.start (n := 25) (rs := [.tmp 2]) rfl rfl rfl rfl fun B => ?_
  (repeat' (first | refine k_seq ?_ | refine k_region ?_ | refine k_nil ?_ | refine k_then ?_ | refine k_blk ?_ | refine s_assign ?_))
  refine k_loop (fun k : Nat => [(0, str l), (3, .int .i64 k)]) (fun _ => []) (fun k => k ≤ l.length ∧ ∀ c ∈ l.take k, isBl c = true) (fun k => l.length - k) 0 ⟨by omega, by simp⟩ (Knows.spec (by repeat (first | exact trivial | refine ⟨rfl, ?_⟩))) (SubH.nilR _) fun k ⟨hk, hb⟩ => ?_
  by_cases hlt : k < l.length
  · obtain ⟨c, hc⟩ := get_some hlt
    by_cases h1 : c.toNat = 32
    · (repeat' (first | refine k_seq ?_ | refine k_region ?_ | refine k_nil ?_ | refine k_then ?_ | refine k_true ?_ | refine k_blk ?_ | refine k_skip ?_ | refine k_block ?_ | refine s_grun ?_ | refine s_gskipf ?_ | refine s_move ?_ | refine s_assign ?_ | refine s_add1 ?_ | refine s_lss_t ?_ | refine s_eql_t ?_ | refine s_pickt ?_ | refine s_lens ?_ | refine s_index ?_))
      exact ⟨k + 1, (Knows.spec (by repeat (first | exact trivial | refine ⟨rfl, ?_⟩))), SubH.refl _, ⟨by omega, all_snoc hc hb (by simp [isBl, h1])⟩, by omega⟩
    · by_cases h2 : c.toNat = 9
      · (repeat' (first | refine k_seq ?_ | refine k_region ?_ | refine k_nil ?_ | refine k_then ?_ | refine k_true ?_ | refine k_blk ?_ | refine k_skip ?_ | refine k_block ?_ | refine s_grun ?_ | refine s_move ?_ | refine s_assign ?_ | refine s_add1 ?_ | refine s_lss_t ?_ | refine s_eql_t ?_ | refine s_eql_f ?_ | refine s_pickt ?_ | refine s_pickf ?_ | refine s_lens ?_ | refine s_index ?_))
        exact ⟨k + 1, (Knows.spec (by repeat (first | exact trivial | refine ⟨rfl, ?_⟩))), SubH.refl _, ⟨by omega, all_snoc hc hb (by simp [isBl, h2])⟩, by omega⟩
      · (repeat' (first | refine k_seq ?_ | refine k_region ?_ | refine k_nil ?_ | refine k_then ?_ | refine k_false ?_ | refine k_exit ?_ | refine k_exit_then ?_ | refine k_hit ?_ | refine k_ret ?_ | refine s_grun ?_ | refine s_move ?_ | refine s_assign ?_ | refine s_lss_t ?_ | refine s_eql_f ?_ | refine s_pickt ?_ | refine s_pickf ?_ | refine s_lens ?_ | refine s_index ?_ | refine s_slicef ?_))
        refine e_pure ⟨?_, rfl⟩
        simp only [oneOr]
        rw [drop_at isBl l k hb (fun d hd => by rw [hc] at hd; cases hd; simp [isBl, h1, h2])]; rfl
  · (repeat' (first | refine k_seq ?_ | refine k_region ?_ | refine k_nil ?_ | refine k_then ?_ | refine k_false ?_ | refine k_exit ?_ | refine k_exit_then ?_ | refine k_hit ?_ | refine k_ret ?_ | refine s_gskipt ?_ | refine s_gskipu ?_ | refine s_move ?_ | refine s_assign ?_ | refine s_lss_f ?_ | refine s_pickf ?_ | refine s_lens ?_ | refine s_slicef ?_))
    refine e_pure ⟨?_, rfl⟩
    simp only [oneOr]
    rw [drop_at isBl l k hb (fun d hd => (get_none (by omega) hd).elim)]; rfl

theorem rtrim_tr (l : List UInt8) (hl : l.length ≤ 140737488355328) : TrP Tryz.prog 102 [str l] (str (rtrim l)) := by
  refine Tr.start (n := 27) (rs := [.tmp 2]) rfl rfl rfl rfl fun B => ?_
  (repeat' (first | refine k_seq ?_ | refine k_region ?_ | refine k_nil ?_ | refine k_then ?_ | refine k_blk ?_ | refine s_move ?_ | refine s_assign ?_ | refine s_lens ?_))
  refine k_loop (fun k : Nat => [(0, str l), (3, .int .i64 k)]) (fun _ => []) (fun k => k ≤ l.length ∧ ∀ c ∈ l.drop k, isBl c = true) (fun k => k) l.length ⟨by omega, by simp⟩ (Knows.spec (by repeat (first | exact trivial | refine ⟨rfl, ?_⟩))) (SubH.nilR _) fun k ⟨hk, hb⟩ => ?_
  by_cases hlt : 0 < k
  · obtain ⟨c, hc⟩ := get_some (l := l) (k := k - 1) (by omega)
    by_cases h1 : c.toNat = 32
    · (repeat' (first | refine k_seq ?_ | refine k_region ?_ | refine k_nil ?_ | refine k_then ?_ | refine k_true ?_ | refine k_blk ?_ | refine k_skip ?_ | refine k_block ?_ | refine s_grun ?_ | refine s_gskipf ?_ | refine s_move ?_ | refine s_assign ?_ | refine s_sub1 ?_ | refine s_gtr_t ?_ | refine s_eql_t ?_ | refine s_pickt ?_ | refine s_index ?_))
      exact ⟨k - 1, (Knows.spec (by repeat (first | exact trivial | refine ⟨rfl, ?_⟩))), SubH.refl _, ⟨by omega, drop_pred hlt hc hb (by simp [isBl, h1])⟩, by omega⟩
    · by_cases h2 : c.toNat = 9
      · (repeat' (first | refine k_seq ?_ | refine k_region ?_ | refine k_nil ?_ | refine k_then ?_ | refine k_true ?_ | refine k_blk ?_ | refine k_skip ?_ | refine k_block ?_ | refine s_grun ?_ | refine s_move ?_ | refine s_assign ?_ | refine s_sub1 ?_ | refine s_gtr_t ?_ | refine s_eql_t ?_ | refine s_eql_f ?_ | refine s_pickt ?_ | refine s_pickf ?_ | refine s_index ?_))
        exact ⟨k - 1, (Knows.spec (by repeat (first | exact trivial | refine ⟨rfl, ?_⟩))), SubH.refl _, ⟨by omega, drop_pred hlt hc hb (by simp [isBl, h2])⟩, by omega⟩
      · (repeat' (first | refine k_seq ?_ | refine k_region ?_ | refine k_nil ?_ | refine k_then ?_ | refine k_false ?_ | refine k_exit ?_ | refine k_exit_then ?_ | refine k_hit ?_ | refine k_ret ?_ | refine s_grun ?_ | refine s_move ?_ | refine s_assign ?_ | refine s_sub1 ?_ | refine s_gtr_t ?_ | refine s_eql_f ?_ | refine s_pickt ?_ | refine s_pickf ?_ | refine s_index ?_ | refine s_slicet ?_))
        refine e_pure ⟨?_, rfl⟩
        simp only [oneOr]
        rw [rtrim_at hk hb (fun d _ hd => by rw [hc] at hd; cases hd; simp [isBl, h1, h2])]
  · (repeat' (first | refine k_seq ?_ | refine k_region ?_ | refine k_nil ?_ | refine k_then ?_ | refine k_false ?_ | refine k_exit ?_ | refine k_exit_then ?_ | refine k_hit ?_ | refine k_ret ?_ | refine s_gskipt ?_ | refine s_gskipu ?_ | refine s_move ?_ | refine s_assign ?_ | refine s_gtr_f ?_ | refine s_pickf ?_ | refine s_slicet ?_))
    refine e_pure ⟨?_, rfl⟩
    simp only [oneOr]
    rw [rtrim_at hk hb (fun d h _ => by omega)]

theorem btrim_tr (l : List UInt8) (hl : l.length ≤ 140737488355328) : TrP Tryz.prog 37 [str l] (str (btrim l)) := by
  refine Tr.start (n := 49) (rs := [.tmp 2]) rfl rfl rfl rfl fun B => ?_
  (repeat' (first | refine k_seq ?_ | refine k_region ?_ | refine k_nil ?_ | refine k_then ?_ | refine s_assign ?_))
  have hd : (ltrim l).length ≤ l.length := (List.dropWhile_sublist _).length_le
  refine k_mid [(0, str l), (3, .int .i64 ((l.length - (ltrim l).length : Nat) : Int))] [] ?_ ?_
  · (repeat' (first | refine k_blk ?_))
    refine k_loop (fun k : Nat => [(0, str l), (3, .int .i64 k)]) (fun _ => []) (fun k => k ≤ l.length ∧ ∀ c ∈ l.take k, isBl c = true) (fun k => l.length - k) 0 ⟨by omega, by simp⟩ (Knows.spec (by repeat (first | exact trivial | refine ⟨rfl, ?_⟩))) (SubH.nilR _) fun k ⟨hk, hb⟩ => ?_
    have fin : (∀ c, l[k]? = some c → isBl c = false) → l.length - (ltrim l).length = k := fun h => by
      have := congrArg List.length (drop_at isBl l k hb h); simp only [List.length_drop] at this; unfold ltrim; omega
    by_cases hlt : k < l.length
    · obtain ⟨c, hc⟩ := get_some hlt
      by_cases h0 : c.toNat = 32
      · (repeat' (first | refine k_seq ?_ | refine k_region ?_ | refine k_nil ?_ | refine k_then ?_ | refine k_true ?_ | refine k_blk ?_ | refine k_skip ?_ | refine k_block ?_ | refine s_grun ?_ | refine s_gskipf ?_ | refine s_move ?_ | refine s_assign ?_ | refine s_add1 ?_ | refine s_lss_t ?_ | refine s_eql_t ?_ | refine s_pickt ?_ | refine s_lens ?_ | refine s_index ?_))
        exact ⟨k + 1, (Knows.spec (by repeat (first | exact trivial | refine ⟨rfl, ?_⟩))), SubH.refl _, ⟨by omega, all_snoc hc hb (by simp [isBl, h0])⟩, by omega⟩
      · skip
        by_cases h1 : c.toNat = 9
        · (repeat' (first | refine k_seq ?_ | refine k_region ?_ | refine k_nil ?_ | refine k_then ?_ | refine k_true ?_ | refine k_blk ?_ | refine k_skip ?_ | refine k_block ?_ | refine s_grun ?_ | refine s_move ?_ | refine s_assign ?_ | refine s_add1 ?_ | refine s_lss_t ?_ | refine s_eql_t ?_ | refine s_eql_f ?_ | refine s_pickt ?_ | refine s_pickf ?_ | refine s_lens ?_ | refine s_index ?_))
          exact ⟨k + 1, (Knows.spec (by repeat (first | exact trivial | refine ⟨rfl, ?_⟩))), SubH.refl _, ⟨by omega, all_snoc hc hb (by simp [isBl, h1])⟩, by omega⟩
        · skip
          (repeat' (first | refine k_seq ?_ | refine k_region ?_ | refine k_nil ?_ | refine k_then ?_ | refine k_false ?_ | refine k_exit ?_ | refine k_exit_then ?_ | refine k_hit ?_ | refine s_grun ?_ | refine s_move ?_ | refine s_lss_t ?_ | refine s_eql_f ?_ | refine s_pickt ?_ | refine s_pickf ?_ | refine s_lens ?_ | refine s_index ?_))
          rw [fin (fun d hd => by rw [hc] at hd; cases hd; simp [isBl, h0, h1])]
          exact ⟨(by repeat (first | exact trivial | refine ⟨rfl, ?_⟩)), SubH.refl _⟩
    · (repeat' (first | refine k_seq ?_ | refine k_region ?_ | refine k_nil ?_ | refine k_then ?_ | refine k_false ?_ | refine k_exit ?_ | refine k_exit_then ?_ | refine k_hit ?_ | refine s_gskipt ?_ | refine s_gskipu ?_ | refine s_move ?_ | refine s_lss_f ?_ | refine s_pickf ?_ | refine s_lens ?_))
      rw [fin (fun d hd => (get_none (by omega) hd).elim)]
      exact ⟨(by repeat (first | exact trivial | refine ⟨rfl, ?_⟩)), SubH.refl _⟩
  · (repeat' (first | refine k_seq ?_ | refine k_region ?_ | refine k_nil ?_ | refine k_then ?_ | refine k_blk ?_ | refine s_move ?_ | refine s_assign ?_ | refine s_lens ?_ | refine s_slicef ?_))
    have e : List.drop (l.length - (ltrim l).length) l = ltrim l := by
      have h1 : ltrim l <:+ l := List.dropWhile_suffix _
      obtain ⟨p, hp⟩ := h1
      have h2 : p.length = l.length - (ltrim l).length := by have := congrArg List.length hp; simp only [List.length_append] at this; omega
      rw [← h2]; conv => lhs; rw [← hp]
      exact List.drop_left
    rw [e, show btrim l = rtrim (ltrim l) from rfl]
    generalize ltrim l = m at *
    refine k_loop (fun k : Nat => [(0, str m), (4, .int .i64 k)]) (fun _ => []) (fun k => k ≤ m.length ∧ ∀ c ∈ m.drop k, isBl c = true) (fun k => k) m.length ⟨by omega, by simp⟩ (Knows.spec (by repeat (first | exact trivial | refine ⟨rfl, ?_⟩))) (SubH.nilR _) fun k ⟨hk, hb⟩ => ?_
    by_cases hlt : 0 < k
    · obtain ⟨c, hc⟩ := get_some (l := m) (k := k - 1) (by omega)
      by_cases h0 : c.toNat = 32
      · (repeat' (first | refine k_seq ?_ | refine k_region ?_ | refine k_nil ?_ | refine k_then ?_ | refine k_true ?_ | refine k_blk ?_ | refine k_skip ?_ | refine k_block ?_ | refine s_grun ?_ | refine s_gskipf ?_ | refine s_move ?_ | refine s_assign ?_ | refine s_sub1 ?_ | refine s_gtr_t ?_ | refine s_eql_t ?_ | refine s_pickt ?_ | refine s_index ?_))
        exact ⟨k - 1, (Knows.spec (by repeat (first | exact trivial | refine ⟨rfl, ?_⟩))), SubH.refl _, ⟨by omega, drop_pred hlt hc hb (by simp [isBl, h0])⟩, by omega⟩
      · skip
        by_cases h1 : c.toNat = 9
        · (repeat' (first | refine k_seq ?_ | refine k_region ?_ | refine k_nil ?_ | refine k_then ?_ | refine k_true ?_ | refine k_blk ?_ | refine k_skip ?_ | refine k_block ?_ | refine s_grun ?_ | refine s_move ?_ | refine s_assign ?_ | refine s_sub1 ?_ | refine s_gtr_t ?_ | refine s_eql_t ?_ | refine s_eql_f ?_ | refine s_pickt ?_ | refine s_pickf ?_ | refine s_index ?_))
          exact ⟨k - 1, (Knows.spec (by repeat (first | exact trivial | refine ⟨rfl, ?_⟩))), SubH.refl _, ⟨by omega, drop_pred hlt hc hb (by simp [isBl, h1])⟩, by omega⟩
        · skip
          (repeat' (first | refine k_seq ?_ | refine k_region ?_ | refine k_nil ?_ | refine k_then ?_ | refine k_false ?_ | refine k_exit ?_ | refine k_exit_then ?_ | refine k_hit ?_ | refine k_ret ?_ | refine s_grun ?_ | refine s_move ?_ | refine s_assign ?_ | refine s_sub1 ?_ | refine s_gtr_t ?_ | refine s_eql_f ?_ | refine s_pickt ?_ | refine s_pickf ?_ | refine s_index ?_ | refine s_slicet ?_))
          refine e_pure ⟨?_, rfl⟩
          simp only [oneOr]
          rw [rtrim_at hk hb (fun d _ hd => by rw [hc] at hd; cases hd; simp [isBl, h0, h1])]
    · (repeat' (first | refine k_seq ?_ | refine k_region ?_ | refine k_nil ?_ | refine k_then ?_ | refine k_false ?_ | refine k_exit ?_ | refine k_exit_then ?_ | refine k_hit ?_ | refine k_ret ?_ | refine s_gskipt ?_ | refine s_gskipu ?_ | refine s_move ?_ | refine s_assign ?_ | refine s_gtr_f ?_ | refine s_pickf ?_ | refine s_slicet ?_))
      refine e_pure ⟨?_, rfl⟩
      simp only [oneOr]
      rw [rtrim_at hk hb (fun d h _ => by omega)]

theorem btrim_tr2 (l : List UInt8) (hl : l.length ≤ 140737488355328) : TrP Tryz.prog 73 [str l] (str (btrim l)) := by
  refine Tr.start (n := 49) (rs := [.tmp 2]) rfl rfl rfl rfl fun B => ?_
  (repeat' (first | refine k_seq ?_ | refine k_region ?_ | refine k_nil ?_ | refine k_then ?_ | refine s_assign ?_))
  have hd : (ltrim l).length ≤ l.length := (List.dropWhile_sublist _).length_le
  refine k_mid [(0, str l), (3, .int .i64 ((l.length - (ltrim l).length : Nat) : Int))] [] ?_ ?_
  · (repeat' (first | refine k_blk ?_))
    refine k_loop (fun k : Nat => [(0, str l), (3, .int .i64 k)]) (fun _ => []) (fun k => k ≤ l.length ∧ ∀ c ∈ l.take k, isBl c = true) (fun k => l.length - k) 0 ⟨by omega, by simp⟩ (Knows.spec (by repeat (first | exact trivial | refine ⟨rfl, ?_⟩))) (SubH.nilR _) fun k ⟨hk, hb⟩ => ?_
    have fin : (∀ c, l[k]? = some c → isBl c = false) → l.length - (ltrim l).length = k := fun h => by
      have := congrArg List.length (drop_at isBl l k hb h); simp only [List.length_drop] at this; unfold ltrim; omega
    by_cases hlt : k < l.length
    · obtain ⟨c, hc⟩ := get_some hlt
      by_cases h0 : c.toNat = 32
      · (repeat' (first | refine k_seq ?_ | refine k_region ?_ | refine k_nil ?_ | refine k_then ?_ | refine k_true ?_ | refine k_blk ?_ | refine k_skip ?_ | refine k_block ?_ | refine s_grun ?_ | refine s_gskipf ?_ | refine s_move ?_ | refine s_assign ?_ | refine s_add1 ?_ | refine s_lss_t ?_ | refine s_eql_t ?_ | refine s_pickt ?_ | refine s_lens ?_ | refine s_index ?_))
        exact ⟨k + 1, (Knows.spec (by repeat (first | exact trivial | refine ⟨rfl, ?_⟩))), SubH.refl _, ⟨by omega, all_snoc hc hb (by simp [isBl, h0])⟩, by omega⟩
      · skip
        by_cases h1 : c.toNat = 9
        · (repeat' (first | refine k_seq ?_ | refine k_region ?_ | refine k_nil ?_ | refine k_then ?_ | refine k_true ?_ | refine k_blk ?_ | refine k_skip ?_ | refine k_block ?_ | refine s_grun ?_ | refine s_move ?_ | refine s_assign ?_ | refine s_add1 ?_ | refine s_lss_t ?_ | refine s_eql_t ?_ | refine s_eql_f ?_ | refine s_pickt ?_ | refine s_pickf ?_ | refine s_lens ?_ | refine s_index ?_))
          exact ⟨k + 1, (Knows.spec (by repeat (first | exact trivial | refine ⟨rfl, ?_⟩))), SubH.refl _, ⟨by omega, all_snoc hc hb (by simp [isBl, h1])⟩, by omega⟩
        · skip
          (repeat' (first | refine k_seq ?_ | refine k_region ?_ | refine k_nil ?_ | refine k_then ?_ | refine k_false ?_ | refine k_exit ?_ | refine k_exit_then ?_ | refine k_hit ?_ | refine s_grun ?_ | refine s_move ?_ | refine s_lss_t ?_ | refine s_eql_f ?_ | refine s_pickt ?_ | refine s_pickf ?_ | refine s_lens ?_ | refine s_index ?_))
          rw [fin (fun d hd => by rw [hc] at hd; cases hd; simp [isBl, h0, h1])]
          exact ⟨(by repeat (first | exact trivial | refine ⟨rfl, ?_⟩)), SubH.refl _⟩
    · (repeat' (first | refine k_seq ?_ | refine k_region ?_ | refine k_nil ?_ | refine k_then ?_ | refine k_false ?_ | refine k_exit ?_ | refine k_exit_then ?_ | refine k_hit ?_ | refine s_gskipt ?_ | refine s_gskipu ?_ | refine s_move ?_ | refine s_lss_f ?_ | refine s_pickf ?_ | refine s_lens ?_))
      rw [fin (fun d hd => (get_none (by omega) hd).elim)]
      exact ⟨(by repeat (first | exact trivial | refine ⟨rfl, ?_⟩)), SubH.refl _⟩
  · (repeat' (first | refine k_seq ?_ | refine k_region ?_ | refine k_nil ?_ | refine k_then ?_ | refine k_blk ?_ | refine s_move ?_ | refine s_assign ?_ | refine s_lens ?_ | refine s_slicef ?_))
    have e : List.drop (l.length - (ltrim l).length) l = ltrim l := by
      have h1 : ltrim l <:+ l := List.dropWhile_suffix _
      obtain ⟨p, hp⟩ := h1
      have h2 : p.length = l.length - (ltrim l).length := by have := congrArg List.length hp; simp only [List.length_append] at this; omega
      rw [← h2]; conv => lhs; rw [← hp]
      exact List.drop_left
    rw [e, show btrim l = rtrim (ltrim l) from rfl]
    generalize ltrim l = m at *
    refine k_loop (fun k : Nat => [(0, str m), (4, .int .i64 k)]) (fun _ => []) (fun k => k ≤ m.length ∧ ∀ c ∈ m.drop k, isBl c = true) (fun k => k) m.length ⟨by omega, by simp⟩ (Knows.spec (by repeat (first | exact trivial | refine ⟨rfl, ?_⟩))) (SubH.nilR _) fun k ⟨hk, hb⟩ => ?_
    by_cases hlt : 0 < k
    · obtain ⟨c, hc⟩ := get_some (l := m) (k := k - 1) (by omega)
      by_cases h0 : c.toNat = 32
      · (repeat' (first | refine k_seq ?_ | refine k_region ?_ | refine k_nil ?_ | refine k_then ?_ | refine k_true ?_ | refine k_blk ?_ | refine k_skip ?_ | refine k_block ?_ | refine s_grun ?_ | refine s_gskipf ?_ | refine s_move ?_ | refine s_assign ?_ | refine s_sub1 ?_ | refine s_gtr_t ?_ | refine s_eql_t ?_ | refine s_pickt ?_ | refine s_index ?_))
        exact ⟨k - 1, (Knows.spec (by repeat (first | exact trivial | refine ⟨rfl, ?_⟩))), SubH.refl _, ⟨by omega, drop_pred hlt hc hb (by simp [isBl, h0])⟩, by omega⟩
      · skip
        by_cases h1 : c.toNat = 9
        · (repeat' (first | refine k_seq ?_ | refine k_region ?_ | refine k_nil ?_ | refine k_then ?_ | refine k_true ?_ | refine k_blk ?_ | refine k_skip ?_ | refine k_block ?_ | refine s_grun ?_ | refine s_move ?_ | refine s_assign ?_ | refine s_sub1 ?_ | refine s_gtr_t ?_ | refine s_eql_t ?_ | refine s_eql_f ?_ | refine s_pickt ?_ | refine s_pickf ?_ | refine s_index ?_))
          exact ⟨k - 1, (Knows.spec (by repeat (first | exact trivial | refine ⟨rfl, ?_⟩))), SubH.refl _, ⟨by omega, drop_pred hlt hc hb (by simp [isBl, h1])⟩, by omega⟩
        · skip
          (repeat' (first | refine k_seq ?_ | refine k_region ?_ | refine k_nil ?_ | refine k_then ?_ | refine k_false ?_ | refine k_exit ?_ | refine k_exit_then ?_ | refine k_hit ?_ | refine k_ret ?_ | refine s_grun ?_ | refine s_move ?_ | refine s_assign ?_ | refine s_sub1 ?_ | refine s_gtr_t ?_ | refine s_eql_f ?_ | refine s_pickt ?_ | refine s_pickf ?_ | refine s_index ?_ | refine s_slicet ?_))
          refine e_pure ⟨?_, rfl⟩
          simp only [oneOr]
          rw [rtrim_at hk hb (fun d _ hd => by rw [hc] at hd; cases hd; simp [isBl, h0, h1])]
    · (repeat' (first | refine k_seq ?_ | refine k_region ?_ | refine k_nil ?_ | refine k_then ?_ | refine k_false ?_ | refine k_exit ?_ | refine k_exit_then ?_ | refine k_hit ?_ | refine k_ret ?_ | refine s_gskipt ?_ | refine s_gskipu ?_ | refine s_move ?_ | refine s_assign ?_ | refine s_gtr_f ?_ | refine s_pickf ?_ | refine s_slicet ?_))
      refine e_pure ⟨?_, rfl⟩
      simp only [oneOr]
      rw [rtrim_at hk hb (fun d h _ => by omega)]

end Go.Proofs

/- The laws' small helpers. Conditions: bounds on the length. -/
import Derived.Test.YtoponhlghkdbmaaGreatDoorH3
namespace Go.Proofs
open Go Go.Eng
set_option maxRecDepth 20000
set_option maxHeartbeats 4000000

theorem specIsPunct_tr (c : Nat) (hc : c < 256) : TrP Tryz.prog 21 [.int .u8 c] (.bool (decide (33 ≤ c ∧ c ≤ 47 ∨ 58 ≤ c ∧ c ≤ 64 ∨ 91 ≤ c ∧ c ≤ 96 ∨ 123 ≤ c ∧ c ≤ 126))) := by
  refine Tr.start (n := 33) (rs := [.tmp 2]) rfl rfl rfl rfl fun B => ?_
  (repeat' (first | refine k_seq ?_ | refine k_region ?_ | refine k_nil ?_ | refine k_then ?_ | refine k_ret ?_ | refine s_grun ?_ | refine s_gskipt ?_ | refine s_gskipf ?_ | refine s_gskipu ?_ | refine s_move ?_ | refine s_assign ?_ | refine s_geq_f ?_ | refine s_leq ?_ | refine s_geq ?_ | refine s_pickt ?_ | refine s_pickf ?_ | refine Ops.split_run (fun hg => ?_) (fun hg => ?_) | refine Ops.split_skip (fun hg => ?_) (fun hg => ?_)))
  all_goals (refine e_pure ?_; refine ⟨?_, rfl⟩; simp only [oneOr, Value.bool.injEq]; first | (symm; exact decide_eq_true (by omega)) | (symm; exact decide_eq_false (by omega)) | (rw [decide_eq_decide]; omega))

/-- Neither end is a space. -/
structure Filled (l : List UInt8) : Prop where
  ne : l ≠ []
  hd : ∀ c, l[0]? = some c → ¬ c.toNat = 32
  lst : ∀ c, l[l.length - 1]? = some c → ¬ c.toNat = 32
/-- Printable characters of ASCII. -/
def Ascii (l : List UInt8) : Prop := ∀ (k : Nat) (c : UInt8), l[k]? = some c → 32 ≤ c.toNat ∧ c.toNat ≤ 126

theorem full_tr (l : List UInt8) (hl : l.length ≤ 2147483647) : Tr Tryz.prog 12 [str l] [] fun u K => K = [] ∧ ∃ r, u = .bool r ∧ (r = true → Filled l) := by
  cases hl0 : l with
  | nil =>
    refine Tr.start (n := 18) (rs := [.tmp 2]) rfl rfl rfl rfl fun B => ?_
    (repeat' (first | refine k_seq ?_ | refine k_region ?_ | refine k_nil ?_ | refine k_then ?_ | refine k_ret ?_ | refine s_gskipt ?_ | refine s_move ?_ | refine s_assign ?_ | refine s_pickf ?_ | refine s_nes_f ?_))
    exact e_ret [] ⟨rfl, false, rfl, fun h => Bool.noConfusion h⟩ (by repeat (first | exact SubH.nilR _ | refine SubH.pick (by repeat (first | exact HTake.here | apply HTake.there)) ?_))
  | cons a l' =>
    rw [← hl0]
    have hne : ¬ l = [] := by rw [hl0]; simp
    have hp : 1 ≤ l.length := by rw [hl0]; simp
    have hc : l[0]? = some a := by rw [hl0]; rfl
    obtain ⟨d, hd⟩ : ∃ d, l[l.length - 1]? = some d := ⟨_, List.getElem?_eq_getElem (by omega)⟩
    by_cases h1 : a.toNat = 32
    · refine Tr.start (n := 18) (rs := [.tmp 2]) rfl rfl rfl rfl fun B => ?_
      (repeat' (first | refine k_seq ?_ | refine k_region ?_ | refine k_nil ?_ | refine k_then ?_ | refine k_ret ?_ | refine s_grun ?_ | refine s_gskipt ?_ | refine s_move ?_ | refine s_assign ?_ | refine s_neq_f ?_ | refine s_pickt ?_ | refine s_pickf ?_ | refine s_index ?_ | refine s_nes_t ?_))
      exact e_ret [] ⟨rfl, false, rfl, fun h => Bool.noConfusion h⟩ (by repeat (first | exact SubH.nilR _ | refine SubH.pick (by repeat (first | exact HTake.here | apply HTake.there)) ?_))
    · by_cases h2 : d.toNat = 32
      · refine Tr.start (n := 18) (rs := [.tmp 2]) rfl rfl rfl rfl fun B => ?_
        (repeat' (first | refine k_seq ?_ | refine k_region ?_ | refine k_nil ?_ | refine k_then ?_ | refine k_ret ?_ | refine s_grun ?_ | refine s_move ?_ | refine s_assign ?_ | refine s_sub1 ?_ | refine s_neq_t ?_ | refine s_neq_f ?_ | refine s_pickt ?_ | refine s_lens ?_ | refine s_index ?_ | refine s_nes_t ?_))
        exact e_ret [] ⟨rfl, false, rfl, fun h => Bool.noConfusion h⟩ (by repeat (first | exact SubH.nilR _ | refine SubH.pick (by repeat (first | exact HTake.here | apply HTake.there)) ?_))
      · have hF : Filled l := ⟨hne, fun c h => by rw [hc] at h; cases h; exact h1, fun c h => by rw [hd] at h; cases h; exact h2⟩
        refine Tr.start (n := 18) (rs := [.tmp 2]) rfl rfl rfl rfl fun B => ?_
        (repeat' (first | refine k_seq ?_ | refine k_region ?_ | refine k_nil ?_ | refine k_then ?_ | refine k_ret ?_ | refine s_grun ?_ | refine s_move ?_ | refine s_assign ?_ | refine s_sub1 ?_ | refine s_neq_t ?_ | refine s_pickt ?_ | refine s_lens ?_ | refine s_index ?_ | refine s_nes_t ?_))
        exact e_ret [] ⟨rfl, true, rfl, fun _ => hF⟩ (by repeat (first | exact SubH.nilR _ | refine SubH.pick (by repeat (first | exact HTake.here | apply HTake.there)) ?_))

theorem ascii_tr (l : List UInt8) (hl : l.length ≤ 2147483647) : Tr Tryz.prog 13 [str l, .bool false] [] fun u K => K = [] ∧ ∃ r, u = .bool r ∧ (r = true → Ascii l) := by
  refine Tr.start (n := 32) (rs := [.tmp 4]) rfl rfl rfl rfl fun B => ?_
  (repeat' (first | refine k_seq ?_ | refine k_region ?_ | refine k_nil ?_ | refine k_then ?_ | refine s_assign ?_))
  refine k_midx (fun _ : Unit => []) (fun _ => []) (fun _ => Ascii l) ?_ ?_
  · (repeat' (first | refine k_blk ?_))
    refine k_loop (fun j : Nat => [(0, str l), (1, .bool false), (5, inat j)]) (fun _ => []) (fun j => j ≤ l.length ∧ ∀ (k : Nat) (c : UInt8), k < j → l[k]? = some c → 32 ≤ c.toNat ∧ c.toNat ≤ 126) (fun j => l.length - j) 0 ⟨Nat.zero_le _, fun k c h => absurd h (Nat.not_lt_zero _)⟩ (Knows.spec (by repeat (first | exact trivial | refine ⟨rfl, ?_⟩))) (by repeat (first | exact SubH.nilR _ | refine SubH.pick (by repeat (first | exact HTake.here | apply HTake.there)) ?_)) fun j hj => ?_
    obtain ⟨hj, hA⟩ := hj
    by_cases h : j < l.length
    · obtain ⟨c, hc⟩ : ∃ c, l[j]? = some c := ⟨_, List.getElem?_eq_getElem h⟩
      by_cases n1 : c.toNat < 32
      · (repeat' (first | refine k_seq ?_ | refine k_region ?_ | refine k_nil ?_ | refine k_then ?_ | refine k_true ?_ | refine k_blk ?_ | refine k_skip ?_ | refine k_ret ?_ | refine k_ret_then ?_ | refine k_ret_block ?_ | refine s_grun ?_ | refine s_gskipt ?_ | refine s_gskipf ?_ | refine s_move ?_ | refine s_assign ?_ | refine s_lss_t ?_ | refine s_pickt ?_ | refine s_pickf ?_ | refine s_lens ?_ | refine s_index ?_ | refine s_notf ?_))
        exact e_ret [] ⟨rfl, false, rfl, fun h => Bool.noConfusion h⟩ (by repeat (first | exact SubH.nilR _ | refine SubH.pick (by repeat (first | exact HTake.here | apply HTake.there)) ?_))
      by_cases n2 : 126 < c.toNat
      · (repeat' (first | refine k_seq ?_ | refine k_region ?_ | refine k_nil ?_ | refine k_then ?_ | refine k_true ?_ | refine k_blk ?_ | refine k_skip ?_ | refine k_ret ?_ | refine k_ret_then ?_ | refine k_ret_block ?_ | refine s_grun ?_ | refine s_gskipt ?_ | refine s_move ?_ | refine s_assign ?_ | refine s_lss_t ?_ | refine s_lss_f ?_ | refine s_gtr_t ?_ | refine s_pickt ?_ | refine s_pickf ?_ | refine s_lens ?_ | refine s_index ?_ | refine s_notf ?_))
        exact e_ret [] ⟨rfl, false, rfl, fun h => Bool.noConfusion h⟩ (by repeat (first | exact SubH.nilR _ | refine SubH.pick (by repeat (first | exact HTake.here | apply HTake.there)) ?_))
      · (repeat' (first | refine k_seq ?_ | refine k_region ?_ | refine k_nil ?_ | refine k_then ?_ | refine k_true ?_ | refine k_false ?_ | refine k_blk ?_ | refine k_skip ?_ | refine k_block ?_ | refine s_grun ?_ | refine s_gskipt ?_ | refine s_gskipu ?_ | refine s_move ?_ | refine s_assign ?_ | refine s_add1 ?_ | refine s_lss_t ?_ | refine s_lss_f ?_ | refine s_gtr_f ?_ | refine s_pickf ?_ | refine s_lens ?_ | refine s_index ?_))
        refine ⟨j + 1, (Knows.spec (by repeat (first | exact trivial | refine ⟨rfl, ?_⟩))), (by repeat (first | exact SubH.nilR _ | refine SubH.pick (by repeat (first | exact HTake.here | apply HTake.there)) ?_)), ⟨by omega, fun k d hk hd => ?_⟩, by omega⟩
        by_cases hkj : k = j
        · subst hkj
          rw [hc] at hd
          cases hd
          omega
        · exact hA k d (by omega) hd
    · have : j = l.length := by omega
      subst this
      (repeat' (first | refine k_seq ?_ | refine k_region ?_ | refine k_nil ?_ | refine k_then ?_ | refine k_false ?_ | refine k_exit ?_ | refine k_exit_then ?_ | refine k_hit ?_ | refine s_move ?_ | refine s_lss_f ?_ | refine s_lens ?_))
      exact ⟨(), (by repeat (first | exact trivial | refine ⟨rfl, ?_⟩)), (by repeat (first | exact SubH.nilR _ | refine SubH.pick (by repeat (first | exact HTake.here | apply HTake.there)) ?_)), fun k c hk => hA k c (List.getElem?_eq_some_iff.1 hk).1 hk⟩
  · rintro _ hA
    (repeat' (first | refine k_seq ?_ | refine k_region ?_ | refine k_nil ?_ | refine k_then ?_ | refine k_ret ?_ | refine s_assign ?_))
    exact e_ret [] ⟨rfl, true, rfl, fun _ => hA⟩ (by repeat (first | exact SubH.nilR _ | refine SubH.pick (by repeat (first | exact HTake.here | apply HTake.there)) ?_))

theorem times_tr (n : Nat) (hn : n ≤ 1000) : TrP Tryz.prog 17 [str [35], inat n] (str (List.replicate n 35)) := by
  refine Tr.start (n := 14) (rs := [.tmp 4]) rfl rfl rfl rfl fun B => ?_
  (repeat' (first | refine k_seq ?_ | refine k_region ?_ | refine k_nil ?_ | refine k_then ?_ | refine s_move ?_ | refine s_assign ?_))
  refine k_mid [(5, str (List.replicate n 35))] [] ?_ ?_
  · (repeat' (first | refine k_blk ?_))
    refine k_loop (fun j : Nat => [(0, str [35]), (5, str (List.replicate j 35)), (6, inat n), (7, inat j)]) (fun _ => []) (fun j => j ≤ n) (fun j => n - j) 0 (Nat.zero_le _) (Knows.spec (by repeat (first | exact trivial | refine ⟨rfl, ?_⟩))) (by repeat (first | exact SubH.nilR _ | refine SubH.pick (by repeat (first | exact HTake.here | apply HTake.there)) ?_)) fun j hj => ?_
    have hlen : (List.replicate j (35 : UInt8)).length = j := List.length_replicate
    by_cases h : j < n
    · have e1 : List.replicate (j + 1) (35 : UInt8) = List.replicate j 35 ++ [35] := List.replicate_succ'
      (repeat' (first | refine s_addsx ?_ | refine k_seq ?_ | refine k_region ?_ | refine k_nil ?_ | refine k_then ?_ | refine k_true ?_ | refine k_blk ?_ | refine k_skip ?_ | refine k_block ?_ | refine s_move ?_ | refine s_assign ?_ | refine s_add1 ?_ | refine s_lss_t ?_))
      exact ⟨j + 1, by rw [e1]; exact (Knows.spec (by repeat (first | exact trivial | refine ⟨rfl, ?_⟩))), (by repeat (first | exact SubH.nilR _ | refine SubH.pick (by repeat (first | exact HTake.here | apply HTake.there)) ?_)), by omega, by omega⟩
    · have : j = n := by omega
      subst this
      (repeat' (first | refine k_seq ?_ | refine k_region ?_ | refine k_nil ?_ | refine k_then ?_ | refine k_false ?_ | refine k_exit ?_ | refine k_exit_then ?_ | refine k_hit ?_ | refine s_lss_f ?_))
      exact ⟨(by repeat (first | exact trivial | refine ⟨rfl, ?_⟩)), (by repeat (first | exact SubH.nilR _ | refine SubH.pick (by repeat (first | exact HTake.here | apply HTake.there)) ?_))⟩
  · (repeat' (first | refine k_seq ?_ | refine k_region ?_ | refine k_nil ?_ | refine k_then ?_ | refine k_ret ?_ | refine s_move ?_ | refine s_assign ?_))
    exact e_pure ⟨rfl, rfl⟩

theorem specEsc_tr (l : List UInt8) (hl : l.length ≤ 2147483647) : TrP Tryz.prog 10 [str l] (str (escH l)) := by
  refine Tr.start (n := 38) (rs := [.tmp 2]) rfl rfl rfl rfl fun B => ?_
  (repeat' (first | refine k_seq ?_ | refine k_region ?_ | refine k_nil ?_ | refine k_then ?_ | refine s_assign ?_))
  refine k_mid [(3, str (escH l))] [] ?_ ?_
  · (repeat' (first | refine k_blk ?_))
    refine k_loop (fun j : Nat => [(0, str l), (3, str (escH (l.take j))), (4, inat j)]) (fun _ => []) (fun j => j ≤ l.length) (fun j => l.length - j) 0 (Nat.zero_le _) (Knows.spec (by repeat (first | exact trivial | refine ⟨rfl, ?_⟩))) (by repeat (first | exact SubH.nilR _ | refine SubH.pick (by repeat (first | exact HTake.here | apply HTake.there)) ?_)) fun j hj => ?_
    by_cases h : j < l.length
    · obtain ⟨c, hc⟩ : ∃ c, l[j]? = some c := ⟨_, List.getElem?_eq_getElem h⟩
      have hsn := escH_snoc hc
      have hs1 : (l.take (j + 1)).drop j = [c] := slice1 hc
      have hel : (escH (l.take j)).length ≤ 6 * j := by
        have h1 := escH_len (l.take j)
        rw [List.length_take] at h1; omega
      by_cases n1 : c.toNat = 34
      · have e1 : escB c = [38, 113, 117, 111, 116, 59] := by simp [escB, n1]
        rw [e1] at hsn
        (repeat' (first | refine s_addsx ?_ | refine k_seq ?_ | refine k_region ?_ | refine k_nil ?_ | refine k_then ?_ | refine k_true ?_ | refine k_false ?_ | refine k_blk ?_ | refine k_skip ?_ | refine k_block ?_ | refine s_move ?_ | refine s_assign ?_ | refine s_add1 ?_ | refine s_lss_t ?_ | refine s_eql_t ?_ | refine s_eql_f ?_ | refine s_lens ?_ | refine s_index ?_))
        exact ⟨j + 1, by rw [hsn]; exact (Knows.spec (by repeat (first | exact trivial | refine ⟨rfl, ?_⟩))), (by repeat (first | exact SubH.nilR _ | refine SubH.pick (by repeat (first | exact HTake.here | apply HTake.there)) ?_)), by omega, by omega⟩
      by_cases n2 : c.toNat = 38
      · have e1 : escB c = [38, 97, 109, 112, 59] := by simp [escB, n2]
        rw [e1] at hsn
        (repeat' (first | refine s_addsx ?_ | refine k_seq ?_ | refine k_region ?_ | refine k_nil ?_ | refine k_then ?_ | refine k_true ?_ | refine k_blk ?_ | refine k_skip ?_ | refine k_block ?_ | refine s_move ?_ | refine s_assign ?_ | refine s_add1 ?_ | refine s_lss_t ?_ | refine s_eql_t ?_ | refine s_lens ?_ | refine s_index ?_))
        exact ⟨j + 1, by rw [hsn]; exact (Knows.spec (by repeat (first | exact trivial | refine ⟨rfl, ?_⟩))), (by repeat (first | exact SubH.nilR _ | refine SubH.pick (by repeat (first | exact HTake.here | apply HTake.there)) ?_)), by omega, by omega⟩
      by_cases n3 : c.toNat = 60
      · have e1 : escB c = [38, 108, 116, 59] := by simp [escB, n3]
        rw [e1] at hsn
        (repeat' (first | refine s_addsx ?_ | refine k_seq ?_ | refine k_region ?_ | refine k_nil ?_ | refine k_then ?_ | refine k_true ?_ | refine k_false ?_ | refine k_blk ?_ | refine k_skip ?_ | refine k_block ?_ | refine s_move ?_ | refine s_assign ?_ | refine s_add1 ?_ | refine s_lss_t ?_ | refine s_eql_t ?_ | refine s_eql_f ?_ | refine s_lens ?_ | refine s_index ?_))
        exact ⟨j + 1, by rw [hsn]; exact (Knows.spec (by repeat (first | exact trivial | refine ⟨rfl, ?_⟩))), (by repeat (first | exact SubH.nilR _ | refine SubH.pick (by repeat (first | exact HTake.here | apply HTake.there)) ?_)), by omega, by omega⟩
      by_cases n4 : c.toNat = 62
      · have e1 : escB c = [38, 103, 116, 59] := by simp [escB, n4]
        rw [e1] at hsn
        (repeat' (first | refine s_addsx ?_ | refine k_seq ?_ | refine k_region ?_ | refine k_nil ?_ | refine k_then ?_ | refine k_true ?_ | refine k_false ?_ | refine k_blk ?_ | refine k_skip ?_ | refine k_block ?_ | refine s_move ?_ | refine s_assign ?_ | refine s_add1 ?_ | refine s_lss_t ?_ | refine s_eql_t ?_ | refine s_eql_f ?_ | refine s_lens ?_ | refine s_index ?_))
        exact ⟨j + 1, by rw [hsn]; exact (Knows.spec (by repeat (first | exact trivial | refine ⟨rfl, ?_⟩))), (by repeat (first | exact SubH.nilR _ | refine SubH.pick (by repeat (first | exact HTake.here | apply HTake.there)) ?_)), by omega, by omega⟩
      · have e1 : escB c = [c] := by simp [escB, n1, n2, n3, n4]
        have hl1 : ((l.take (j + 1)).drop j).length = 1 := by rw [hs1]; rfl
        rw [e1, ← hs1] at hsn
        (repeat' (first | refine k_seq ?_ | refine k_region ?_ | refine k_nil ?_ | refine k_then ?_ | refine k_true ?_ | refine k_false ?_ | refine k_blk ?_ | refine k_skip ?_ | refine k_block ?_ | refine s_move ?_ | refine s_assign ?_ | refine s_add1 ?_ | refine s_lss_t ?_ | refine s_eql_f ?_ | refine s_lens ?_ | refine s_index ?_ | refine s_slices ?_ | refine s_adds ?_))
        exact ⟨j + 1, by rw [hsn]; exact (Knows.spec (by repeat (first | exact trivial | refine ⟨rfl, ?_⟩))), (by repeat (first | exact SubH.nilR _ | refine SubH.pick (by repeat (first | exact HTake.here | apply HTake.there)) ?_)), by omega, by omega⟩
    · have : j = l.length := by omega
      subst this
      rw [List.take_length]
      (repeat' (first | refine k_seq ?_ | refine k_region ?_ | refine k_nil ?_ | refine k_then ?_ | refine k_false ?_ | refine k_exit ?_ | refine k_exit_then ?_ | refine k_hit ?_ | refine s_move ?_ | refine s_lss_f ?_ | refine s_lens ?_))
      exact ⟨(by repeat (first | exact trivial | refine ⟨rfl, ?_⟩)), (by repeat (first | exact SubH.nilR _ | refine SubH.pick (by repeat (first | exact HTake.here | apply HTake.there)) ?_))⟩
  · (repeat' (first | refine k_seq ?_ | refine k_region ?_ | refine k_nil ?_ | refine k_then ?_ | refine k_ret ?_ | refine s_move ?_ | refine s_assign ?_))
    exact e_pure ⟨rfl, rfl⟩

theorem plain_tr : TrP Tryz.prog 15 [] noOpt := by
  refine Tr.start (n := 2) (rs := [.cell 0 26]) rfl rfl rfl rfl fun B => ?_
  (repeat' (first | refine k_seq ?_ | refine k_region ?_ | refine k_nil ?_ | refine k_then ?_ | refine k_ret ?_ | refine s_storea ?_ | refine s_buildx ?_ | refine s_alloc (fun _ => ?_)))
  exact e_ret [] ⟨rfl, rfl⟩ (by repeat (first | exact SubH.nilR _ | refine SubH.pick (by repeat (first | exact HTake.here | apply HTake.there)) ?_))

/-- A backslash ahead of each punctuation character. -/
def isP (c : UInt8) : Bool := decide (33 ≤ c.toNat ∧ c.toNat ≤ 47 ∨ 58 ≤ c.toNat ∧ c.toNat ≤ 64 ∨ 91 ≤ c.toNat ∧ c.toNat ≤ 96 ∨ 123 ≤ c.toNat ∧ c.toNat ≤ 126)
def slashB (c : UInt8) : List UInt8 := if isP c then [92, c] else [c]
abbrev slash (l : List UInt8) : List UInt8 := l.flatMap slashB
theorem slash_snoc {s : List UInt8} {j : Nat} {c : UInt8} (h : s[j]? = some c) : slash (s.take (j + 1)) = slash (s.take j) ++ slashB c := by
  obtain ⟨h1, h2⟩ := List.getElem?_eq_some_iff.1 h
  rw [List.take_succ_eq_append_getElem h1, h2]; simp [slash]
theorem slash_len (l : List UInt8) : (slash l).length ≤ 2 * l.length := by
  induction l with
  | nil => simp
  | cons c l ih =>
    have : (slashB c).length ≤ 2 := by unfold slashB; split <;> simp
    simp only [slash, List.flatMap_cons, List.length_append, List.length_cons] at ih ⊢; omega
theorem slash_ge (l : List UInt8) : l.length ≤ (slash l).length := by
  induction l with
  | nil => simp
  | cons c l ih =>
    have : 1 ≤ (slashB c).length := by unfold slashB; split <;> simp
    simp only [slash, List.flatMap_cons, List.length_append, List.length_cons] at ih ⊢; omega

structure SL where
  j : Nat
  v : Value
  R : Blk
abbrev Bys (v : Value) (l : List UInt8) (R : Blk) : Prop := Own 5 1 v l.length (Lib.byteCells l) R
theorem Bys.snoc {v : Value} {l : List UInt8} {R : Blk} {c : UInt8} (h : Own 5 1 v (l.length + 1) (Lib.byteCells l ++ [.int .u8 c.toNat]) R) : Bys v (l ++ [c]) R := by
  have e1 : Lib.byteCells (l ++ [c]) = Lib.byteCells l ++ [.int .u8 c.toNat] := by simp [Lib.byteCells]
  unfold Bys
  rw [e1, List.length_append]; exact h

theorem slashed_tr (l : List UInt8) (hl : l.length ≤ 1000000) (hne : l ≠ []) : TrP Tryz.prog 14 [str l] (str (slash l)) := by
  have hl0 : 1 ≤ l.length := by cases l with | nil => exact absurd rfl hne | cons _ _ => simp
  refine Tr.start (n := 27) (rs := [.tmp 2]) rfl rfl rfl rfl fun B => ?_
  (repeat' (first | refine k_seq ?_ | refine k_region ?_ | refine k_nil ?_ | refine k_then ?_ | refine s_assign ?_))
  refine s_bsl0 (fun r => ?_)
  (repeat' (first | refine k_seq ?_ | refine k_region ?_ | refine k_nil ?_ | refine k_then ?_ | refine s_assign ?_))
  refine k_midx (fun x : SL => [(3, x.v)]) (fun x => [x.R]) (fun x => Bys x.v (slash l) x.R) ?_ ?_
  · (repeat' (first | refine k_blk ?_))
    refine k_loop (fun x : SL => [(0, str l), (3, x.v), (4, inat x.j)]) (fun x => [x.R]) (fun x => x.j ≤ l.length ∧ Bys x.v (slash (l.take x.j)) x.R) (fun x => l.length - x.j) ⟨0, .slice (some ⟨r, 0, none⟩) 0 0, [(r, cellsOf [] 5)]⟩
      ⟨Nat.zero_le _, Own.mk' (m := 0) (cap := 0) (cur := []) (Nat.le_refl _) (by omega) rfl⟩ (Knows.spec (by repeat (first | exact trivial | refine ⟨rfl, ?_⟩))) (by repeat (first | exact SubH.nilR _ | refine SubH.pick (by repeat (first | exact HTake.here | apply HTake.there)) ?_)) fun x hx => ?_
    obtain ⟨j, v, R⟩ := x
    obtain ⟨x1, x2⟩ := hx
    simp only at x1 x2 ⊢
    by_cases hj : j < l.length
    · obtain ⟨c, hc⟩ : ∃ c, l[j]? = some c := ⟨_, List.getElem?_eq_getElem hj⟩
      have hsn := slash_snoc hc
      have hsl : (slash (l.take j)).length ≤ 2 * j := by
        have h1 := slash_len (l.take j)
        rw [List.length_take] at h1; omega
      have hP := specIsPunct_tr c.toNat c.toNat_lt
      by_cases hp : isP c = true
      · have e1 : slashB c = [92] ++ [c] := by simp [slashB, hp]
        rw [e1, ← List.append_assoc] at hsn
        unfold isP at hp
        rw [hp] at hP
        (repeat' (first | refine s_pure (hP) ?_ | refine k_seq ?_ | refine k_region ?_ | refine k_nil ?_ | refine k_then ?_ | refine k_true ?_ | refine k_blk ?_ | refine k_skip ?_ | refine s_move ?_ | refine s_lss_t ?_ | refine s_lens ?_ | refine s_index ?_ | refine s_bsl1 (fun _ => ?_)))
        refine s_app x2 (by omega) (fun v2 R2 h2 => ?_)
        have h2' : Bys v2 (slash (l.take j) ++ [92]) R2 := Bys.snoc h2
        (repeat' (first | refine k_region ?_ | refine k_nil ?_ | refine k_then ?_ | refine s_move ?_ | refine s_assign ?_ | refine s_index ?_ | refine s_bsl1 (fun _ => ?_)))
        refine s_app h2' (by simp only [List.length_append, List.length_cons, List.length_nil]; omega) (fun v3 R3 h3 => ?_)
        have h3' : Bys v3 (slash (l.take j) ++ [92] ++ [c]) R3 := Bys.snoc h3
        (repeat' (first | refine k_region ?_ | refine k_nil ?_ | refine k_then ?_ | refine k_block ?_ | refine s_move ?_ | refine s_assign ?_ | refine s_add1 ?_))
        exact ⟨⟨j + 1, v3, R3⟩, (Knows.spec (by repeat (first | exact trivial | refine ⟨rfl, ?_⟩))), (by repeat (first | exact SubH.nilR _ | refine SubH.pick (by repeat (first | exact HTake.here | apply HTake.there)) ?_)), ⟨by simp only; omega, by simp only; rw [hsn]; exact h3'⟩, by simp only; omega⟩
      · have e1 : slashB c = [c] := by simp [slashB, hp]
        rw [e1] at hsn
        have hp' : isP c = false := by simpa using hp
        unfold isP at hp'
        rw [hp'] at hP
        (repeat' (first | refine s_pure (hP) ?_ | refine k_seq ?_ | refine k_region ?_ | refine k_nil ?_ | refine k_then ?_ | refine k_true ?_ | refine k_false ?_ | refine k_blk ?_ | refine k_skip ?_ | refine s_move ?_ | refine s_lss_t ?_ | refine s_lens ?_ | refine s_index ?_ | refine s_bsl1 (fun _ => ?_)))
        refine s_app x2 (by omega) (fun v3 R3 h3 => ?_)
        have h3' : Bys v3 (slash (l.take j) ++ [c]) R3 := Bys.snoc h3
        (repeat' (first | refine k_region ?_ | refine k_nil ?_ | refine k_then ?_ | refine k_block ?_ | refine s_move ?_ | refine s_assign ?_ | refine s_add1 ?_))
        exact ⟨⟨j + 1, v3, R3⟩, (Knows.spec (by repeat (first | exact trivial | refine ⟨rfl, ?_⟩))), (by repeat (first | exact SubH.nilR _ | refine SubH.pick (by repeat (first | exact HTake.here | apply HTake.there)) ?_)), ⟨by simp only; omega, by simp only; rw [hsn]; exact h3'⟩, by simp only; omega⟩
    · have : j = l.length := by omega
      subst this
      rw [List.take_length] at x2
      (repeat' (first | refine k_seq ?_ | refine k_region ?_ | refine k_nil ?_ | refine k_then ?_ | refine k_false ?_ | refine k_exit ?_ | refine k_exit_then ?_ | refine k_hit ?_ | refine s_move ?_ | refine s_lss_f ?_ | refine s_lens ?_))
      exact ⟨⟨0, v, R⟩, (by repeat (first | exact trivial | refine ⟨rfl, ?_⟩)), (by repeat (first | exact SubH.nilR _ | refine SubH.pick (by repeat (first | exact HTake.here | apply HTake.there)) ?_)), x2⟩
  · rintro ⟨_, v, R⟩ hx
    simp only at hx ⊢
    have hge := slash_ge l
    have hx' : Own 5 1 v ((slash l).length - 1 + 1) (Lib.byteCells (slash l)) R := by rw [show (slash l).length - 1 + 1 = (slash l).length by omega]; exact hx
    obtain ⟨g, cap, cur, rfl, rfl, k1, k2, k3, k4⟩ := hx'.pos
    rw [show (slash l).length - 1 + 1 = (slash l).length by omega, Nat.mul_one] at k4
    rw [show (slash l).length - 1 + 1 = (slash l).length by omega]
    (repeat' (first | refine k_seq ?_ | refine k_region ?_ | refine s_move ?_))
    refine Ops.pure _ (p_bytes_str (g := g) (cap := cap) Tryz.underlying41 Tryz.underlying5 Tryz.underlying9 (by rfl) (by repeat (first | exact HMem.here | apply HMem.skip | apply HMem.there)) k4) (by rfl) ?_
    (repeat' (first | refine k_nil ?_ | refine k_then ?_ | refine k_ret ?_ | refine s_assign ?_))
    exact e_pure ⟨rfl, rfl⟩
end Go.Proofs

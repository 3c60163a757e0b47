/- newQuote, newATXHeading, newHR and newHTML answer no at lines that begin none. Conditions: how the line begins. -/
import Derived.Test.YtblaoglgknjepaaGreatDoorW3
import Derived.Test.YtblaoglgknjepaaGreatDoorEngB
namespace Go.Proofs
open Go Go.Eng
set_option maxRecDepth 20000
set_option maxHeartbeats 4000000

theorem tsOK_zero (i : Nat) (tx : List UInt8) (hi : Nat) (eol : Bool) : tsOK i tx 0 hi eol = true := by simp [tsOK]
theorem tsI_zero (i : Nat) (tx : List UInt8) (hi : Nat) (eol : Bool) : tsI i tx 0 hi eol = i + min (nsp (tx.drop i)) hi := by simp [tsI, tsOK_zero]
theorem tsI_le (i : Nat) (tx : List UInt8) (lo hi : Nat) (eol : Bool) (h : i ≤ tx.length) : tsI i tx lo hi eol ≤ tx.length := by
  have := nsp_le (tx.drop i); simp only [List.length_drop] at this
  unfold tsI; split <;> omega
theorem nsp_drop : ∀ (l : List UInt8) (j : Nat), j ≤ nsp l → nsp (l.drop j) = nsp l - j
  | l, 0, _ => by simp
  | [], j + 1, h => by simp [nsp] at h
  | c :: l, j + 1, h => by
    simp only [nsp] at h ⊢
    split at h
    · rename_i hc
      simp only [List.drop_succ_cons, hc, if_true]
      rw [nsp_drop l j (by omega)]; omega
    · omega

abbrev lnv (i : Nat) (tx : List UInt8) (nl : Nat) : Value := .agg (lnc i tx nl).toArray

/-- The place behind up to three spaces. -/
def sp3 (i : Nat) (tx : List UInt8) : Nat := i + min (nsp (tx.drop i)) 3
theorem sp3_le {i : Nat} {tx : List UInt8} (h : i ≤ tx.length) : sp3 i tx ≤ tx.length := by
  have := nsp_le (tx.drop i); simp only [List.length_drop] at this; unfold sp3; omega
theorem at0_no {tx : List UInt8} {i c : Nat} (h : at0 tx i ≠ c) : false = decide (∃ d, tx[i]? = some d ∧ d.toNat = c) := by
  symm; refine decide_eq_false fun ⟨d, h1, h2⟩ => h ?_
  rw [at0_some h1]; exact h2
theorem at0_yes {tx : List UInt8} {i c : Nat} (h : at0 tx i = c) (hc : c ≠ 0) : true = decide (∃ d, tx[i]? = some d ∧ d.toNat = c) := by
  symm; refine decide_eq_true ?_
  unfold at0 at h
  split at h
  · rename_i d hd; exact ⟨d, hd, h⟩
  · exact absurd h.symm hc

theorem trimQuote_no (i : Nat) (tx : List UInt8) (nl : Nat) (hnt : NoTab tx) (hl : tx.length ≤ 140737488355328) (hi : i ≤ tx.length) (hq : at0 tx (sp3 i tx) ≠ 62) :
    TrP Tryz.prog 99 [lnv i tx nl] (.tuple #[lnv i tx nl, .bool false]) := by
  refine Tr.start (n := 12) (rs := [.cell 2 73, .tmp 3]) rfl rfl rfl rfl fun B => ?_
  have hs := sp3_le hi
  have e : tsI i tx 0 3 false = sp3 i tx := tsI_zero _ _ _ _
  (repeat' (first | refine k_seq ?_ | refine k_region ?_))
  refine s_box (fun r1 => ?_)
  refine s_alloc (fun r2 => ?_)
  (repeat' (first | refine k_seq ?_ | refine k_region ?_ | refine k_nil ?_ | refine k_then ?_ | refine s_assign ?_ | refine s_loada ?_))
  refine s_alloc (fun r3 => ?_)
  (repeat' (first | refine s_callD (trimSpace_tr r3 i tx nl 0 3 false hnt hi hl (by omega) (by omega)) ?_ | refine k_seq ?_ | refine k_region ?_ | refine k_nil ?_ | refine k_then ?_ | refine s_storea ?_))
  rw [e, tsOK_zero]
  (repeat' (first | refine s_callD (trim_tr r3 (sp3 i tx) tx nl 62 hl hs false (at0_no hq)) ?_ | refine k_seq ?_ | refine k_region ?_ | refine k_nil ?_ | refine k_then ?_ | refine k_true ?_ | refine k_ret ?_ | refine k_ret_then ?_ | refine s_assign ?_ | refine s_notf ?_ | refine s_loada ?_ | refine s_storea ?_))
  exact e_pure ⟨rfl, rfl⟩

theorem newQuote_no (p : Value) (i : Nat) (tx : List UInt8) (nl : Nat) (hnt : NoTab tx) (hl : tx.length ≤ 140737488355328) (hi : i ≤ tx.length) (hq : at0 tx (sp3 i tx) ≠ 62) :
    TrP Tryz.prog 58 [p, lnv i tx nl] (.tuple #[lnv i tx nl, .bool false]) := by
  refine Tr.start (n := 20) (rs := [.cell 4 73, .tmp 5]) rfl rfl rfl rfl fun B => ?_
  (repeat' (first | refine k_seq ?_ | refine k_region ?_))
  refine s_box (fun r1 => ?_)
  refine s_alloc (fun r2 => ?_)
  (repeat' (first | refine s_pure (trimQuote_no i tx nl hnt hl hi hq) ?_ | refine k_seq ?_ | refine k_region ?_ | refine k_nil ?_ | refine k_then ?_ | refine s_move ?_ | refine s_assign ?_ | refine s_ext ?_ | refine s_loada ?_))
  refine s_alloc (fun r3 => ?_)
  (repeat' (first | refine k_seq ?_ | refine k_region ?_ | refine k_nil ?_ | refine k_then ?_ | refine k_false ?_ | refine k_skip ?_ | refine k_ret ?_ | refine s_move ?_ | refine s_assign ?_ | refine s_loada ?_ | refine s_storea ?_))
  exact e_pure ⟨rfl, rfl⟩

theorem trimHeading_no (q nq i : Nat) (nv : Value) (tx : List UInt8) (nl : Nat) (hnt : NoTab tx) (hl : tx.length ≤ 140737488355328) (hi : i ≤ tx.length) (hq : at0 tx (sp3 i tx) ≠ 35) :
    TrD Tryz.prog 100 [lp q, lp nq] [lnb q i tx nl, [(nq, cellsOf [nv] 3)]] (.bool false) [lnb q i tx nl, [(nq, cellsOf [nv] 3)]] := by
  refine Tr.start (n := 28) (rs := [.tmp 4]) rfl rfl rfl rfl fun B => ?_
  have hs := sp3_le hi
  have e : tsI i tx 0 3 false = sp3 i tx := tsI_zero _ _ _ _
  (repeat' (first | refine k_seq ?_ | refine k_region ?_ | refine k_nil ?_ | refine k_then ?_ | refine s_move ?_ | refine s_assign ?_ | refine s_nilp ?_ | refine s_loada ?_))
  refine s_alloc (fun r => ?_)
  (repeat' (first | refine s_callD (trimSpace_tr r i tx nl 0 3 false hnt hi hl (by omega) (by omega)) ?_ | refine k_seq ?_ | refine k_region ?_ | refine k_nil ?_ | refine k_then ?_ | refine s_storea ?_))
  rw [e, tsOK_zero]
  (repeat' (first | refine s_callD (trim_tr r (sp3 i tx) tx nl 35 hl hs false (at0_no hq)) ?_ | refine k_seq ?_ | refine k_region ?_ | refine k_nil ?_ | refine k_then ?_ | refine k_true ?_ | refine k_ret ?_ | refine k_ret_then ?_ | refine s_assign ?_ | refine s_notf ?_))
  exact e_ret _ ⟨rfl, rfl⟩ SubH.drop1

/-- Seven # and more. -/
theorem trimHeading_seven (q nq : Nat) (nv : Value) (tx : List UInt8) (nl : Nat) (hnt : NoTab tx) (hl : tx.length ≤ 140737488355328) (hq : ∀ j, j < 7 → at0 tx j = 35) :
    TrD Tryz.prog 100 [lp q, lp nq] [lnb q 0 tx nl, [(nq, cellsOf [nv] 3)]] (.bool false) [lnb q 0 tx nl, [(nq, cellsOf [nv] 3)]] := by
  refine Tr.start (n := 28) (rs := [.tmp 4]) rfl rfl rfl rfl fun B => ?_
  have hsome : ∀ j, j < 7 → ∃ c, tx[j]? = some c ∧ c.toNat = 35 := fun j hj => by
    have := hq j hj
    unfold at0 at this
    split at this
    · rename_i c hc; exact ⟨c, hc, this⟩
    · cases this
  have hlen : 7 ≤ tx.length := by obtain ⟨c, hc, _⟩ := hsome 6 (by omega); have := (List.getElem?_eq_some_iff.1 hc).1; omega
  have hn : ∀ j, j < 7 → nsp (tx.drop j) = 0 := fun j hj => by
    obtain ⟨c, hc, hc2⟩ := hsome j hj
    obtain ⟨h1, h2⟩ := List.getElem?_eq_some_iff.1 hc
    rw [List.drop_eq_getElem_cons h1, h2]
    simp [nsp, hc2]
  have e : tsI 0 tx 0 3 false = 0 := by rw [tsI_zero, hn 0 (by omega)]; rfl
  (repeat' (first | refine k_seq ?_ | refine k_region ?_ | refine k_nil ?_ | refine k_then ?_ | refine s_move ?_ | refine s_assign ?_ | refine s_nilp ?_ | refine s_loada ?_))
  refine s_alloc (fun r => ?_)
  (repeat' (first | refine s_callD (trimSpace_tr r 0 tx nl 0 3 false hnt (by omega) hl (by omega) (by omega)) ?_ | refine k_seq ?_ | refine k_region ?_ | refine k_nil ?_ | refine k_then ?_ | refine s_storea ?_))
  rw [e, tsOK_zero]
  (repeat' (first | refine s_callD (trim_tr r 0 tx nl 35 hl (by omega) true (at0_yes (hq 0 (by omega)) (by omega))) ?_ | refine k_seq ?_ | refine k_region ?_ | refine k_nil ?_ | refine k_then ?_ | refine k_false ?_ | refine k_skip ?_ | refine s_assign ?_ | refine s_nott ?_))
  refine k_mid [(0, lp q), (1, lp nq), (5, lp r)] [lnb r 6 tx nl, lnb q 0 tx nl, [(nq, cellsOf [nv] 3)]] ?_ ?_
  · (repeat' (first | refine k_blk ?_))
    refine k_loop (fun k : Nat => [(0, lp q), (1, lp nq), (5, lp r), (6, .int .i64 ((k + 1 : Nat) : Int))]) (fun k => [lnb r (k + 1) tx nl, lnb q 0 tx nl, [(nq, cellsOf [nv] 3)]]) (fun k => k ≤ 5) (fun k => 5 - k) 0 (by omega) (Knows.spec (by repeat (first | exact trivial | refine ⟨rfl, ?_⟩))) (SubH.refl _) fun k hk => ?_
    by_cases hlt : k < 5
    · (repeat' (first | refine s_callD (trim_tr r (k + 1) tx nl 35 hl (by omega) true (at0_yes (hq (k + 1) (by omega)) (by omega))) ?_ | refine k_seq ?_ | refine k_region ?_ | refine k_nil ?_ | refine k_then ?_ | refine k_true ?_ | refine k_blk ?_ | refine k_skip ?_ | refine k_block ?_ | refine s_grun ?_ | refine s_move ?_ | refine s_assign ?_ | refine s_add1 ?_ | refine s_lss_t ?_ | refine s_pickt ?_))
      exact ⟨k + 1, (Knows.spec (by repeat (first | exact trivial | refine ⟨rfl, ?_⟩))), SubH.refl _, by omega, by omega⟩
    · have : k = 5 := by omega
      subst this
      (repeat' (first | refine k_seq ?_ | refine k_region ?_ | refine k_nil ?_ | refine k_then ?_ | refine k_false ?_ | refine k_exit ?_ | refine k_exit_then ?_ | refine k_hit ?_ | refine s_gskipt ?_ | refine s_move ?_ | refine s_lss_f ?_ | refine s_pickf ?_))
      exact ⟨(by repeat (first | exact trivial | refine ⟨rfl, ?_⟩)), SubH.refl _⟩
  · have e1 : tsOK 6 tx 1 1 true = false := by
      simp only [tsOK, hn 6 (by omega)]; simp; omega
    have e2 : tsI 6 tx 1 1 true = 6 := by simp [tsI, e1]
    (repeat' (first | refine s_callD (trimSpace_tr r 6 tx nl 1 1 true hnt (by omega) hl (by omega) (by omega)) ?_ | refine k_seq ?_ | refine k_region ?_ | refine k_nil ?_ | refine k_then ?_ | refine s_not ?_))
    rw [e1, e2, Bool.not_false]
    (repeat' (first | refine k_seq ?_ | refine k_region ?_ | refine k_nil ?_ | refine k_then ?_ | refine k_true ?_ | refine k_ret ?_ | refine k_ret_then ?_ | refine s_assign ?_))
    exact e_ret _ ⟨rfl, rfl⟩ SubH.drop1

theorem newATX_no (p : Value) (i : Nat) (tx : List UInt8) (nl : Nat)
    (h : ∀ q nq nv, TrD Tryz.prog 100 [lp q, lp nq] [lnb q i tx nl, [(nq, cellsOf [nv] 3)]] (.bool false) [lnb q i tx nl, [(nq, cellsOf [nv] 3)]]) :
    TrP Tryz.prog 59 [p, lnv i tx nl] (.tuple #[lnv i tx nl, .bool false]) := by
  refine Tr.start (n := 82) (rs := [.cell 4 73, .tmp 5]) rfl rfl rfl rfl fun B => ?_
  (repeat' (first | refine k_seq ?_ | refine k_region ?_))
  refine s_box (fun r1 => ?_)
  refine s_alloc (fun r2 => ?_)
  (repeat' (first | refine k_seq ?_ | refine k_region ?_ | refine k_nil ?_ | refine k_then ?_ | refine s_assign ?_ | refine s_loada ?_))
  refine s_alloc (fun r3 => ?_)
  (repeat' (first | refine k_seq ?_ | refine k_region ?_ | refine k_nil ?_ | refine k_then ?_ | refine s_storea ?_))
  refine s_alloc1 (fun r4 => ?_)
  (repeat' (first | refine s_callD (h r3 r4 _) ?_ | refine k_seq ?_ | refine k_region ?_ | refine k_nil ?_ | refine k_then ?_ | refine k_false ?_ | refine k_skip ?_ | refine k_ret ?_ | refine s_assign ?_ | refine s_loada ?_ | refine s_storea ?_))
  exact e_pure ⟨rfl, rfl⟩

theorem isHR_no (i : Nat) (tx : List UInt8) (nl : Nat) (hnt : NoTab tx) (hl : tx.length ≤ 140737488355328) (hi : i ≤ tx.length) (h1 : at0 tx (sp3 i tx) ≠ 45) (h2 : at0 tx (sp3 i tx) ≠ 95) (h3 : at0 tx (sp3 i tx) ≠ 42) :
    TrP Tryz.prog 112 [lnv i tx nl] (.bool false) := by
  refine Tr.start (n := 23) (rs := [.tmp 2]) rfl rfl rfl rfl fun B => ?_
  have hs := sp3_le hi
  have e : tsI i tx 0 3 false = sp3 i tx := tsI_zero _ _ _ _
  (repeat' (first | refine k_seq ?_ | refine k_region ?_))
  refine s_box (fun r1 => ?_)
  (repeat' (first | refine k_seq ?_ | refine k_region ?_ | refine k_nil ?_ | refine k_then ?_ | refine s_assign ?_ | refine s_loada ?_))
  refine s_alloc (fun r2 => ?_)
  (repeat' (first | refine s_callD (trimSpace_tr r2 i tx nl 0 3 false hnt hi hl (by omega) (by omega)) ?_ | refine k_seq ?_ | refine k_region ?_ | refine k_nil ?_ | refine k_then ?_ | refine s_storea ?_))
  rw [e, tsOK_zero]
  (repeat' (first | refine s_callD (peek_tr r2 (sp3 i tx) tx nl hl hs) ?_ | refine k_seq ?_ | refine k_region ?_ | refine k_nil ?_ | refine k_then ?_ | refine k_false ?_ | refine k_blk ?_ | refine k_skip ?_ | refine k_block ?_ | refine k_ret ?_ | refine s_move ?_ | refine s_assign ?_ | refine s_eql_f ?_))
  exact e_pure ⟨rfl, rfl⟩

theorem newHR_no (p : Value) (i : Nat) (tx : List UInt8) (nl : Nat) (hnt : NoTab tx) (hl : tx.length ≤ 140737488355328) (hi : i ≤ tx.length) (h1 : at0 tx (sp3 i tx) ≠ 45) (h2 : at0 tx (sp3 i tx) ≠ 95) (h3 : at0 tx (sp3 i tx) ≠ 42) :
    TrP Tryz.prog 61 [p, lnv i tx nl] (.tuple #[lnv i tx nl, .bool false]) := by
  refine Tr.start (n := 25) (rs := [.cell 4 73, .tmp 5]) rfl rfl rfl rfl fun B => ?_
  (repeat' (first | refine k_seq ?_ | refine k_region ?_))
  refine s_box (fun r1 => ?_)
  refine s_alloc (fun r2 => ?_)
  (repeat' (first | refine s_pure (isHR_no i tx nl hnt hl hi h1 h2 h3) ?_ | refine k_seq ?_ | refine k_region ?_ | refine k_nil ?_ | refine k_then ?_ | refine k_false ?_ | refine k_skip ?_ | refine k_ret ?_ | refine s_assign ?_ | refine s_loada ?_ | refine s_storea ?_))
  exact e_pure ⟨rfl, rfl⟩

theorem startHTML_no (p : Value) (q i : Nat) (tx : List UInt8) (nl : Nat) (hnt : NoTab tx) (hl : tx.length ≤ 140737488355328) (hi : i ≤ tx.length) (h1 : at0 tx (sp3 i tx) ≠ 60) :
    TrD Tryz.prog 115 [p, lp q] [lnb q i tx nl] (.bool false) [lnb q i tx nl] := by
  refine Tr.start (n := 368) (rs := [.tmp 4]) rfl rfl rfl rfl fun B => ?_
  have hs := sp3_le hi
  have e : tsI i tx 0 3 false = sp3 i tx := tsI_zero _ _ _ _
  (repeat' (first | refine k_seq ?_ | refine k_region ?_ | refine k_nil ?_ | refine k_then ?_ | refine k_scope ?_ | refine s_move ?_ | refine s_assign ?_ | refine s_nilp ?_ | refine s_loada ?_))
  refine s_alloc (fun r2 => ?_)
  (repeat' (first | refine s_callD (trimSpace_tr r2 i tx nl 0 3 false hnt hi hl (by omega) (by omega)) ?_ | refine k_seq ?_ | refine k_region ?_ | refine k_nil ?_ | refine k_then ?_ | refine s_storea ?_))
  rw [e, tsOK_zero]
  (repeat' (first | refine s_callD (peek_tr r2 (sp3 i tx) tx nl hl hs) ?_ | refine k_seq ?_ | refine k_region ?_ | refine k_nil ?_ | refine k_then ?_ | refine k_true ?_ | refine k_ret ?_ | refine k_ret_then ?_ | refine k_ret_nogo ?_ | refine s_assign ?_ | refine s_neq_t ?_))
  exact e_ret _ ⟨rfl, rfl⟩ SubH.drop1

theorem newHTML_no (p : Value) (i : Nat) (tx : List UInt8) (nl : Nat) (hnt : NoTab tx) (hl : tx.length ≤ 140737488355328) (hi : i ≤ tx.length) (h1 : at0 tx (sp3 i tx) ≠ 60) :
    TrP Tryz.prog 63 [p, lnv i tx nl] (.tuple #[lnv i tx nl, .bool false]) := by
  refine Tr.start (n := 12) (rs := [.cell 4 73, .tmp 5]) rfl rfl rfl rfl fun B => ?_
  (repeat' (first | refine k_seq ?_ | refine k_region ?_))
  refine s_box (fun r1 => ?_)
  refine s_alloc (fun r2 => ?_)
  (repeat' (first | refine k_seq ?_ | refine k_region ?_ | refine k_nil ?_ | refine k_then ?_ | refine s_assign ?_ | refine s_loada ?_))
  refine s_alloc (fun r3 => ?_)
  (repeat' (first | refine s_callD (startHTML_no _ r3 i tx nl hnt hl hi h1) ?_ | refine k_seq ?_ | refine k_region ?_ | refine k_nil ?_ | refine k_then ?_ | refine k_false ?_ | refine k_skip ?_ | refine k_ret ?_ | refine s_move ?_ | refine s_assign ?_ | refine s_loada ?_ | refine s_storea ?_))
  exact e_pure ⟨rfl, rfl⟩
end Go.Proofs

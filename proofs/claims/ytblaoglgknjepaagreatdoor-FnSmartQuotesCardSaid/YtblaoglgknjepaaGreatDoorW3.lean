/- Contracts of the line's small methods. Conditions: no tab, lengths below a bound. -/
import Derived.Test.YtblaoglgknjepaaGreatDoorW2
namespace Go.Proofs
open Go Go.Eng
set_option maxRecDepth 20000
set_option maxHeartbeats 4000000

abbrev lp (q : Nat) : Value := .pointer (some ⟨q, 0, none⟩)

theorem trim_tr (q i : Nat) (tx : List UInt8) (nl c : Nat) (hl : tx.length ≤ 140737488355328) (hi : i ≤ tx.length) (b : Bool) (hb : b = decide (∃ d, tx[i]? = some d ∧ d.toNat = c)) :
    TrD Tryz.prog 154 [lp q, .int .u8 c] [lnb q i tx nl] (.bool b) [lnb q (if b then i + 1 else i) tx nl] := by
  refine Tr.start (n := 49) (rs := [.tmp 4]) rfl rfl rfl rfl fun B => ?_
  by_cases hlt : i < tx.length
  · obtain ⟨d, hd⟩ := get_some hlt
    by_cases hdc : d.toNat = c
    · have : b = true := by rw [hb]; exact decide_eq_true ⟨d, hd, hdc⟩
      subst this
      (repeat' (first | refine Wp.draw_all (id := 6) Mixed.out (by kernel_rfl) ?_ | refine k_seq ?_ | refine k_region ?_ | refine k_nil ?_ | refine k_then ?_ | refine k_true ?_ | refine k_false ?_ | refine k_skip ?_ | refine k_ret ?_ | refine k_ret_then ?_ | refine s_move ?_ | refine s_assign ?_ | refine s_load ?_ | refine s_field ?_ | refine s_nilp ?_ | refine s_add1 ?_ | refine s_gtr_f ?_ | refine s_store ?_ | refine u_nil ?_ | refine u_grun ?_ | refine u_move ?_ | refine u_load ?_ | refine u_field ?_ | refine u_nilp ?_ | refine u_lss_t ?_ | refine u_eql_t ?_ | refine u_pickt ?_ | refine u_lens ?_ | refine u_index ?_))
      exact e_ret _ ⟨rfl, rfl⟩ (SubH.refl _)
    · have : b = false := by rw [hb]; exact decide_eq_false (fun ⟨e, h1, h2⟩ => by rw [hd] at h1; cases h1; exact hdc h2)
      subst this
      (repeat' (first | refine Wp.draw_all (id := 6) Mixed.out (by kernel_rfl) ?_ | refine k_seq ?_ | refine k_region ?_ | refine k_nil ?_ | refine k_then ?_ | refine k_false ?_ | refine k_skip ?_ | refine k_ret ?_ | refine s_move ?_ | refine s_assign ?_ | refine s_load ?_ | refine s_field ?_ | refine s_nilp ?_ | refine s_gtr_f ?_ | refine u_nil ?_ | refine u_grun ?_ | refine u_move ?_ | refine u_load ?_ | refine u_field ?_ | refine u_nilp ?_ | refine u_lss_t ?_ | refine u_eql_f ?_ | refine u_pickt ?_ | refine u_lens ?_ | refine u_index ?_))
      exact e_ret _ ⟨rfl, rfl⟩ (SubH.refl _)
  · have : b = false := by rw [hb]; exact decide_eq_false (fun ⟨e, h1, h2⟩ => get_none (by omega) h1)
    subst this
    (repeat' (first | refine Wp.draw_all (id := 6) Mixed.out (by kernel_rfl) ?_ | refine k_seq ?_ | refine k_region ?_ | refine k_nil ?_ | refine k_then ?_ | refine k_false ?_ | refine k_skip ?_ | refine k_ret ?_ | refine s_move ?_ | refine s_assign ?_ | refine s_load ?_ | refine s_field ?_ | refine s_nilp ?_ | refine s_gtr_f ?_ | refine u_nil ?_ | refine u_gskipt ?_ | refine u_move ?_ | refine u_load ?_ | refine u_field ?_ | refine u_nilp ?_ | refine u_lss_f ?_ | refine u_pickf ?_ | refine u_lens ?_))
    exact e_ret _ ⟨rfl, rfl⟩ (SubH.refl _)

/-- The byte at a place, 0 behind the end. -/
def at0 (tx : List UInt8) (i : Nat) : Nat := match tx[i]? with | some c => c.toNat | none => 0
theorem at0_some {tx : List UInt8} {i : Nat} {c : UInt8} (h : tx[i]? = some c) : at0 tx i = c.toNat := by simp [at0, h]
theorem at0_none {tx : List UInt8} {i : Nat} (h : tx.length ≤ i) : at0 tx i = 0 := by simp [at0, List.getElem?_eq_none h]
theorem at0_lt (tx : List UInt8) (i : Nat) : at0 tx i < 256 := by
  unfold at0; split
  · exact UInt8.toNat_lt _
  · omega

theorem peek_tr (q i : Nat) (tx : List UInt8) (nl : Nat) (hl : tx.length ≤ 140737488355328) (hi : i ≤ tx.length) :
    TrD Tryz.prog 156 [lp q] [lnb q i tx nl] (.int .u8 (at0 tx i)) [lnb q i tx nl] := by
  refine Tr.start (n := 27) (rs := [.tmp 2]) rfl rfl rfl rfl fun B => ?_
  by_cases hlt : i < tx.length
  · obtain ⟨d, hd⟩ := get_some hlt
    rw [at0_some hd]
    (repeat' (first | refine Wp.draw_all (id := 3) Mixed.out (by kernel_rfl) ?_ | refine Wp.draw_all (id := 5) Mixed.out (by kernel_rfl) ?_ | refine k_seq ?_ | refine k_region ?_ | refine k_nil ?_ | refine k_then ?_ | refine k_false ?_ | refine k_skip ?_ | refine k_ret ?_ | refine s_move ?_ | refine s_assign ?_ | refine s_load ?_ | refine s_field ?_ | refine s_nilp ?_ | refine s_gtr_f ?_ | refine u_nil ?_ | refine u_move ?_ | refine u_assign ?_ | refine u_load ?_ | refine u_field ?_ | refine u_nilp ?_ | refine u_geq_f ?_ | refine u_lens ?_ | refine u_index ?_))
    exact e_ret _ ⟨rfl, rfl⟩ (SubH.refl _)
  · rw [at0_none (by omega)]
    (repeat' (first | refine Wp.draw_all (id := 3) Mixed.out (by kernel_rfl) ?_ | refine k_seq ?_ | refine k_region ?_ | refine k_nil ?_ | refine k_then ?_ | refine k_true ?_ | refine k_false ?_ | refine k_skip ?_ | refine k_ret ?_ | refine k_ret_then ?_ | refine s_move ?_ | refine s_assign ?_ | refine s_load ?_ | refine s_field ?_ | refine s_nilp ?_ | refine s_gtr_f ?_ | refine u_nil ?_ | refine u_move ?_ | refine u_load ?_ | refine u_field ?_ | refine u_nilp ?_ | refine u_geq_t ?_ | refine u_lens ?_))
    exact e_ret _ ⟨rfl, rfl⟩ (SubH.refl _)

theorem eof_tr (q i : Nat) (tx : List UInt8) (nl : Nat) (b : Bool) (hb : b = decide (tx.length ≤ i)) :
    TrD Tryz.prog 158 [lp q] [lnb q i tx nl] (.bool b) [lnb q i tx nl] := by
  refine Tr.start (n := 13) (rs := [.tmp 2]) rfl rfl rfl rfl fun B => ?_
  by_cases h : tx.length ≤ i
  · have : b = true := by rw [hb]; exact decide_eq_true h
    subst this
    (repeat' (first | refine Wp.draw_all (id := 1) Mixed.out (by kernel_rfl) ?_ | refine k_seq ?_ | refine k_region ?_ | refine k_nil ?_ | refine k_then ?_ | refine k_ret ?_ | refine s_assign ?_ | refine u_nil ?_ | refine u_move ?_ | refine u_assign ?_ | refine u_load ?_ | refine u_field ?_ | refine u_nilp ?_ | refine u_geq_t ?_ | refine u_lens ?_))
    exact e_ret _ ⟨rfl, rfl⟩ (SubH.refl _)
  · have : b = false := by rw [hb]; exact decide_eq_false h
    subst this
    (repeat' (first | refine Wp.draw_all (id := 1) Mixed.out (by kernel_rfl) ?_ | refine k_seq ?_ | refine k_region ?_ | refine k_nil ?_ | refine k_then ?_ | refine k_ret ?_ | refine s_assign ?_ | refine u_nil ?_ | refine u_move ?_ | refine u_assign ?_ | refine u_load ?_ | refine u_field ?_ | refine u_nilp ?_ | refine u_geq_f ?_ | refine u_lens ?_))
    exact e_ret _ ⟨rfl, rfl⟩ (SubH.refl _)

theorem string_tr (q i : Nat) (tx : List UInt8) (nl : Nat) (hl : tx.length ≤ 140737488355328) (hi : i ≤ tx.length) :
    TrD Tryz.prog 101 [lp q] [lnb q i tx nl] (str (tx.drop i)) [lnb q i tx nl] := by
  refine Tr.start (n := 55) (rs := [.tmp 2]) rfl rfl rfl rfl fun B => ?_
  (repeat' (first | refine Wp.draw_all (id := 3) Mixed.out (by kernel_rfl) ?_ | refine k_seq ?_ | refine k_region ?_ | refine k_nil ?_ | refine k_then ?_ | refine k_true ?_ | refine k_blk ?_ | refine k_ret ?_ | refine k_ret_then ?_ | refine k_ret_block ?_ | refine s_move ?_ | refine s_assign ?_ | refine s_load ?_ | refine s_field ?_ | refine s_nilp ?_ | refine s_eql_t ?_ | refine u_nil ?_ | refine u_move ?_ | refine u_assign ?_ | refine u_load ?_ | refine u_field ?_ | refine u_nilp ?_ | refine u_slicef ?_))
  exact e_ret _ ⟨rfl, rfl⟩ (SubH.refl _)

theorem isBlank_tr (q i : Nat) (tx : List UInt8) (nl : Nat) (hl : tx.length ≤ 140737488355328) (hi : i ≤ tx.length) (b : Bool) (hb : b = decide (ltrim (tx.drop i) = [])) :
    TrD Tryz.prog 33 [lp q] [lnb q i tx nl] (.bool b) [lnb q i tx nl] := by
  refine Tr.start (n := 14) (rs := [.tmp 2]) rfl rfl rfl rfl fun B => ?_
  have hd : (tx.drop i).length ≤ 140737488355328 := by simp; omega
  subst hb
  (repeat' (first | refine Wp.draw_tail (id := 1) 8 Mixed.out (by kernel_rfl) ?_ | refine s_pure (ltrim_tr _ hd) ?_ | refine k_seq ?_ | refine k_region ?_ | refine k_nil ?_ | refine k_then ?_ | refine k_ret ?_ | refine s_assign ?_ | refine s_slicef ?_ | refine s_eqs ?_ | refine u_nil ?_ | refine u_move ?_ | refine u_load ?_ | refine u_field ?_ | refine u_nilp ?_))
  exact e_ret _ ⟨rfl, rfl⟩ (SubH.refl _)

theorem trimSpaceString_tr (q i : Nat) (tx : List UInt8) (nl : Nat) (hl : tx.length ≤ 140737488355328) (hi : i ≤ tx.length) :
    TrD Tryz.prog 67 [lp q] [lnb q i tx nl] (str (ltrim (tx.drop i))) [lnb q i tx nl] := by
  refine Tr.start (n := 13) (rs := [.tmp 2]) rfl rfl rfl rfl fun B => ?_
  have hd : (tx.drop i).length ≤ 140737488355328 := by simp; omega
  (repeat' (first | refine Wp.draw_tail (id := 1) 8 Mixed.out (by kernel_rfl) ?_ | refine s_pure (ltrim_tr _ hd) ?_ | refine k_seq ?_ | refine k_region ?_ | refine k_nil ?_ | refine k_then ?_ | refine k_ret ?_ | refine s_assign ?_ | refine s_slicef ?_ | refine u_nil ?_ | refine u_move ?_ | refine u_load ?_ | refine u_field ?_ | refine u_nilp ?_))
  exact e_ret _ ⟨rfl, rfl⟩ (SubH.refl _)

theorem trimString_tr (q i : Nat) (tx : List UInt8) (nl : Nat) (hl : tx.length ≤ 140737488355328) (hi : i ≤ tx.length) :
    TrD Tryz.prog 163 [lp q] [lnb q i tx nl] (str (btrim (tx.drop i))) [lnb q i tx nl] := by
  refine Tr.start (n := 13) (rs := [.tmp 2]) rfl rfl rfl rfl fun B => ?_
  have hd : (tx.drop i).length ≤ 140737488355328 := by simp; omega
  (repeat' (first | refine Wp.draw_tail (id := 1) 8 Mixed.out (by kernel_rfl) ?_ | refine s_pure (btrim_tr _ hd) ?_ | refine k_seq ?_ | refine k_region ?_ | refine k_nil ?_ | refine k_then ?_ | refine k_ret ?_ | refine s_assign ?_ | refine s_slicef ?_ | refine u_nil ?_ | refine u_move ?_ | refine u_load ?_ | refine u_field ?_ | refine u_nilp ?_))
  exact e_ret _ ⟨rfl, rfl⟩ (SubH.refl _)
end Go.Proofs

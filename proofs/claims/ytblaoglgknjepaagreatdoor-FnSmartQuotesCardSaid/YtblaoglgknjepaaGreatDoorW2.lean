/- Contract of line.trimSpace without tabs. Conditions: no tab in the line, lengths below a bound. -/
import Derived.Test.YtblaoglgknjepaaGreatDoorW1
namespace Go.Proofs
open Go Go.Eng
set_option maxRecDepth 20000
set_option maxHeartbeats 4000000

/-- The cells of a line that is read from place i on (no tabs: nothing is left of one). -/
abbrev lnc (i : Nat) (tx : List UInt8) (nl : Nat) : List Value := [.int .i64 0, .int .i64 i, .int .i64 0, str tx, .int .u8 nl]
abbrev lnb (q i : Nat) (tx : List UInt8) (nl : Nat) : Blk := [(q, cellsOf (lnc i tx nl) 73)]
def NoTab (l : List UInt8) : Prop := ∀ c ∈ l, c.toNat ≠ 9
/-- The spaces at the front. -/
def nsp : List UInt8 → Nat
  | [] => 0
  | c :: l => if c.toNat = 32 then nsp l + 1 else 0

theorem nsp_le : ∀ l : List UInt8, nsp l ≤ l.length
  | [] => by simp [nsp]
  | c :: l => by have := nsp_le l; simp only [nsp, List.length_cons]; split <;> omega
theorem nsp_lt : ∀ {l : List UInt8} {j : Nat}, j < nsp l → ∃ c, l[j]? = some c ∧ c.toNat = 32
  | [], j, h => by simp [nsp] at h
  | c :: l, j, h => by
    simp only [nsp] at h
    split at h
    · rename_i hc
      cases j with
      | zero => exact ⟨c, by simp, hc⟩
      | succ j => obtain ⟨d, h1, h2⟩ := nsp_lt (l := l) (j := j) (by omega); exact ⟨d, by simpa using h1, h2⟩
    · omega
theorem nsp_at : ∀ {l : List UInt8} {c : UInt8}, l[nsp l]? = some c → c.toNat ≠ 32
  | [], c, h => by simp at h
  | d :: l, c, h => by
    by_cases hd : d.toNat = 32
    · have e : nsp (d :: l) = nsp l + 1 := by simp [nsp, hd]
      rw [e] at h; exact nsp_at (l := l) (by simpa using h)
    · have e : nsp (d :: l) = 0 := by simp [nsp, hd]
      rw [e] at h; simp at h; subst h; exact hd

/-- What line.trimSpace answers, and where the line stands behind it. -/
def tsOK (i : Nat) (tx : List UInt8) (lo hi : Nat) (eol : Bool) : Bool := decide (lo ≤ min (nsp (tx.drop i)) hi) || (eol && decide (tx.length ≤ i + nsp (tx.drop i)))
def tsI (i : Nat) (tx : List UInt8) (lo hi : Nat) (eol : Bool) : Nat := if tsOK i tx lo hi eol then i + min (nsp (tx.drop i)) hi else i

theorem trimSpace_tr (q i : Nat) (tx : List UInt8) (nl lo hi : Nat) (eol : Bool) (hnt : NoTab tx) (hi' : i ≤ tx.length) (hl : tx.length ≤ 140737488355328) (hlh : lo ≤ hi) (hh : hi ≤ 1000) :
    TrD Tryz.prog 118 [.pointer (some ⟨q, 0, none⟩), .int .i64 lo, .int .i64 hi, .bool eol] [lnb q i tx nl]
      (.bool (tsOK i tx lo hi eol)) [lnb q (tsI i tx lo hi eol) tx nl] := by
  refine Tr.start (n := 76) (rs := [.tmp 8]) rfl rfl rfl rfl fun B => ?_
  (repeat' (first | refine k_seq ?_ | refine k_region ?_ | refine k_nil ?_ | refine k_then ?_ | refine s_move ?_ | refine s_assign ?_ | refine s_nilp ?_ | refine s_loada ?_))
  refine s_alloc fun r => ?_
  (repeat' (first | refine k_seq ?_ | refine k_region ?_ | refine k_nil ?_ | refine k_then ?_ | refine s_assign ?_ | refine s_storea ?_))
  have hk := nsp_le (tx.drop i)
  simp only [List.length_drop] at hk
  have hlt := fun j (h : j < nsp (tx.drop i)) => nsp_lt h
  have hat := fun c (h : (tx.drop i)[nsp (tx.drop i)]? = some c) => nsp_at h
  simp only [List.getElem?_drop] at hlt hat
  unfold tsI tsOK
  generalize nsp (tx.drop i) = k at *
  -- the ways on which the loop ends well come to the same place
  refine k_midx (fun _ : Unit => [(0, .pointer (some ⟨q, 0, none⟩)), (9, .pointer (some ⟨r, 0, none⟩))]) (fun _ => [lnb r (i + min k hi) tx nl, lnb q i tx nl])
    (fun _ => (decide (lo ≤ min k hi) || (eol && decide (tx.length ≤ i + k))) = true) ?_ ?_
  · (repeat' (first | refine k_blk ?_))
    refine k_loop (fun x : Nat × Nat => [(0, .pointer (some ⟨q, 0, none⟩)), (1, .int .i64 lo), (2, .int .i64 hi), (3, .bool eol), (9, .pointer (some ⟨r, 0, none⟩)), (10, .int .i64 x.1)])
      (fun x => [lnb r x.2 tx nl, lnb q i tx nl]) (fun x => x.1 ≤ hi ∧ x.2 = i + min x.1 k ∧ (x.1 ≤ k ∨ eol = true ∧ i + k = tx.length)) (fun x => hi - x.1) (0, i) ⟨by omega, by simp, by simp⟩ (Knows.spec (by repeat (first | exact trivial | refine ⟨rfl, ?_⟩))) (SubH.refl _) ?_
    rintro ⟨m, j⟩ ⟨h1, h2, h3⟩
    simp only at h1 h2 h3
    by_cases hm : m < hi
    · by_cases hmk : m < k
      · obtain ⟨c, hc, hc2⟩ := hlt m hmk
        have hc' : tx[j]? = some c := by rw [h2, Nat.min_eq_left (by omega)]; exact hc
        have hj : j < tx.length := (List.getElem?_eq_some_iff.1 hc').1
        clear hc hlt hat h3
        cases eol <;> (repeat' (first | refine k_seq ?_ | refine k_region ?_ | refine k_nil ?_ | refine k_then ?_ | refine k_true ?_ | refine k_false ?_ | refine k_blk ?_ | refine k_skip ?_ | refine k_exit ?_ | refine k_exit_then ?_ | refine k_hit ?_ | refine k_miss ?_ | refine s_gskipt ?_ | refine s_move ?_ | refine s_assign ?_ | refine s_load ?_ | refine s_field ?_ | refine s_add1 ?_ | refine s_lss_t ?_ | refine s_gtr_f ?_ | refine s_geq_f ?_ | refine s_eql_t ?_ | refine s_eql_f ?_ | refine s_pickf ?_ | refine s_lens ?_ | refine s_index ?_ | refine s_store ?_)) <;> exact ⟨(m + 1, j + 1), (Knows.spec (by repeat (first | exact trivial | refine ⟨rfl, ?_⟩))), SubH.refl _, ⟨by simp; omega, by simp; omega, by simp; omega⟩, by simp; omega⟩
      · by_cases hj : j < tx.length
        · have hjk : j = i + k := by omega
          obtain ⟨c, hc'⟩ := get_some hj
          have hc2 : ¬ c.toNat = 32 := hat c (by rw [← hjk]; exact hc')
          have hc3 : ¬ c.toNat = 9 := hnt c (List.mem_of_getElem? hc')
          have hmk' : m = k := by
            rcases h3 with h3 | h3
            · omega
            · omega
          subst hmk' hjk
          have hf0 : ¬ tx.length ≤ i + m := by omega
          have hf : (eol && decide (tx.length ≤ i + m)) = false := by simp; intro _; omega
          rw [hf, Nat.min_eq_left (by omega : m ≤ hi)]
          clear hlt hat h3
          by_cases hlo : lo ≤ m
          · cases eol <;> (repeat' (first | refine k_seq ?_ | refine k_region ?_ | refine k_nil ?_ | refine k_then ?_ | refine k_true ?_ | refine k_false ?_ | refine k_blk ?_ | refine k_skip ?_ | refine k_block ?_ | refine k_exit ?_ | refine k_exit_then ?_ | refine k_hit ?_ | refine k_miss ?_ | refine s_gskipt ?_ | refine s_move ?_ | refine s_assign ?_ | refine s_load ?_ | refine s_field ?_ | refine s_lss_t ?_ | refine s_gtr_f ?_ | refine s_geq_t ?_ | refine s_geq_f ?_ | refine s_eql_f ?_ | refine s_pickf ?_ | refine s_lens ?_ | refine s_index ?_)) <;> exact ⟨(), (by repeat (first | exact trivial | refine ⟨rfl, ?_⟩)), SubH.refl _, by simp [hlo]⟩
          · cases eol <;> (repeat' (first | refine k_seq ?_ | refine k_region ?_ | refine k_nil ?_ | refine k_then ?_ | refine k_true ?_ | refine k_false ?_ | refine k_blk ?_ | refine k_skip ?_ | refine k_block ?_ | refine k_ret ?_ | refine k_ret_then ?_ | refine k_ret_block ?_ | refine s_gskipt ?_ | refine s_move ?_ | refine s_assign ?_ | refine s_load ?_ | refine s_field ?_ | refine s_lss_t ?_ | refine s_gtr_f ?_ | refine s_geq_f ?_ | refine s_eql_f ?_ | refine s_pickf ?_ | refine s_lens ?_ | refine s_index ?_)) <;> refine e_ret [lnb q i tx nl] ?_ SubH.drop1 <;> simp [oneOr, hlo]
        · clear hlt hat
          cases eol
          · have hmk' : m = k := by
              rcases h3 with h3 | h3
              · omega
              · cases h3.1
            subst hmk'
            clear h3
            rw [Nat.min_eq_left (by omega : m ≤ hi)]
            by_cases hlo : lo ≤ m
            · (repeat' (first | refine k_seq ?_ | refine k_region ?_ | refine k_nil ?_ | refine k_then ?_ | refine k_true ?_ | refine k_false ?_ | refine k_blk ?_ | refine k_skip ?_ | refine k_exit ?_ | refine k_exit_then ?_ | refine k_hit ?_ | refine k_miss ?_ | refine s_grun ?_ | refine s_move ?_ | refine s_load ?_ | refine s_field ?_ | refine s_lss_t ?_ | refine s_lss_f ?_ | refine s_gtr_f ?_ | refine s_geq_t ?_ | refine s_pickt ?_ | refine s_lens ?_))
              exact ⟨(), (by repeat (first | exact trivial | refine ⟨rfl, ?_⟩)), by rw [h2, Nat.min_self]; exact SubH.refl _, by simp [hlo]⟩
            · (repeat' (first | refine k_seq ?_ | refine k_region ?_ | refine k_nil ?_ | refine k_then ?_ | refine k_true ?_ | refine k_false ?_ | refine k_blk ?_ | refine k_skip ?_ | refine k_ret ?_ | refine k_ret_then ?_ | refine k_ret_block ?_ | refine s_grun ?_ | refine s_move ?_ | refine s_assign ?_ | refine s_load ?_ | refine s_field ?_ | refine s_lss_t ?_ | refine s_lss_f ?_ | refine s_gtr_f ?_ | refine s_geq_t ?_ | refine s_geq_f ?_ | refine s_pickt ?_ | refine s_lens ?_))
              refine e_ret [lnb q i tx nl] ?_ SubH.drop1; simp [oneOr, hlo]
          · clear h3
            (repeat' (first | refine k_seq ?_ | refine k_region ?_ | refine k_nil ?_ | refine k_then ?_ | refine k_true ?_ | refine k_false ?_ | refine k_blk ?_ | refine k_skip ?_ | refine k_exit ?_ | refine k_exit_then ?_ | refine k_hit ?_ | refine s_grun ?_ | refine s_move ?_ | refine s_assign ?_ | refine s_load ?_ | refine s_field ?_ | refine s_add1 ?_ | refine s_lss_t ?_ | refine s_gtr_f ?_ | refine s_geq_t ?_ | refine s_pickt ?_ | refine s_lens ?_))
            exact ⟨(m + 1, j), (Knows.spec (by repeat (first | exact trivial | refine ⟨rfl, ?_⟩))), SubH.refl _, ⟨by simp; omega, by simp; omega, by simp; omega⟩, by simp; omega⟩
    · clear hlt hat
      have : m = hi := by omega
      subst this
      (repeat' (first | refine k_seq ?_ | refine k_region ?_ | refine k_nil ?_ | refine k_then ?_ | refine k_false ?_ | refine k_exit ?_ | refine k_exit_then ?_ | refine k_hit ?_ | refine s_move ?_ | refine s_lss_f ?_))
      refine ⟨(), (by repeat (first | exact trivial | refine ⟨rfl, ?_⟩)), by rw [h2, Nat.min_comm]; exact SubH.refl _, ?_⟩
      rcases h3 with h3 | h3
      · have : lo ≤ min k m := by omega
        simp [this]
      · simp [h3.1, h3.2]
  · intro _ hok
    rw [hok]
    simp only [if_true]
    (repeat' (first | refine k_seq ?_ | refine k_region ?_ | refine k_nil ?_ | refine k_then ?_ | refine k_ret ?_ | refine s_move ?_ | refine s_assign ?_ | refine s_nilp ?_ | refine s_loada ?_ | refine s_storea ?_))
    exact e_ret _ ⟨rfl, rfl⟩ SubH.drop1
end Go.Proofs

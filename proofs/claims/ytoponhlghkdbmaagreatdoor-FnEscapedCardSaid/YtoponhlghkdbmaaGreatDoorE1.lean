/- strings.Builder's contracts, and the line of an escaped text. Conditions: bounds on the length. -/
import Derived.Test.YtoponhlghkdbmaaGreatDoorL2
import Derived.Test.YtoponhlghkdbmaaGreatDoorEngB
namespace Go.Proofs
open Go Go.Eng
set_option maxRecDepth 20000
set_option maxHeartbeats 4000000

abbrev bldb (b : Nat) (p v : Value) : Blk := [(b, cellsOf [p, v] 43)]

theorem copyCheck_used (b : Nat) (v : Value) : TrD Tryz.prog 26 [lp b] [bldb b (lp b) v] unit [bldb b (lp b) v] := by
  refine Tr.start (n := 20) (rs := []) rfl rfl rfl rfl fun B => ?_
  (repeat' (first | refine k_seq ?_ | refine k_region ?_ | refine k_nil ?_ | refine k_then ?_ | refine k_false ?_ | refine s_move ?_ | refine s_load ?_ | refine s_field ?_ | refine s_nilp ?_ | refine s_eqp1 ?_))
  refine Ops.pure (.bool false) (p_ne (u := lp b) (v := lp b) (r := false) (by rfl) (by rfl) (by first | rfl | kernel_rfl) (fun w => Lib.run_neq_ptr_same (P := Tryz.prog) w ⟨b, 0, none⟩ Tryz.underlying40 (show (Tryz.prog).info? 43 = some Tryz.t43 by kernel_rfl))) (by rfl) ?_
  (repeat' (first | refine k_nil ?_ | refine k_then ?_ | refine k_false ?_ | refine k_skip ?_))
  exact e_norm _ ⟨rfl, rfl⟩ (by repeat (first | exact SubH.nilR _ | refine SubH.pick (by repeat (first | exact HTake.here | apply HTake.there)) ?_))
theorem copyCheck_fresh (b : Nat) (v : Value) : TrD Tryz.prog 26 [lp b] [bldb b (.pointer none) v] unit [bldb b (lp b) v] := by
  refine Tr.start (n := 20) (rs := []) rfl rfl rfl rfl fun B => ?_
  (repeat' (first | refine k_seq ?_ | refine k_region ?_ | refine k_nil ?_ | refine k_then ?_ | refine k_true ?_ | refine s_move ?_ | refine s_load ?_ | refine s_field ?_ | refine s_nilp ?_ | refine s_eqp0 ?_))
  refine Ops.pure _ (p_tounsafe (b := b) (off := 0) (cs := [.pointer none, v]) (T := 43) (j := Tryz.t43) Tryz.underlying40 Tryz.underlying91 (by kernel_rfl) (by decide) (by rfl) (by repeat (first | exact HMem.here | apply HMem.skip | apply HMem.there)) (by simp)) (by rfl) ?_
  refine Ops.pure _ (p_extern (v := lp b) (r := lp b) (by rfl) (fun w => by kernel_rfl)) (by rfl) ?_
  refine Ops.pure _ (p_fromunsafe (b := b) (off := 0) (cs := [.pointer none, v]) (T := 43) (j := Tryz.t43) Tryz.underlying91 Tryz.underlying40 (by kernel_rfl) (by rfl) (by repeat (first | exact HMem.here | apply HMem.skip | apply HMem.there)) (by kernel_rfl)) (by rfl) ?_
  (repeat' (first | refine k_nil ?_ | refine s_field ?_ | refine s_nilp ?_ | refine s_store ?_))
  exact e_norm _ ⟨rfl, rfl⟩ (by repeat (first | exact SubH.nilR _ | refine SubH.pick (by repeat (first | exact HTake.here | apply HTake.there)) ?_))
theorem copyCheck_tr (b : Nat) (p v : Value) (hp : p = .pointer none ∨ p = lp b) : TrD Tryz.prog 26 [lp b] [bldb b p v] unit [bldb b (lp b) v] := by
  rcases hp with rfl | rfl
  · exact copyCheck_fresh b v
  · exact copyCheck_used b v

theorem bldByte_tr (b : Nat) (p v : Value) (l : List UInt8) (R : Blk) (c : UInt8) (hp : p = .pointer none ∨ p = lp b) (hR : Bys v l R) (hl : l.length ≤ 10000000) :
    Tr Tryz.prog 22 [lp b, .int .u8 c.toNat] [bldb b p v, R] fun u K => u = .nilIface ∧ ∃ v' R', Bys v' (l ++ [c]) R' ∧ K = [bldb b (lp b) v', R'] := by
  refine Tr.start (n := 17) (rs := [.tmp 4]) rfl rfl rfl rfl fun B => ?_
  (repeat' (first | refine s_callD (copyCheck_tr b p v hp) ?_ | refine k_seq ?_ | refine k_region ?_ | refine k_nil ?_ | refine k_then ?_ | refine s_move ?_ | refine s_assign ?_ | refine s_load ?_ | refine s_field ?_ | refine s_nilp ?_ | refine s_bsl1 (fun _ => ?_)))
  refine s_app hR (by omega) (fun v2 R2 h2 => ?_)
  have h2' : Bys v2 (l ++ [c]) R2 := Bys.snoc h2
  obtain ⟨g2, cap2, cur2, rfl, rfl, _⟩ := h2.pos
  (repeat' (first | refine k_seq ?_ | refine k_region ?_ | refine k_nil ?_ | refine k_then ?_ | refine k_ret ?_ | refine s_assign ?_ | refine s_field ?_ | refine s_nilp ?_ | refine s_store ?_))
  exact e_ret _ ⟨rfl, _, _, h2', rfl⟩ (by repeat (first | exact SubH.nilR _ | refine SubH.pick (by repeat (first | exact HTake.here | apply HTake.there)) ?_))

theorem bldString_tr (b : Nat) (p v : Value) (l : List UInt8) (R : Blk) (hR : Bys v l R) (hne : l ≠ []) (hl : l.length ≤ 10000000) :
    Tr Tryz.prog 23 [lp b] [bldb b p v, R] fun u K => u = str l ∧ K = [] := by
  have hl1 : 1 ≤ l.length := by cases l with | nil => exact absurd rfl hne | cons _ _ => simp
  have hx' : Own 5 1 v (l.length - 1 + 1) (Lib.byteCells l) R := by rw [show l.length - 1 + 1 = l.length by omega]; exact hR
  obtain ⟨g, cap, cur, rfl, rfl, k1, k2, k3, k4⟩ := hx'.pos
  rw [show l.length - 1 + 1 = l.length by omega, Nat.mul_one] at k4
  rw [show l.length - 1 + 1 = l.length by omega]
  refine Tr.start (n := 14) (rs := [.tmp 2]) rfl rfl rfl rfl fun B => ?_
  (repeat' (first | refine Wp.draw_tail (id := 1) 10 Mixed.out (by kernel_rfl) ?_ | refine OpsS.pure _ (p_usd (by rfl) (by omega)) (by rfl) ?_ | refine k_seq ?_ | refine k_region ?_ | refine k_nil ?_ | refine k_then ?_ | refine s_assign ?_ | refine u_nil ?_ | refine u_move ?_ | refine u_load ?_ | refine u_field ?_ | refine u_nilp ?_ | refine u_len ?_))
  refine s_ustr (g := g) (cur := cur) (e := 5) (l := l) Tryz.underlying61 (by kernel_rfl) hne (by omega) (by omega) k4 ?_
  (repeat' (first | refine k_nil ?_ | refine k_then ?_ | refine k_ret ?_ | refine s_assign ?_))
  exact e_ret [] ⟨rfl, rfl⟩ (by repeat (first | exact SubH.nilR _ | refine SubH.pick (by repeat (first | exact HTake.here | apply HTake.there)) ?_))

structure EB where
  j : Nat
  p : Value
  v : Value
  R : Blk

theorem at0_succ (c : UInt8) (l : List UInt8) (j : Nat) : at0 (c :: l) (j + 1) = at0 l j := by simp [at0]
/-- Ahead of a point or a parenthesis there is a backslash. -/
theorem slash_prev : ∀ (s : List UInt8) (j : Nat), (at0 (slash s) j = 46 ∨ at0 (slash s) j = 41) → 0 < j ∧ at0 (slash s) (j - 1) = 92
  | [], j, h => by simp [slash, at0] at h
  | c :: s, j, h => by
    have h92 : ((92 : UInt8).toNat) = 92 := rfl
    have e : slash (c :: s) = slashB c ++ slash s := by simp [slash]
    rw [e] at h ⊢
    by_cases hp : isP c = true
    · have e2 : slashB c ++ slash s = 92 :: c :: slash s := by simp [slashB, hp]
      rw [e2] at h ⊢
      match j with
      | 0 => rw [at0_cons] at h; omega
      | 1 => exact ⟨by omega, rfl⟩
      | k + 2 =>
        rw [at0_succ, at0_succ] at h
        obtain ⟨h1, h2⟩ := slash_prev s k h
        refine ⟨by omega, ?_⟩
        rw [show k + 2 - 1 = (k - 1) + 1 + 1 by omega, at0_succ, at0_succ]; exact h2
    · have e2 : slashB c ++ slash s = c :: slash s := by simp [slashB, hp]
      rw [e2] at h ⊢
      match j with
      | 0 =>
        rw [at0_cons] at h
        exfalso; apply hp; unfold isP; exact decide_eq_true (by omega)
      | k + 1 =>
        rw [at0_succ] at h
        obtain ⟨h1, h2⟩ := slash_prev s k h
        refine ⟨by omega, ?_⟩
        rw [show k + 1 - 1 = (k - 1) + 1 by omega, at0_succ]; exact h2

theorem esc_line (s : List UInt8) (hlen : s.length ≤ 2000) (hA : Ascii s) (hF : Filled s) : Line1 (slashT s) := by
  have hA' : ∀ c ∈ s, 32 ≤ c.toNat ∧ c.toNat ≤ 126 := fun c hc => by
    obtain ⟨j, hj⟩ := List.mem_iff_getElem?.1 hc
    exact hA j c hj
  have e1 := slashT_bytes s
  have hall := slash_ascii s hA'
  have hsl := slash_len s
  have h92 : ((92 : UInt8).toNat) = 92 := rfl
  obtain ⟨a, r, hc, h33, hq⟩ : ∃ (a : UInt8) (r : List UInt8), slash s = a :: r ∧ 33 ≤ a.toNat ∧ (a.toNat = 92 ∨ ¬ (33 ≤ a.toNat ∧ a.toNat ≤ 47 ∨ 58 ≤ a.toNat ∧ a.toNat ≤ 64 ∨ 91 ≤ a.toNat ∧ a.toNat ≤ 96 ∨ 123 ≤ a.toNat ∧ a.toNat ≤ 126)) := by
    cases hs : s with
    | nil => exact absurd hs hF.ne
    | cons c s' =>
      have hc0 : ¬ c.toNat = 32 := hF.hd c (by rw [hs]; rfl)
      have hc1 := hA' c (by rw [hs]; simp)
      by_cases hp : isP c = true
      · exact ⟨92, c :: slash s', by simp [slash, slashB, hp], by omega, .inl rfl⟩
      · refine ⟨c, slash s', by simp [slash, slashB, hp], by omega, .inr (fun h => hp ?_)⟩
        unfold isP; exact decide_eq_true h
  have ea : at0 (slash s) 0 = a.toNat := by rw [hc]; rfl
  refine line1_of (slashT s) (slashT_ok s hA') (by simpa [slashT] using hF.ne) (by simp [slashT]; omega) (by rw [e1]; exact hall) a r (by rw [e1]; exact hc) h33 ?_ (by omega) (by omega) (by omega) (by omega) (by omega) (by omega) (by omega) (by omega) (by omega) ?_ ?_
  · rw [e1]
    intro c hc
    rw [← List.getLast?_eq_getElem?, slash_last s hF.ne, List.getLast?_eq_getElem?] at hc
    exact hF.lst c hc
  · intro nl q nq nv
    rw [e1]
    refine trimHeading_no q nq 0 nv _ nl (fun c hc => by have := hall c hc; omega) (by omega) (Nat.zero_le _) ?_
    have en : nsp (slash s) = 0 := by rw [hc]; simp only [nsp]; rw [if_neg (by omega)]
    have es : sp3 0 (slash s) = 0 := by simp [sp3, en]
    rw [es, ea]; omega
  · rw [e1]
    refine ⟨by omega, by omega, by omega, fun j hj h0 => ?_⟩
    have hp := slash_prev s j
    refine ⟨fun h => ?_, fun h => ?_⟩
    · obtain ⟨h1, h2⟩ := hp (.inl h)
      have := hj (j - 1) (by omega)
      omega
    · obtain ⟨h1, h2⟩ := hp (.inr h)
      have := hj (j - 1) (by omega)
      omega
end Go.Proofs

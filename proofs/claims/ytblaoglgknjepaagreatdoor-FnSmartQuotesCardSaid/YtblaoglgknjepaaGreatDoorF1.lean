/- htmlEntity over the table of entities, and strings.Builder's contracts. Conditions: the table holds texts of 1 to 8 bytes; bounds on the length. -/
import Derived.Test.YtblaoglgknjepaaGreatDoorF0
import Derived.Test.YtblaoglgknjepaaGreatDoorW15
import Derived.Test.YtblaoglgknjepaaGreatDoorEngB
namespace Go.Proofs
open Go Go.Eng
set_option maxRecDepth 20000
set_option maxHeartbeats 4000000

instance arrOf2 : UArr Tryz.prog 248 2 9 := ⟨Tryz.underlying248⟩
instance arrOf12 : UArr Tryz.prog 249 12 248 := ⟨Tryz.underlying249⟩

/-- The table of the entities: a variable of the package, whose cells are texts. -/
abbrev ent (T : Nat) (es : List Value) : Blk := [(1, cellsOf es T)]
def EntOK (es : List Value) : Prop := ∀ k, k < 24 → ∃ s, es[k]? = some (str s) ∧ s ≠ [] ∧ s.length ≤ 8

theorem htmlEntity_tr (T : Nat) (es : List Value) (hE : EntOK es) (l : List UInt8) :
    Tr Tryz.prog 86 [str l] [ent T es] fun u K => (∃ s ok, u = .tuple #[str s, .bool ok] ∧ s.length ≤ 8 ∧ (ok = true → s ≠ [])) ∧ K = [ent T es] := by
  refine Tr.start (n := 19) (rs := [.tmp 2, .tmp 3]) rfl rfl rfl rfl fun B => ?_
  (repeat' (first | refine k_seq ?_ | refine k_region ?_ | refine k_nil ?_ | refine k_then ?_ | refine k_blk ?_ | refine s_assign ?_))
  refine k_loop (fun k : Nat => [(0, str l), (4, inat k)]) (fun _ => [ent T es]) (fun k => k ≤ 12) (fun k => 12 - k) 0 (by omega) (Knows.spec (by repeat (first | exact trivial | refine ⟨rfl, ?_⟩))) (by repeat (first | exact SubH.nilR _ | refine SubH.pick (by repeat (first | exact HTake.here | apply HTake.there)) ?_)) fun k hk => ?_
  by_cases hlt : k < 12
  · obtain ⟨s1, e1, _, _⟩ := hE (0 + k * 2 + 0 * 1) (by omega)
    obtain ⟨s2, e2, n2, m2⟩ := hE (0 + k * 2 + 1 * 1) (by omega)
    by_cases h : s1 = l
    · (repeat' (first | refine s_idxarr ?_ | refine s_idxarr (i := 0) ?_ | refine s_idxarr (i := 1) ?_ | refine s_load (hc := e1) ?_ | refine s_load (hc := e2) ?_ | refine k_seq ?_ | refine k_region ?_ | refine k_nil ?_ | refine k_then ?_ | refine k_true ?_ | refine k_blk ?_ | refine k_skip ?_ | refine k_ret ?_ | refine k_ret_then ?_ | refine k_ret_block ?_ | refine s_move ?_ | refine s_assign ?_ | refine s_lss_t ?_ | refine s_eqs_t ?_))
      exact e_ret _ ⟨⟨s2, true, rfl, m2, fun _ => n2⟩, rfl⟩ (by repeat (first | exact SubH.nilR _ | refine SubH.pick (by repeat (first | exact HTake.here | apply HTake.there)) ?_))
    · (repeat' (first | refine s_idxarr ?_ | refine s_idxarr (i := 0) ?_ | refine s_load (hc := e1) ?_ | refine k_seq ?_ | refine k_region ?_ | refine k_nil ?_ | refine k_then ?_ | refine k_true ?_ | refine k_false ?_ | refine k_blk ?_ | refine k_skip ?_ | refine k_block ?_ | refine s_move ?_ | refine s_assign ?_ | refine s_add1 ?_ | refine s_lss_t ?_ | refine s_eqs_f ?_))
      exact ⟨k + 1, (Knows.spec (by repeat (first | exact trivial | refine ⟨rfl, ?_⟩))), (by repeat (first | exact SubH.nilR _ | refine SubH.pick (by repeat (first | exact HTake.here | apply HTake.there)) ?_)), by omega, by omega⟩
  · have : k = 12 := by omega
    subst this
    (repeat' (first | refine k_seq ?_ | refine k_region ?_ | refine k_nil ?_ | refine k_then ?_ | refine k_false ?_ | refine k_exit ?_ | refine k_exit_then ?_ | refine k_hit ?_ | refine k_ret ?_ | refine s_move ?_ | refine s_assign ?_ | refine s_lss_f ?_))
    exact e_ret _ ⟨⟨[], false, rfl, by simp, fun h => (by cases h)⟩, rfl⟩ (by repeat (first | exact SubH.nilR _ | refine SubH.pick (by repeat (first | exact HTake.here | apply HTake.there)) ?_))

/-! strings.Builder -/
abbrev bldb (b : Nat) (p v : Value) : Blk := [(b, cellsOf [p, v] 245)]
abbrev Bys (v : Value) (l : List UInt8) (R : Blk) : Prop := Own 5 1 v l.length (Lib.byteCells l) R
theorem Bys.app {v : Value} {l s : List UInt8} {R : Blk} (h : Own 5 1 v (l.length + s.length) (Lib.byteCells l ++ Lib.byteCells s) R) : Bys v (l ++ s) R := by
  have e1 : Lib.byteCells (l ++ s) = Lib.byteCells l ++ Lib.byteCells s := by simp [Lib.byteCells]
  unfold Bys
  rw [e1, List.length_append]; exact h

theorem copyCheck_used (b : Nat) (v : Value) : TrD Tryz.prog 172 [lp b] [bldb b (lp b) v] unit [bldb b (lp b) v] := by
  refine Tr.start (n := 20) (rs := []) rfl rfl rfl rfl fun B => ?_
  (repeat' (first | refine k_seq ?_ | refine k_region ?_ | refine k_nil ?_ | refine k_then ?_ | refine k_false ?_ | refine s_move ?_ | refine s_load ?_ | refine s_field ?_ | refine s_nilp ?_ | refine s_eqp1 ?_))
  refine Ops.pure (.bool false) (p_ne (u := lp b) (v := lp b) (r := false) (by rfl) (by rfl) (by first | rfl | kernel_rfl) (fun w => Lib.run_neq_ptr_same (P := Tryz.prog) w ⟨b, 0, none⟩ Tryz.underlying243 (show (Tryz.prog).info? 245 = some Tryz.t245 by kernel_rfl))) (by rfl) ?_
  (repeat' (first | refine k_nil ?_ | refine k_then ?_ | refine k_false ?_ | refine k_skip ?_))
  exact e_norm _ ⟨rfl, rfl⟩ (by repeat (first | exact SubH.nilR _ | refine SubH.pick (by repeat (first | exact HTake.here | apply HTake.there)) ?_))
theorem copyCheck_fresh (b : Nat) (v : Value) : TrD Tryz.prog 172 [lp b] [bldb b (.pointer none) v] unit [bldb b (lp b) v] := by
  refine Tr.start (n := 20) (rs := []) rfl rfl rfl rfl fun B => ?_
  (repeat' (first | refine k_seq ?_ | refine k_region ?_ | refine k_nil ?_ | refine k_then ?_ | refine k_true ?_ | refine s_move ?_ | refine s_load ?_ | refine s_field ?_ | refine s_nilp ?_ | refine s_eqp0 ?_))
  refine Ops.pure _ (p_tounsafe (b := b) (off := 0) (cs := [.pointer none, v]) (T := 245) (j := Tryz.t245) Tryz.underlying243 Tryz.underlying291 (by kernel_rfl) (by decide) (by rfl) (by repeat (first | exact HMem.here | apply HMem.skip | apply HMem.there)) (by simp)) (by rfl) ?_
  refine Ops.pure _ (p_extern (v := lp b) (r := lp b) (by rfl) (fun w => by kernel_rfl)) (by rfl) ?_
  refine Ops.pure _ (p_fromunsafe (b := b) (off := 0) (cs := [.pointer none, v]) (T := 245) (j := Tryz.t245) Tryz.underlying291 Tryz.underlying243 (by kernel_rfl) (by rfl) (by repeat (first | exact HMem.here | apply HMem.skip | apply HMem.there)) (by kernel_rfl)) (by rfl) ?_
  (repeat' (first | refine k_nil ?_ | refine s_field ?_ | refine s_nilp ?_ | refine s_store ?_))
  exact e_norm _ ⟨rfl, rfl⟩ (by repeat (first | exact SubH.nilR _ | refine SubH.pick (by repeat (first | exact HTake.here | apply HTake.there)) ?_))
theorem copyCheck_tr (b : Nat) (p v : Value) (hp : p = .pointer none ∨ p = lp b) : TrD Tryz.prog 172 [lp b] [bldb b p v] unit [bldb b (lp b) v] := by
  rcases hp with rfl | rfl
  · exact copyCheck_fresh b v
  · exact copyCheck_used b v

theorem bldByte_tr (b : Nat) (p v : Value) (l : List UInt8) (R : Blk) (c : UInt8) (hp : p = .pointer none ∨ p = lp b) (hR : Bys v l R) (hl : l.length ≤ 10000000) :
    Tr Tryz.prog 148 [lp b, .int .u8 c.toNat] [bldb b p v, R] fun u K => u = .nilIface ∧ ∃ v' R', Bys v' (l ++ [c]) R' ∧ K = [bldb b (lp b) v', R'] := by
  refine Tr.start (n := 17) (rs := [.tmp 4]) rfl rfl rfl rfl fun B => ?_
  (repeat' (first | refine s_callD (copyCheck_tr b p v hp) ?_ | refine k_seq ?_ | refine k_region ?_ | refine k_nil ?_ | refine k_then ?_ | refine s_move ?_ | refine s_assign ?_ | refine s_load ?_ | refine s_field ?_ | refine s_nilp ?_ | refine s_bsl1 (fun _ => ?_)))
  refine s_app hR (by omega) (fun v2 R2 h2 => ?_)
  have h2' : Bys v2 (l ++ [c]) R2 := Bys.app h2
  obtain ⟨g2, cap2, cur2, rfl, rfl, _⟩ := h2.pos
  (repeat' (first | refine k_seq ?_ | refine k_region ?_ | refine k_nil ?_ | refine k_then ?_ | refine k_ret ?_ | refine s_assign ?_ | refine s_field ?_ | refine s_nilp ?_ | refine s_store ?_))
  exact e_ret _ ⟨rfl, _, _, h2', rfl⟩ (by repeat (first | exact SubH.nilR _ | refine SubH.pick (by repeat (first | exact HTake.here | apply HTake.there)) ?_))

theorem bldStr_tr (b : Nat) (p v : Value) (l : List UInt8) (R : Blk) (s : List UInt8) (hp : p = .pointer none ∨ p = lp b) (hR : Bys v l R) (hs : s ≠ []) (hl : l.length + s.length ≤ 100000000) :
    Tr Tryz.prog 139 [lp b, str s] [bldb b p v, R] fun u K => u = .tuple #[inat s.length, .nilIface] ∧ ∃ v' R', Bys v' (l ++ s) R' ∧ K = [bldb b (lp b) v', R'] := by
  have hs1 : 1 ≤ s.length := by cases s with | nil => exact absurd rfl hs | cons _ _ => simp
  refine Tr.start (n := 19) (rs := [.tmp 4, .tmp 5]) rfl rfl rfl rfl fun B => ?_
  (repeat' (first | refine s_callD (copyCheck_tr b p v hp) ?_ | refine k_seq ?_ | refine k_region ?_ | refine k_nil ?_ | refine k_then ?_ | refine s_move ?_ | refine s_assign ?_ | refine s_load ?_ | refine s_field ?_ | refine s_nilp ?_))
  refine s_appstr hR hs (by omega) (fun v2 R2 h2 => ?_)
  have h2' : Bys v2 (l ++ s) R2 := Bys.app h2
  rw [show l.length + s.length = l.length + s.length - 1 + 1 by omega] at h2
  obtain ⟨g2, cap2, cur2, rfl, rfl, _⟩ := h2.pos
  (repeat' (first | refine k_seq ?_ | refine k_region ?_ | refine k_nil ?_ | refine k_then ?_ | refine k_ret ?_ | refine s_move ?_ | refine s_assign ?_ | refine s_field ?_ | refine s_nilp ?_ | refine s_lens ?_ | refine s_store ?_))
  exact e_ret _ ⟨rfl, _, _, h2', rfl⟩ (by repeat (first | exact SubH.nilR _ | refine SubH.pick (by repeat (first | exact HTake.here | apply HTake.there)) ?_))

theorem bldString_tr (b : Nat) (p v : Value) (l : List UInt8) (R : Blk) (hR : Bys v l R) (hne : l ≠ []) (hl : l.length ≤ 100000000) :
    Tr Tryz.prog 141 [lp b] [bldb b p v, R] fun u K => u = str l ∧ K = [] := by
  have hl1 : 1 ≤ l.length := by cases l with | nil => exact absurd rfl hne | cons _ _ => simp
  have hx' : Own 5 1 v (l.length - 1 + 1) (Lib.byteCells l) R := by rw [show l.length - 1 + 1 = l.length by omega]; exact hR
  obtain ⟨g, cap, cur, rfl, rfl, k1, k2, k3, k4⟩ := hx'.pos
  rw [show l.length - 1 + 1 = l.length by omega, Nat.mul_one] at k4
  rw [show l.length - 1 + 1 = l.length by omega]
  refine Tr.start (n := 14) (rs := [.tmp 2]) rfl rfl rfl rfl fun B => ?_
  (repeat' (first | refine Wp.draw_tail (id := 1) 10 Mixed.out (by kernel_rfl) ?_ | refine OpsS.pure _ (p_usd (by rfl) (by omega)) (by rfl) ?_ | refine k_seq ?_ | refine k_region ?_ | refine k_nil ?_ | refine k_then ?_ | refine s_assign ?_ | refine u_nil ?_ | refine u_move ?_ | refine u_load ?_ | refine u_field ?_ | refine u_nilp ?_ | refine u_len ?_))
  refine s_ustr (g := g) (cur := cur) (e := 5) (l := l) Tryz.underlying282 (by kernel_rfl) hne (by omega) (by omega) k4 ?_
  (repeat' (first | refine k_nil ?_ | refine k_then ?_ | refine k_ret ?_ | refine s_assign ?_))
  exact e_ret [] ⟨rfl, rfl⟩ (by repeat (first | exact SubH.nilR _ | refine SubH.pick (by repeat (first | exact HTake.here | apply HTake.there)) ?_))
theorem bldString_nil (b : Nat) (p : Value) :
    Tr Tryz.prog 141 [lp b] [bldb b p (.slice none 0 0), []] fun u K => u = str [] ∧ K = [] := by
  refine Tr.start (n := 14) (rs := [.tmp 2]) rfl rfl rfl rfl fun B => ?_
  (repeat' (first | refine Wp.draw_tail (id := 1) 10 Mixed.out (by kernel_rfl) ?_ | refine OpsS.pure _ (p_usd_nil (by rfl)) (by rfl) ?_ | refine k_seq ?_ | refine k_region ?_ | refine k_nil ?_ | refine k_then ?_ | refine s_assign ?_ | refine u_nil ?_ | refine u_move ?_ | refine u_load ?_ | refine u_field ?_ | refine u_nilp ?_ | refine u_len ?_))
  refine Ops.pure _ (p_ustr_nil (by rfl) (by rfl)) (by rfl) ?_
  (repeat' (first | refine k_nil ?_ | refine k_then ?_ | refine k_ret ?_ | refine s_assign ?_))
  exact e_ret [] ⟨rfl, rfl⟩ (by repeat (first | exact SubH.nilR _ | refine SubH.pick (by repeat (first | exact HTake.here | apply HTake.there)) ?_))

structure UB where
  j : Nat
  p : Value
  v : Value
  R : Blk
  o : List UInt8
end Go.Proofs

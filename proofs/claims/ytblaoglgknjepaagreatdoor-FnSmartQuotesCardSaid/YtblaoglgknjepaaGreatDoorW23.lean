/- mergePlain where no two texts stand side by side. Conditions: bounds. -/
import Derived.Test.YtblaoglgknjepaaGreatDoorW22
import Derived.Test.YtblaoglgknjepaaGreatDoorEngB
namespace Go.Proofs
open Go Go.Eng
set_option maxRecDepth 20000
set_option maxHeartbeats 4000000

theorem mergePlain1_one (g off c q : Nat) (cur : List Value) (hq : cur[off]? = some (.iface 123 (lp q))) (m : Nat) (hm : m = 1) :
    TrD Tryz.prog 97 [.slice (some ⟨g, off, none⟩) m c] [[(g, cellsOf cur 99)]] (lp q) [[(g, cellsOf cur 99)]] := by
  subst hm
  have hq' : cur[off + 0 * 1]? = some (.iface 123 (lp q)) := hq
  refine Tr.start (n := 32) (rs := [.tmp 2]) rfl rfl rfl rfl fun B => ?_
  (repeat' (first | refine s_load (hc := hq') ?_ | refine s_pure (toPlain_yes q) ?_ | refine k_seq ?_ | refine k_region ?_ | refine k_nil ?_ | refine k_then ?_ | refine k_true ?_ | refine k_ret ?_ | refine k_ret_then ?_ | refine s_move ?_ | refine s_assign ?_ | refine s_eql_t ?_ | refine s_len ?_ | refine s_idxz ?_))
  exact e_ret _ ⟨rfl, rfl⟩ (by repeat (first | exact SubH.nilR _ | refine SubH.pick (by repeat (first | exact HTake.here | apply HTake.there)) ?_))

def isPl (v : Value) : Prop := ∃ q, v = .iface 123 (lp q)
def isEs (v : Value) : Prop := ∃ t u, v = .iface t u ∧ Nat.beq t 123 = false ∧ Nat.beq t 159 = false ∧ Nat.beq t 101 = false

theorem mergePlain_tr (p g n cap : Nat) (cur : List Value) (hn : n ≤ 1000000) (hn0 : 0 < n) (hcap : n ≤ cap) (hcl : cur.length = cap)
    (hv : ∀ j, j < n → ∃ v, cur[j]? = some v ∧ (isPl v ∨ isEs v)) (hadj : ∀ j v w, j + 1 < n → cur[j]? = some v → cur[j + 1]? = some w → isPl v → ¬ isPl w) :
    TrD Tryz.prog 55 [lp p, .slice (some ⟨g, 0, none⟩) n cap] [[(g, cellsOf cur 99)]] (.slice (some ⟨g, 0, none⟩) n cap) [[(g, cellsOf cur 99)]] := by
  refine Tr.start (n := 50) (rs := [.tmp 4]) rfl rfl rfl rfl fun B => ?_
  (repeat' (first | refine k_seq ?_ | refine k_region ?_ | refine k_nil ?_ | refine k_then ?_ | refine s_move ?_ | refine s_assign ?_ | refine s_slice0 ?_))
  refine k_mid [(5, .slice (some ⟨g, 0, none⟩) n cap)] [[(g, cellsOf cur 99)]] ?_ ?_
  · (repeat' (first | refine k_blk ?_))
    refine k_loop (fun x : Nat × Nat => [(1, .slice (some ⟨g, 0, none⟩) n cap), (5, .slice (some ⟨g, 0, none⟩) x.1 cap), (6, inat x.1), (7, inat x.2)]) (fun _ => [[(g, cellsOf cur 99)]])
      (fun x => x.1 ≤ x.2 ∧ x.2 ≤ n ∧ (x.2 = x.1 ∨ x.2 = x.1 + 1 ∧ ∃ v, cur[x.1]? = some v ∧ isPl v)) (fun x => n - x.2) (0, 0) ⟨by omega, by omega, .inl rfl⟩ (Knows.spec (by repeat (first | exact trivial | refine ⟨rfl, ?_⟩))) (by repeat (first | exact SubH.nilR _ | refine SubH.pick (by repeat (first | exact HTake.here | apply HTake.there)) ?_)) fun x hx => ?_
    obtain ⟨s, i⟩ := x
    obtain ⟨x1, x2, x3⟩ := hx
    simp only at x1 x2 x3 ⊢
    by_cases hi : i < n
    · obtain ⟨v, hv1, hv2⟩ := hv i hi
      rcases hv2 with ⟨q, rfl⟩ | ⟨ty, u, rfl, n1, n2, n3⟩
      · have hv1' : cur[0 + i * 1]? = some (.iface 123 (lp q)) := by rw [show 0 + i * 1 = i by omega]; exact hv1
        have his : i = s := by
          rcases x3 with h | ⟨h, v, h2, h3⟩
          · exact h
          · subst h; exact absurd ⟨q, rfl⟩ (hadj s _ _ hi h2 hv1 h3)
        subst his
        (repeat' (first | refine s_load (hc := hv1') ?_ | refine s_pure (toPlain_yes q) ?_ | refine k_seq ?_ | refine k_region ?_ | refine k_nil ?_ | refine k_then ?_ | refine k_true ?_ | refine k_blk ?_ | refine k_exit ?_ | refine k_exit_then ?_ | refine k_hit ?_ | refine s_grun ?_ | refine s_move ?_ | refine s_assign ?_ | refine s_add1 ?_ | refine s_lss_t ?_ | refine s_pickt ?_ | refine s_len ?_ | refine s_idxa ?_ | refine s_nep1 ?_))
        exact ⟨(i, i + 1), (Knows.spec (by repeat (first | exact trivial | refine ⟨rfl, ?_⟩))), (by repeat (first | exact SubH.nilR _ | refine SubH.pick (by repeat (first | exact HTake.here | apply HTake.there)) ?_)), ⟨by simp only; omega, by simp only; omega, .inr ⟨rfl, _, hv1, q, rfl⟩⟩, by simp only; omega⟩
      · have hv1' : cur[0 + i * 1]? = some (.iface ty u) := by rw [show 0 + i * 1 = i by omega]; exact hv1
        have hseti : cur.set i (.iface ty u) = cur := by
          obtain ⟨h1, h2⟩ := List.getElem?_eq_some_iff.1 hv1
          rw [← h2, List.set_getElem_self]
        rcases x3 with rfl | ⟨rfl, v, hs1, hsp⟩
        · (repeat' (first | refine s_load (hc := hv1') ?_ | refine s_pure (toPlain_no ty u n1 n2 n3) ?_ | refine k_seq ?_ | refine k_region ?_ | refine k_nil ?_ | refine k_then ?_ | refine k_false ?_ | refine k_blk ?_ | refine k_skip ?_ | refine s_grun ?_ | refine s_move ?_ | refine s_lss_t ?_ | refine s_lss_f ?_ | refine s_geq_f ?_ | refine s_pickt ?_ | refine s_len ?_ | refine s_idxa ?_ | refine s_nep0 ?_ | refine s_bsl1 (fun _ => ?_)))
          refine s_appin (m := i) (u := .iface ty u) hcl (by omega) ?_
          rw [hseti]
          (repeat' (first | refine k_region ?_ | refine k_nil ?_ | refine k_then ?_ | refine k_block ?_ | refine s_move ?_ | refine s_assign ?_ | refine s_add1 ?_))
          exact ⟨(i + 1, i + 1), (Knows.spec (by repeat (first | exact trivial | refine ⟨rfl, ?_⟩))), (by repeat (first | exact SubH.nilR _ | refine SubH.pick (by repeat (first | exact HTake.here | apply HTake.there)) ?_)), ⟨by simp only; omega, by simp only; omega, .inl rfl⟩, by simp only; omega⟩
        · obtain ⟨q, rfl⟩ := hsp
          have hs' : cur[0 + s * 1]? = some (.iface 123 (lp q)) := by rw [show 0 + s * 1 = s by omega]; exact hs1
          have hset : cur.set s (.iface 123 (lp q)) = cur := by
            obtain ⟨h1, h2⟩ := List.getElem?_eq_some_iff.1 hs1
            rw [← h2, List.set_getElem_self]
          (repeat' (first | refine s_load (hc := hv1') ?_ | refine s_pure (toPlain_no ty u n1 n2 n3) ?_ | refine s_callD (mergePlain1_one g _ _ q cur hs' (s + 1 - s) (by omega)) ?_ | refine k_seq ?_ | refine k_region ?_ | refine k_nil ?_ | refine k_then ?_ | refine k_true ?_ | refine k_false ?_ | refine k_blk ?_ | refine k_skip ?_ | refine s_grun ?_ | refine s_move ?_ | refine s_lss_t ?_ | refine s_pickt ?_ | refine s_len ?_ | refine s_idxa ?_ | refine s_mki ?_ | refine s_nep0 ?_ | refine s_slicelh ?_ | refine s_bsl1 (fun _ => ?_)))
          refine s_appin (m := s) (u := .iface 123 (lp q)) hcl (by omega) ?_
          rw [hset]
          (repeat' (first | refine s_load (hc := hv1') ?_ | refine k_seq ?_ | refine k_region ?_ | refine k_nil ?_ | refine k_then ?_ | refine k_false ?_ | refine k_skip ?_ | refine s_move ?_ | refine s_assign ?_ | refine s_geq_f ?_ | refine s_len ?_ | refine s_idxa ?_ | refine s_bsl1 (fun _ => ?_)))
          refine s_appin (m := s + 1) (u := .iface ty u) hcl (by omega) ?_
          rw [hseti]
          (repeat' (first | refine k_region ?_ | refine k_nil ?_ | refine k_then ?_ | refine k_block ?_ | refine s_move ?_ | refine s_assign ?_ | refine s_add1 ?_))
          exact ⟨(s + 1 + 1, s + 1 + 1), (Knows.spec (by repeat (first | exact trivial | refine ⟨rfl, ?_⟩))), (by repeat (first | exact SubH.nilR _ | refine SubH.pick (by repeat (first | exact HTake.here | apply HTake.there)) ?_)), ⟨by simp only; omega, by simp only; omega, .inl rfl⟩, by simp only; omega⟩
    · rcases x3 with rfl | ⟨rfl, v, hs1, hsp⟩
      · have : i = n := by omega
        subst this
        (repeat' (first | refine k_seq ?_ | refine k_region ?_ | refine k_nil ?_ | refine k_then ?_ | refine k_true ?_ | refine k_false ?_ | refine k_blk ?_ | refine k_skip ?_ | refine k_exit ?_ | refine k_exit_then ?_ | refine k_hit ?_ | refine k_miss ?_ | refine s_gskipt ?_ | refine s_move ?_ | refine s_lss_f ?_ | refine s_geq_t ?_ | refine s_pickf ?_ | refine s_len ?_))
        exact ⟨(by repeat (first | exact trivial | refine ⟨rfl, ?_⟩)), (by repeat (first | exact SubH.nilR _ | refine SubH.pick (by repeat (first | exact HTake.here | apply HTake.there)) ?_))⟩
      · obtain ⟨q, rfl⟩ := hsp
        have hs' : cur[0 + s * 1]? = some (.iface 123 (lp q)) := by rw [show 0 + s * 1 = s by omega]; exact hs1
        have hset : cur.set s (.iface 123 (lp q)) = cur := by
          obtain ⟨h1, h2⟩ := List.getElem?_eq_some_iff.1 hs1
          rw [← h2, List.set_getElem_self]
        have hn' : s + 1 = n := by omega
        subst hn'
        (repeat' (first | refine s_callD (mergePlain1_one g _ _ q cur hs' (s + 1 - s) (by omega)) ?_ | refine k_seq ?_ | refine k_region ?_ | refine k_nil ?_ | refine k_then ?_ | refine k_true ?_ | refine k_false ?_ | refine k_blk ?_ | refine k_skip ?_ | refine s_gskipt ?_ | refine s_move ?_ | refine s_lss_t ?_ | refine s_lss_f ?_ | refine s_pickf ?_ | refine s_len ?_ | refine s_mki ?_ | refine s_slicelh ?_ | refine s_bsl1 (fun _ => ?_)))
        refine s_appin (m := s) (u := .iface 123 (lp q)) hcl (by omega) ?_
        rw [hset]
        (repeat' (first | refine k_seq ?_ | refine k_region ?_ | refine k_nil ?_ | refine k_then ?_ | refine k_true ?_ | refine k_exit ?_ | refine k_exit_then ?_ | refine k_hit ?_ | refine k_miss ?_ | refine s_move ?_ | refine s_assign ?_ | refine s_geq_t ?_ | refine s_len ?_))
        exact ⟨(by repeat (first | exact trivial | refine ⟨rfl, ?_⟩)), (by repeat (first | exact SubH.nilR _ | refine SubH.pick (by repeat (first | exact HTake.here | apply HTake.there)) ?_))⟩
  · (repeat' (first | refine k_seq ?_ | refine k_region ?_ | refine k_nil ?_ | refine k_then ?_ | refine k_ret ?_ | refine s_move ?_ | refine s_assign ?_))
    exact e_ret _ ⟨rfl, rfl⟩ (by repeat (first | exact SubH.nilR _ | refine SubH.pick (by repeat (first | exact HTake.here | apply HTake.there)) ?_))

theorem Items.length {its : List Itm} {vals : List Value} {Bk : Blk} (h : Items its vals Bk) : vals.length = its.length := by
  induction h with
  | nil => rfl
  | snoc x q _ ih => simp [ih]
/-- Each value is that of its item. -/
theorem Items.get {its : List Itm} {vals : List Value} {Bk : Blk} (h : Items its vals Bk) : ∀ (j : Nat) (x : Itm), its[j]? = some x → ∃ q, vals[j]? = some (Value.iface x.ty (lp q)) ∧ x.cell q ∈ Bk := by
  induction h with
  | nil => intro j x hj; simp at hj
  | @snoc its vals Bk y q h ih =>
    intro j x hj
    have hlen := h.length
    by_cases hlt : j < its.length
    · rw [List.getElem?_append_left hlt] at hj
      obtain ⟨q', h1, h2⟩ := ih j x hj
      exact ⟨q', by rw [List.getElem?_append_left (by omega)]; exact h1, List.mem_cons_of_mem _ h2⟩
    · rw [List.getElem?_append_right (by omega)] at hj
      have hj0 : j - its.length = 0 := by
        cases hq : j - its.length with
        | zero => rfl
        | succ m => rw [hq] at hj; simp at hj
      rw [hj0] at hj
      simp at hj
      subst hj
      exact ⟨q, by rw [List.getElem?_append_right (by omega), show j - vals.length = 0 by omega]; rfl, List.mem_cons_self⟩
end Go.Proofs

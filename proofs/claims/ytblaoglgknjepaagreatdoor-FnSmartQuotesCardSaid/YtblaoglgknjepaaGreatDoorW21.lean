/- emph without openers and delimiters leaves the list. Conditions: bounds. -/
import Derived.Test.YtblaoglgknjepaaGreatDoorW20
import Derived.Test.YtblaoglgknjepaaGreatDoorEngB
namespace Go.Proofs
open Go Go.Eng
set_option maxRecDepth 20000
set_option maxHeartbeats 4000000

/-- Without openers and delimiters the list stays as it is. -/
theorem emph_tr (p g n cap : Nat) (cur : List Value) (hn : n ≤ 1000000) (hcap : n ≤ cap) (hcl : cur.length = cap)
    (hv : ∀ j, j < n → ∃ t u, cur[j]? = some (.iface t u) ∧ Nat.beq t 101 = false ∧ Nat.beq t 159 = false) :
    TrD Tryz.prog 54 [lp p, .slice (some ⟨g, 0, none⟩) 0 cap, .slice (some ⟨g, 0, none⟩) n cap] [[(g, cellsOf cur 99)]] (.slice (some ⟨g, 0, none⟩) n cap) [[(g, cellsOf cur 99)]] := by
  refine Tr.start (n := 436) (rs := [.tmp 6]) rfl rfl rfl rfl fun B => ?_
  (repeat' (first | refine k_seq ?_ | refine k_region ?_ | refine k_nil ?_ | refine k_then ?_ | refine k_scope ?_ | refine k_label ?_ | refine s_assign ?_ | refine s_mkfc ?_ | refine s_alloc (fun _ => ?_) | refine s_box1 (fun _ => ?_)))
  rename_i r4 r7
  refine k_mid [(0, lp p), (4, lp r4)] [[(g, cellsOf cur 99)], [(r4, cellsOf [.slice (some ⟨g, 0, none⟩) n cap] 56)]] ?_ ?_
  · (repeat' (first | refine k_blk ?_))
    refine k_loop (fun j : Nat => [(0, lp p), (2, .slice (some ⟨g, 0, none⟩) n cap), (4, lp r4), (10, inat j)]) (fun j => [[(g, cellsOf cur 99)], [(r4, cellsOf [.slice (some ⟨g, 0, none⟩) j cap] 56)]]) (fun j => j ≤ n) (fun j => n - j) 0 (by omega) (Knows.spec (by repeat (first | exact trivial | refine ⟨rfl, ?_⟩))) (by repeat (first | exact SubH.nilR _ | refine SubH.pick (by repeat (first | exact HTake.here | apply HTake.there)) ?_)) fun j hj => ?_
    by_cases hlt : j < n
    · obtain ⟨t, u, hu, ht1, ht2⟩ := hv j hlt
      have hu' : cur[0 + j * 1]? = some (.iface t u) := by rw [show 0 + j * 1 = j by omega]; exact hu
      have hset : cur.set j (.iface t u) = cur := by
        obtain ⟨h1, h2⟩ := List.getElem?_eq_some_iff.1 hu
        rw [← h2, List.set_getElem_self]
      (repeat' (first | refine s_load (hc := hu') ?_ | refine s_asno (hne := ht1) ?_ | refine s_asno (hne := ht2) ?_ | refine k_seq ?_ | refine k_region ?_ | refine k_nil ?_ | refine k_then ?_ | refine k_true ?_ | refine k_false ?_ | refine k_blk ?_ | refine k_skip ?_ | refine s_move ?_ | refine s_assign ?_ | refine s_lss_t ?_ | refine s_len ?_ | refine s_ext ?_ | refine s_idxa ?_ | refine s_notf ?_))
      refine Wp.draw_till (id := 12) [[(g, cellsOf cur 99)], [(r4, cellsOf [.slice (some ⟨g, 0, none⟩) j cap] 56)]] 7 8 Mixed.out (by repeat (first | exact SubH.nilR _ | refine SubH.pick (by repeat (first | exact HTake.here | apply HTake.there)) ?_)) rfl ?_
      refine OpsK.firstL 0 [] _ (by rfl) (by kernel_rfl) (by kernel_rfl) rfl (by kernel_rfl) (by kernel_rfl) rfl (by first | exact p_move rfl | exact p_assign rfl | exact p_extract rfl rfl | exact q_fieldAddr rfl | exact p_nilCheck rfl | exact q_load rfl (by repeat (first | exact HMem.here | apply HMem.skip | apply HMem.there)) rfl | exact q_load_agg rfl (by repeat (first | exact HMem.here | apply HMem.skip | apply HMem.there)) (by repeat constructor) | exact q_len_slice rfl | exact q_len_str rfl | exact q_indexAddr rfl rfl (by omega) | exact q_slice_str rfl rfl rfl (by omega) (by omega) | exact q_makeInterface rfl | exact q_assert rfl | exact p_build rfl (by repeat' (first | exact BFill.nil | refine' BFill.one (by rfl) (by rfl) (by repeat constructor) ?_ | refine' BFill.agg (by rfl) (by rfl) (by repeat constructor) ?_))) ?_
      refine OpsK.first 1 _ (by rfl) (by kernel_rfl) rfl (by kernel_rfl) (by kernel_rfl) rfl (by first | exact p_move rfl | exact p_assign rfl | exact p_extract rfl rfl | exact q_fieldAddr rfl | exact p_nilCheck rfl | exact q_load rfl (by repeat (first | exact HMem.here | apply HMem.skip | apply HMem.there)) rfl | exact q_load_agg rfl (by repeat (first | exact HMem.here | apply HMem.skip | apply HMem.there)) (by repeat constructor) | exact q_len_slice rfl | exact q_len_str rfl | exact q_indexAddr rfl rfl (by omega) | exact q_slice_str rfl rfl rfl (by omega) (by omega) | exact q_makeInterface rfl | exact q_assert rfl | exact p_build rfl (by repeat' (first | exact BFill.nil | refine' BFill.one (by rfl) (by rfl) (by repeat constructor) ?_ | refine' BFill.agg (by rfl) (by rfl) (by repeat constructor) ?_))) ?_
      refine OpsK.first 2 _ (by rfl) (by kernel_rfl) rfl (by kernel_rfl) (by kernel_rfl) rfl (by first | exact p_move rfl | exact p_assign rfl | exact p_extract rfl rfl | exact q_fieldAddr rfl | exact p_nilCheck rfl | exact q_load rfl (by repeat (first | exact HMem.here | apply HMem.skip | apply HMem.there)) rfl | exact q_load_agg rfl (by repeat (first | exact HMem.here | apply HMem.skip | apply HMem.there)) (by repeat constructor) | exact q_len_slice rfl | exact q_len_str rfl | exact q_indexAddr rfl rfl (by omega) | exact q_slice_str rfl rfl rfl (by omega) (by omega) | exact q_makeInterface rfl | exact q_assert rfl | exact p_build rfl (by repeat' (first | exact BFill.nil | refine' BFill.one (by rfl) (by rfl) (by repeat constructor) ?_ | refine' BFill.agg (by rfl) (by rfl) (by repeat constructor) ?_))) ?_
      refine OpsK.first 3 _ (by rfl) (by kernel_rfl) rfl (by kernel_rfl) (by kernel_rfl) rfl (by first | exact p_move rfl | exact p_assign rfl | exact p_extract rfl rfl | exact q_fieldAddr rfl | exact p_nilCheck rfl | exact q_load rfl (by repeat (first | exact HMem.here | apply HMem.skip | apply HMem.there)) rfl | exact q_load_agg rfl (by repeat (first | exact HMem.here | apply HMem.skip | apply HMem.there)) (by repeat constructor) | exact q_len_slice rfl | exact q_len_str rfl | exact q_indexAddr rfl rfl (by omega) | exact q_slice_str rfl rfl rfl (by omega) (by omega) | exact q_makeInterface rfl | exact q_assert rfl | exact p_build rfl (by repeat' (first | exact BFill.nil | refine' BFill.one (by rfl) (by rfl) (by repeat constructor) ?_ | refine' BFill.agg (by rfl) (by rfl) (by repeat constructor) ?_))) ?_
      refine OpsK.firstL 4 [] _ (by rfl) (by kernel_rfl) (by kernel_rfl) rfl (by kernel_rfl) (by kernel_rfl) rfl (q_load rfl (by repeat (first | exact HMem.here | apply HMem.skip | apply HMem.there)) hu') ?_
      refine OpsK.only 5 _ (by kernel_rfl) rfl ?_
      (repeat' (first | refine k_nil ?_ | refine k_then ?_ | refine s_bsl1 (fun _ => ?_)))
      refine ⟨fun _ => (by repeat (first | exact SubH.nilR _ | refine SubH.pick (by repeat (first | exact HTake.here | apply HTake.there)) ?_)), ?_⟩
      refine OpsK.only 6 _ (by kernel_rfl) rfl ?_
      refine s_appin (m := j) (u := .iface t u) hcl (by omega) ?_
      rw [hset]
      (repeat' (first | refine k_nil ?_ | refine k_then ?_))
      refine ⟨fun _ => (by repeat (first | exact SubH.nilR _ | refine SubH.pick (by repeat (first | exact HTake.here | apply HTake.there)) ?_)), ?_⟩
      refine OpsK.only 7 _ (by kernel_rfl) rfl ?_
      (repeat' (first | refine k_nil ?_ | refine k_then ?_ | refine s_store ?_))
      refine ⟨(fun h0 => Bool.noConfusion (show true = false from h0)), ?_⟩
      refine OpsK.nil (by kernel_rfl) ?_
      (repeat' (first | refine k_region ?_ | refine k_nil ?_ | refine k_then ?_ | refine k_exit ?_ | refine k_exit_then ?_ | refine k_hit ?_ | refine s_move ?_ | refine s_assign ?_ | refine s_add1 ?_))
      exact ⟨j + 1, (Knows.spec (by repeat (first | exact trivial | refine ⟨rfl, ?_⟩))), (by repeat (first | exact SubH.nilR _ | refine SubH.pick (by repeat (first | exact HTake.here | apply HTake.there)) ?_)), by omega, by omega⟩
    · have : j = n := by omega
      subst this
      (repeat' (first | refine k_seq ?_ | refine k_region ?_ | refine k_nil ?_ | refine k_then ?_ | refine k_false ?_ | refine k_exit ?_ | refine k_exit_then ?_ | refine k_hit ?_ | refine s_move ?_ | refine s_lss_f ?_ | refine s_len ?_))
      exact ⟨(by repeat (first | exact trivial | refine ⟨rfl, ?_⟩)), (by repeat (first | exact SubH.nilR _ | refine SubH.pick (by repeat (first | exact HTake.here | apply HTake.there)) ?_))⟩
  · (repeat' (first | refine k_seq ?_ | refine k_region ?_ | refine k_nil ?_ | refine k_then ?_ | refine k_ret ?_ | refine k_ret_nogo ?_ | refine s_assign ?_ | refine s_load ?_))
    exact e_ret _ ⟨rfl, rfl⟩ (by repeat (first | exact SubH.nilR _ | refine SubH.pick (by repeat (first | exact HTake.here | apply HTake.there)) ?_))
end Go.Proofs

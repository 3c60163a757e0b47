/- isPunct, and parseEscape at punctuation. Conditions: bounds. -/
import Derived.Test.YtblaoglgknjepaaGreatDoorW17
import Derived.Test.YtblaoglgknjepaaGreatDoorEngB
namespace Go.Proofs
open Go Go.Eng
set_option maxRecDepth 20000
set_option maxHeartbeats 4000000

theorem isPunct_tr (c : Nat) (hc : c < 256) : TrP Tryz.prog 72 [.int .u8 c] (.bool (decide (33 ≤ c ∧ c ≤ 47 ∨ 58 ≤ c ∧ c ≤ 64 ∨ 91 ≤ c ∧ c ≤ 96 ∨ 123 ≤ c ∧ c ≤ 126))) := by
  refine Tr.start (n := 33) (rs := [.tmp 2]) rfl rfl rfl rfl fun B => ?_
  (repeat' (first | refine k_seq ?_ | refine k_region ?_ | refine k_nil ?_ | refine k_then ?_ | refine k_ret ?_ | refine s_grun ?_ | refine s_gskipt ?_ | refine s_gskipf ?_ | refine s_gskipu ?_ | refine s_move ?_ | refine s_assign ?_ | refine s_leq_f ?_ | refine s_leq ?_ | refine s_pickt ?_ | refine s_pickf ?_ | refine Ops.split_run (fun hg => ?_) (fun hg => ?_) | refine Ops.split_skip (fun hg => ?_) (fun hg => ?_)))
  all_goals (refine e_pure ?_; refine ⟨?_, rfl⟩; simp only [oneOr, Value.bool.injEq]; first | (symm; exact decide_eq_true (by omega)) | (symm; exact decide_eq_false (by omega)) | (rw [decide_eq_decide]; omega))

abbrev punct (c : UInt8) : Prop := 33 ≤ c.toNat ∧ c.toNat ≤ 47 ∨ 58 ≤ c.toNat ∧ c.toNat ≤ 64 ∨ 91 ≤ c.toNat ∧ c.toNat ≤ 96 ∨ 123 ≤ c.toNat ∧ c.toNat ≤ 126
theorem isPunct_yes (c : UInt8) (h : punct c) : TrP Tryz.prog 72 [.int .u8 c.toNat] (.bool true) := by
  have := isPunct_tr c.toNat c.toNat_lt
  rwa [decide_eq_true h] at this

theorem parseEscape_yes (p i : Nat) (tx : List UInt8) (c : UInt8) (hl : tx.length ≤ 140737488355328) (hc : tx[i + 1]? = some c) (hp : punct c) :
    Tr Tryz.prog 38 [lp p, str tx, inat i] [] fun u K => ∃ q, u = .tuple #[.iface 145 (lp q), inat i, inat (i + 2), .bool true] ∧ K = [[Itm.cell (.esc [c]) q]] := by
  have hi := (List.getElem?_eq_some_iff.1 hc).1
  have hs : (tx.take (i + 2)).drop (i + 1) = [c] := slice1 hc
  refine Tr.start (n := 75) (rs := [.tmp 6, .tmp 7, .tmp 8, .tmp 9]) rfl rfl rfl rfl fun B => ?_
  (repeat' (first | refine s_pure (isPunct_yes c hp) ?_ | refine k_seq ?_ | refine k_region ?_ | refine k_nil ?_ | refine k_then ?_ | refine k_true ?_ | refine k_ret ?_ | refine k_ret_then ?_ | refine s_move ?_ | refine s_assign ?_ | refine s_add1 ?_ | refine s_add2 ?_ | refine s_lss_t ?_ | refine s_lens ?_ | refine s_index ?_ | refine s_slices ?_ | refine s_mki ?_ | refine s_buildx ?_ | refine s_box (fun _ => ?_)))
  rename_i q
  rw [hs]
  exact e_ret [[Itm.cell (.esc [c]) q]] ⟨q, rfl, rfl⟩ (by repeat (first | exact SubH.nilR _ | refine SubH.pick (by repeat (first | exact HTake.here | apply HTake.there)) ?_))

/-- A line feed with no white space beside it. -/
theorem parseBreak_soft (p i : Nat) (tx : List UInt8) (hl : tx.length ≤ 140737488355328) (hi : i < tx.length) (hb : ∀ c, 0 < i → tx[i - 1]? = some c → ¬ c.toNat = 32 ∧ ¬ c.toNat = 9) (ha : ∀ c, tx[i + 1]? = some c → ¬ c.toNat = 32 ∧ ¬ c.toNat = 9) :
    Tr Tryz.prog 47 [lp p, str tx, inat i] [] fun u K => ∃ q, u = .tuple #[.iface 162 (lp q), inat i, inat (i + 1), .bool true] ∧ K = [[Itm.cell .brk q]] := by
  refine Tr.start (n := 77) (rs := [.tmp 6, .tmp 7, .tmp 8, .tmp 9]) rfl rfl rfl rfl fun B => ?_
  (repeat' (first | refine k_seq ?_ | refine k_region ?_ | refine k_nil ?_ | refine k_then ?_ | refine s_move ?_ | refine s_assign ?_))
  refine k_mid [(0, lp p), (1, str tx), (2, inat i), (10, inat i)] [] ?_ ?_
  · (repeat' (first | refine k_blk ?_))
    refine k_loop (fun _ : Unit => [(0, lp p), (1, str tx), (2, inat i), (10, inat i)]) (fun _ => []) (fun _ => True) (fun _ => 0) () trivial (Knows.spec (by repeat (first | exact trivial | refine ⟨rfl, ?_⟩))) (by repeat (first | exact SubH.nilR _ | refine SubH.pick (by repeat (first | exact HTake.here | apply HTake.there)) ?_)) fun k hk => ?_
    by_cases h0 : 0 < i
    · obtain ⟨c, hc⟩ : ∃ c, tx[i - 1]? = some c := ⟨_, List.getElem?_eq_getElem (by omega)⟩
      obtain ⟨h1, h2⟩ := hb c h0 hc
      (repeat' (first | refine k_seq ?_ | refine k_region ?_ | refine k_nil ?_ | refine k_then ?_ | refine k_false ?_ | refine k_exit ?_ | refine k_exit_then ?_ | refine k_hit ?_ | refine s_grun ?_ | refine s_move ?_ | refine s_sub1 ?_ | refine s_gtr_t ?_ | refine s_eql_f ?_ | refine s_pickt ?_ | refine s_pickf ?_ | refine s_index ?_))
      exact ⟨(by repeat (first | exact trivial | refine ⟨rfl, ?_⟩)), (by repeat (first | exact SubH.nilR _ | refine SubH.pick (by repeat (first | exact HTake.here | apply HTake.there)) ?_))⟩
    · (repeat' (first | refine k_seq ?_ | refine k_region ?_ | refine k_nil ?_ | refine k_then ?_ | refine k_false ?_ | refine k_exit ?_ | refine k_exit_then ?_ | refine k_hit ?_ | refine s_gskipt ?_ | refine s_gskipu ?_ | refine s_move ?_ | refine s_gtr_f ?_ | refine s_pickf ?_))
      exact ⟨(by repeat (first | exact trivial | refine ⟨rfl, ?_⟩)), (by repeat (first | exact SubH.nilR _ | refine SubH.pick (by repeat (first | exact HTake.here | apply HTake.there)) ?_))⟩
  · (repeat' (first | refine k_seq ?_ | refine k_region ?_ | refine k_nil ?_ | refine k_then ?_ | refine s_move ?_ | refine s_assign ?_ | refine s_add1 ?_))
    refine k_mid [(0, lp p), (1, str tx), (2, inat i), (10, inat i), (11, inat (i + 1))] [] ?_ ?_
    · (repeat' (first | refine k_blk ?_))
      refine k_loop (fun _ : Unit => [(0, lp p), (1, str tx), (2, inat i), (10, inat i), (11, inat (i + 1))]) (fun _ => []) (fun _ => True) (fun _ => 0) () trivial (Knows.spec (by repeat (first | exact trivial | refine ⟨rfl, ?_⟩))) (by repeat (first | exact SubH.nilR _ | refine SubH.pick (by repeat (first | exact HTake.here | apply HTake.there)) ?_)) fun k hk => ?_
      by_cases h0 : i + 1 < tx.length
      · obtain ⟨c, hc⟩ : ∃ c, tx[i + 1]? = some c := ⟨_, List.getElem?_eq_getElem h0⟩
        obtain ⟨h1, h2⟩ := ha c hc
        (repeat' (first | refine k_seq ?_ | refine k_region ?_ | refine k_nil ?_ | refine k_then ?_ | refine k_false ?_ | refine k_exit ?_ | refine k_exit_then ?_ | refine k_hit ?_ | refine s_grun ?_ | refine s_move ?_ | refine s_lss_t ?_ | refine s_eql_f ?_ | refine s_pickt ?_ | refine s_pickf ?_ | refine s_lens ?_ | refine s_index ?_))
        exact ⟨(by repeat (first | exact trivial | refine ⟨rfl, ?_⟩)), (by repeat (first | exact SubH.nilR _ | refine SubH.pick (by repeat (first | exact HTake.here | apply HTake.there)) ?_))⟩
      · (repeat' (first | refine k_seq ?_ | refine k_region ?_ | refine k_nil ?_ | refine k_then ?_ | refine k_false ?_ | refine k_exit ?_ | refine k_exit_then ?_ | refine k_hit ?_ | refine s_gskipt ?_ | refine s_gskipu ?_ | refine s_move ?_ | refine s_lss_f ?_ | refine s_pickf ?_ | refine s_lens ?_))
        exact ⟨(by repeat (first | exact trivial | refine ⟨rfl, ?_⟩)), (by repeat (first | exact SubH.nilR _ | refine SubH.pick (by repeat (first | exact HTake.here | apply HTake.there)) ?_))⟩
    · by_cases h0 : 2 ≤ i
      · obtain ⟨c, hc⟩ : ∃ c, tx[i - 1]? = some c := ⟨_, List.getElem?_eq_getElem (by omega)⟩
        obtain ⟨h1, h2⟩ := hb c (by omega) hc
        (repeat' (first | refine k_seq ?_ | refine k_region ?_ | refine k_nil ?_ | refine k_then ?_ | refine k_false ?_ | refine k_skip ?_ | refine k_ret ?_ | refine s_grun ?_ | refine s_gskipt ?_ | refine s_move ?_ | refine s_assign ?_ | refine s_sub1 ?_ | refine s_geq_t ?_ | refine s_eql_f ?_ | refine s_pickt ?_ | refine s_pickf ?_ | refine s_index ?_ | refine s_mki ?_ | refine s_buildx ?_ | refine s_box (fun _ => ?_)))
        rename_i q
        exact e_ret [[Itm.cell .brk q]] ⟨q, rfl, rfl⟩ (by repeat (first | exact SubH.nilR _ | refine SubH.pick (by repeat (first | exact HTake.here | apply HTake.there)) ?_))
      · (repeat' (first | refine k_seq ?_ | refine k_region ?_ | refine k_nil ?_ | refine k_then ?_ | refine k_false ?_ | refine k_skip ?_ | refine k_ret ?_ | refine s_gskipt ?_ | refine s_move ?_ | refine s_assign ?_ | refine s_geq_f ?_ | refine s_pickf ?_ | refine s_mki ?_ | refine s_buildx ?_ | refine s_box (fun _ => ?_)))
        rename_i q
        exact e_ret [[Itm.cell .brk q]] ⟨q, rfl, rfl⟩ (by repeat (first | exact SubH.nilR _ | refine SubH.pick (by repeat (first | exact HTake.here | apply HTake.there)) ?_))
end Go.Proofs

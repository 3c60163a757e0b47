/- isPunct, and parseEscape at punctuation. Conditions: bounds. -/
import Derived.Test.YtoponhlghkdbmaaGreatDoorW17
import Derived.Test.YtoponhlghkdbmaaGreatDoorEngB
namespace Go.Proofs
open Go Go.Eng
set_option maxRecDepth 20000
set_option maxHeartbeats 4000000

theorem isPunct_tr (c : Nat) (hc : c < 256) : TrP Tryz.prog 75 [.int .u8 c] (.bool (decide (33 ≤ c ∧ c ≤ 47 ∨ 58 ≤ c ∧ c ≤ 64 ∨ 91 ≤ c ∧ c ≤ 96 ∨ 123 ≤ c ∧ c ≤ 126))) := by
  refine Tr.start (n := 33) (rs := [.tmp 2]) rfl rfl rfl rfl fun B => ?_
  (repeat' (first | refine k_seq ?_ | refine k_region ?_ | refine k_nil ?_ | refine k_then ?_ | refine k_ret ?_ | refine s_grun ?_ | refine s_gskipt ?_ | refine s_gskipf ?_ | refine s_gskipu ?_ | refine s_move ?_ | refine s_assign ?_ | refine s_leq_f ?_ | refine s_leq ?_ | refine s_pickt ?_ | refine s_pickf ?_ | refine Ops.split_run (fun hg => ?_) (fun hg => ?_) | refine Ops.split_skip (fun hg => ?_) (fun hg => ?_)))
  all_goals (refine e_pure ?_; refine ⟨?_, rfl⟩; simp only [oneOr, Value.bool.injEq]; first | (symm; exact decide_eq_true (by omega)) | (symm; exact decide_eq_false (by omega)) | (rw [decide_eq_decide]; omega))

abbrev punct (c : UInt8) : Prop := 33 ≤ c.toNat ∧ c.toNat ≤ 47 ∨ 58 ≤ c.toNat ∧ c.toNat ≤ 64 ∨ 91 ≤ c.toNat ∧ c.toNat ≤ 96 ∨ 123 ≤ c.toNat ∧ c.toNat ≤ 126
theorem isPunct_yes (c : UInt8) (h : punct c) : TrP Tryz.prog 75 [.int .u8 c.toNat] (.bool true) := by
  have := isPunct_tr c.toNat c.toNat_lt
  rwa [decide_eq_true h] at this

theorem parseEscape_yes (p i : Nat) (tx : List UInt8) (c : UInt8) (hl : tx.length ≤ 140737488355328) (hc : tx[i + 1]? = some c) (hp : punct c) :
    Tr Tryz.prog 41 [lp p, str tx, inat i] [] fun u K => ∃ q, u = .tuple #[.iface 153 (lp q), inat i, inat (i + 2), .bool true] ∧ K = [[Itm.cell (.esc [c]) q]] := by
  have hi := (List.getElem?_eq_some_iff.1 hc).1
  have hs : (tx.take (i + 2)).drop (i + 1) = [c] := slice1 hc
  refine Tr.start (n := 75) (rs := [.tmp 6, .tmp 7, .tmp 8, .tmp 9]) rfl rfl rfl rfl fun B => ?_
  (repeat' (first | refine s_pure (isPunct_yes c hp) ?_ | refine k_seq ?_ | refine k_region ?_ | refine k_nil ?_ | refine k_then ?_ | refine k_true ?_ | refine k_ret ?_ | refine k_ret_then ?_ | refine s_move ?_ | refine s_assign ?_ | refine s_add1 ?_ | refine s_add2 ?_ | refine s_lss_t ?_ | refine s_lens ?_ | refine s_index ?_ | refine s_slices ?_ | refine s_mki ?_ | refine s_buildx ?_ | refine s_box (fun _ => ?_)))
  rename_i q
  rw [hs]
  exact e_ret [[Itm.cell (.esc [c]) q]] ⟨q, rfl, rfl⟩ (by repeat (first | exact SubH.nilR _ | refine SubH.pick (by repeat (first | exact HTake.here | apply HTake.there)) ?_))
end Go.Proofs

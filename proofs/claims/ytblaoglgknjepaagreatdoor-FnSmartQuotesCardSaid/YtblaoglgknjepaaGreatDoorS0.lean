/- strings.IndexByte, and laws.only. Conditions: bounds on the length. -/
import Derived.Test.YtblaoglgknjepaaGreatDoorW15
import Derived.Test.YtblaoglgknjepaaGreatDoorEngB
import Derived.Lib.IndexLaws
import Derived.Laws.StandIn
namespace Go.Proofs
open Go Go.Eng
set_option maxRecDepth 20000
set_option maxHeartbeats 4000000

theorem idxByte_lt {l : List UInt8} {c : UInt8} : (Lib.indexByte l c < 0) ↔ ¬ c ∈ l := by
  have h1 := Lib.indexByte_ge l c
  constructor
  · intro h hc
    have : Lib.indexByte l c = -1 := by omega
    obtain ⟨k, hk⟩ := List.getElem?_of_mem hc
    exact Lib.indexByte_none this k hk
  · intro h
    refine Classical.byContradiction fun hn => ?_
    obtain ⟨o, ho⟩ : ∃ o : Nat, Lib.indexByte l c = o := ⟨(Lib.indexByte l c).toNat, by omega⟩
    exact h (List.mem_of_getElem? (Lib.indexByte_some ho).1)

theorem indexByte_tr (l : List UInt8) (c : UInt8) : TrP Tryz.prog 20 [str l, .int .u8 c.toNat] (.int .i64 (Lib.indexByte l c)) := by
  have hf : ∀ w, (callFunc 32 #[str l, .int .u8 c.toNat]).run Tryz.prog w = .ok (.value (.int .i64 (Lib.indexByte l c))) w := by
    intro w
    rw [run_callFunc_indexByte (P := Tryz.prog) (f := 32) Tryz.func32 rfl rfl (by kernel_rfl) (by rfl)]
    have h := Lib.run_indexByteString (P := Tryz.prog) ⟨l.toArray⟩ c.toNat w
    simp at h
    show (Sem.run Tryz.prog (Extern.BytealgIndexByte.indexByte #[.string ⟨l.toArray⟩, .int .u8 c.toNat]) w).andThen _ = _
    rw [h]
    rfl
  have hs : TrP Tryz.prog 23 [str l, .int .u8 c.toNat] (.int .i64 (Lib.indexByte l c)) := by
    refine Tr.start (n := 8) (rs := [.tmp 4]) rfl rfl rfl rfl fun B => ?_
    (repeat' (first | refine Ops.pure _ (p_extern2 (by rfl) (by rfl) hf) (by rfl) ?_ | refine k_seq ?_ | refine k_region ?_ | refine k_nil ?_ | refine k_then ?_ | refine k_ret ?_ | refine s_move ?_ | refine s_assign ?_))
    exact e_pure ⟨rfl, rfl⟩
  refine Tr.start (n := 8) (rs := [.tmp 4]) rfl rfl rfl rfl fun B => ?_
  (repeat' (first | refine s_pure (hs) ?_ | refine k_seq ?_ | refine k_region ?_ | refine k_nil ?_ | refine k_then ?_ | refine k_ret ?_ | refine s_move ?_ | refine s_assign ?_))
  exact e_pure ⟨rfl, rfl⟩

theorem only_tr (l al : List UInt8) (most : Nat) (hl : l.length ≤ 2147483647) : Tr Tryz.prog 14 [str l, str al, inat most] [] fun u K => K = [] ∧ ∃ r, u = .bool r ∧ (r = true → l.length ≤ most ∧ ∀ c ∈ l, c ∈ al) := by
  refine Tr.start (n := 24) (rs := [.tmp 6]) rfl rfl rfl rfl fun B => ?_
  by_cases hm : most < l.length
  · (repeat' (first | refine k_seq ?_ | refine k_region ?_ | refine k_nil ?_ | refine k_then ?_ | refine k_true ?_ | refine k_ret ?_ | refine k_ret_then ?_ | refine s_move ?_ | refine s_assign ?_ | refine s_gtr_t ?_ | refine s_lens ?_))
    exact e_ret [] ⟨rfl, false, rfl, fun h => Bool.noConfusion h⟩ (by repeat (first | exact SubH.nilR _ | refine SubH.pick (by repeat (first | exact HTake.here | apply HTake.there)) ?_))
  (repeat' (first | refine k_seq ?_ | refine k_region ?_ | refine k_nil ?_ | refine k_then ?_ | refine k_false ?_ | refine k_skip ?_ | refine s_move ?_ | refine s_assign ?_ | refine s_gtr_f ?_ | refine s_lens ?_))
  refine k_midx (fun _ : Unit => []) (fun _ => []) (fun _ => l.length ≤ most ∧ ∀ c ∈ l, c ∈ al) ?_ ?_
  · (repeat' (first | refine k_blk ?_))
    refine k_loop (fun j : Nat => [(0, str l), (1, str al), (13, inat l.length), (14, inat j)]) (fun _ => []) (fun j => j ≤ l.length ∧ ∀ c ∈ l.take j, c ∈ al) (fun j => l.length - j) 0 ⟨Nat.zero_le _, by simp⟩ (Knows.spec (by repeat (first | exact trivial | refine ⟨rfl, ?_⟩))) (by repeat (first | exact SubH.nilR _ | refine SubH.pick (by repeat (first | exact HTake.here | apply HTake.there)) ?_)) fun j hj => ?_
    obtain ⟨hj, hA⟩ := hj
    by_cases h : j < l.length
    · obtain ⟨c, hc⟩ : ∃ c, l[j]? = some c := ⟨_, List.getElem?_eq_getElem h⟩
      have hI := indexByte_tr al c
      by_cases hin : c ∈ al
      · have hge : ¬ Lib.indexByte al c < 0 := fun hh => idxByte_lt.1 hh hin
        (repeat' (first | refine s_pure (hI) ?_ | refine k_seq ?_ | refine k_region ?_ | refine k_nil ?_ | refine k_then ?_ | refine k_true ?_ | refine k_false ?_ | refine k_blk ?_ | refine k_skip ?_ | refine k_block ?_ | refine s_move ?_ | refine s_assign ?_ | refine s_add1 ?_ | refine s_lss_t ?_ | refine s_lss_f ?_ | refine s_index ?_))
        refine ⟨j + 1, (Knows.spec (by repeat (first | exact trivial | refine ⟨rfl, ?_⟩))), (by repeat (first | exact SubH.nilR _ | refine SubH.pick (by repeat (first | exact HTake.here | apply HTake.there)) ?_)), ⟨by omega, fun d hd => ?_⟩, by omega⟩
        rw [List.take_add_one, hc] at hd
        rcases List.mem_append.1 hd with hd | hd
        · exact hA d hd
        · simp at hd; subst hd; exact hin
      · have hlt : Lib.indexByte al c < 0 := idxByte_lt.2 hin
        (repeat' (first | refine s_pure (hI) ?_ | refine k_seq ?_ | refine k_region ?_ | refine k_nil ?_ | refine k_then ?_ | refine k_true ?_ | refine k_blk ?_ | refine k_skip ?_ | refine k_ret ?_ | refine k_ret_then ?_ | refine k_ret_block ?_ | refine s_move ?_ | refine s_assign ?_ | refine s_lss_t ?_ | refine s_index ?_))
        exact e_ret [] ⟨rfl, false, rfl, fun h => Bool.noConfusion h⟩ (by repeat (first | exact SubH.nilR _ | refine SubH.pick (by repeat (first | exact HTake.here | apply HTake.there)) ?_))
    · have : j = l.length := by omega
      subst this
      rw [List.take_length] at hA
      (repeat' (first | refine k_seq ?_ | refine k_region ?_ | refine k_nil ?_ | refine k_then ?_ | refine k_false ?_ | refine k_exit ?_ | refine k_exit_then ?_ | refine k_hit ?_ | refine s_lss_f ?_))
      exact ⟨(), (by repeat (first | exact trivial | refine ⟨rfl, ?_⟩)), (by repeat (first | exact SubH.nilR _ | refine SubH.pick (by repeat (first | exact HTake.here | apply HTake.there)) ?_)), by omega, hA⟩
  · rintro _ hA
    (repeat' (first | refine k_seq ?_ | refine k_region ?_ | refine k_nil ?_ | refine k_then ?_ | refine k_ret ?_ | refine s_assign ?_))
    exact e_ret [] ⟨rfl, true, rfl, fun _ => hA⟩ (by repeat (first | exact SubH.nilR _ | refine SubH.pick (by repeat (first | exact HTake.here | apply HTake.there)) ?_))

end Go.Proofs

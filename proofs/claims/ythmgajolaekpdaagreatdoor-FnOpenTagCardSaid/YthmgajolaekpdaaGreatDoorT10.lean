/- strings.IndexByte, and laws.only. Conditions: bounds on the length. -/
import Derived.Test.YthmgajolaekpdaaGreatDoorT04
import Derived.Test.YthmgajolaekpdaaGreatDoorEngB
import Derived.Lib.IndexLaws
import Derived.Laws.StandIn
import Derived.Test.YthmgajolaekpdaaGreatDoorT09
namespace Go.Proofs
open Go Go.Eng
set_option maxRecDepth 20000
set_option maxHeartbeats 4000000

theorem idxByte_lt {l : List UInt8} {c : UInt8} : (Lib.indexByte l c < 0) ↔ ¬ c ∈ l := by
  have h1 := Lib.indexByte_ge l c
  constructor
  · intro h hc
    have : Lib.indexByte l c = -1 := by omega
    obtain ⟨k, hk⟩ := List.getElem?_of_mem hc
    exact Lib.indexByte_none this k hk
  · intro h
    refine Classical.byContradiction fun hn => ?_
    obtain ⟨o, ho⟩ : ∃ o : Nat, Lib.indexByte l c = o := ⟨(Lib.indexByte l c).toNat, by omega⟩
    exact h (List.mem_of_getElem? (Lib.indexByte_some ho).1)

theorem indexByte_tr (l : List UInt8) (c : UInt8) : TrP Tryz.prog 21 [str l, .int .u8 c.toNat] (.int .i64 (Lib.indexByte l c)) := by
  have hf : ∀ w, (callFunc 43 #[str l, .int .u8 c.toNat]).run Tryz.prog w = .ok (.value (.int .i64 (Lib.indexByte l c))) w := by
    intro w
    rw [run_callFunc_indexByte (P := Tryz.prog) (f := 43) Tryz.func43 rfl rfl (by kernel_rfl) (by rfl)]
    have h := Lib.run_indexByteString (P := Tryz.prog) ⟨l.toArray⟩ c.toNat w
    simp at h
    show (Sem.run Tryz.prog (Extern.BytealgIndexByte.indexByte #[.string ⟨l.toArray⟩, .int .u8 c.toNat]) w).andThen _ = _
    rw [h]
    rfl
  have hs : TrP Tryz.prog 33 [str l, .int .u8 c.toNat] (.int .i64 (Lib.indexByte l c)) := by
    refine Tr.start (n := 8) (rs := [.tmp 4]) rfl rfl rfl rfl fun B => ?_
    (repeat' (first | refine Ops.pure _ (p_extern2 (by rfl) (by rfl) hf) (by rfl) ?_ | refine k_seq ?_ | refine k_region ?_ | refine k_nil ?_ | refine k_then ?_ | refine k_ret ?_ | refine s_move ?_ | refine s_assign ?_))
    exact e_pure ⟨rfl, rfl⟩
  refine Tr.start (n := 8) (rs := [.tmp 4]) rfl rfl rfl rfl fun B => ?_
  (repeat' (first | refine s_pure (hs) ?_ | refine k_seq ?_ | refine k_region ?_ | refine k_nil ?_ | refine k_then ?_ | refine k_ret ?_ | refine s_move ?_ | refine s_assign ?_))
  exact e_pure ⟨rfl, rfl⟩

theorem only_tr (l al : List UInt8) (most : Nat) (hl : l.length ≤ 2147483647) : Tr Tryz.prog 8 [str l, str al, inat most] [] fun u K => K = [] ∧ ∃ r, u = .bool r ∧ (r = true → l.length ≤ most ∧ ∀ c ∈ l, c ∈ al) := by
  refine Tr.start (n := 24) (rs := [.tmp 6]) rfl rfl rfl rfl fun B => ?_
  by_cases hm : most < l.length
  · (repeat' (first | refine k_seq ?_ | refine k_region ?_ | refine k_nil ?_ | refine k_then ?_ | refine k_true ?_ | refine k_ret ?_ | refine k_ret_then ?_ | refine s_move ?_ | refine s_assign ?_ | refine s_gtr_t ?_ | refine s_lens ?_))
    exact e_ret [] ⟨rfl, false, rfl, fun h => Bool.noConfusion h⟩ (by repeat (first | exact SubH.nilR _ | refine SubH.pick (by repeat (first | exact HTake.here | apply HTake.there)) ?_))
  (repeat' (first | refine k_seq ?_ | refine k_region ?_ | refine k_nil ?_ | refine k_then ?_ | refine k_false ?_ | refine k_skip ?_ | refine s_move ?_ | refine s_assign ?_ | refine s_gtr_f ?_ | refine s_lens ?_))
  refine k_midx (fun _ : Unit => []) (fun _ => []) (fun _ => l.length ≤ most ∧ ∀ c ∈ l, c ∈ al) ?_ ?_
  · (repeat' (first | refine k_blk ?_))
    refine k_loop (fun j : Nat => [(0, str l), (1, str al), (13, inat l.length), (14, inat j)]) (fun _ => []) (fun j => j ≤ l.length ∧ ∀ c ∈ l.take j, c ∈ al) (fun j => l.length - j) 0 ⟨Nat.zero_le _, by simp⟩ (Knows.spec (by repeat (first | exact trivial | refine ⟨rfl, ?_⟩))) (by repeat (first | exact SubH.nilR _ | refine SubH.pick (by repeat (first | exact HTake.here | apply HTake.there)) ?_)) fun j hj => ?_
    obtain ⟨hj, hA⟩ := hj
    by_cases h : j < l.length
    · obtain ⟨c, hc⟩ : ∃ c, l[j]? = some c := ⟨_, List.getElem?_eq_getElem h⟩
      have hI := indexByte_tr al c
      by_cases hin : c ∈ al
      · have hge : ¬ Lib.indexByte al c < 0 := fun hh => idxByte_lt.1 hh hin
        (repeat' (first | refine s_pure (hI) ?_ | refine k_seq ?_ | refine k_region ?_ | refine k_nil ?_ | refine k_then ?_ | refine k_true ?_ | refine k_false ?_ | refine k_blk ?_ | refine k_skip ?_ | refine k_block ?_ | refine s_move ?_ | refine s_assign ?_ | refine s_add1 ?_ | refine s_lss_t ?_ | refine s_lss_f ?_ | refine s_index ?_))
        refine ⟨j + 1, (Knows.spec (by repeat (first | exact trivial | refine ⟨rfl, ?_⟩))), (by repeat (first | exact SubH.nilR _ | refine SubH.pick (by repeat (first | exact HTake.here | apply HTake.there)) ?_)), ⟨by omega, fun d hd => ?_⟩, by omega⟩
        rw [List.take_add_one, hc] at hd
        rcases List.mem_append.1 hd with hd | hd
        · exact hA d hd
        · simp at hd; subst hd; exact hin
      · have hlt : Lib.indexByte al c < 0 := idxByte_lt.2 hin
        (repeat' (first | refine s_pure (hI) ?_ | refine k_seq ?_ | refine k_region ?_ | refine k_nil ?_ | refine k_then ?_ | refine k_true ?_ | refine k_blk ?_ | refine k_skip ?_ | refine k_ret ?_ | refine k_ret_then ?_ | refine k_ret_block ?_ | refine s_move ?_ | refine s_assign ?_ | refine s_lss_t ?_ | refine s_index ?_))
        exact e_ret [] ⟨rfl, false, rfl, fun h => Bool.noConfusion h⟩ (by repeat (first | exact SubH.nilR _ | refine SubH.pick (by repeat (first | exact HTake.here | apply HTake.there)) ?_))
    · have : j = l.length := by omega
      subst this
      rw [List.take_length] at hA
      (repeat' (first | refine k_seq ?_ | refine k_region ?_ | refine k_nil ?_ | refine k_then ?_ | refine k_false ?_ | refine k_exit ?_ | refine k_exit_then ?_ | refine k_hit ?_ | refine s_lss_f ?_))
      exact ⟨(), (by repeat (first | exact trivial | refine ⟨rfl, ?_⟩)), (by repeat (first | exact SubH.nilR _ | refine SubH.pick (by repeat (first | exact HTake.here | apply HTake.there)) ?_)), by omega, hA⟩
  · rintro _ hA
    (repeat' (first | refine k_seq ?_ | refine k_region ?_ | refine k_nil ?_ | refine k_then ?_ | refine k_ret ?_ | refine s_assign ?_))
    exact e_ret [] ⟨rfl, true, rfl, fun _ => hA⟩ (by repeat (first | exact SubH.nilR _ | refine SubH.pick (by repeat (first | exact HTake.here | apply HTake.there)) ?_))

end Go.Proofs

namespace Go.Proofs
open Go Go.Eng
set_option maxRecDepth 20000
set_option maxHeartbeats 8000000

theorem skipSpaceG_tr (s : List UInt8) (i : Nat) (hl : s.length ≤ 1000000) (hi : i ≤ 100000000) : TrP Tryz.prog 108 [str s, inat i] (inat (scan isSp s i)) := by
  refine Tr.start (n := 30) (rs := [.tmp 4]) rfl rfl rfl rfl fun B => ?_
  (repeat' (first | refine k_seq ?_ | refine k_region ?_ | refine k_nil ?_ | refine k_then ?_ | refine k_blk ?_ | refine s_assign ?_))
  refine k_loop (fun k : Nat => [(0, str s), (1, inat k)]) (fun _ => []) (fun k => scan isSp s k = scan isSp s i ∧ k ≤ 100000000) (fun k => s.length - k) i ⟨rfl, hi⟩ (Knows.spec (by repeat (first | exact trivial | refine ⟨rfl, ?_⟩))) (by repeat (first | exact SubH.nilR _ | refine SubH.pick (by repeat (first | exact HTake.here | apply HTake.there)) ?_)) fun k hk => ?_
  obtain ⟨hk, hk2⟩ := hk
  by_cases hlt : k < s.length
  · obtain ⟨c, hc⟩ := get_some hlt
    by_cases h1 : c.toNat = 32
    · (repeat' (first | refine k_seq ?_ | refine k_region ?_ | refine k_nil ?_ | refine k_then ?_ | refine k_true ?_ | refine k_blk ?_ | refine k_skip ?_ | refine k_block ?_ | refine s_grun ?_ | refine s_gskipf ?_ | refine s_move ?_ | refine s_assign ?_ | refine s_add1 ?_ | refine s_lss_t ?_ | refine s_eql_t ?_ | refine s_pickt ?_ | refine s_lens ?_ | refine s_index ?_))
      exact ⟨k + 1, (Knows.spec (by repeat (first | exact trivial | refine ⟨rfl, ?_⟩))), (by repeat (first | exact SubH.nilR _ | refine SubH.pick (by repeat (first | exact HTake.here | apply HTake.there)) ?_)), ⟨by rw [← hk, scan_step hc (by simp [isSp, h1])], by omega⟩, by omega⟩
    by_cases h2 : c.toNat = 9
    · (repeat' (first | refine k_seq ?_ | refine k_region ?_ | refine k_nil ?_ | refine k_then ?_ | refine k_true ?_ | refine k_blk ?_ | refine k_skip ?_ | refine k_block ?_ | refine s_grun ?_ | refine s_gskipf ?_ | refine s_move ?_ | refine s_assign ?_ | refine s_add1 ?_ | refine s_lss_t ?_ | refine s_eql_t ?_ | refine s_eql_f ?_ | refine s_pickt ?_ | refine s_pickf ?_ | refine s_lens ?_ | refine s_index ?_))
      exact ⟨k + 1, (Knows.spec (by repeat (first | exact trivial | refine ⟨rfl, ?_⟩))), (by repeat (first | exact SubH.nilR _ | refine SubH.pick (by repeat (first | exact HTake.here | apply HTake.there)) ?_)), ⟨by rw [← hk, scan_step hc (by simp [isSp, h2])], by omega⟩, by omega⟩
    by_cases h3 : c.toNat = 10
    · (repeat' (first | refine k_seq ?_ | refine k_region ?_ | refine k_nil ?_ | refine k_then ?_ | refine k_true ?_ | refine k_blk ?_ | refine k_skip ?_ | refine k_block ?_ | refine s_grun ?_ | refine s_move ?_ | refine s_assign ?_ | refine s_add1 ?_ | refine s_lss_t ?_ | refine s_eql_t ?_ | refine s_eql_f ?_ | refine s_pickt ?_ | refine s_pickf ?_ | refine s_lens ?_ | refine s_index ?_))
      exact ⟨k + 1, (Knows.spec (by repeat (first | exact trivial | refine ⟨rfl, ?_⟩))), (by repeat (first | exact SubH.nilR _ | refine SubH.pick (by repeat (first | exact HTake.here | apply HTake.there)) ?_)), ⟨by rw [← hk, scan_step hc (by simp [isSp, h3])], by omega⟩, by omega⟩
    · rw [← hk, scan_stop hc (by simp [isSp, h1, h2, h3])]
      (repeat' (first | refine k_seq ?_ | refine k_region ?_ | refine k_nil ?_ | refine k_then ?_ | refine k_false ?_ | refine k_exit ?_ | refine k_exit_then ?_ | refine k_hit ?_ | refine k_ret ?_ | refine s_grun ?_ | refine s_move ?_ | refine s_assign ?_ | refine s_lss_t ?_ | refine s_eql_f ?_ | refine s_pickt ?_ | refine s_pickf ?_ | refine s_lens ?_ | refine s_index ?_))
      exact e_pure ⟨rfl, rfl⟩
  · rw [← hk, scan_end (by omega)]
    (repeat' (first | refine k_seq ?_ | refine k_region ?_ | refine k_nil ?_ | refine k_then ?_ | refine k_false ?_ | refine k_exit ?_ | refine k_exit_then ?_ | refine k_hit ?_ | refine k_ret ?_ | refine s_gskipt ?_ | refine s_gskipu ?_ | refine s_move ?_ | refine s_assign ?_ | refine s_lss_f ?_ | refine s_pickf ?_ | refine s_lens ?_))
    exact e_pure ⟨rfl, rfl⟩

def letB (c : UInt8) : Bool := decide (let8 c.toNat)
def ldhB (c : UInt8) : Bool := decide (ld8 c.toNat) || c.toNat == 45
theorem isLetB_tr (c : UInt8) : TrP Tryz.prog 136 [.int .u8 c.toNat] (.bool (letB c)) := isLetF c.toNat c.toNat_lt
theorem isLDHB_tr (c : UInt8) : TrP Tryz.prog 178 [.int .u8 c.toNat] (.bool (ldhB c)) := by
  by_cases h : ld8 c.toNat
  · have e : ldhB c = true := by simp [ldhB, h]
    rw [e]; exact isLDH_yes c h
  · by_cases h2 : c.toNat = 45
    · have e : ldhB c = true := by simp [ldhB, h2]
      rw [e]
      refine Tr.start (n := 9) (rs := [.tmp 2]) rfl rfl rfl rfl fun B => ?_
      (repeat' (first | refine s_pure (isLD_no c h) ?_ | refine k_seq ?_ | refine k_region ?_ | refine k_nil ?_ | refine k_then ?_ | refine k_ret ?_ | refine s_grun ?_ | refine s_move ?_ | refine s_assign ?_ | refine s_eql_t ?_ | refine s_pickf ?_))
      exact e_pure ⟨rfl, rfl⟩
    · have e : ldhB c = false := by simp [ldhB, h, h2]
      rw [e]; exact isLDH_no c h h2

/-- What is read from i on, and behind it. -/
def tri (s : List UInt8) (i : Nat) : Option Nat → Value
  | some j => .tuple #[str ((s.take j).drop i), inat j, .bool true]
  | none => .tuple #[str [], inat 0, .bool false]
def tagNameM (s : List UInt8) (i : Nat) : Option Nat := match s[i]? with
  | some c => if letB c = true then some (scan ldhB s (i + 1)) else none
  | none => none
theorem tagNameM_lt {s : List UInt8} {i j : Nat} (h : tagNameM s i = some j) : i < j ∧ j ≤ s.length := by
  unfold tagNameM at h
  split at h
  · rename_i c hc
    split at h
    · cases h
      have := (List.getElem?_eq_some_iff.1 hc).1
      exact ⟨by have := scan_ge ldhB s (i + 1); omega, scan_le (by omega)⟩
    · cases h
  · cases h
theorem tagNameG_tr (s : List UInt8) (i : Nat) (hl : s.length ≤ 1000000) (hi : i ≤ 100000000) : TrP Tryz.prog 179 [str s, inat i] (tri s i (tagNameM s i)) := by
  by_cases hlt : i < s.length
  · obtain ⟨c, hc⟩ := get_some hlt
    have hL := isLetB_tr c
    unfold tagNameM
    rw [hc]
    dsimp only
    cases hb : letB c with
    | false =>
      rw [hb] at hL
      simp only [Bool.false_eq_true, if_false]
      refine Tr.start (n := 37) (rs := [.tmp 4, .tmp 5, .tmp 6]) rfl rfl rfl rfl fun B => ?_
      (repeat' (first | refine s_pure (hL) ?_ | refine k_seq ?_ | refine k_region ?_ | refine k_nil ?_ | refine k_then ?_ | refine k_false ?_ | refine k_skip ?_ | refine k_ret ?_ | refine s_grun ?_ | refine s_move ?_ | refine s_assign ?_ | refine s_lss_t ?_ | refine s_pickt ?_ | refine s_lens ?_ | refine s_index ?_))
      exact e_pure ⟨rfl, rfl⟩
    | true =>
      rw [hb] at hL
      simp only [if_true]
      have hge := scan_ge ldhB s (i + 1)
      have hle := scan_le (p := ldhB) (s := s) (i := i + 1) (by omega)
      generalize hj : scan ldhB s (i + 1) = j at hge hle ⊢
      refine Tr.start (n := 37) (rs := [.tmp 4, .tmp 5, .tmp 6]) rfl rfl rfl rfl fun B => ?_
      (repeat' (first | refine s_pure (hL) ?_ | refine k_seq ?_ | refine k_region ?_ | refine k_nil ?_ | refine k_then ?_ | refine k_true ?_ | refine s_grun ?_ | refine s_move ?_ | refine s_assign ?_ | refine s_add1 ?_ | refine s_lss_t ?_ | refine s_pickt ?_ | refine s_lens ?_ | refine s_index ?_))
      refine k_mid [(0, str s), (1, inat i), (7, inat j)] [] ?_ ?_
      · (repeat' (first | refine k_blk ?_))
        refine k_loop (fun k : Nat => [(0, str s), (1, inat i), (7, inat k)]) (fun _ => []) (fun k => scan ldhB s k = j ∧ k ≤ s.length) (fun k => s.length - k) (i + 1) ⟨hj, by omega⟩ (Knows.spec (by repeat (first | exact trivial | refine ⟨rfl, ?_⟩))) (by repeat (first | exact SubH.nilR _ | refine SubH.pick (by repeat (first | exact HTake.here | apply HTake.there)) ?_)) fun k hk => ?_
        obtain ⟨hk1, hk2⟩ := hk
        by_cases hlt : k < s.length
        · obtain ⟨d, hd⟩ := get_some hlt
          have hD := isLDHB_tr d
          cases hb2 : ldhB d with
          | true =>
            rw [hb2] at hD
            (repeat' (first | refine s_pure (hD) ?_ | refine k_seq ?_ | refine k_region ?_ | refine k_nil ?_ | refine k_then ?_ | refine k_true ?_ | refine k_blk ?_ | refine k_skip ?_ | refine k_block ?_ | refine s_grun ?_ | refine s_move ?_ | refine s_assign ?_ | refine s_add1 ?_ | refine s_lss_t ?_ | refine s_pickt ?_ | refine s_lens ?_ | refine s_index ?_))
            exact ⟨k + 1, (Knows.spec (by repeat (first | exact trivial | refine ⟨rfl, ?_⟩))), (by repeat (first | exact SubH.nilR _ | refine SubH.pick (by repeat (first | exact HTake.here | apply HTake.there)) ?_)), ⟨by rw [← hk1, scan_step hd hb2], by omega⟩, by omega⟩
          | false =>
            rw [hb2] at hD
            have : k = j := by rw [← hk1, scan_stop hd hb2]
            subst this
            (repeat' (first | refine s_pure (hD) ?_ | refine k_seq ?_ | refine k_region ?_ | refine k_nil ?_ | refine k_then ?_ | refine k_false ?_ | refine k_exit ?_ | refine k_exit_then ?_ | refine k_hit ?_ | refine s_grun ?_ | refine s_move ?_ | refine s_lss_t ?_ | refine s_pickt ?_ | refine s_lens ?_ | refine s_index ?_))
            exact ⟨(by repeat (first | exact trivial | refine ⟨rfl, ?_⟩)), (by repeat (first | exact SubH.nilR _ | refine SubH.pick (by repeat (first | exact HTake.here | apply HTake.there)) ?_))⟩
        · have : k = j := by rw [← hk1, scan_end (by omega)]
          subst this
          (repeat' (first | refine k_seq ?_ | refine k_region ?_ | refine k_nil ?_ | refine k_then ?_ | refine k_false ?_ | refine k_exit ?_ | refine k_exit_then ?_ | refine k_hit ?_ | refine s_gskipt ?_ | refine s_move ?_ | refine s_lss_f ?_ | refine s_pickf ?_ | refine s_lens ?_))
          exact ⟨(by repeat (first | exact trivial | refine ⟨rfl, ?_⟩)), (by repeat (first | exact SubH.nilR _ | refine SubH.pick (by repeat (first | exact HTake.here | apply HTake.there)) ?_))⟩
      · (repeat' (first | refine k_seq ?_ | refine k_region ?_ | refine k_nil ?_ | refine k_then ?_ | refine k_ret ?_ | refine k_ret_then ?_ | refine s_move ?_ | refine s_assign ?_ | refine s_slices ?_))
        exact e_pure ⟨rfl, rfl⟩
  · unfold tagNameM
    rw [List.getElem?_eq_none (by omega)]
    refine Tr.start (n := 37) (rs := [.tmp 4, .tmp 5, .tmp 6]) rfl rfl rfl rfl fun B => ?_
    (repeat' (first | refine k_seq ?_ | refine k_region ?_ | refine k_nil ?_ | refine k_then ?_ | refine k_false ?_ | refine k_skip ?_ | refine k_ret ?_ | refine s_gskipt ?_ | refine s_move ?_ | refine s_assign ?_ | refine s_lss_f ?_ | refine s_pickf ?_ | refine s_lens ?_))
    exact e_pure ⟨rfl, rfl⟩

def name0B (c : UInt8) : Bool := letB c || c.toNat == 95 || c.toNat == 58
def nameB (c : UInt8) : Bool := ldhB c || c.toNat == 95 || c.toNat == 46 || c.toNat == 58
def attrNameM (s : List UInt8) (i : Nat) : Option Nat := match s[i]?, s[i + 1]? with
  | some c, some _ => if name0B c = true then some (scan nameB s (i + 1)) else none
  | _, _ => none
theorem attrNameM_lt {s : List UInt8} {i j : Nat} (h : attrNameM s i = some j) : i < j ∧ j ≤ s.length := by
  unfold attrNameM at h
  split at h
  · rename_i c d hc hd
    split at h
    · cases h
      have := (List.getElem?_eq_some_iff.1 hc).1
      exact ⟨by have := scan_ge nameB s (i + 1); omega, scan_le (by omega)⟩
    · cases h
  · cases h

theorem attrNameG_tr (s : List UInt8) (i : Nat) (hl : s.length ≤ 1000000) (hi : i ≤ 100000000) : TrP Tryz.prog 191 [str s, inat i] (tri s i (attrNameM s i)) := by
  by_cases hlt : i + 1 < s.length
  · obtain ⟨c, hc⟩ := get_some (show i < s.length by omega)
    obtain ⟨c1, hc1⟩ := get_some hlt
    have hL := isLetB_tr c
    unfold attrNameM
    rw [hc, hc1]
    dsimp only
    refine Tr.start (n := 68) (rs := [.tmp 4, .tmp 5, .tmp 6]) rfl rfl rfl rfl fun B => ?_
    ((repeat (refine k_seq ?_)); refine k_region ?_; (repeat' (first | refine s_assign ?_)); refine k_nil ?_; refine k_then ?_)
    (repeat (refine k_seq ?_))
    refine k_mid [(0, str s), (1, inat i), (30, .bool (name0B c))] [] ?_ ?_
    · cases hb : letB c with
      | true =>
        rw [hb] at hL
        have e : name0B c = true := by simp [name0B, hb]
        rw [e]
        (repeat' (first | refine s_pure (hL) ?_ | refine k_region ?_ | refine k_nil ?_ | refine k_then ?_ | refine s_grun ?_ | refine s_gskipf ?_ | refine s_move ?_ | refine s_add1 ?_ | refine s_lss_t ?_ | refine s_pickt ?_ | refine s_lens ?_ | refine s_index ?_))
        exact ⟨(by repeat (first | exact trivial | refine ⟨rfl, ?_⟩)), (by repeat (first | exact SubH.nilR _ | refine SubH.pick (by repeat (first | exact HTake.here | apply HTake.there)) ?_))⟩
      | false =>
        rw [hb] at hL
        by_cases h1 : c.toNat = 95
        · have e : name0B c = true := by simp [name0B, h1]
          rw [e]
          (repeat' (first | refine s_pure (hL) ?_ | refine k_region ?_ | refine k_nil ?_ | refine k_then ?_ | refine s_grun ?_ | refine s_gskipf ?_ | refine s_move ?_ | refine s_add1 ?_ | refine s_lss_t ?_ | refine s_eql_t ?_ | refine s_pickt ?_ | refine s_pickf ?_ | refine s_lens ?_ | refine s_index ?_))
          exact ⟨(by repeat (first | exact trivial | refine ⟨rfl, ?_⟩)), (by repeat (first | exact SubH.nilR _ | refine SubH.pick (by repeat (first | exact HTake.here | apply HTake.there)) ?_))⟩
        by_cases h2 : c.toNat = 58
        · have e : name0B c = true := by simp [name0B, h2]
          rw [e]
          (repeat' (first | refine s_pure (hL) ?_ | refine k_region ?_ | refine k_nil ?_ | refine k_then ?_ | refine s_grun ?_ | refine s_move ?_ | refine s_add1 ?_ | refine s_lss_t ?_ | refine s_eql_t ?_ | refine s_eql_f ?_ | refine s_pickt ?_ | refine s_pickf ?_ | refine s_lens ?_ | refine s_index ?_))
          exact ⟨(by repeat (first | exact trivial | refine ⟨rfl, ?_⟩)), (by repeat (first | exact SubH.nilR _ | refine SubH.pick (by repeat (first | exact HTake.here | apply HTake.there)) ?_))⟩
        · have e : name0B c = false := by simp [name0B, h1, h2, hb]
          rw [e]
          (repeat' (first | refine s_pure (hL) ?_ | refine k_region ?_ | refine k_nil ?_ | refine k_then ?_ | refine s_grun ?_ | refine s_move ?_ | refine s_add1 ?_ | refine s_lss_t ?_ | refine s_eql_f ?_ | refine s_pickt ?_ | refine s_pickf ?_ | refine s_lens ?_ | refine s_index ?_))
          exact ⟨(by repeat (first | exact trivial | refine ⟨rfl, ?_⟩)), (by repeat (first | exact SubH.nilR _ | refine SubH.pick (by repeat (first | exact HTake.here | apply HTake.there)) ?_))⟩
    · cases hb : name0B c with
      | false =>
        simp only [Bool.false_eq_true, if_false]
        (repeat' (first | refine k_seq ?_ | refine k_region ?_ | refine k_nil ?_ | refine k_then ?_ | refine k_false ?_ | refine k_skip ?_ | refine k_ret ?_ | refine s_assign ?_))
        exact e_pure ⟨rfl, rfl⟩
      | true =>
        simp only [if_true]
        have hge := scan_ge nameB s (i + 1)
        have hle := scan_le (p := nameB) (s := s) (i := i + 1) (by omega)
        generalize hj : scan nameB s (i + 1) = j at hge hle ⊢
        (repeat' (first | refine k_seq ?_ | refine k_region ?_ | refine k_nil ?_ | refine k_then ?_ | refine k_true ?_ | refine s_move ?_ | refine s_assign ?_ | refine s_add1 ?_))
        refine k_mid [(0, str s), (1, inat i), (7, inat j)] [] ?_ ?_
        · (repeat' (first | refine k_blk ?_))
          refine k_loop (fun k : Nat => [(0, str s), (1, inat i), (7, inat k)]) (fun _ => []) (fun k => scan nameB s k = j ∧ k ≤ s.length) (fun k => s.length - k) (i + 1) ⟨hj, by omega⟩ (Knows.spec (by repeat (first | exact trivial | refine ⟨rfl, ?_⟩))) (by repeat (first | exact SubH.nilR _ | refine SubH.pick (by repeat (first | exact HTake.here | apply HTake.there)) ?_)) fun k hk => ?_
          obtain ⟨hk1, hk2⟩ := hk
          by_cases hlt : k < s.length
          · obtain ⟨d, hd⟩ := get_some hlt
            have hD := isLDHB_tr d
            cases hb1 : ldhB d with
            | true =>
              rw [hb1] at hD
              (repeat' (first | refine s_pure (hD) ?_ | refine k_seq ?_ | refine k_region ?_ | refine k_nil ?_ | refine k_then ?_ | refine k_true ?_ | refine k_blk ?_ | refine k_skip ?_ | refine k_block ?_ | refine s_grun ?_ | refine s_gskipf ?_ | refine s_move ?_ | refine s_assign ?_ | refine s_add1 ?_ | refine s_lss_t ?_ | refine s_pickt ?_ | refine s_lens ?_ | refine s_index ?_))
              exact ⟨k + 1, (Knows.spec (by repeat (first | exact trivial | refine ⟨rfl, ?_⟩))), (by repeat (first | exact SubH.nilR _ | refine SubH.pick (by repeat (first | exact HTake.here | apply HTake.there)) ?_)), ⟨by rw [← hk1, scan_step hd (by simp [nameB, hb1])], by omega⟩, by omega⟩
            | false =>
              rw [hb1] at hD
              by_cases h1 : d.toNat = 95
              · (repeat' (first | refine s_pure (hD) ?_ | refine k_seq ?_ | refine k_region ?_ | refine k_nil ?_ | refine k_then ?_ | refine k_true ?_ | refine k_blk ?_ | refine k_skip ?_ | refine k_block ?_ | refine s_grun ?_ | refine s_gskipf ?_ | refine s_move ?_ | refine s_assign ?_ | refine s_add1 ?_ | refine s_lss_t ?_ | refine s_eql_t ?_ | refine s_pickt ?_ | refine s_pickf ?_ | refine s_lens ?_ | refine s_index ?_))
                exact ⟨k + 1, (Knows.spec (by repeat (first | exact trivial | refine ⟨rfl, ?_⟩))), (by repeat (first | exact SubH.nilR _ | refine SubH.pick (by repeat (first | exact HTake.here | apply HTake.there)) ?_)), ⟨by rw [← hk1, scan_step hd (by simp [nameB, h1])], by omega⟩, by omega⟩
              by_cases h2 : d.toNat = 46
              · (repeat' (first | refine s_pure (hD) ?_ | refine k_seq ?_ | refine k_region ?_ | refine k_nil ?_ | refine k_then ?_ | refine k_true ?_ | refine k_blk ?_ | refine k_skip ?_ | refine k_block ?_ | refine s_grun ?_ | refine s_gskipf ?_ | refine s_move ?_ | refine s_assign ?_ | refine s_add1 ?_ | refine s_lss_t ?_ | refine s_eql_t ?_ | refine s_eql_f ?_ | refine s_pickt ?_ | refine s_pickf ?_ | refine s_lens ?_ | refine s_index ?_))
                exact ⟨k + 1, (Knows.spec (by repeat (first | exact trivial | refine ⟨rfl, ?_⟩))), (by repeat (first | exact SubH.nilR _ | refine SubH.pick (by repeat (first | exact HTake.here | apply HTake.there)) ?_)), ⟨by rw [← hk1, scan_step hd (by simp [nameB, h2])], by omega⟩, by omega⟩
              by_cases h3 : d.toNat = 58
              · (repeat' (first | refine s_pure (hD) ?_ | refine k_seq ?_ | refine k_region ?_ | refine k_nil ?_ | refine k_then ?_ | refine k_true ?_ | refine k_blk ?_ | refine k_skip ?_ | refine k_block ?_ | refine s_grun ?_ | refine s_move ?_ | refine s_assign ?_ | refine s_add1 ?_ | refine s_lss_t ?_ | refine s_eql_t ?_ | refine s_eql_f ?_ | refine s_pickt ?_ | refine s_pickf ?_ | refine s_lens ?_ | refine s_index ?_))
                exact ⟨k + 1, (Knows.spec (by repeat (first | exact trivial | refine ⟨rfl, ?_⟩))), (by repeat (first | exact SubH.nilR _ | refine SubH.pick (by repeat (first | exact HTake.here | apply HTake.there)) ?_)), ⟨by rw [← hk1, scan_step hd (by simp [nameB, h3])], by omega⟩, by omega⟩
              · have : k = j := by rw [← hk1, scan_stop hd (by simp [nameB, hb1, h1, h2, h3])]
                subst this
                (repeat' (first | refine s_pure (hD) ?_ | refine k_seq ?_ | refine k_region ?_ | refine k_nil ?_ | refine k_then ?_ | refine k_false ?_ | refine k_exit ?_ | refine k_exit_then ?_ | refine k_hit ?_ | refine s_grun ?_ | refine s_move ?_ | refine s_lss_t ?_ | refine s_eql_f ?_ | refine s_pickt ?_ | refine s_pickf ?_ | refine s_lens ?_ | refine s_index ?_))
                exact ⟨(by repeat (first | exact trivial | refine ⟨rfl, ?_⟩)), (by repeat (first | exact SubH.nilR _ | refine SubH.pick (by repeat (first | exact HTake.here | apply HTake.there)) ?_))⟩
          · have : k = j := by rw [← hk1, scan_end (by omega)]
            subst this
            (repeat' (first | refine k_seq ?_ | refine k_region ?_ | refine k_nil ?_ | refine k_then ?_ | refine k_false ?_ | refine k_exit ?_ | refine k_exit_then ?_ | refine k_hit ?_ | refine s_gskipt ?_ | refine s_gskipu ?_ | refine s_move ?_ | refine s_lss_f ?_ | refine s_pickf ?_ | refine s_lens ?_))
            exact ⟨(by repeat (first | exact trivial | refine ⟨rfl, ?_⟩)), (by repeat (first | exact SubH.nilR _ | refine SubH.pick (by repeat (first | exact HTake.here | apply HTake.there)) ?_))⟩
        · (repeat' (first | refine k_seq ?_ | refine k_region ?_ | refine k_nil ?_ | refine k_then ?_ | refine k_ret ?_ | refine k_ret_then ?_ | refine s_move ?_ | refine s_assign ?_ | refine s_slices ?_))
          exact e_pure ⟨rfl, rfl⟩
  · have e : attrNameM s i = none := by
      unfold attrNameM
      rw [List.getElem?_eq_none (show s.length ≤ i + 1 by omega)]
      cases s[i]? <;> rfl
    rw [e]
    refine Tr.start (n := 68) (rs := [.tmp 4, .tmp 5, .tmp 6]) rfl rfl rfl rfl fun B => ?_
    (repeat' (first | refine k_seq ?_ | refine k_region ?_ | refine k_nil ?_ | refine k_then ?_ | refine k_false ?_ | refine k_skip ?_ | refine k_ret ?_ | refine s_gskipt ?_ | refine s_gskipu ?_ | refine s_move ?_ | refine s_assign ?_ | refine s_add1 ?_ | refine s_lss_f ?_ | refine s_pickf ?_ | refine s_lens ?_))
    exact e_pure ⟨rfl, rfl⟩
end Go.Proofs

namespace Go.Proofs
open Go Go.Eng
set_option maxRecDepth 20000
set_option maxHeartbeats 8000000

/-- Where a byte stands first in a text. -/
def bix (c : UInt8) (l : List UInt8) : Option Nat := if fst1 c l < l.length then some (fst1 c l) else none
theorem bix_lt {c : UInt8} {l : List UInt8} {k : Nat} (h : bix c l = some k) : k < l.length := by
  unfold bix at h
  split at h
  · cases h; assumption
  · cases h
theorem bix_index (c : UInt8) (l : List UInt8) : Lib.indexByte l c = oint (bix c l) := by
  unfold bix
  split
  · rename_i h
    have h1 := fst1_at h
    have hn : ∀ k, k < fst1 c l → l[k]? ≠ some c := fun k hk e => by
      obtain ⟨d, hd, hne⟩ := fst1_lt hk
      rw [hd] at e; cases e; exact hne rfl
    have h0 : ¬ Lib.indexByte l c < 0 := fun hh => idxByte_lt.1 hh (List.mem_of_getElem? h1)
    obtain ⟨o', ho⟩ : ∃ o : Nat, Lib.indexByte l c = o := ⟨(Lib.indexByte l c).toNat, by omega⟩
    obtain ⟨a1, a2⟩ := Lib.indexByte_some ho
    rw [ho]
    show (o' : Int) = ((fst1 c l : Nat) : Int)
    rcases Nat.lt_trichotomy o' (fst1 c l) with h3 | h3 | h3
    · exact absurd a1 (hn o' h3)
    · rw [h3]
    · exact absurd h1 (a2 _ h3)
  · rename_i h
    have h2 : ¬ c ∈ l := fun hm => by
      obtain ⟨k, hk, e⟩ := List.mem_iff_getElem.1 hm
      have : l[k]? = some c := by rw [List.getElem?_eq_getElem hk, e]
      have hlt : k < fst1 c l := by omega
      obtain ⟨d, hd, hne⟩ := fst1_lt hlt
      rw [this] at hd; cases hd; exact hne rfl
    have h3 := idxByte_lt.2 h2
    have h4 := Lib.indexByte_ge l c
    show Lib.indexByte l c = -1
    omega
theorem indexB_tr (l : List UInt8) (c : UInt8) : TrP Tryz.prog 21 [str l, .int .u8 c.toNat] (.int .i64 (oint (bix c l))) := by
  rw [← bix_index]; exact indexByte_tr l c

def unqB (c : UInt8) : Bool := !(c ∈ ([32, 9, 10, 34, 39, 61, 60, 62, 96] : List UInt8) : Bool)
def unqM (s : List UInt8) (i : Nat) : Option Nat := if i < scan unqB s i then some (scan unqB s i) else none
def attrValM (s : List UInt8) (i : Nat) : Option Nat := match s[i]? with
  | none => none
  | some q => if q.toNat = 39 ∨ q.toNat = 34 then (match bix q (s.drop (i + 1)) with
    | some j => some (i + 1 + j + 1)
    | none => unqM s i) else unqM s i
theorem unqM_lt {s : List UInt8} {i j : Nat} (hi : i ≤ s.length) (h : unqM s i = some j) : i < j ∧ j ≤ s.length := by
  unfold unqM at h
  split at h
  · cases h
    exact ⟨by assumption, scan_le hi⟩
  · cases h
theorem attrValM_lt {s : List UInt8} {i j : Nat} (h : attrValM s i = some j) : i < j ∧ j ≤ s.length := by
  unfold attrValM at h
  split at h
  · cases h
  · rename_i q hq
    have hi := (List.getElem?_eq_some_iff.1 hq).1
    split at h
    · split at h
      · rename_i j' hj
        cases h
        have := bix_lt hj
        rw [List.length_drop] at this
        omega
      · exact unqM_lt (by omega) h
    · exact unqM_lt (by omega) h
theorem unqB_idx (c : UInt8) : Lib.indexByte [32, 9, 10, 34, 39, 61, 60, 62, 96] c < 0 ↔ unqB c = true := by
  rw [idxByte_lt]; simp [unqB]

theorem attrValG_tr (s : List UInt8) (i : Nat) (hl : s.length ≤ 1000000) (hi : i ≤ 100000000) : TrP Tryz.prog 199 [str s, inat i] (tri s i (attrValM s i)) := by
  by_cases hlt : i < s.length
  · obtain ⟨q, hq⟩ := get_some hlt
    obtain ⟨b, hb⟩ : ∃ b : Bool, b = decide (q.toNat = 39 ∨ q.toNat = 34) := ⟨_, rfl⟩
    refine Tr.start (n := 68) (rs := [.tmp 4, .tmp 5, .tmp 6]) rfl rfl rfl rfl fun B => ?_
    ((repeat (refine k_seq ?_)); refine k_region ?_; (repeat' (first | refine s_assign ?_)); refine k_nil ?_; refine k_then ?_)
    (repeat (refine k_seq ?_))
    refine k_mid [(0, str s), (1, inat i), (25, .bool b)] [] ?_ ?_
    · rw [hb]
      by_cases h1 : q.toNat = 39
      · rw [decide_eq_true (.inl h1)]
        (repeat' (first | refine k_region ?_ | refine k_nil ?_ | refine k_then ?_ | refine s_grun ?_ | refine s_gskipf ?_ | refine s_move ?_ | refine s_lss_t ?_ | refine s_eql_t ?_ | refine s_pickt ?_ | refine s_lens ?_ | refine s_index ?_))
        exact ⟨(by repeat (first | exact trivial | refine ⟨rfl, ?_⟩)), (by repeat (first | exact SubH.nilR _ | refine SubH.pick (by repeat (first | exact HTake.here | apply HTake.there)) ?_))⟩
      by_cases h2 : q.toNat = 34
      · rw [decide_eq_true (.inr h2)]
        (repeat' (first | refine k_region ?_ | refine k_nil ?_ | refine k_then ?_ | refine s_grun ?_ | refine s_move ?_ | refine s_lss_t ?_ | refine s_eql_t ?_ | refine s_eql_f ?_ | refine s_pickt ?_ | refine s_pickf ?_ | refine s_lens ?_ | refine s_index ?_))
        exact ⟨(by repeat (first | exact trivial | refine ⟨rfl, ?_⟩)), (by repeat (first | exact SubH.nilR _ | refine SubH.pick (by repeat (first | exact HTake.here | apply HTake.there)) ?_))⟩
      · rw [decide_eq_false (by omega)]
        (repeat' (first | refine k_region ?_ | refine k_nil ?_ | refine k_then ?_ | refine s_grun ?_ | refine s_move ?_ | refine s_lss_t ?_ | refine s_eql_f ?_ | refine s_pickt ?_ | refine s_pickf ?_ | refine s_lens ?_ | refine s_index ?_))
        exact ⟨(by repeat (first | exact trivial | refine ⟨rfl, ?_⟩)), (by repeat (first | exact SubH.nilR _ | refine SubH.pick (by repeat (first | exact HTake.here | apply HTake.there)) ?_))⟩
    · refine k_midx (fun _ : Unit => [(0, str s), (1, inat i)]) (fun _ => []) (fun _ => attrValM s i = unqM s i) ?_ ?_
      · have hI := indexB_tr (s.drop (i + 1)) q
        cases hbb : b with
        | false =>
          rw [hbb] at hb
          have hn : ¬ (q.toNat = 39 ∨ q.toNat = 34) := of_decide_eq_false hb.symm
          (repeat' (first | refine k_then ?_ | refine k_false ?_ | refine k_skip ?_))
          exact ⟨(), (by repeat (first | exact trivial | refine ⟨rfl, ?_⟩)), (by repeat (first | exact SubH.nilR _ | refine SubH.pick (by repeat (first | exact HTake.here | apply HTake.there)) ?_)), by unfold attrValM; rw [hq]; dsimp only; rw [if_neg hn]⟩
        | true =>
          rw [hbb] at hb
          have hn : q.toNat = 39 ∨ q.toNat = 34 := of_decide_eq_true hb.symm
          cases hx : bix q (s.drop (i + 1)) with
          | none =>
            rw [hx, oint_none] at hI
            (repeat' (first | refine Wp.draw_tail (id := 2) 7 Mixed.out (by kernel_rfl) ?_ | refine s_pure (hI) ?_ | refine k_seq ?_ | refine k_region ?_ | refine k_nil ?_ | refine k_then ?_ | refine k_true ?_ | refine k_false ?_ | refine k_skip ?_ | refine s_move ?_ | refine s_assign ?_ | refine s_geq_f ?_ | refine u_nil ?_ | refine u_move ?_ | refine u_add1 ?_ | refine u_index ?_ | refine u_slicef ?_))
            exact ⟨(), (by repeat (first | exact trivial | refine ⟨rfl, ?_⟩)), (by repeat (first | exact SubH.nilR _ | refine SubH.pick (by repeat (first | exact HTake.here | apply HTake.there)) ?_)), by unfold attrValM; rw [hq]; dsimp only; rw [if_pos hn, hx]⟩
          | some j =>
            have hjl := bix_lt hx
            rw [List.length_drop] at hjl
            have e : attrValM s i = some (i + 1 + j + 1) := by unfold attrValM; rw [hq]; dsimp only; rw [if_pos hn, hx]
            rw [e]
            rw [hx] at hI
            have hoj : oint (some j) = (j : Int) := rfl
            rw [hoj] at hI
            (repeat' (first | refine Wp.draw_tail (id := 2) 7 Mixed.out (by kernel_rfl) ?_ | refine s_pure (hI) ?_ | refine k_seq ?_ | refine k_region ?_ | refine k_nil ?_ | refine k_then ?_ | refine k_true ?_ | refine k_ret ?_ | refine k_ret_then ?_ | refine s_move ?_ | refine s_assign ?_ | refine s_add1 ?_ | refine s_add ?_ | refine s_geq_t ?_ | refine s_slices ?_ | refine u_nil ?_ | refine u_move ?_ | refine u_add1 ?_ | refine u_index ?_ | refine u_slicef ?_))
            exact e_pure ⟨rfl, rfl⟩
      · rintro _ he
        rw [he]
        have hle := scan_le (p := unqB) (s := s) (i := i) (by omega)
        have hge := scan_ge unqB s i
        unfold unqM
        generalize hj : scan unqB s i = j at hle hge ⊢
        (repeat' (first | refine k_seq ?_ | refine k_region ?_ | refine k_nil ?_ | refine k_then ?_ | refine s_move ?_ | refine s_assign ?_))
        refine k_mid [(0, str s), (1, inat i), (9, inat j)] [] ?_ ?_
        · (repeat' (first | refine k_blk ?_))
          refine k_loop (fun k : Nat => [(0, str s), (1, inat i), (9, inat k)]) (fun _ => []) (fun k => scan unqB s k = j ∧ k ≤ s.length) (fun k => s.length - k) i ⟨hj, by omega⟩ (Knows.spec (by repeat (first | exact trivial | refine ⟨rfl, ?_⟩))) (by repeat (first | exact SubH.nilR _ | refine SubH.pick (by repeat (first | exact HTake.here | apply HTake.there)) ?_)) fun k hk => ?_
          obtain ⟨hk1, hk2⟩ := hk
          by_cases hlt : k < s.length
          · obtain ⟨d, hd⟩ := get_some hlt
            have hI0 := indexByte_tr [32, 9, 10, 34, 39, 61, 60, 62, 96] d
            cases hb1 : unqB d with
            | true =>
              have hneg := (unqB_idx d).2 hb1
              (repeat' (first | refine s_pure (hI0) ?_ | refine k_seq ?_ | refine k_region ?_ | refine k_nil ?_ | refine k_then ?_ | refine k_true ?_ | refine k_blk ?_ | refine k_skip ?_ | refine k_block ?_ | refine s_grun ?_ | refine s_move ?_ | refine s_assign ?_ | refine s_add1 ?_ | refine s_lss_t ?_ | refine s_pickt ?_ | refine s_lens ?_ | refine s_index ?_))
              exact ⟨k + 1, (Knows.spec (by repeat (first | exact trivial | refine ⟨rfl, ?_⟩))), (by repeat (first | exact SubH.nilR _ | refine SubH.pick (by repeat (first | exact HTake.here | apply HTake.there)) ?_)), ⟨by rw [← hk1, scan_step hd hb1], by omega⟩, by omega⟩
            | false =>
              have hneg : ¬ Lib.indexByte [32, 9, 10, 34, 39, 61, 60, 62, 96] d < 0 := fun h => by rw [(unqB_idx d).1 h] at hb1; cases hb1
              have : k = j := by rw [← hk1, scan_stop hd hb1]
              subst this
              (repeat' (first | refine s_pure (hI0) ?_ | refine k_seq ?_ | refine k_region ?_ | refine k_nil ?_ | refine k_then ?_ | refine k_false ?_ | refine k_exit ?_ | refine k_exit_then ?_ | refine k_hit ?_ | refine s_grun ?_ | refine s_move ?_ | refine s_lss_t ?_ | refine s_lss_f ?_ | refine s_pickt ?_ | refine s_lens ?_ | refine s_index ?_))
              exact ⟨(by repeat (first | exact trivial | refine ⟨rfl, ?_⟩)), (by repeat (first | exact SubH.nilR _ | refine SubH.pick (by repeat (first | exact HTake.here | apply HTake.there)) ?_))⟩
          · have : k = j := by rw [← hk1, scan_end (by omega)]
            subst this
            (repeat' (first | refine k_seq ?_ | refine k_region ?_ | refine k_nil ?_ | refine k_then ?_ | refine k_false ?_ | refine k_exit ?_ | refine k_exit_then ?_ | refine k_hit ?_ | refine s_gskipt ?_ | refine s_move ?_ | refine s_lss_f ?_ | refine s_pickf ?_ | refine s_lens ?_))
            exact ⟨(by repeat (first | exact trivial | refine ⟨rfl, ?_⟩)), (by repeat (first | exact SubH.nilR _ | refine SubH.pick (by repeat (first | exact HTake.here | apply HTake.there)) ?_))⟩
        · by_cases hij : i < j
          · rw [if_pos hij]
            (repeat' (first | refine k_seq ?_ | refine k_region ?_ | refine k_nil ?_ | refine k_then ?_ | refine k_true ?_ | refine k_ret ?_ | refine k_ret_then ?_ | refine s_move ?_ | refine s_assign ?_ | refine s_gtr_t ?_ | refine s_slices ?_))
            exact e_pure ⟨rfl, rfl⟩
          · rw [if_neg hij]
            (repeat' (first | refine k_seq ?_ | refine k_region ?_ | refine k_nil ?_ | refine k_then ?_ | refine k_false ?_ | refine k_skip ?_ | refine k_ret ?_ | refine s_move ?_ | refine s_assign ?_ | refine s_gtr_f ?_))
            exact e_pure ⟨rfl, rfl⟩
  · have e : attrValM s i = none := by
      unfold attrValM
      rw [List.getElem?_eq_none (by omega)]
    rw [e]
    refine Tr.start (n := 68) (rs := [.tmp 4, .tmp 5, .tmp 6]) rfl rfl rfl rfl fun B => ?_
    (repeat' (first | refine k_seq ?_ | refine k_region ?_ | refine k_nil ?_ | refine k_then ?_ | refine k_false ?_ | refine k_skip ?_ | refine s_gskipt ?_ | refine s_gskipu ?_ | refine s_move ?_ | refine s_assign ?_ | refine s_lss_f ?_ | refine s_pickf ?_ | refine s_lens ?_))
    refine k_mid [(0, str s), (1, inat i), (9, inat i)] [] ?_ ?_
    · (repeat' (first | refine k_blk ?_))
      refine k_loop (fun k : Unit => [(0, str s), (1, inat i), (9, inat i)]) (fun _ => []) (fun k => True) (fun k => 0) () trivial (Knows.spec (by repeat (first | exact trivial | refine ⟨rfl, ?_⟩))) (by repeat (first | exact SubH.nilR _ | refine SubH.pick (by repeat (first | exact HTake.here | apply HTake.there)) ?_)) fun k hk => ?_
      (repeat' (first | refine k_seq ?_ | refine k_region ?_ | refine k_nil ?_ | refine k_then ?_ | refine k_false ?_ | refine k_exit ?_ | refine k_exit_then ?_ | refine k_hit ?_ | refine s_gskipt ?_ | refine s_move ?_ | refine s_lss_f ?_ | refine s_pickf ?_ | refine s_lens ?_))
      exact ⟨(by repeat (first | exact trivial | refine ⟨rfl, ?_⟩)), (by repeat (first | exact SubH.nilR _ | refine SubH.pick (by repeat (first | exact HTake.here | apply HTake.there)) ?_))⟩
    · (repeat' (first | refine k_seq ?_ | refine k_region ?_ | refine k_nil ?_ | refine k_then ?_ | refine k_false ?_ | refine k_skip ?_ | refine k_ret ?_ | refine s_move ?_ | refine s_assign ?_ | refine s_gtr_f ?_))
      exact e_pure ⟨rfl, rfl⟩

theorem fffd_tr (s : List UInt8) (hl : s.length ≤ 1000000) : ∃ b, TrP Tryz.prog 44 [str s, str [239, 191, 189]] (.bool b) := ⟨_, zzContainsS_tr s _ hl (by decide) (by decide)⟩

def attrSpecM (s : List UInt8) (i : Nat) : Option Nat :=
  if s[scan isSp s i]? = some 61 ∧ scan isSp s i + 1 < s.length then attrValM s (scan isSp s (scan isSp s i + 1)) else none
def specAt (s : List UInt8) (i : Nat) : Nat := scan isSp s (scan isSp s i + 1)
theorem attrSpecM_lt {s : List UInt8} {i j : Nat} (h : attrSpecM s i = some j) : i < j ∧ j ≤ s.length := by
  unfold attrSpecM at h
  split at h
  · have h1 := scan_ge isSp s i
    have h2 := scan_ge isSp s (scan isSp s i + 1)
    have := attrValM_lt h
    omega
  · cases h
theorem attrSpecG_tr (p : Nat) (st : PS) (s : List UInt8) (i : Nat) (hl : s.length ≤ 1000000) (hi : i ≤ s.length) (cn : Bool) (hcn : st.corner = .bool cn) :
    Tr Tryz.prog 192 [lp p, str s, inat i] [st.blk p] fun u K => ∃ cn', u = tri s (specAt s i) (attrSpecM s i) ∧ K = [({ st with corner := .bool cn' } : PS).blk p] := by
  obtain ⟨par, root, links, lineno, stack, depth, corner, sv, em, list, lists, texts, bt⟩ := st
  subst hcn
  have h1 := skipSpaceG_tr s i hl (by omega)
  have hle1 := scan_le (p := isSp) hi
  unfold attrSpecM specAt
  generalize scan isSp s i = a at h1 hle1 ⊢
  by_cases ha : a + 1 < s.length
  · obtain ⟨c, hc⟩ := get_some (show a < s.length by omega)
    by_cases h61 : c.toNat = 61
    · have e61 : c = 61 := UInt8.toNat_inj.1 h61
      rw [hc, e61, if_pos ⟨rfl, ha⟩]
      have h2 := skipSpaceG_tr s (a + 1) hl (by omega)
      have hle2 := scan_le (p := isSp) (s := s) (i := a + 1) (by omega)
      generalize scan isSp s (a + 1) = b at h2 hle2 ⊢
      have h3 := attrValG_tr s b hl (by omega)
      cases hv : attrValM s b with
      | none =>
        rw [hv] at h3
        refine Tr.start (n := 57) (rs := [.tmp 6, .tmp 7, .tmp 8]) rfl rfl rfl rfl fun B => ?_
        (repeat' (first | refine s_pure (h1) ?_ | refine s_pure (h2) ?_ | refine s_pure (h3) ?_ | refine k_seq ?_ | refine k_region ?_ | refine k_nil ?_ | refine k_then ?_ | refine k_true ?_ | refine k_false ?_ | refine k_skip ?_ | refine k_ret ?_ | refine s_grun ?_ | refine s_move ?_ | refine s_assign ?_ | refine s_add1 ?_ | refine s_lss_t ?_ | refine s_eql_t ?_ | refine s_pickt ?_ | refine s_lens ?_ | refine s_index ?_ | refine s_ext ?_))
        exact e_ret _ ⟨cn, rfl, rfl⟩ (by repeat (first | exact SubH.nilR _ | refine SubH.pick (by repeat (first | exact HTake.here | apply HTake.there)) ?_))
      | some j =>
        rw [hv] at h3
        obtain ⟨hj1, hj2⟩ := attrValM_lt hv
        obtain ⟨bb, hb⟩ := fffd_tr ((s.take j).drop b) (by rw [List.length_drop, List.length_take]; omega)
        cases cn with
        | true =>
          refine Tr.start (n := 57) (rs := [.tmp 6, .tmp 7, .tmp 8]) rfl rfl rfl rfl fun B => ?_
          (repeat' (first | refine s_pure (h1) ?_ | refine s_pure (h2) ?_ | refine s_pure (h3) ?_ | refine k_seq ?_ | refine k_region ?_ | refine k_nil ?_ | refine k_then ?_ | refine k_true ?_ | refine k_ret ?_ | refine k_ret_then ?_ | refine s_grun ?_ | refine s_gskipf ?_ | refine s_move ?_ | refine s_assign ?_ | refine s_load ?_ | refine s_field ?_ | refine s_nilp ?_ | refine s_add1 ?_ | refine s_lss_t ?_ | refine s_eql_t ?_ | refine s_pickt ?_ | refine s_lens ?_ | refine s_index ?_ | refine s_ext ?_ | refine s_slices ?_ | refine s_store ?_))
          exact e_ret _ ⟨true, rfl, rfl⟩ (by repeat (first | exact SubH.nilR _ | refine SubH.pick (by repeat (first | exact HTake.here | apply HTake.there)) ?_))
        | false =>
          refine Tr.start (n := 57) (rs := [.tmp 6, .tmp 7, .tmp 8]) rfl rfl rfl rfl fun B => ?_
          (repeat' (first | refine s_pure (h1) ?_ | refine s_pure (h2) ?_ | refine s_pure (h3) ?_ | refine s_pure (hb) ?_ | refine k_seq ?_ | refine k_region ?_ | refine k_nil ?_ | refine k_then ?_ | refine k_true ?_ | refine k_ret ?_ | refine k_ret_then ?_ | refine s_grun ?_ | refine s_move ?_ | refine s_assign ?_ | refine s_load ?_ | refine s_field ?_ | refine s_nilp ?_ | refine s_add1 ?_ | refine s_lss_t ?_ | refine s_eql_t ?_ | refine s_pickt ?_ | refine s_pickf ?_ | refine s_lens ?_ | refine s_index ?_ | refine s_ext ?_ | refine s_slices ?_ | refine s_store ?_))
          exact e_ret _ ⟨bb, rfl, rfl⟩ (by repeat (first | exact SubH.nilR _ | refine SubH.pick (by repeat (first | exact HTake.here | apply HTake.there)) ?_))
    · rw [hc, if_neg (by rintro ⟨e, _⟩; cases e; exact h61 rfl)]
      refine Tr.start (n := 57) (rs := [.tmp 6, .tmp 7, .tmp 8]) rfl rfl rfl rfl fun B => ?_
      (repeat' (first | refine s_pure (h1) ?_ | refine k_seq ?_ | refine k_region ?_ | refine k_nil ?_ | refine k_then ?_ | refine k_false ?_ | refine k_skip ?_ | refine k_ret ?_ | refine s_grun ?_ | refine s_move ?_ | refine s_assign ?_ | refine s_add1 ?_ | refine s_lss_t ?_ | refine s_eql_f ?_ | refine s_pickt ?_ | refine s_lens ?_ | refine s_index ?_))
      exact e_ret _ ⟨cn, rfl, rfl⟩ (by repeat (first | exact SubH.nilR _ | refine SubH.pick (by repeat (first | exact HTake.here | apply HTake.there)) ?_))
  · rw [if_neg (by rintro ⟨_, e⟩; exact ha e)]
    refine Tr.start (n := 57) (rs := [.tmp 6, .tmp 7, .tmp 8]) rfl rfl rfl rfl fun B => ?_
    (repeat' (first | refine s_pure (h1) ?_ | refine k_seq ?_ | refine k_region ?_ | refine k_nil ?_ | refine k_then ?_ | refine k_false ?_ | refine k_skip ?_ | refine k_ret ?_ | refine s_gskipt ?_ | refine s_move ?_ | refine s_assign ?_ | refine s_add1 ?_ | refine s_lss_f ?_ | refine s_pickf ?_ | refine s_lens ?_))
    exact e_ret _ ⟨cn, rfl, rfl⟩ (by repeat (first | exact SubH.nilR _ | refine SubH.pick (by repeat (first | exact HTake.here | apply HTake.there)) ?_))

def attrM (s : List UInt8) (i : Nat) : Option Nat := match attrNameM s (scan isSp s i) with
  | none => none
  | some j => some ((attrSpecM s j).getD j)
theorem attrM_lt {s : List UInt8} {i j : Nat} (h : attrM s i = some j) : i < j ∧ j ≤ s.length := by
  unfold attrM at h
  have h0 := scan_ge isSp s i
  split at h
  · cases h
  · rename_i j' hj
    have h1 := attrNameM_lt hj
    cases hs : attrSpecM s j' with
    | none => rw [hs] at h; cases h; simp only [Option.getD_none]; omega
    | some k =>
      rw [hs] at h; cases h
      have := attrSpecM_lt hs
      simp only [Option.getD_some]; omega
theorem attrG_tr (p : Nat) (st : PS) (s : List UInt8) (i : Nat) (hl : s.length ≤ 1000000) (hi : i ≤ s.length) (cn : Bool) (hcn : st.corner = .bool cn) :
    Tr Tryz.prog 180 [lp p, str s, inat i] [st.blk p] fun u K => ∃ cn', u = tri s (scan isSp s i) (attrM s i) ∧ K = [({ st with corner := .bool cn' } : PS).blk p] := by
  obtain ⟨par, root, links, lineno, stack, depth, corner, sv, em, list, lists, texts, bt⟩ := st
  subst hcn
  have h1 := skipSpaceG_tr s i hl (by omega)
  have hle1 := scan_le (p := isSp) hi
  unfold attrM
  generalize scan isSp s i = a at h1 hle1 ⊢
  have h2 := attrNameG_tr s a hl (by omega)
  cases hn : attrNameM s a with
  | none =>
    rw [hn] at h2
    refine Tr.start (n := 41) (rs := [.tmp 6, .tmp 7, .tmp 8]) rfl rfl rfl rfl fun B => ?_
    (repeat' (first | refine s_pure (h1) ?_ | refine s_pure (h2) ?_ | refine k_seq ?_ | refine k_region ?_ | refine k_nil ?_ | refine k_then ?_ | refine k_false ?_ | refine k_skip ?_ | refine k_ret ?_ | refine s_move ?_ | refine s_assign ?_ | refine s_ext ?_))
    exact e_ret _ ⟨cn, rfl, rfl⟩ (by repeat (first | exact SubH.nilR _ | refine SubH.pick (by repeat (first | exact HTake.here | apply HTake.there)) ?_))
  | some j =>
    rw [hn] at h2
    obtain ⟨hj1, hj2⟩ := attrNameM_lt hn
    refine Tr.start (n := 41) (rs := [.tmp 6, .tmp 7, .tmp 8]) rfl rfl rfl rfl fun B => ?_
    (repeat' (first | refine s_pure (h1) ?_ | refine s_pure (h2) ?_ | refine k_seq ?_ | refine k_region ?_ | refine k_nil ?_ | refine k_then ?_ | refine k_true ?_ | refine s_move ?_ | refine s_assign ?_ | refine s_ext ?_))
    refine s_call (attrSpecG_tr p _ s j hl (by omega) cn rfl) (fun u K hR => ?_)
    obtain ⟨cn', rfl, rfl⟩ := hR
    dsimp only
    cases hs : attrSpecM s j with
    | none =>
      (repeat' (first | refine k_seq ?_ | refine k_region ?_ | refine k_nil ?_ | refine k_then ?_ | refine k_false ?_ | refine k_skip ?_ | refine k_ret ?_ | refine k_ret_then ?_ | refine s_move ?_ | refine s_assign ?_ | refine s_ext ?_ | refine s_slices ?_))
      exact e_ret _ ⟨cn', rfl, rfl⟩ (by repeat (first | exact SubH.nilR _ | refine SubH.pick (by repeat (first | exact HTake.here | apply HTake.there)) ?_))
    | some k =>
      obtain ⟨hk1, hk2⟩ := attrSpecM_lt hs
      (repeat' (first | refine k_seq ?_ | refine k_region ?_ | refine k_nil ?_ | refine k_then ?_ | refine k_true ?_ | refine k_ret ?_ | refine k_ret_then ?_ | refine s_move ?_ | refine s_assign ?_ | refine s_ext ?_ | refine s_slices ?_))
      exact e_ret _ ⟨cn', rfl, rfl⟩ (by repeat (first | exact SubH.nilR _ | refine SubH.pick (by repeat (first | exact HTake.here | apply HTake.there)) ?_))
end Go.Proofs

/- laws.FnUnclosed returns true whatever the argument. Conditions: the table of entities, and that the text's length is that of a Go string. -/
import Derived.Test.YtblaoglgknjepaaGreatDoorF9
import Derived.Lib.IndexLaws
import Derived.Laws.StandIn
namespace Go.Proofs
open Go Go.Eng
set_option maxRecDepth 20000
set_option maxHeartbeats 4000000

/-- The printable characters from the space on, so many. -/
abbrev asc (j : Nat) : List UInt8 := (List.range j).map fun k => UInt8.ofNat (32 + k)
theorem asc_succ (j : Nat) : asc (j + 1) = asc j ++ [UInt8.ofNat (32 + j)] := by simp [asc, List.range_succ]
theorem asc_mem {c : UInt8} (h : c ∈ asc 94 ++ [10]) : c = 10 ∨ 32 ≤ c.toNat ∧ c.toNat ≤ 125 := by
  rcases List.mem_append.1 h with h | h
  · obtain ⟨k, hk, rfl⟩ := List.mem_map.1 h
    have hk' := List.mem_range.1 hk
    have e : (UInt8.ofNat (32 + k)).toNat = 32 + k := by simp; omega
    rw [e]; right; omega
  · simp at h; exact .inl h

structure WB where
  j : Nat
  v : Value
  R : Blk

theorem withoutByte_tr : TrP Tryz.prog 15 [.int .u8 126] (str (asc 94)) := by
  refine Tr.start (n := 19) (rs := [.tmp 2]) rfl rfl rfl rfl fun B => ?_
  (repeat' (first | refine k_seq ?_ | refine k_region ?_ | refine k_nil ?_ | refine k_then ?_ | refine s_assign ?_))
  refine s_bsl0 (fun r => ?_)
  (repeat' (first | refine k_seq ?_ | refine k_region ?_ | refine k_nil ?_ | refine k_then ?_ | refine k_blk ?_ | refine s_assign ?_))
  refine k_loop (fun x : WB => [(0, .int .u8 126), (3, x.v), (4, .int .u8 ((32 + x.j : Nat) : Int))]) (fun x => [x.R]) (fun x => x.j ≤ 95 ∧ Bys x.v (asc (min x.j 94)) x.R) (fun x => 96 - x.j) ⟨0, .slice (some ⟨r, 0, none⟩) 0 0, [(r, cellsOf [] 5)]⟩
    ⟨Nat.zero_le _, Own.mk' (m := 0) (cap := 0) (cur := []) (Nat.le_refl _) (by omega) rfl⟩ (Knows.spec (by repeat (first | exact trivial | refine ⟨rfl, ?_⟩))) (by repeat (first | exact SubH.nilR _ | refine SubH.pick (by repeat (first | exact HTake.here | apply HTake.there)) ?_)) fun x hx => ?_
  obtain ⟨j, v, R⟩ := x
  obtain ⟨x1, x2⟩ := hx
  simp only at x1 x2 ⊢
  by_cases h1 : j < 94
  · have e1 : (UInt8.ofNat (32 + j)).toNat = 32 + j := by simp; omega
    rw [show min j 94 = j by omega] at x2
    have hlen : (asc j).length = j := by simp [asc]
    (repeat' (first | refine k_seq ?_ | refine k_region ?_ | refine k_nil ?_ | refine k_then ?_ | refine k_true ?_ | refine k_blk ?_ | refine k_skip ?_ | refine s_move ?_ | refine s_leq_t ?_ | refine s_neq_t ?_ | refine s_bsl1 (fun _ => ?_)))
    refine s_app x2 (by omega) (fun v2 R2 h3 => ?_)
    have h3' : Bys v2 (asc j ++ [UInt8.ofNat (32 + j)]) R2 := Bys.app (by
      have e2 : Lib.byteCells [UInt8.ofNat (32 + j)] = [.int .u8 ((32 + j : Nat) : Int)] := by simp only [Lib.byteCells, List.map]; rw [e1]
      rw [e2]; exact h3)
    rw [← asc_succ] at h3'
    (repeat' (first | refine Ops.pure _ (p_add8 (a := 32 + j) (b := 1) (c := 32 + (j + 1)) (by rfl) (by rfl) (by omega) (by omega)) (by rfl) ?_ | refine k_region ?_ | refine k_nil ?_ | refine k_then ?_ | refine k_block ?_ | refine s_move ?_ | refine s_assign ?_))
    exact ⟨⟨j + 1, v2, R2⟩, (Knows.spec (by repeat (first | exact trivial | refine ⟨rfl, ?_⟩))), (by repeat (first | exact SubH.nilR _ | refine SubH.pick (by repeat (first | exact HTake.here | apply HTake.there)) ?_)), ⟨by simp only; omega, by simp only; rw [show min (j + 1) 94 = j + 1 by omega]; exact h3'⟩, by simp only; omega⟩
  by_cases h2 : j = 94
  · subst h2
    (repeat' (first | refine Ops.pure _ (p_add8 (a := 32 + 94) (b := 1) (c := 32 + 95) (by rfl) (by rfl) (by omega) (by omega)) (by rfl) ?_ | refine k_seq ?_ | refine k_region ?_ | refine k_nil ?_ | refine k_then ?_ | refine k_true ?_ | refine k_false ?_ | refine k_blk ?_ | refine k_skip ?_ | refine k_block ?_ | refine s_move ?_ | refine s_assign ?_ | refine s_leq_t ?_ | refine s_neq_f ?_))
    exact ⟨⟨95, v, R⟩, (Knows.spec (by repeat (first | exact trivial | refine ⟨rfl, ?_⟩))), (by repeat (first | exact SubH.nilR _ | refine SubH.pick (by repeat (first | exact HTake.here | apply HTake.there)) ?_)), ⟨by simp only; omega, x2⟩, by simp only; omega⟩
  · have h3 : j = 95 := by omega
    subst h3
    have hl94 : (asc 94).length = 94 := by simp [asc]
    have hx' : Own 5 1 v (93 + 1) (Lib.byteCells (asc 94)) R := by have h := x2; unfold Bys at h; rw [show min 95 94 = 94 from rfl, hl94] at h; exact h
    obtain ⟨g, cap, cur, rfl, rfl, k1, k2, k3, k4⟩ := hx'.pos
    (repeat' (first | refine k_seq ?_ | refine k_region ?_ | refine k_nil ?_ | refine k_then ?_ | refine k_false ?_ | refine k_exit ?_ | refine k_exit_then ?_ | refine k_hit ?_ | refine s_move ?_ | refine s_leq_f ?_))
    refine Ops.pure _ (p_bytes_str (g := g) (cap := cap) (l := asc 94) Tryz.underlying40 Tryz.underlying5 Tryz.underlying9 (by rfl) (by repeat (first | exact HMem.here | apply HMem.skip | apply HMem.there)) (by rw [hl94]; exact k4)) (by rfl) ?_
    (repeat' (first | refine k_nil ?_ | refine k_then ?_ | refine k_ret ?_ | refine s_assign ?_))
    exact e_pure ⟨rfl, rfl⟩

theorem idxByte_lt {l : List UInt8} {c : UInt8} : (Lib.indexByte l c < 0) ↔ ¬ c ∈ l := by
  have h1 := Lib.indexByte_ge l c
  constructor
  · intro h hc
    have : Lib.indexByte l c = -1 := by omega
    obtain ⟨k, hk⟩ := List.getElem?_of_mem hc
    exact Lib.indexByte_none this k hk
  · intro h
    refine Classical.byContradiction fun hn => ?_
    obtain ⟨o, ho⟩ : ∃ o : Nat, Lib.indexByte l c = o := ⟨(Lib.indexByte l c).toNat, by omega⟩
    exact h (List.mem_of_getElem? (Lib.indexByte_some ho).1)

theorem indexByte_tr (l : List UInt8) (c : UInt8) : TrP Tryz.prog 20 [str l, .int .u8 c.toNat] (.int .i64 (Lib.indexByte l c)) := by
  have hf : ∀ w, (callFunc 32 #[str l, .int .u8 c.toNat]).run Tryz.prog w = .ok (.value (.int .i64 (Lib.indexByte l c))) w := by
    intro w
    rw [run_callFunc_indexByte (P := Tryz.prog) (f := 32) Tryz.func32 rfl rfl (by kernel_rfl) (by rfl)]
    have h := Lib.run_indexByteString (P := Tryz.prog) ⟨l.toArray⟩ c.toNat w
    simp at h
    show (Sem.run Tryz.prog (Extern.BytealgIndexByte.indexByte #[.string ⟨l.toArray⟩, .int .u8 c.toNat]) w).andThen _ = _
    rw [h]
    rfl
  have hs : TrP Tryz.prog 23 [str l, .int .u8 c.toNat] (.int .i64 (Lib.indexByte l c)) := by
    refine Tr.start (n := 8) (rs := [.tmp 4]) rfl rfl rfl rfl fun B => ?_
    (repeat' (first | refine Ops.pure _ (p_extern2 (by rfl) (by rfl) hf) (by rfl) ?_ | refine k_seq ?_ | refine k_region ?_ | refine k_nil ?_ | refine k_then ?_ | refine k_ret ?_ | refine s_move ?_ | refine s_assign ?_))
    exact e_pure ⟨rfl, rfl⟩
  refine Tr.start (n := 8) (rs := [.tmp 4]) rfl rfl rfl rfl fun B => ?_
  (repeat' (first | refine s_pure (hs) ?_ | refine k_seq ?_ | refine k_region ?_ | refine k_nil ?_ | refine k_then ?_ | refine k_ret ?_ | refine s_move ?_ | refine s_assign ?_))
  exact e_pure ⟨rfl, rfl⟩

theorem only_tr (l al : List UInt8) (most : Nat) (hl : l.length ≤ 2147483647) : Tr Tryz.prog 14 [str l, str al, inat most] [] fun u K => K = [] ∧ ∃ r, u = .bool r ∧ (r = true → l.length ≤ most ∧ ∀ c ∈ l, c ∈ al) := by
  refine Tr.start (n := 24) (rs := [.tmp 6]) rfl rfl rfl rfl fun B => ?_
  by_cases hm : most < l.length
  · (repeat' (first | refine k_seq ?_ | refine k_region ?_ | refine k_nil ?_ | refine k_then ?_ | refine k_true ?_ | refine k_ret ?_ | refine k_ret_then ?_ | refine s_move ?_ | refine s_assign ?_ | refine s_gtr_t ?_ | refine s_lens ?_))
    exact e_ret [] ⟨rfl, false, rfl, fun h => Bool.noConfusion h⟩ (by repeat (first | exact SubH.nilR _ | refine SubH.pick (by repeat (first | exact HTake.here | apply HTake.there)) ?_))
  (repeat' (first | refine k_seq ?_ | refine k_region ?_ | refine k_nil ?_ | refine k_then ?_ | refine k_false ?_ | refine k_skip ?_ | refine s_move ?_ | refine s_assign ?_ | refine s_gtr_f ?_ | refine s_lens ?_))
  refine k_midx (fun _ : Unit => []) (fun _ => []) (fun _ => l.length ≤ most ∧ ∀ c ∈ l, c ∈ al) ?_ ?_
  · (repeat' (first | refine k_blk ?_))
    refine k_loop (fun j : Nat => [(0, str l), (1, str al), (13, inat l.length), (14, inat j)]) (fun _ => []) (fun j => j ≤ l.length ∧ ∀ c ∈ l.take j, c ∈ al) (fun j => l.length - j) 0 ⟨Nat.zero_le _, by simp⟩ (Knows.spec (by repeat (first | exact trivial | refine ⟨rfl, ?_⟩))) (by repeat (first | exact SubH.nilR _ | refine SubH.pick (by repeat (first | exact HTake.here | apply HTake.there)) ?_)) fun j hj => ?_
    obtain ⟨hj, hA⟩ := hj
    by_cases h : j < l.length
    · obtain ⟨c, hc⟩ : ∃ c, l[j]? = some c := ⟨_, List.getElem?_eq_getElem h⟩
      have hI := indexByte_tr al c
      by_cases hin : c ∈ al
      · have hge : ¬ Lib.indexByte al c < 0 := fun hh => idxByte_lt.1 hh hin
        (repeat' (first | refine s_pure (hI) ?_ | refine k_seq ?_ | refine k_region ?_ | refine k_nil ?_ | refine k_then ?_ | refine k_true ?_ | refine k_false ?_ | refine k_blk ?_ | refine k_skip ?_ | refine k_block ?_ | refine s_move ?_ | refine s_assign ?_ | refine s_add1 ?_ | refine s_lss_t ?_ | refine s_lss_f ?_ | refine s_index ?_))
        refine ⟨j + 1, (Knows.spec (by repeat (first | exact trivial | refine ⟨rfl, ?_⟩))), (by repeat (first | exact SubH.nilR _ | refine SubH.pick (by repeat (first | exact HTake.here | apply HTake.there)) ?_)), ⟨by omega, fun d hd => ?_⟩, by omega⟩
        rw [List.take_add_one, hc] at hd
        rcases List.mem_append.1 hd with hd | hd
        · exact hA d hd
        · simp at hd; subst hd; exact hin
      · have hlt : Lib.indexByte al c < 0 := idxByte_lt.2 hin
        (repeat' (first | refine s_pure (hI) ?_ | refine k_seq ?_ | refine k_region ?_ | refine k_nil ?_ | refine k_then ?_ | refine k_true ?_ | refine k_blk ?_ | refine k_skip ?_ | refine k_ret ?_ | refine k_ret_then ?_ | refine k_ret_block ?_ | refine s_move ?_ | refine s_assign ?_ | refine s_lss_t ?_ | refine s_index ?_))
        exact e_ret [] ⟨rfl, false, rfl, fun h => Bool.noConfusion h⟩ (by repeat (first | exact SubH.nilR _ | refine SubH.pick (by repeat (first | exact HTake.here | apply HTake.there)) ?_))
    · have : j = l.length := by omega
      subst this
      rw [List.take_length] at hA
      (repeat' (first | refine k_seq ?_ | refine k_region ?_ | refine k_nil ?_ | refine k_then ?_ | refine k_false ?_ | refine k_exit ?_ | refine k_exit_then ?_ | refine k_hit ?_ | refine s_lss_f ?_))
      exact ⟨(), (by repeat (first | exact trivial | refine ⟨rfl, ?_⟩)), (by repeat (first | exact SubH.nilR _ | refine SubH.pick (by repeat (first | exact HTake.here | apply HTake.there)) ?_)), by omega, hA⟩
  · rintro _ hA
    (repeat' (first | refine k_seq ?_ | refine k_region ?_ | refine k_nil ?_ | refine k_then ?_ | refine k_ret ?_ | refine s_assign ?_))
    exact e_ret [] ⟨rfl, true, rfl, fun _ => hA⟩ (by repeat (first | exact SubH.nilR _ | refine SubH.pick (by repeat (first | exact HTake.here | apply HTake.there)) ?_))

structure FilledU (l : List UInt8) : Prop where
  ne : l ≠ []
theorem filled_tr (l : List UInt8) (hl : l.length ≤ 2147483647) : Tr Tryz.prog 16 [str l] [] fun u K => K = [] ∧ ∃ r, u = .bool r ∧ (r = true → l ≠ []) := by
  cases hl0 : l with
  | nil =>
    refine Tr.start (n := 18) (rs := [.tmp 2]) rfl rfl rfl rfl fun B => ?_
    (repeat' (first | refine k_seq ?_ | refine k_region ?_ | refine k_nil ?_ | refine k_then ?_ | refine k_ret ?_ | refine s_gskipt ?_ | refine s_move ?_ | refine s_assign ?_ | refine s_pickf ?_ | refine s_nes_f ?_))
    exact e_ret [] ⟨rfl, false, rfl, fun h => Bool.noConfusion h⟩ (by repeat (first | exact SubH.nilR _ | refine SubH.pick (by repeat (first | exact HTake.here | apply HTake.there)) ?_))
  | cons a l' =>
    rw [← hl0]
    have hne : ¬ l = [] := by rw [hl0]; simp
    have hp : 1 ≤ l.length := by rw [hl0]; simp
    have hc : l[0]? = some a := by rw [hl0]; rfl
    obtain ⟨d, hd⟩ : ∃ d, l[l.length - 1]? = some d := ⟨_, List.getElem?_eq_getElem (by omega)⟩
    by_cases h1 : a.toNat = 32
    · refine Tr.start (n := 18) (rs := [.tmp 2]) rfl rfl rfl rfl fun B => ?_
      (repeat' (first | refine k_seq ?_ | refine k_region ?_ | refine k_nil ?_ | refine k_then ?_ | refine k_ret ?_ | refine s_grun ?_ | refine s_gskipt ?_ | refine s_move ?_ | refine s_assign ?_ | refine s_neq_f ?_ | refine s_pickt ?_ | refine s_pickf ?_ | refine s_index ?_ | refine s_nes_t ?_))
      exact e_ret [] ⟨rfl, false, rfl, fun h => Bool.noConfusion h⟩ (by repeat (first | exact SubH.nilR _ | refine SubH.pick (by repeat (first | exact HTake.here | apply HTake.there)) ?_))
    · by_cases h2 : d.toNat = 32
      · refine Tr.start (n := 18) (rs := [.tmp 2]) rfl rfl rfl rfl fun B => ?_
        (repeat' (first | refine k_seq ?_ | refine k_region ?_ | refine k_nil ?_ | refine k_then ?_ | refine k_ret ?_ | refine s_grun ?_ | refine s_move ?_ | refine s_assign ?_ | refine s_sub1 ?_ | refine s_neq_t ?_ | refine s_neq_f ?_ | refine s_pickt ?_ | refine s_lens ?_ | refine s_index ?_ | refine s_nes_t ?_))
        exact e_ret [] ⟨rfl, false, rfl, fun h => Bool.noConfusion h⟩ (by repeat (first | exact SubH.nilR _ | refine SubH.pick (by repeat (first | exact HTake.here | apply HTake.there)) ?_))
      · refine Tr.start (n := 18) (rs := [.tmp 2]) rfl rfl rfl rfl fun B => ?_
        (repeat' (first | refine k_seq ?_ | refine k_region ?_ | refine k_nil ?_ | refine k_then ?_ | refine k_ret ?_ | refine s_grun ?_ | refine s_move ?_ | refine s_assign ?_ | refine s_sub1 ?_ | refine s_neq_t ?_ | refine s_pickt ?_ | refine s_lens ?_ | refine s_index ?_ | refine s_nes_t ?_))
        exact e_ret [] ⟨rfl, true, rfl, fun _ => hne⟩ (by repeat (first | exact SubH.nilR _ | refine SubH.pick (by repeat (first | exact HTake.here | apply HTake.there)) ?_))

theorem fnUnclosed_tr (T : Nat) (es : List Value) (hE : EntOK es) (l : List UInt8) (hl : l.length ≤ 9223372036854775807) :
    TrD Tryz.prog 6 [str l] [ent T es] (.bool true) [ent T es] := by
  refine Tr.start (n := 42) (rs := [.tmp 2]) rfl rfl rfl rfl fun B => ?_
  by_cases hl0 : 2147483647 < l.length
  · (repeat' (first | refine k_seq ?_ | refine k_region ?_ | refine k_nil ?_ | refine k_then ?_ | refine k_true ?_ | refine k_ret ?_ | refine k_ret_then ?_ | refine s_move ?_ | refine s_assign ?_ | refine s_gtr_t ?_ | refine s_lens ?_))
    exact e_ret _ ⟨rfl, rfl⟩ (by repeat (first | exact SubH.nilR _ | refine SubH.pick (by repeat (first | exact HTake.here | apply HTake.there)) ?_))
  have hl1 : l.length ≤ 2147483647 := by omega
  have hal : (asc 94).length = 94 := by simp [asc]
  (repeat' (first | refine s_pure (withoutByte_tr) ?_ | refine s_addsx ?_ | refine k_seq ?_ | refine k_region ?_ | refine k_nil ?_ | refine k_then ?_ | refine k_false ?_ | refine k_skip ?_ | refine s_move ?_ | refine s_assign ?_ | refine s_gtr_f ?_ | refine s_lens ?_))
  refine s_call (only_tr l (asc 94 ++ [10]) 500 hl1) (fun u K hR => ?_)
  obtain ⟨rfl, r, rfl, hA⟩ := hR
  cases r with
  | false =>
    (repeat' (first | refine k_seq ?_ | refine k_region ?_ | refine k_nil ?_ | refine k_then ?_ | refine k_true ?_ | refine k_ret ?_ | refine k_ret_then ?_ | refine s_gskipf ?_ | refine s_move ?_ | refine s_assign ?_ | refine s_pickt ?_ | refine s_notf ?_))
    exact e_ret _ ⟨rfl, rfl⟩ (by repeat (first | exact SubH.nilR _ | refine SubH.pick (by repeat (first | exact HTake.here | apply HTake.there)) ?_))
  | true =>
  obtain ⟨hA1, hA2⟩ := hA rfl
  (repeat' (first | refine s_grun ?_ | refine s_move ?_ | refine s_nott ?_))
  refine s_call (filled_tr l hl1) (fun u K hR => ?_)
  obtain ⟨rfl, r, rfl, hF⟩ := hR
  cases r with
  | false =>
    (repeat' (first | refine k_seq ?_ | refine k_region ?_ | refine k_nil ?_ | refine k_then ?_ | refine k_true ?_ | refine k_ret ?_ | refine k_ret_then ?_ | refine s_grun ?_ | refine s_gskipf ?_ | refine s_move ?_ | refine s_assign ?_ | refine s_pickt ?_ | refine s_pickf ?_ | refine s_notf ?_))
    exact e_ret _ ⟨rfl, rfl⟩ (by repeat (first | exact SubH.nilR _ | refine SubH.pick (by repeat (first | exact HTake.here | apply HTake.there)) ?_))
  | true =>
  have hne := hF rfl
  have hp : 1 ≤ l.length := List.length_pos_iff.2 hne
  obtain ⟨d, hd⟩ : ∃ d, l[l.length - 1]? = some d := ⟨_, List.getElem?_eq_getElem (by omega)⟩
  by_cases h10 : d.toNat = 10
  · (repeat' (first | refine k_seq ?_ | refine k_region ?_ | refine k_nil ?_ | refine k_then ?_ | refine k_true ?_ | refine k_ret ?_ | refine k_ret_then ?_ | refine s_grun ?_ | refine s_move ?_ | refine s_assign ?_ | refine s_sub1 ?_ | refine s_eql_t ?_ | refine s_pickf ?_ | refine s_lens ?_ | refine s_index ?_ | refine s_nott ?_))
    exact e_ret _ ⟨rfl, rfl⟩ (by repeat (first | exact SubH.nilR _ | refine SubH.pick (by repeat (first | exact HTake.here | apply HTake.there)) ?_))
  have hFT : FText 3 l := by
    refine ⟨by omega, fun c hc => ?_, few_of_no (by omega) fun c hc e => ?_⟩
    · rcases asc_mem (hA2 c hc) with h | h
      · exact .inl h
      · exact .inr (by omega)
    · subst e
      rcases asc_mem (hA2 _ hc) with h | h
      · exact absurd h (by decide)
      · exact absurd h.2 (by decide)
  have hlines : ∀ x ∈ spl l, FLine 3 x := fun x hx => hFT.line x hx
  have b1 := body_lnd (Body.close (K := 3)) (spl l) hlines
  have b2 := body_lnd (Body.nil (K := 3)) (spl l) hlines
  have b3 := body_last (K := 3) hne (by rw [hd]; intro h; injection h with h; exact h10 (by rw [h]; rfl)) hlines
  rw [spl_lnd, List.append_nil] at b1 b2
  rw [List.append_nil] at b2
  have e1 : [126, 126, 126, 10] ++ l ++ [10, 126, 126, 126, 10] = tildes 3 ++ 10 :: (l ++ [10] ++ (tildes 3 ++ [10])) := by simp [tildes, List.replicate]
  have e2 : [126, 126, 126, 10] ++ l ++ [10] = tildes 3 ++ 10 :: (l ++ [10]) := by simp [tildes, List.replicate]
  have e3 : [126, 126, 126, 10] ++ l = tildes 3 ++ 10 :: l := by simp [tildes, List.replicate]
  have t1 := htmlF_tr T es hE 3 _ _ _ e1 b1 (by omega) (by omega) (by simp only [List.length_append, tildes_len, List.length_cons, List.length_nil]; omega)
  have t2 := htmlF_tr T es hE 3 _ _ _ e2 b2 (by omega) (by omega) (by simp only [List.length_append, tildes_len, List.length_cons, List.length_nil]; omega)
  have t3 := htmlF_tr T es hE 3 _ _ _ e3 b3 (by omega) (by omega) (by omega)
  have hco : ¬ codeOut (spl l) = [] := by simp [codeOut]
  (repeat' (first | refine s_addsx ?_ | refine s_callD (t1) ?_ | refine s_callD (t2) ?_ | refine s_callD (t3) ?_ | refine k_seq ?_ | refine k_region ?_ | refine k_nil ?_ | refine k_then ?_ | refine k_false ?_ | refine k_skip ?_ | refine k_ret ?_ | refine s_grun ?_ | refine s_move ?_ | refine s_assign ?_ | refine s_sub1 ?_ | refine s_eql_f ?_ | refine s_pickt ?_ | refine s_pickf ?_ | refine s_lens ?_ | refine s_index ?_ | refine s_eqs_t ?_ | refine s_nes_t ?_ | refine s_nott ?_ | refine s_buildx ?_))
  exact e_ret _ ⟨rfl, rfl⟩ (by repeat (first | exact SubH.nilR _ | refine SubH.pick (by repeat (first | exact HTake.here | apply HTake.there)) ?_))
end Go.Proofs

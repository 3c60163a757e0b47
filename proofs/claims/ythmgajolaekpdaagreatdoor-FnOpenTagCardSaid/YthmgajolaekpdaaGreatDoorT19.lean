/- Steps of the walk of the program and plain facts on what it computes. Conditions: as each theorem states them. -/
import Derived.Test.YthmgajolaekpdaaGreatDoorT18
import Derived.Test.YthmgajolaekpdaaGreatDoorEngB
namespace Go.Proofs
open Go Go.Eng
set_option maxRecDepth 20000
set_option maxHeartbeats 4000000

theorem SubH.tl {c : Blk} {H : Heap} : SubH (c :: H) H := ⟨[c], by simp [List.perm_append_comm]⟩
theorem digits_tr (i : Nat) (h : i < 10) : TrP Tryz.prog 18 [inat i, inat 10] (str [digB i]) := by
  have e : (([48, 49, 50, 51, 52, 53, 54, 55, 56, 57, 97, 98, 99, 100, 101, 102] : List UInt8).take (i + 1)).drop i = [digB i] := by
    have : (List.range 10).all (fun i => decide ((([48, 49, 50, 51, 52, 53, 54, 55, 56, 57, 97, 98, 99, 100, 101, 102] : List UInt8).take (i + 1)).drop i = [digB i])) = true := by decide
    exact of_decide_eq_true (List.all_eq_true.1 this i (List.mem_range.2 h))
  rw [← e]
  have hl : ([48, 49, 50, 51, 52, 53, 54, 55, 56, 57, 97, 98, 99, 100, 101, 102] : List UInt8).length = 16 := rfl
  refine Tr.start (n := 26) (rs := [.tmp 4]) rfl rfl rfl rfl fun B => ?_
  (repeat' (first | refine k_seq ?_ | refine k_region ?_ | refine k_nil ?_ | refine k_then ?_ | refine k_true ?_ | refine k_ret ?_ | refine k_ret_then ?_ | refine s_move ?_ | refine s_assign ?_ | refine s_add1 ?_ | refine s_lss_t ?_ | refine s_slices ?_))
  exact e_pure ⟨rfl, rfl⟩

def attsOf (l : List UInt8) : List Att := l.zipIdx.map fun x => ⟨x.1.toNat % 3, x.2, x.1.toNat / 3 % 4⟩
theorem attsOf_snoc (l : List UInt8) (c : UInt8) : attsOf (l ++ [c]) = attsOf l ++ [⟨c.toNat % 3, l.length, c.toNat / 3 % 4⟩] := by
  simp [attsOf, List.zipIdx_append]
theorem attsOf_len (l : List UInt8) : (attsOf l).length = l.length := by simp [attsOf]
theorem attsOf_ok {l : List UInt8} (h : l.length ≤ 5) : ∀ x ∈ attsOf l, x.ok := by
  intro x hx
  obtain ⟨y, hy, rfl⟩ := List.mem_map.1 hx
  obtain ⟨c, i⟩ := y
  have := List.mem_zipIdx hy
  refine ⟨Nat.mod_lt _ (by decide), ?_, Nat.mod_lt _ (by decide)⟩
  dsimp only
  omega

theorem seps_at (k : Nat) (h : k < 3) : ([str [32], str [10], str [32, 32]] : List Value)[0 + k * 1]? = some (str (sepB k)) := by
  have : k = 0 ∨ k = 1 ∨ k = 2 := by omega
  rcases this with rfl | rfl | rfl <;> rfl

structure OW where
  j : Nat

theorem fnOpenTag_calls (B : Base) (name : List UInt8) (a : Option Addr) (cap : Nat) (l : List UInt8) (slash : Bool) (hn1 : name.length ≤ 9223372036854775807) (ha : l ≠ [] → ∃ bk o, a = some ⟨bk, o, none⟩ ∧ RowV B bk o (l.map fun c => Value.int .u8 c.toNat)) (hn2 : l.length ≤ 9223372036854775807) (H : Heap) (w : World) (hw : Inv B H w) :
    Calls Tryz.prog 6 ([str name, .slice a l.length cap, .bool slash] : List Value).toArray w fun e w' => ∃ v H', e = .returned v ∧ v = .bool true ∧ Inv B H' w' := by
  refine calls_start (fn := Tryz.f6) (n := 82) (rs := [.tmp 6]) (R := fun v H' => v = .bool true) Tryz.func6 rfl rfl rfl rfl ?_ hw
  by_cases h1 : 2147483647 < name.length
  · (repeat' (first | refine k_seq ?_ | refine k_region ?_ | refine k_nil ?_ | refine k_then ?_ | refine k_true ?_ | refine k_ret ?_ | refine k_ret_then ?_ | refine s_gskipf ?_ | refine s_move ?_ | refine s_assign ?_ | refine s_gtr_t ?_ | refine s_pickt ?_ | refine s_lens ?_))
    exact e_ret H rfl (SubH.refl H)
  by_cases h2 : 2147483647 < l.length
  · (repeat' (first | refine k_seq ?_ | refine k_region ?_ | refine k_nil ?_ | refine k_then ?_ | refine k_true ?_ | refine k_ret ?_ | refine k_ret_then ?_ | refine s_grun ?_ | refine s_move ?_ | refine s_assign ?_ | refine s_gtr_t ?_ | refine s_gtr_f ?_ | refine s_pickf ?_ | refine s_lens ?_ | refine s_len ?_))
    exact e_ret H rfl (SubH.refl H)
  by_cases hne : name = []
  · subst hne
    (repeat' (first | refine k_seq ?_ | refine k_region ?_ | refine k_nil ?_ | refine k_then ?_ | refine k_true ?_ | refine k_false ?_ | refine k_skip ?_ | refine k_ret ?_ | refine k_ret_then ?_ | refine s_grun ?_ | refine s_gskipf ?_ | refine s_move ?_ | refine s_assign ?_ | refine s_gtr_f ?_ | refine s_pickt ?_ | refine s_pickf ?_ | refine s_lens ?_ | refine s_len ?_ | refine s_eqs_t ?_))
    exact e_ret H rfl (SubH.refl H)
  (repeat' (first | refine k_seq ?_ | refine k_region ?_ | refine k_nil ?_ | refine k_then ?_ | refine k_false ?_ | refine k_skip ?_ | refine s_grun ?_ | refine s_move ?_ | refine s_assign ?_ | refine s_gtr_f ?_ | refine s_pickf ?_ | refine s_lens ?_ | refine s_len ?_ | refine s_eqs_f ?_))
  refine s_call (only_tr name [97, 98, 99] 20 (by omega)) (fun u K hR => ?_)
  obtain ⟨rfl, r, rfl, hA⟩ := hR
  cases r with
  | false =>
    (repeat' (first | refine k_seq ?_ | refine k_region ?_ | refine k_nil ?_ | refine k_then ?_ | refine k_true ?_ | refine k_ret ?_ | refine k_ret_then ?_ | refine s_grun ?_ | refine s_gskipf ?_ | refine s_move ?_ | refine s_assign ?_ | refine s_pickt ?_ | refine s_pickf ?_ | refine s_notf ?_))
    exact e_ret H rfl (SubH.refl H)
  | true =>
  obtain ⟨hA1, hA2⟩ := hA rfl
  by_cases h5 : 5 < l.length
  · (repeat' (first | refine k_seq ?_ | refine k_region ?_ | refine k_nil ?_ | refine k_then ?_ | refine k_true ?_ | refine k_ret ?_ | refine k_ret_then ?_ | refine s_grun ?_ | refine s_move ?_ | refine s_assign ?_ | refine s_gtr_t ?_ | refine s_pickf ?_ | refine s_len ?_ | refine s_nott ?_))
    exact e_ret H rfl (SubH.refl H)
  (repeat' (first | refine s_addsx ?_ | refine k_seq ?_ | refine k_region ?_ | refine k_nil ?_ | refine k_then ?_ | refine k_false ?_ | refine k_skip ?_ | refine s_grun ?_ | refine s_move ?_ | refine s_assign ?_ | refine s_gtr_f ?_ | refine s_pickf ?_ | refine s_len ?_ | refine s_nott ?_))
  have hx : ∀ j c, l[j]? = some c → ([60] ++ name) ++ attsB (attsOf (l.take (j + 1))) = (([60] ++ name) ++ attsB (attsOf (l.take j))) ++ (sepB (c.toNat % 3) ++ ([107, digB j] ++ valB (c.toNat / 3 % 4))) := by
    intro j c hc
    have hj := (List.getElem?_eq_some_iff.1 hc).1
    have htl : (l.take j).length = j := by rw [List.length_take]; omega
    rw [take_snoc hc, attsOf_snoc, htl]
    simp [attsB, Att.bytes]
  have hbl : ∀ j, (attsB (attsOf (l.take j))).length ≤ 12 * 5 := by
    intro j
    have hal : ∀ l : List Att, (attsB l).length ≤ 12 * l.length := by
      intro l
      induction l with
      | nil => simp [attsB]
      | cons x l ih =>
        have : x.bytes.length ≤ 12 := by unfold Att.bytes sepB valB; split <;> split <;> simp
        simp only [attsB, List.flatMap_cons, List.length_append, List.length_cons] at ih ⊢
        omega
    have := hal (attsOf (l.take j))
    rw [attsOf_len, List.length_take] at this
    omega
  refine k_mid [(0, str name), (2, .bool slash), (7, str (([60] ++ name) ++ attsB (attsOf l)))] H ?_ ?_
  · (repeat' (first | refine k_blk ?_))
    refine k_loop (fun j : Nat => [(0, str name), (2, .bool slash), (7, str (([60] ++ name) ++ attsB (attsOf (l.take j)))), (32, .slice a l.length cap), (33, inat l.length), (34, inat j)]) (fun _ => H) (fun j => j ≤ l.length) (fun j => l.length - j) 0 (Nat.zero_le _) (by simp only [List.take_zero, attsOf, List.zipIdx_nil, List.map_nil, attsB, List.flatMap_nil, List.append_nil]; exact (Knows.spec (by repeat (first | exact trivial | refine ⟨rfl, ?_⟩)))) (SubH.refl H) fun j hj => ?_
    by_cases h : j < l.length
    · obtain ⟨c, hc⟩ : ∃ c, l[j]? = some c := ⟨_, List.getElem?_eq_getElem h⟩
      obtain ⟨bk, o, rfl, h0⟩ := ha (by intro e; rw [e] at h; simp at h)
      have hcv : (l.map fun c => Value.int .u8 c.toNat)[j]? = some (.int .u8 c.toNat) := by rw [List.getElem?_map, hc]; rfl
      have hc256 := c.toNat_lt
      have hsp := seps_at (c.toNat % 3) (Nat.mod_lt _ (by decide))
      have hxj := hx j c hc
      have hb1 := hbl j
      have hsl : (sepB (c.toNat % 3)).length ≤ 2 := by unfold sepB; split <;> simp
      generalize hS : ([60] ++ name) ++ attsB (attsOf (l.take j)) = S at hxj ⊢
      have hSl : S.length ≤ 100 := by rw [← hS]; simp only [List.length_append, List.length_cons, List.length_nil]; omega
      have hdg := digits_tr j (by omega)
      have hm3 : c.toNat % 3 < 3 := Nat.mod_lt _ (by decide)
      generalize hr3 : c.toNat % 3 = r3 at hsp hxj hsl hm3
      (repeat' (first | refine k_seq ?_ | refine k_region ?_ | refine k_nil ?_ | refine k_then ?_ | refine k_true ?_ | refine k_skip ?_ | refine s_lss_t ?_))
      refine k_blk ?_
      ((repeat (refine k_seq ?_)); refine k_region ?_; (repeat' (first | refine s_loadV h0 hcv ?_ | refine s_move ?_ | refine s_assign ?_ | refine s_idxa ?_)); refine k_nil ?_; refine k_then ?_)
      (repeat (refine k_seq ?_))
      refine k_mid [(0, str name), (2, .bool slash), (7, str (S ++ ((sepB r3 ++ [107]) ++ [digB j]))), (9, .int .u8 c.toNat), (32, .slice (some ⟨bk, o, none⟩) l.length cap), (33, inat l.length), (34, inat j)] H ?_ ?_
      · refine Wp.draw_held (id := 9) [] 13 Mixed.out (SubH.nilR _) rfl ?_
        refine OpsH.first 0 _ (by kernel_rfl) rfl (by kernel_rfl) (by kernel_rfl) rfl (by first | exact p_move rfl | exact p_assign rfl | exact p_extract rfl rfl | exact q_fieldAddr rfl | exact p_nilCheck rfl | exact q_load rfl (by repeat (first | exact HMem.here | apply HMem.skip | apply HMem.there)) rfl | exact q_load_agg rfl (by repeat (first | exact HMem.here | apply HMem.skip | apply HMem.there)) (by repeat constructor) | exact q_len_slice rfl | exact q_len_str rfl | exact q_indexAddr rfl rfl (by omega) | exact q_slice_str rfl rfl rfl (by omega) (by omega) | exact q_makeInterface rfl | exact q_assert rfl | exact p_build rfl (by repeat' (first | exact BFill.nil | refine' BFill.one (by rfl) (by rfl) (by repeat constructor) ?_ | refine' BFill.agg (by rfl) (by rfl) (by repeat constructor) ?_))) ?_
        refine OpsH.first 2 _ (by kernel_rfl) rfl (by kernel_rfl) (by kernel_rfl) rfl (by first | exact p_move rfl | exact p_assign rfl | exact p_extract rfl rfl | exact q_fieldAddr rfl | exact p_nilCheck rfl | exact q_load rfl (by repeat (first | exact HMem.here | apply HMem.skip | apply HMem.there)) rfl | exact q_load_agg rfl (by repeat (first | exact HMem.here | apply HMem.skip | apply HMem.there)) (by repeat constructor) | exact q_len_slice rfl | exact q_len_str rfl | exact q_indexAddr rfl rfl (by omega) | exact q_slice_str rfl rfl rfl (by omega) (by omega) | exact q_makeInterface rfl | exact q_assert rfl | exact p_build rfl (by repeat' (first | exact BFill.nil | refine' BFill.one (by rfl) (by rfl) (by repeat constructor) ?_ | refine' BFill.agg (by rfl) (by rfl) (by repeat constructor) ?_))) ?_
        refine OpsH.first 3 _ (by kernel_rfl) rfl (by kernel_rfl) (by kernel_rfl) rfl (p_cvi (a := c.toNat) rfl (wrap_of (by omega) (by omega))) ?_
        refine OpsH.first 4 _ (by kernel_rfl) rfl (by kernel_rfl) (by kernel_rfl) rfl (p_rem (a := c.toNat) (b := 3) rfl rfl (by decide)) ?_
        refine OpsH.first 8 _ (by kernel_rfl) rfl (by kernel_rfl) (by kernel_rfl) rfl (by first | exact p_move rfl | exact p_assign rfl | exact p_extract rfl rfl | exact q_fieldAddr rfl | exact p_nilCheck rfl | exact q_load rfl (by repeat (first | exact HMem.here | apply HMem.skip | apply HMem.there)) rfl | exact q_load_agg rfl (by repeat (first | exact HMem.here | apply HMem.skip | apply HMem.there)) (by repeat constructor) | exact q_len_slice rfl | exact q_len_str rfl | exact q_indexAddr rfl rfl (by omega) | exact q_slice_str rfl rfl rfl (by omega) (by omega) | exact q_makeInterface rfl | exact q_assert rfl | exact p_build rfl (by repeat' (first | exact BFill.nil | refine' BFill.one (by rfl) (by rfl) (by repeat constructor) ?_ | refine' BFill.agg (by rfl) (by rfl) (by repeat constructor) ?_))) ?_
        rw [hr3]
        refine OpsH.two 1 9 _ _ (by kernel_rfl) rfl rfl ?_ ?_
        · refine s_bsln (cs := [str [32], str [10], str [32, 32]]) (fun g => ?_)
          (repeat' (first | refine k_nil ?_ | refine k_then ?_))
          refine ⟨SubH.nilR _, ?_⟩
          refine OpsH.first 5 _ (by kernel_rfl) rfl (by kernel_rfl) (by kernel_rfl) rfl (q_indexAddr rfl rfl (by omega)) ?_
          refine OpsH.two 6 9 _ _ (by kernel_rfl) rfl rfl ?_ ?_
          · (repeat' (first | refine s_load (hc := hsp) ?_ | refine k_nil ?_ | refine k_then ?_))
            refine ⟨SubH.nilR _, ?_⟩
            refine OpsH.first 7 _ (by kernel_rfl) rfl (by kernel_rfl) (by kernel_rfl) rfl (p_add_str (a := sepB r3) (b := [107]) rfl rfl rfl (by simp only [List.length_cons, List.length_nil]; omega)) ?_
            refine OpsH.only 9 _ (by kernel_rfl) rfl ?_
            (repeat' (first | refine s_pure (hdg) ?_ | refine k_nil ?_ | refine k_then ?_))
            refine ⟨SubH.nilR _, ?_⟩
            refine OpsH.first 10 _ (by kernel_rfl) rfl (by kernel_rfl) (by kernel_rfl) rfl (p_add_str (a := sepB r3 ++ [107]) (b := [digB j]) rfl rfl rfl (by simp only [List.length_append, List.length_cons, List.length_nil]; omega)) ?_
            refine OpsH.first 11 _ (by kernel_rfl) rfl (by kernel_rfl) (by kernel_rfl) rfl (p_add_str (a := S) (b := (sepB r3 ++ [107]) ++ [digB j]) rfl rfl rfl (by simp only [List.length_append, List.length_cons, List.length_nil]; omega)) ?_
            refine OpsH.first 12 _ (by kernel_rfl) rfl (by kernel_rfl) (by kernel_rfl) rfl (by first | exact p_move rfl | exact p_assign rfl | exact p_extract rfl rfl | exact q_fieldAddr rfl | exact p_nilCheck rfl | exact q_load rfl (by repeat (first | exact HMem.here | apply HMem.skip | apply HMem.there)) rfl | exact q_load_agg rfl (by repeat (first | exact HMem.here | apply HMem.skip | apply HMem.there)) (by repeat constructor) | exact q_len_slice rfl | exact q_len_str rfl | exact q_indexAddr rfl rfl (by omega) | exact q_slice_str rfl rfl rfl (by omega) (by omega) | exact q_makeInterface rfl | exact q_assert rfl | exact p_build rfl (by repeat' (first | exact BFill.nil | refine' BFill.one (by rfl) (by rfl) (by repeat constructor) ?_ | refine' BFill.agg (by rfl) (by rfl) (by repeat constructor) ?_))) ?_
            refine OpsH.nil (by kernel_rfl) ?_
            exact ⟨(by repeat (first | exact trivial | refine ⟨rfl, ?_⟩)), SubH.tl⟩
          · (repeat' (first | refine s_pure (hdg) ?_ | refine k_nil ?_ | refine k_then ?_))
            refine ⟨SubH.nilR _, ?_⟩
            refine OpsH.only 6 _ (by kernel_rfl) rfl ?_
            (repeat' (first | refine s_load (hc := hsp) ?_ | refine k_nil ?_ | refine k_then ?_))
            refine ⟨SubH.nilR _, ?_⟩
            refine OpsH.first 7 _ (by kernel_rfl) rfl (by kernel_rfl) (by kernel_rfl) rfl (p_add_str (a := sepB r3) (b := [107]) rfl rfl rfl (by simp only [List.length_cons, List.length_nil]; omega)) ?_
            refine OpsH.first 10 _ (by kernel_rfl) rfl (by kernel_rfl) (by kernel_rfl) rfl (p_add_str (a := sepB r3 ++ [107]) (b := [digB j]) rfl rfl rfl (by simp only [List.length_append, List.length_cons, List.length_nil]; omega)) ?_
            refine OpsH.first 11 _ (by kernel_rfl) rfl (by kernel_rfl) (by kernel_rfl) rfl (p_add_str (a := S) (b := (sepB r3 ++ [107]) ++ [digB j]) rfl rfl rfl (by simp only [List.length_append, List.length_cons, List.length_nil]; omega)) ?_
            refine OpsH.first 12 _ (by kernel_rfl) rfl (by kernel_rfl) (by kernel_rfl) rfl (by first | exact p_move rfl | exact p_assign rfl | exact p_extract rfl rfl | exact q_fieldAddr rfl | exact p_nilCheck rfl | exact q_load rfl (by repeat (first | exact HMem.here | apply HMem.skip | apply HMem.there)) rfl | exact q_load_agg rfl (by repeat (first | exact HMem.here | apply HMem.skip | apply HMem.there)) (by repeat constructor) | exact q_len_slice rfl | exact q_len_str rfl | exact q_indexAddr rfl rfl (by omega) | exact q_slice_str rfl rfl rfl (by omega) (by omega) | exact q_makeInterface rfl | exact q_assert rfl | exact p_build rfl (by repeat' (first | exact BFill.nil | refine' BFill.one (by rfl) (by rfl) (by repeat constructor) ?_ | refine' BFill.agg (by rfl) (by rfl) (by repeat constructor) ?_))) ?_
            refine OpsH.nil (by kernel_rfl) ?_
            exact ⟨(by repeat (first | exact trivial | refine ⟨rfl, ?_⟩)), SubH.tl⟩
        · (repeat' (first | refine s_pure (hdg) ?_ | refine k_nil ?_ | refine k_then ?_))
          refine ⟨SubH.nilR _, ?_⟩
          refine OpsH.only 1 _ (by kernel_rfl) rfl ?_
          refine s_bsln (cs := [str [32], str [10], str [32, 32]]) (fun g => ?_)
          (repeat' (first | refine k_nil ?_ | refine k_then ?_))
          refine ⟨SubH.nilR _, ?_⟩
          refine OpsH.first 5 _ (by kernel_rfl) rfl (by kernel_rfl) (by kernel_rfl) rfl (q_indexAddr rfl rfl (by omega)) ?_
          refine OpsH.only 6 _ (by kernel_rfl) rfl ?_
          (repeat' (first | refine s_load (hc := hsp) ?_ | refine k_nil ?_ | refine k_then ?_))
          refine ⟨SubH.nilR _, ?_⟩
          refine OpsH.first 7 _ (by kernel_rfl) rfl (by kernel_rfl) (by kernel_rfl) rfl (p_add_str (a := sepB r3) (b := [107]) rfl rfl rfl (by simp only [List.length_cons, List.length_nil]; omega)) ?_
          refine OpsH.first 10 _ (by kernel_rfl) rfl (by kernel_rfl) (by kernel_rfl) rfl (p_add_str (a := sepB r3 ++ [107]) (b := [digB j]) rfl rfl rfl (by simp only [List.length_append, List.length_cons, List.length_nil]; omega)) ?_
          refine OpsH.first 11 _ (by kernel_rfl) rfl (by kernel_rfl) (by kernel_rfl) rfl (p_add_str (a := S) (b := (sepB r3 ++ [107]) ++ [digB j]) rfl rfl rfl (by simp only [List.length_append, List.length_cons, List.length_nil]; omega)) ?_
          refine OpsH.first 12 _ (by kernel_rfl) rfl (by kernel_rfl) (by kernel_rfl) rfl (by first | exact p_move rfl | exact p_assign rfl | exact p_extract rfl rfl | exact q_fieldAddr rfl | exact p_nilCheck rfl | exact q_load rfl (by repeat (first | exact HMem.here | apply HMem.skip | apply HMem.there)) rfl | exact q_load_agg rfl (by repeat (first | exact HMem.here | apply HMem.skip | apply HMem.there)) (by repeat constructor) | exact q_len_slice rfl | exact q_len_str rfl | exact q_indexAddr rfl rfl (by omega) | exact q_slice_str rfl rfl rfl (by omega) (by omega) | exact q_makeInterface rfl | exact q_assert rfl | exact p_build rfl (by repeat' (first | exact BFill.nil | refine' BFill.one (by rfl) (by rfl) (by repeat constructor) ?_ | refine' BFill.agg (by rfl) (by rfl) (by repeat constructor) ?_))) ?_
          refine OpsH.nil (by kernel_rfl) ?_
          exact ⟨(by repeat (first | exact trivial | refine ⟨rfl, ?_⟩)), SubH.tl⟩
      · have hs1 : S ++ (sepB r3 ++ ([107, digB j] ++ valB (c.toNat / 3 % 4))) = (S ++ ((sepB r3 ++ [107]) ++ [digB j])) ++ valB (c.toNat / 3 % 4) := by simp
        rw [hs1] at hxj
        have hm4 : c.toNat / 3 % 4 < 4 := Nat.mod_lt _ (by decide)
        have hTl : (S ++ ((sepB r3 ++ [107]) ++ [digB j])).length ≤ 200 := by simp only [List.length_append, List.length_cons, List.length_nil]; omega
        generalize S ++ ((sepB r3 ++ [107]) ++ [digB j]) = T at hxj hTl ⊢
        have hf4 : c.toNat / 3 % 4 = 0 ∨ c.toNat / 3 % 4 = 1 ∨ c.toNat / 3 % 4 = 2 ∨ c.toNat / 3 % 4 = 3 := by omega
        rcases hf4 with hf | hf | hf | hf
        · rw [hf] at hxj
          (repeat' (first | refine Ops.pure _ (p_quo (a := c.toNat) (b := 3) (by rfl) (by rfl) (by decide) (by omega)) (by rfl) ?_ | refine Ops.pure _ (p_rem (a := c.toNat / 3) (b := 4) (by rfl) (by rfl) (by decide)) (by rfl) ?_ | refine s_addsx ?_ | refine k_seq ?_ | refine k_region ?_ | refine k_nil ?_ | refine k_then ?_ | refine k_true ?_ | refine k_blk ?_ | refine k_block ?_ | refine s_move ?_ | refine s_assign ?_ | refine s_add1 ?_ | refine s_eql_t ?_ | refine s_cv64 ?_))
          exact ⟨j + 1, by rw [hxj]; exact (Knows.spec (by repeat (first | exact trivial | refine ⟨rfl, ?_⟩))), SubH.refl H, by omega, by omega⟩
        · rw [hf] at hxj
          (repeat' (first | refine Ops.pure _ (p_quo (a := c.toNat) (b := 3) (by rfl) (by rfl) (by decide) (by omega)) (by rfl) ?_ | refine Ops.pure _ (p_rem (a := c.toNat / 3) (b := 4) (by rfl) (by rfl) (by decide)) (by rfl) ?_ | refine s_addsx ?_ | refine k_seq ?_ | refine k_region ?_ | refine k_nil ?_ | refine k_then ?_ | refine k_true ?_ | refine k_false ?_ | refine k_blk ?_ | refine k_block ?_ | refine s_move ?_ | refine s_assign ?_ | refine s_add1 ?_ | refine s_eql_t ?_ | refine s_eql_f ?_ | refine s_cv64 ?_))
          exact ⟨j + 1, by rw [hxj]; exact (Knows.spec (by repeat (first | exact trivial | refine ⟨rfl, ?_⟩))), SubH.refl H, by omega, by omega⟩
        · rw [hf] at hxj
          (repeat' (first | refine Ops.pure _ (p_quo (a := c.toNat) (b := 3) (by rfl) (by rfl) (by decide) (by omega)) (by rfl) ?_ | refine Ops.pure _ (p_rem (a := c.toNat / 3) (b := 4) (by rfl) (by rfl) (by decide)) (by rfl) ?_ | refine s_addsx ?_ | refine k_seq ?_ | refine k_region ?_ | refine k_nil ?_ | refine k_then ?_ | refine k_true ?_ | refine k_false ?_ | refine k_blk ?_ | refine k_block ?_ | refine s_move ?_ | refine s_assign ?_ | refine s_add1 ?_ | refine s_eql_t ?_ | refine s_eql_f ?_ | refine s_cv64 ?_))
          exact ⟨j + 1, by rw [hxj]; exact (Knows.spec (by repeat (first | exact trivial | refine ⟨rfl, ?_⟩))), SubH.refl H, by omega, by omega⟩
        · rw [hf] at hxj
          have hxj' : ([60] ++ name) ++ attsB (attsOf (l.take (j + 1))) = T := by rw [hxj]; exact List.append_nil T
          (repeat' (first | refine Ops.pure _ (p_quo (a := c.toNat) (b := 3) (by rfl) (by rfl) (by decide) (by omega)) (by rfl) ?_ | refine Ops.pure _ (p_rem (a := c.toNat / 3) (b := 4) (by rfl) (by rfl) (by decide)) (by rfl) ?_ | refine k_seq ?_ | refine k_region ?_ | refine k_nil ?_ | refine k_then ?_ | refine k_false ?_ | refine k_blk ?_ | refine k_skip ?_ | refine k_block ?_ | refine s_move ?_ | refine s_assign ?_ | refine s_add1 ?_ | refine s_eql_f ?_ | refine s_cv64 ?_))
          exact ⟨j + 1, by rw [hxj']; exact (Knows.spec (by repeat (first | exact trivial | refine ⟨rfl, ?_⟩))), SubH.refl H, by omega, by omega⟩
    · have : j = l.length := by omega
      subst this
      rw [List.take_length]
      (repeat' (first | refine k_seq ?_ | refine k_region ?_ | refine k_nil ?_ | refine k_then ?_ | refine k_false ?_ | refine k_exit ?_ | refine k_exit_then ?_ | refine k_hit ?_ | refine s_lss_f ?_))
      exact ⟨(by repeat (first | exact trivial | refine ⟨rfl, ?_⟩)), SubH.refl H⟩
  · have hT : TagOK name (attsOf l) := ⟨hne, hA1, fun c hc => by
      have := hA2 c hc
      simp only [List.mem_cons, List.not_mem_nil, or_false] at this
      rcases this with h | h | h <;> (subst h; decide), attsOf_ok (by omega)⟩
    have hb5 := hbl l.length
    rw [List.take_length] at hb5
    have t1 := htmlTag_tr (slash := slash) hT (by rw [attsOf_len]; omega)
    have hSl : (([60] ++ name) ++ attsB (attsOf l)).length ≤ 100 := by simp only [List.length_append, List.length_cons, List.length_nil]; omega
    have e0 : tagB name (attsOf l) slash = (([60] ++ name) ++ attsB (attsOf l)) ++ endB slash := by simp
    rw [e0] at t1
    generalize ([60] ++ name) ++ attsB (attsOf l) = S at t1 hSl ⊢
    cases slash with
    | true =>
      have e1 : S ++ endB true = (S ++ [32, 47]) ++ [62] := by simp [endB]
      rw [e1] at t1
      have heq : paraO ([120, 32] ++ ((S ++ [32, 47]) ++ [62]) ++ [32, 120]) = ([60, 112, 62, 120, 32] ++ ((S ++ [32, 47]) ++ [62])) ++ [32, 120, 60, 47, 112, 62, 10] := by simp [paraO]
      (repeat' (first | refine s_addsx ?_ | refine s_callD (t1) ?_ | refine s_eqs_t (hr := heq) ?_ | refine k_seq ?_ | refine k_region ?_ | refine k_nil ?_ | refine k_then ?_ | refine k_true ?_ | refine k_ret ?_ | refine s_move ?_ | refine s_assign ?_ | refine s_buildx ?_))
      exact e_ret H rfl (SubH.refl H)
    | false =>
      have e1 : S ++ endB false = S ++ [62] := rfl
      rw [e1] at t1
      have heq : paraO ([120, 32] ++ (S ++ [62]) ++ [32, 120]) = ([60, 112, 62, 120, 32] ++ (S ++ [62])) ++ [32, 120, 60, 47, 112, 62, 10] := by simp [paraO]
      (repeat' (first | refine s_addsx ?_ | refine s_callD (t1) ?_ | refine s_eqs_t (hr := heq) ?_ | refine k_seq ?_ | refine k_region ?_ | refine k_nil ?_ | refine k_then ?_ | refine k_false ?_ | refine k_skip ?_ | refine k_ret ?_ | refine s_move ?_ | refine s_assign ?_ | refine s_buildx ?_))
      exact e_ret H rfl (SubH.refl H)
end Go.Proofs

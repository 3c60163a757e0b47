/- newFence and the list items' starters answer no. Conditions: how the line begins. -/
import Derived.Test.YtblaoglgknjepaaGreatDoorW5
namespace Go.Proofs
open Go Go.Eng
set_option maxRecDepth 20000
set_option maxHeartbeats 4000000

theorem trimSpace1_tr (q i : Nat) (tx : List UInt8) (nl : Nat) (hnt : NoTab tx) (hl : tx.length ≤ 140737488355328) (hi : i ≤ tx.length) (b : Bool) (hb : b = decide (1 ≤ nsp (tx.drop i))) :
    TrD Tryz.prog 118 [lp q, .int .i64 1, .int .i64 1, .bool false] [lnb q i tx nl] (.bool b) [lnb q (if b then i + 1 else i) tx nl] := by
  have h := trimSpace_tr q i tx nl 1 1 false hnt hi hl (by omega) (by omega)
  have e : tsOK i tx 1 1 false = b := by rw [hb]; simp only [tsOK]; congr 1; simp only [Bool.false_and, Bool.or_false, decide_eq_decide, beq_iff_eq, eq_iff_iff]; omega
  have e2 : tsI i tx 1 1 false = if b then i + 1 else i := by
    unfold tsI
    rw [e]
    by_cases hq : 1 ≤ nsp (tx.drop i)
    · simp [hb, hq]
    · simp [hb, hq]
  rw [e, e2] at h
  exact h

theorem trimFence_no (q f1 f2 n i : Nat) (v1 v2 v3 : Value) (tx : List UInt8) (nl : Nat) (hnt : NoTab tx) (hl : tx.length ≤ 140737488355328) (hi : i ≤ tx.length) (h1 : at0 tx (sp3 i tx) ≠ 96) (h2 : at0 tx (sp3 i tx) ≠ 126) :
    TrD Tryz.prog 116 [lp q, lp f1, lp f2, lp n] [lnb q i tx nl, [(f1, cellsOf [v1] 9)], [(f2, cellsOf [v2] 9)], [(n, cellsOf [v3] 3)]] (.bool false) [lnb q i tx nl] := by
  refine Tr.start (n := 69) (rs := [.tmp 8]) rfl rfl rfl rfl fun B => ?_
  have hs := sp3_le hi
  (repeat' (first | refine k_seq ?_ | refine k_region ?_ | refine k_nil ?_ | refine k_then ?_ | refine s_move ?_ | refine s_assign ?_ | refine s_nilp ?_ | refine s_loada ?_ | refine s_store ?_ | refine s_storea ?_ | refine s_alloc (fun _ => ?_)))
  rename_i r
  have hsp : sp3 i tx = i + min (nsp (tx.drop i)) 3 := rfl
  refine k_mid [(0, lp q), (1, lp f1), (2, lp f2), (3, lp n), (9, lp r)] [lnb r (sp3 i tx) tx nl, lnb q i tx nl] ?_ ?_
  · (repeat' (first | refine k_blk ?_))
    refine k_loop (fun k : Nat => [(0, lp q), (1, lp f1), (2, lp f2), (3, lp n), (9, lp r)]) (fun k => [lnb r (i + k) tx nl, lnb q i tx nl, [(n, cellsOf [.int .i64 ((k : Nat) : Int)] 3)]]) (fun k => k ≤ min (nsp (tx.drop i)) 3) (fun k => 3 - k) 0 (by omega) (Knows.spec (by repeat (first | exact trivial | refine ⟨rfl, ?_⟩))) (by repeat (first | exact SubH.nilR _ | refine SubH.pick (by repeat (first | exact HTake.here | apply HTake.there)) ?_)) fun k hk => ?_
    have hd := nsp_drop (tx.drop i) k (by omega)
    rw [List.drop_drop] at hd
    by_cases hk3 : k < 3
    · by_cases hsp1 : 1 ≤ nsp (tx.drop (i + k))
      · (repeat' (first | refine s_callD (trimSpace1_tr r (i + k) tx nl hnt hl (by omega) true (by simp; omega)) ?_ | refine k_seq ?_ | refine k_region ?_ | refine k_nil ?_ | refine k_then ?_ | refine k_true ?_ | refine k_blk ?_ | refine k_skip ?_ | refine k_block ?_ | refine s_grun ?_ | refine s_move ?_ | refine s_load ?_ | refine s_nilp ?_ | refine s_add1 ?_ | refine s_lss_t ?_ | refine s_pickt ?_ | refine s_store ?_))
        exact ⟨k + 1, (Knows.spec (by repeat (first | exact trivial | refine ⟨rfl, ?_⟩))), (by repeat (first | exact SubH.nilR _ | refine SubH.pick (by repeat (first | exact HTake.here | apply HTake.there)) ?_)), by omega, by omega⟩
      · (repeat' (first | refine s_callD (trimSpace1_tr r (i + k) tx nl hnt hl (by omega) false (by simp; omega)) ?_ | refine k_seq ?_ | refine k_region ?_ | refine k_nil ?_ | refine k_then ?_ | refine k_false ?_ | refine k_exit ?_ | refine k_exit_then ?_ | refine k_hit ?_ | refine s_grun ?_ | refine s_move ?_ | refine s_load ?_ | refine s_nilp ?_ | refine s_lss_t ?_ | refine s_pickt ?_))
        have : sp3 i tx = i + k := by omega
        rw [this]
        exact ⟨(by repeat (first | exact trivial | refine ⟨rfl, ?_⟩)), (by repeat (first | exact SubH.nilR _ | refine SubH.pick (by repeat (first | exact HTake.here | apply HTake.there)) ?_))⟩
    · (repeat' (first | refine k_seq ?_ | refine k_region ?_ | refine k_nil ?_ | refine k_then ?_ | refine k_false ?_ | refine k_exit ?_ | refine k_exit_then ?_ | refine k_hit ?_ | refine s_gskipt ?_ | refine s_move ?_ | refine s_load ?_ | refine s_nilp ?_ | refine s_lss_f ?_ | refine s_pickf ?_))
      have : sp3 i tx = i + k := by omega
      rw [this]
      exact ⟨(by repeat (first | exact trivial | refine ⟨rfl, ?_⟩)), (by repeat (first | exact SubH.nilR _ | refine SubH.pick (by repeat (first | exact HTake.here | apply HTake.there)) ?_))⟩
  · (repeat' (first | refine s_callD (peek_tr _ (sp3 i tx) tx nl hl hs) ?_ | refine k_seq ?_ | refine k_region ?_ | refine k_nil ?_ | refine k_then ?_ | refine k_false ?_ | refine k_blk ?_ | refine k_skip ?_ | refine k_block ?_ | refine k_ret ?_ | refine s_move ?_ | refine s_assign ?_ | refine s_eql_f ?_))
    exact e_ret _ ⟨rfl, rfl⟩ (by repeat (first | exact SubH.nilR _ | refine SubH.pick (by repeat (first | exact HTake.here | apply HTake.there)) ?_))

theorem newFence_no (p : Value) (i : Nat) (tx : List UInt8) (nl : Nat) (hnt : NoTab tx) (hl : tx.length ≤ 140737488355328) (hi : i ≤ tx.length) (h1 : at0 tx (sp3 i tx) ≠ 96) (h2 : at0 tx (sp3 i tx) ≠ 126) :
    TrP Tryz.prog 64 [p, lnv i tx nl] (.tuple #[lnv i tx nl, .bool false]) := by
  refine Tr.start (n := 57) (rs := [.cell 4 73, .tmp 5]) rfl rfl rfl rfl fun B => ?_
  (repeat' (first | refine s_callD (trimFence_no _ _ _ _ i _ _ _ tx nl hnt hl hi h1 h2) ?_ | refine k_seq ?_ | refine k_region ?_ | refine k_nil ?_ | refine k_then ?_ | refine k_false ?_ | refine k_skip ?_ | refine k_ret ?_ | refine s_assign ?_ | refine s_loada ?_ | refine s_storea ?_ | refine s_alloc (fun _ => ?_) | refine s_alloc1 (fun _ => ?_) | refine s_box (fun _ => ?_)))
  exact e_pure ⟨rfl, rfl⟩

/-- No list begins at this text. -/
def noItem (l : List UInt8) : Prop := at0 l 0 ≠ 45 ∧ at0 l 0 ≠ 42 ∧ at0 l 0 ≠ 43 ∧ ∀ j, (∀ k, k < j → 48 ≤ at0 l k ∧ at0 l k ≤ 57) → 0 < j → at0 l j ≠ 46 ∧ at0 l j ≠ 41

theorem startListItem_no (p q i : Nat) (tx : List UInt8) (nl : Nat) (hnt : NoTab tx) (hl : tx.length ≤ 140737488355328) (hi : i ≤ tx.length) (h : noItem (tx.drop (sp3 i tx))) :
    TrD Tryz.prog 114 [lp p, lp q] [lnb q i tx nl] (.bool false) [lnb q i tx nl] := by
  refine Tr.start (n := 181) (rs := [.tmp 4]) rfl rfl rfl rfl fun B => ?_
  have hs := sp3_le hi
  have hsp : sp3 i tx = i + min (nsp (tx.drop i)) 3 := rfl
  have hat : ∀ k, at0 (tx.drop (sp3 i tx)) k = at0 tx (sp3 i tx + k) := fun k => by simp [at0]
  obtain ⟨n1, n2, n3, n4⟩ := h
  simp only [hat, Nat.add_zero] at n1 n2 n3 n4
  (repeat' (first | refine k_seq ?_ | refine k_region ?_ | refine k_nil ?_ | refine k_then ?_ | refine k_scope ?_ | refine s_move ?_ | refine s_assign ?_ | refine s_nilp ?_ | refine s_loada ?_ | refine s_storea ?_ | refine s_alloc (fun _ => ?_) | refine s_box1 (fun _ => ?_)))
  rename_i r
  refine k_midx (fun g : Nat => [(7, .int .i64 (g : Int)), (1, lp q), (5, lp r), (6, .int .i64 (g : Int))]) (fun g => [lnb r (sp3 i tx) tx nl, lnb q i tx nl]) (fun g => g ≤ 3) ?_ ?_
  · (repeat' (first | refine k_blk ?_))
    refine k_loop (fun k : Nat => [(7, .int .i64 (k : Int)), (1, lp q), (5, lp r), (6, .int .i64 (k : Int))]) (fun k => [lnb r (i + k) tx nl, lnb q i tx nl]) (fun k => k ≤ min (nsp (tx.drop i)) 3) (fun k => 3 - k) 0 (by omega) (Knows.spec (by repeat (first | exact trivial | refine ⟨rfl, ?_⟩))) (by repeat (first | exact SubH.nilR _ | refine SubH.pick (by repeat (first | exact HTake.here | apply HTake.there)) ?_)) fun k hk => ?_
    have hd := nsp_drop (tx.drop i) k (by omega)
    rw [List.drop_drop] at hd
    by_cases hk3 : k < 3
    · by_cases hsp1 : 1 ≤ nsp (tx.drop (i + k))
      · (repeat' (first | refine s_callD (trimSpace1_tr r (i + k) tx nl hnt hl (by omega) true (by simp; omega)) ?_ | refine k_seq ?_ | refine k_region ?_ | refine k_nil ?_ | refine k_then ?_ | refine k_true ?_ | refine k_false ?_ | refine k_blk ?_ | refine k_skip ?_ | refine k_block ?_ | refine s_move ?_ | refine s_assign ?_ | refine s_add1 ?_ | refine s_lss_t ?_ | refine s_nott ?_))
        exact ⟨k + 1, (Knows.spec (by repeat (first | exact trivial | refine ⟨rfl, ?_⟩))), (by repeat (first | exact SubH.nilR _ | refine SubH.pick (by repeat (first | exact HTake.here | apply HTake.there)) ?_)), by omega, by omega⟩
      · (repeat' (first | refine s_callD (trimSpace1_tr r (i + k) tx nl hnt hl (by omega) false (by simp; omega)) ?_ | refine k_seq ?_ | refine k_region ?_ | refine k_nil ?_ | refine k_then ?_ | refine k_true ?_ | refine k_blk ?_ | refine k_skip ?_ | refine k_exit ?_ | refine k_exit_then ?_ | refine k_hit ?_ | refine k_miss ?_ | refine s_move ?_ | refine s_lss_t ?_ | refine s_notf ?_))
        have : sp3 i tx = i + k := by omega
        rw [this]
        exact ⟨k, (by repeat (first | exact trivial | refine ⟨rfl, ?_⟩)), (by repeat (first | exact SubH.nilR _ | refine SubH.pick (by repeat (first | exact HTake.here | apply HTake.there)) ?_)), by omega⟩
    · (repeat' (first | refine k_seq ?_ | refine k_region ?_ | refine k_nil ?_ | refine k_then ?_ | refine k_false ?_ | refine k_exit ?_ | refine k_exit_then ?_ | refine k_hit ?_ | refine s_move ?_ | refine s_lss_f ?_))
      have : sp3 i tx = i + k := by omega
      rw [this]
      exact ⟨k, (by repeat (first | exact trivial | refine ⟨rfl, ?_⟩)), (by repeat (first | exact SubH.nilR _ | refine SubH.pick (by repeat (first | exact HTake.here | apply HTake.there)) ?_)), by omega⟩
  · intro g hg
    by_cases hdig : 48 ≤ at0 tx (sp3 i tx) ∧ at0 tx (sp3 i tx) ≤ 57
    · have hlt : sp3 i tx < tx.length := by
        by_cases hlt : sp3 i tx < tx.length
        · exact hlt
        · rw [at0_none (by omega)] at hdig; omega
      (repeat' (first | refine s_callD (peek_tr _ (sp3 i tx) tx nl hl hs) ?_ | refine k_seq ?_ | refine k_region ?_ | refine k_nil ?_ | refine k_then ?_ | refine k_false ?_ | refine k_blk ?_ | refine k_label ?_ | refine s_move ?_ | refine s_assign ?_ | refine s_eql_f ?_ | refine s_eql ?_))
      refine k_mid [(7, .int .i64 (g : Int)), (1, lp q), (5, lp r), (6, .int .i64 (g : Int)), (8, .int .u8 ((at0 tx (sp3 i tx) : Nat) : Int)), (9, .int .i64 ((0 : Nat) : Int)), (40, .bool true)] [lnb r (sp3 i tx) tx nl, lnb q i tx nl] ?_ ?_
      · (repeat' (first | refine k_seq ?_ | refine k_region ?_ | refine k_nil ?_ | refine k_then ?_ | refine k_skip ?_ | refine s_assign ?_ | refine s_eql_t ?_ | refine s_eql ?_ | refine k_split (fun hg => ?_) (fun hg => ?_)))
        all_goals exact ⟨(by repeat (first | exact trivial | refine ⟨rfl, ?_⟩ | refine ⟨congrArg (fun b => some (Value.bool b)) (decide_eq_true hg), ?_⟩)), (by repeat (first | exact SubH.nilR _ | refine SubH.pick (by repeat (first | exact HTake.here | apply HTake.there)) ?_))⟩
      · (repeat' (first | refine k_seq ?_ | refine k_region ?_ | refine k_nil ?_ | refine k_then ?_ | refine k_true ?_ | refine k_blk ?_ | refine s_assign ?_ | refine s_load ?_ | refine s_field ?_))
        refine k_loop (fun x : Nat × Int => [(7, .int .i64 (g : Int)), (1, lp q), (5, lp r), (6, .int .i64 (g : Int)), (9, .int .i64 x.2), (10, .int .i64 ((sp3 i tx + x.1 : Nat) : Int))]) (fun _ => [lnb r (sp3 i tx) tx nl, lnb q i tx nl])
          (fun x => (∀ k, k < x.1 → 48 ≤ at0 tx (sp3 i tx + k) ∧ at0 tx (sp3 i tx + k) ≤ 57) ∧ x.1 ≤ 9 ∧ 0 ≤ x.2 ∧ x.2 < ((10 ^ x.1 : Nat) : Int)) (fun x => 10 - x.1) (0, 0) ⟨by omega, by omega, by decide, by decide⟩ (Knows.spec (by repeat (first | exact trivial | refine ⟨rfl, ?_⟩))) (by repeat (first | exact SubH.nilR _ | refine SubH.pick (by repeat (first | exact HTake.here | apply HTake.there)) ?_)) fun x hx => ?_
        obtain ⟨k, num⟩ := x
        obtain ⟨hx1, hx2, hx4, hx3⟩ := hx
        simp only at hx1 hx2 hx3 hx4 ⊢
        by_cases hend : sp3 i tx + k < tx.length
        · obtain ⟨d, hd⟩ := get_some hend
          have hv := at0_some hd
          have hno : d.toNat ≠ 46 ∧ d.toNat ≠ 41 := by
            rw [← hv]
            by_cases hk0 : k = 0
            · subst hk0; rw [Nat.add_zero]; omega
            · exact n4 k hx1 (by omega)
          by_cases hdd : 48 ≤ d.toNat ∧ d.toNat ≤ 57
          · by_cases hk9 : k < 9
            · have hpow : 10 ^ (k + 1) ≤ 10 ^ 9 := Nat.pow_le_pow_right (by omega) (by omega)
              have hpow2 : 10 ^ (k + 1) = 10 ^ k * 10 := Nat.pow_succ 10 k
              have hn9 : (10 : Nat) ^ 9 = 1000000000 := by decide
              (repeat' (first | refine k_seq ?_ | refine k_region ?_ | refine k_nil ?_ | refine k_then ?_ | refine k_false ?_ | refine k_blk ?_ | refine k_skip ?_ | refine k_block ?_ | refine s_grun ?_ | refine s_move ?_ | refine s_assign ?_ | refine s_load ?_ | refine s_field ?_ | refine s_add1 ?_ | refine s_sub ?_ | refine s_lss_f ?_ | refine s_geq_f ?_ | refine s_eql_f ?_ | refine s_pickf ?_ | refine s_lens ?_ | refine s_index ?_ | refine s_addz ?_ | refine s_subz ?_ | refine s_mulz ?_ | refine s_cv64 ?_))
              refine ⟨(k + 1, num * 10 + d.toNat - 48), (Knows.spec (by repeat (first | exact trivial | refine ⟨rfl, ?_⟩))), (by repeat (first | exact SubH.nilR _ | refine SubH.pick (by repeat (first | exact HTake.here | apply HTake.there)) ?_)), ⟨?_, ?_, ?_, ?_⟩, ?_⟩
              · intro j hj
                by_cases hjk : j < k
                · exact hx1 j hjk
                · have : j = k := by simp only at hj; omega
                  subst this; rw [hv]; exact hdd
              · simp only; omega
              · simp only; omega
              · simp only; omega
              · simp only; omega
            · (repeat' (first | refine k_seq ?_ | refine k_region ?_ | refine k_nil ?_ | refine k_then ?_ | refine k_true ?_ | refine k_false ?_ | refine k_blk ?_ | refine k_skip ?_ | refine k_ret ?_ | refine k_ret_then ?_ | refine k_ret_block ?_ | refine k_ret_nogo ?_ | refine s_grun ?_ | refine s_move ?_ | refine s_assign ?_ | refine s_load ?_ | refine s_field ?_ | refine s_sub ?_ | refine s_lss_f ?_ | refine s_geq_t ?_ | refine s_geq_f ?_ | refine s_eql_f ?_ | refine s_pickf ?_ | refine s_lens ?_ | refine s_index ?_))
              exact e_ret _ ⟨rfl, rfl⟩ (by repeat (first | exact SubH.nilR _ | refine SubH.pick (by repeat (first | exact HTake.here | apply HTake.there)) ?_))
          · by_cases hlow : d.toNat < 48
            · (repeat' (first | refine k_seq ?_ | refine k_region ?_ | refine k_nil ?_ | refine k_then ?_ | refine k_true ?_ | refine k_false ?_ | refine k_blk ?_ | refine k_skip ?_ | refine k_ret ?_ | refine k_ret_then ?_ | refine k_ret_block ?_ | refine k_ret_nogo ?_ | refine s_grun ?_ | refine s_gskipf ?_ | refine s_move ?_ | refine s_assign ?_ | refine s_load ?_ | refine s_field ?_ | refine s_lss_t ?_ | refine s_geq_f ?_ | refine s_eql_f ?_ | refine s_pickt ?_ | refine s_pickf ?_ | refine s_lens ?_ | refine s_index ?_))
              exact e_ret _ ⟨rfl, rfl⟩ (by repeat (first | exact SubH.nilR _ | refine SubH.pick (by repeat (first | exact HTake.here | apply HTake.there)) ?_))
            · (repeat' (first | refine k_seq ?_ | refine k_region ?_ | refine k_nil ?_ | refine k_then ?_ | refine k_true ?_ | refine k_false ?_ | refine k_blk ?_ | refine k_skip ?_ | refine k_ret ?_ | refine k_ret_then ?_ | refine k_ret_block ?_ | refine k_ret_nogo ?_ | refine s_grun ?_ | refine s_move ?_ | refine s_assign ?_ | refine s_load ?_ | refine s_field ?_ | refine s_lss_t ?_ | refine s_lss_f ?_ | refine s_geq_f ?_ | refine s_eql_f ?_ | refine s_pickf ?_ | refine s_lens ?_ | refine s_index ?_))
              exact e_ret _ ⟨rfl, rfl⟩ (by repeat (first | exact SubH.nilR _ | refine SubH.pick (by repeat (first | exact HTake.here | apply HTake.there)) ?_))
        · (repeat' (first | refine k_seq ?_ | refine k_region ?_ | refine k_nil ?_ | refine k_then ?_ | refine k_true ?_ | refine k_blk ?_ | refine k_ret ?_ | refine k_ret_then ?_ | refine k_ret_block ?_ | refine k_ret_nogo ?_ | refine s_move ?_ | refine s_assign ?_ | refine s_load ?_ | refine s_field ?_ | refine s_geq_t ?_ | refine s_lens ?_))
          exact e_ret _ ⟨rfl, rfl⟩ (by repeat (first | exact SubH.nilR _ | refine SubH.pick (by repeat (first | exact HTake.here | apply HTake.there)) ?_))
    · (repeat' (first | refine s_callD (peek_tr _ (sp3 i tx) tx nl hl hs) ?_ | refine k_seq ?_ | refine k_region ?_ | refine k_nil ?_ | refine k_then ?_ | refine k_false ?_ | refine k_blk ?_ | refine k_ret ?_ | refine k_ret_then ?_ | refine k_ret_block ?_ | refine k_label ?_ | refine k_ret_nogo ?_ | refine s_move ?_ | refine s_assign ?_ | refine s_eql_f ?_))
      exact e_ret _ ⟨rfl, rfl⟩ (by repeat (first | exact SubH.nilR _ | refine SubH.pick (by repeat (first | exact HTake.here | apply HTake.there)) ?_))

theorem newListItem_no (p g m cap d : Nat) (s : PS) (cs : List Value) (t : Nat) (u : Value) (i : Nat) (tx : List UInt8) (nl : Nat) (hnt : NoTab tx) (hl : tx.length ≤ 140737488355328) (hi : i ≤ tx.length) (h : noItem (tx.drop (sp3 i tx)))
    (hm : d < m) (hm2 : m ≤ 140737488355328) (hb : cs[0 + d * 4 + 0]? = some (.iface t u)) (ht : Nat.beq t 215 = false) (hs : s.stack = stk g m cap) (hd : s.depth = inat d) :
    TrD Tryz.prog 62 [lp p, lnv i tx nl] [s.blk p, stb g cs] (.tuple #[lnv i tx nl, .bool false]) [s.blk p, stb g cs] := by
  refine Tr.start (n := 35) (rs := [.cell 4 73, .tmp 5]) rfl rfl rfl rfl fun B => ?_
  (repeat' (first | refine s_callD (curB_yes p g m cap d s cs _ hm hm2 hb hs hd) ?_ | refine s_callD (startListItem_no p _ i tx nl hnt hl hi h) ?_ | refine s_asno (hne := ht) ?_ | refine k_seq ?_ | refine k_region ?_ | refine k_nil ?_ | refine k_then ?_ | refine k_false ?_ | refine k_skip ?_ | refine k_ret ?_ | refine s_gskipt ?_ | refine s_move ?_ | refine s_assign ?_ | refine s_pickf ?_ | refine s_ext ?_ | refine s_loada ?_ | refine s_storea ?_ | refine s_alloc (fun _ => ?_) | refine s_box (fun _ => ?_)))
  exact e_ret _ ⟨rfl, rfl⟩ (by repeat (first | exact SubH.nilR _ | refine SubH.pick (by repeat (first | exact HTake.here | apply HTake.there)) ?_))
end Go.Proofs

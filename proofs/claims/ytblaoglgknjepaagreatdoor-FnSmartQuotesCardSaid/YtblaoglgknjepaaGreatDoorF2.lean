/- Contract of the unescaper's Replace: it gives some text, and nothing for nothing. Conditions: the table of entities, a bound on the length. -/
import Derived.Test.YtblaoglgknjepaaGreatDoorF1
namespace Go.Proofs
open Go Go.Eng
set_option maxRecDepth 20000
set_option maxHeartbeats 4000000

theorem isPunctF (c : Nat) (hc : c < 256) : TrP Tryz.prog 72 [.int .u8 c] (.bool (decide (33 ≤ c ∧ c ≤ 47 ∨ 58 ≤ c ∧ c ≤ 64 ∨ 91 ≤ c ∧ c ≤ 96 ∨ 123 ≤ c ∧ c ≤ 126))) := by
  refine Tr.start (n := 33) (rs := [.tmp 2]) rfl rfl rfl rfl fun B => ?_
  (repeat' (first | refine k_seq ?_ | refine k_region ?_ | refine k_nil ?_ | refine k_then ?_ | refine k_ret ?_ | refine s_grun ?_ | refine s_gskipt ?_ | refine s_gskipf ?_ | refine s_gskipu ?_ | refine s_move ?_ | refine s_assign ?_ | refine s_leq_f ?_ | refine s_leq ?_ | refine s_pickt ?_ | refine s_pickf ?_ | refine Ops.split_run (fun hg => ?_) (fun hg => ?_) | refine Ops.split_skip (fun hg => ?_) (fun hg => ?_)))
  all_goals (refine e_pure ?_; refine ⟨?_, rfl⟩; simp only [oneOr, Value.bool.injEq]; first | (symm; exact decide_eq_true (by omega)) | (symm; exact decide_eq_false (by omega)) | (rw [decide_eq_decide]; omega))
abbrev punctF (c : UInt8) : Prop := 33 ≤ c.toNat ∧ c.toNat ≤ 47 ∨ 58 ≤ c.toNat ∧ c.toNat ≤ 64 ∨ 91 ≤ c.toNat ∧ c.toNat ≤ 96 ∨ 123 ≤ c.toNat ∧ c.toNat ≤ 126
theorem isPunctF_yes (c : UInt8) (h : punctF c) : TrP Tryz.prog 72 [.int .u8 c.toNat] (.bool true) := by
  have := isPunctF c.toNat c.toNat_lt
  rwa [decide_eq_true h] at this
theorem isPunctF_no (c : UInt8) (h : ¬ punctF c) : TrP Tryz.prog 72 [.int .u8 c.toNat] (.bool false) := by
  have := isPunctF c.toNat c.toNat_lt
  rwa [decide_eq_false h] at this

/-- What a builder holds: nothing yet, or some bytes. -/
def BOK (b : Nat) (x : UB) : Prop := (x.p = .pointer none ∨ x.p = lp b) ∧ Bys x.v x.o x.R ∧ ((x.o = [] ∧ x.v = .slice none 0 0 ∧ x.R = []) ∨ x.o ≠ [])

/-- Replace of any text: some text. -/
theorem replace_tr (T : Nat) (es : List Value) (hE : EntOK es) (l : List UInt8) (hl : l.length ≤ 1000000) :
    Tr Tryz.prog 146 [.agg #[], str l] [ent T es] fun u K => ∃ o, u = str o ∧ o.length ≤ 8 * l.length ∧ (l = [] → o = []) ∧ K = [ent T es] := by
  refine Tr.start (n := 86) (rs := [.tmp 4]) rfl rfl rfl rfl fun B => ?_
  (repeat' (first | refine k_seq ?_ | refine k_region ?_ | refine k_nil ?_ | refine k_then ?_ | refine s_assign ?_ | refine s_alloc (fun _ => ?_) | refine s_box (fun _ => ?_)))
  rename_i r b
  refine w_nilblk ?_
  refine k_midx (fun x : UB => [(5, lp b)]) (fun x => [bldb b x.p x.v, x.R, ent T es]) (fun x => BOK b x ∧ x.o.length ≤ 8 * l.length ∧ (l = [] → x.o = [])) ?_ ?_
  · (repeat' (first | refine k_blk ?_))
    refine k_loop (fun x : UB => [(1, str l), (5, lp b), (6, inat x.j)]) (fun x => [bldb b x.p x.v, x.R, ent T es]) (fun x => BOK b x ∧ x.j ≤ l.length ∧ x.o.length ≤ 8 * x.j) (fun x => l.length - x.j) ⟨0, .pointer none, .slice none 0 0, [], []⟩ ⟨⟨.inl rfl, Own.nil _ _, .inl ⟨rfl, rfl, rfl⟩⟩, by simp, by simp⟩ (Knows.spec (by repeat (first | exact trivial | refine ⟨rfl, ?_⟩))) (by repeat (first | exact SubH.nilR _ | refine SubH.pick (by repeat (first | exact HTake.here | apply HTake.there)) ?_)) fun x hx => ?_
    obtain ⟨j, p, v, R, o⟩ := x
    obtain ⟨⟨hp, hO, hN⟩, hj, ho⟩ := hx
    simp only at hp hO hN hj ho ⊢
    by_cases hlt : j < l.length
    · obtain ⟨c, hc⟩ := get_some hlt
      have def_ : ∀ (L0 : True), True := fun _ => trivial
      by_cases h92 : c.toNat = 92
      · by_cases hlt2 : j + 1 < l.length
        · obtain ⟨d, hd⟩ := get_some hlt2
          by_cases hpu : punctF d
          · (repeat' (first | refine s_pure (isPunctF_yes d hpu) ?_ | refine k_seq ?_ | refine k_region ?_ | refine k_nil ?_ | refine k_then ?_ | refine k_true ?_ | refine k_blk ?_ | refine k_skip ?_ | refine s_grun ?_ | refine s_move ?_ | refine s_assign ?_ | refine s_add1 ?_ | refine s_lss_t ?_ | refine s_eql_t ?_ | refine s_pickt ?_ | refine s_lens ?_ | refine s_index ?_))
            refine s_call (bldByte_tr b p v o R d hp hO (by omega)) (fun u K hR => ?_)
            obtain ⟨rfl, v2, R2, h2, rfl⟩ := hR
            (repeat' (first | refine k_region ?_ | refine k_nil ?_ | refine k_then ?_ | refine k_block ?_ | refine s_move ?_ | refine s_assign ?_ | refine s_add1 ?_))
            exact ⟨⟨j + 1 + 1, lp b, v2, R2, o ++ [d]⟩, (Knows.spec (by repeat (first | exact trivial | refine ⟨rfl, ?_⟩))), (by repeat (first | exact SubH.nilR _ | refine SubH.pick (by repeat (first | exact HTake.here | apply HTake.there)) ?_)), ⟨⟨.inr rfl, h2, .inr (by simp)⟩, by simp only; omega, by simp only [List.length_append, List.length_cons, List.length_nil]; omega⟩, by simp only; omega⟩
          · (repeat' (first | refine s_pure (isPunctF_no d hpu) ?_ | refine k_seq ?_ | refine k_region ?_ | refine k_nil ?_ | refine k_then ?_ | refine k_true ?_ | refine k_false ?_ | refine k_blk ?_ | refine k_skip ?_ | refine s_grun ?_ | refine s_move ?_ | refine s_assign ?_ | refine s_add1 ?_ | refine s_lss_t ?_ | refine s_eql_t ?_ | refine s_eql_f ?_ | refine s_pickt ?_ | refine s_lens ?_ | refine s_index ?_))
            refine s_call (bldByte_tr b p v o R c hp hO (by omega)) (fun u K hR => ?_)
            obtain ⟨rfl, v2, R2, h2, rfl⟩ := hR
            (repeat' (first | refine k_region ?_ | refine k_nil ?_ | refine k_then ?_ | refine k_block ?_ | refine s_move ?_ | refine s_assign ?_ | refine s_add1 ?_))
            exact ⟨⟨j + 1, lp b, v2, R2, o ++ [c]⟩, (Knows.spec (by repeat (first | exact trivial | refine ⟨rfl, ?_⟩))), (by repeat (first | exact SubH.nilR _ | refine SubH.pick (by repeat (first | exact HTake.here | apply HTake.there)) ?_)), ⟨⟨.inr rfl, h2, .inr (by simp)⟩, by simp only; omega, by simp only [List.length_append, List.length_cons, List.length_nil]; omega⟩, by simp only; omega⟩
        · (repeat' (first | refine k_seq ?_ | refine k_region ?_ | refine k_nil ?_ | refine k_then ?_ | refine k_true ?_ | refine k_false ?_ | refine k_blk ?_ | refine k_skip ?_ | refine s_grun ?_ | refine s_gskipt ?_ | refine s_move ?_ | refine s_assign ?_ | refine s_add1 ?_ | refine s_lss_t ?_ | refine s_lss_f ?_ | refine s_eql_t ?_ | refine s_eql_f ?_ | refine s_pickt ?_ | refine s_pickf ?_ | refine s_lens ?_ | refine s_index ?_))
          refine s_call (bldByte_tr b p v o R c hp hO (by omega)) (fun u K hR => ?_)
          obtain ⟨rfl, v2, R2, h2, rfl⟩ := hR
          (repeat' (first | refine k_region ?_ | refine k_nil ?_ | refine k_then ?_ | refine k_block ?_ | refine s_move ?_ | refine s_assign ?_ | refine s_add1 ?_))
          exact ⟨⟨j + 1, lp b, v2, R2, o ++ [c]⟩, (Knows.spec (by repeat (first | exact trivial | refine ⟨rfl, ?_⟩))), (by repeat (first | exact SubH.nilR _ | refine SubH.pick (by repeat (first | exact HTake.here | apply HTake.there)) ?_)), ⟨⟨.inr rfl, h2, .inr (by simp)⟩, by simp only; omega, by simp only [List.length_append, List.length_cons, List.length_nil]; omega⟩, by simp only; omega⟩
      · by_cases h38 : c.toNat = 38
        · (repeat' (first | refine k_seq ?_ | refine k_region ?_ | refine k_nil ?_ | refine k_then ?_ | refine k_true ?_ | refine k_skip ?_ | refine s_move ?_ | refine s_lss_t ?_ | refine s_lens ?_))
          refine k_blk ?_
          skip
          refine k_blk ?_
          (repeat' (first | refine k_seq ?_ | refine k_region ?_ | refine k_nil ?_ | refine k_then ?_ | refine k_true ?_ | refine k_false ?_ | refine s_gskipt ?_ | refine s_move ?_ | refine s_assign ?_ | refine s_add1 ?_ | refine s_eql_t ?_ | refine s_eql_f ?_ | refine s_pickf ?_ | refine s_index ?_))
          refine k_midx (fun k : Nat => [(1, str l), (5, lp b), (6, inat j), (7, inat k)]) (fun _ => [bldb b p v, R, ent T es]) (fun k => j + 1 ≤ k ∧ k ≤ l.length) ?_ ?_
          · (repeat' (first | refine k_blk ?_))
            refine k_loop (fun k : Nat => [(1, str l), (5, lp b), (6, inat j), (7, inat k)]) (fun _ => [bldb b p v, R, ent T es]) (fun k => j + 1 ≤ k ∧ k ≤ l.length) (fun k => l.length - k) (j + 1) ⟨Nat.le_refl _, by omega⟩ (Knows.spec (by repeat (first | exact trivial | refine ⟨rfl, ?_⟩))) (by repeat (first | exact SubH.nilR _ | refine SubH.pick (by repeat (first | exact HTake.here | apply HTake.there)) ?_)) fun k hk => ?_
            obtain ⟨hk1, hk2⟩ := hk
            by_cases hkl : k < l.length
            · obtain ⟨d, hd⟩ := get_some hkl
              by_cases h59 : d.toNat = 59
              · (repeat' (first | refine k_seq ?_ | refine k_region ?_ | refine k_nil ?_ | refine k_then ?_ | refine k_false ?_ | refine k_exit ?_ | refine k_exit_then ?_ | refine k_hit ?_ | refine s_grun ?_ | refine s_move ?_ | refine s_lss_t ?_ | refine s_neq_f ?_ | refine s_pickt ?_ | refine s_lens ?_ | refine s_index ?_))
                exact ⟨k, (by repeat (first | exact trivial | refine ⟨rfl, ?_⟩)), (by repeat (first | exact SubH.nilR _ | refine SubH.pick (by repeat (first | exact HTake.here | apply HTake.there)) ?_)), hk1, hk2⟩
              · (repeat' (first | refine k_seq ?_ | refine k_region ?_ | refine k_nil ?_ | refine k_then ?_ | refine k_true ?_ | refine k_blk ?_ | refine k_skip ?_ | refine k_block ?_ | refine s_grun ?_ | refine s_move ?_ | refine s_assign ?_ | refine s_add1 ?_ | refine s_lss_t ?_ | refine s_neq_t ?_ | refine s_pickt ?_ | refine s_lens ?_ | refine s_index ?_))
                exact ⟨k + 1, (Knows.spec (by repeat (first | exact trivial | refine ⟨rfl, ?_⟩))), (by repeat (first | exact SubH.nilR _ | refine SubH.pick (by repeat (first | exact HTake.here | apply HTake.there)) ?_)), by omega, by omega⟩
            · (repeat' (first | refine k_seq ?_ | refine k_region ?_ | refine k_nil ?_ | refine k_then ?_ | refine k_false ?_ | refine k_exit ?_ | refine k_exit_then ?_ | refine k_hit ?_ | refine s_gskipt ?_ | refine s_move ?_ | refine s_lss_f ?_ | refine s_pickf ?_ | refine s_lens ?_))
              exact ⟨k, (by repeat (first | exact trivial | refine ⟨rfl, ?_⟩)), (by repeat (first | exact SubH.nilR _ | refine SubH.pick (by repeat (first | exact HTake.here | apply HTake.there)) ?_)), hk1, hk2⟩
          · intro k ⟨hk1, hk2⟩
            by_cases hkl : k < l.length
            · (repeat' (first | refine k_seq ?_ | refine k_region ?_ | refine k_nil ?_ | refine k_then ?_ | refine k_true ?_ | refine s_move ?_ | refine s_add1 ?_ | refine s_lss_t ?_ | refine s_lens ?_ | refine s_slices ?_))
              refine s_call (htmlEntity_tr T es hE _) (fun u K hR => ?_)
              obtain ⟨⟨s, ok, rfl, hs8, hok⟩, rfl⟩ := hR
              cases ok with
              | true =>
                (repeat' (first | refine k_seq ?_ | refine k_region ?_ | refine k_nil ?_ | refine k_then ?_ | refine k_true ?_ | refine s_move ?_ | refine s_assign ?_ | refine s_ext ?_))
                refine s_call (bldStr_tr b p v o R s hp hO (hok rfl) (by omega)) (fun u K hR => ?_)
                obtain ⟨rfl, v2, R2, h2, rfl⟩ := hR
                (repeat' (first | refine k_seq ?_ | refine k_region ?_ | refine k_nil ?_ | refine k_then ?_ | refine k_exit ?_ | refine k_exit_then ?_ | refine k_hit ?_ | refine k_miss ?_ | refine s_move ?_ | refine s_assign ?_ | refine s_add1 ?_))
                exact ⟨⟨k + 1, lp b, v2, R2, o ++ s⟩, (Knows.spec (by repeat (first | exact trivial | refine ⟨rfl, ?_⟩))), (by repeat (first | exact SubH.nilR _ | refine SubH.pick (by repeat (first | exact HTake.here | apply HTake.there)) ?_)), ⟨⟨.inr rfl, h2, .inr (by simp [hok rfl])⟩, by simp only; omega, by simp only [List.length_append]; omega⟩, by simp only; omega⟩
              | false =>
                (repeat' (first | refine k_seq ?_ | refine k_region ?_ | refine k_nil ?_ | refine k_then ?_ | refine k_false ?_ | refine k_skip ?_ | refine s_move ?_ | refine s_assign ?_ | refine s_index ?_ | refine s_ext ?_))
                refine s_call (bldByte_tr b p v o R c hp hO (by omega)) (fun u K hR => ?_)
                obtain ⟨rfl, v2, R2, h2, rfl⟩ := hR
                (repeat' (first | refine k_region ?_ | refine k_nil ?_ | refine k_then ?_ | refine k_block ?_ | refine s_move ?_ | refine s_assign ?_ | refine s_add1 ?_))
                exact ⟨⟨j + 1, lp b, v2, R2, o ++ [c]⟩, (Knows.spec (by repeat (first | exact trivial | refine ⟨rfl, ?_⟩))), (by repeat (first | exact SubH.nilR _ | refine SubH.pick (by repeat (first | exact HTake.here | apply HTake.there)) ?_)), ⟨⟨.inr rfl, h2, .inr (by simp)⟩, by simp only; omega, by simp only [List.length_append, List.length_cons, List.length_nil]; omega⟩, by simp only; omega⟩
            · (repeat' (first | refine k_seq ?_ | refine k_region ?_ | refine k_nil ?_ | refine k_then ?_ | refine k_false ?_ | refine k_skip ?_ | refine s_move ?_ | refine s_lss_f ?_ | refine s_lens ?_ | refine s_index ?_))
              refine s_call (bldByte_tr b p v o R c hp hO (by omega)) (fun u K hR => ?_)
              obtain ⟨rfl, v2, R2, h2, rfl⟩ := hR
              (repeat' (first | refine k_region ?_ | refine k_nil ?_ | refine k_then ?_ | refine k_block ?_ | refine s_move ?_ | refine s_assign ?_ | refine s_add1 ?_))
              exact ⟨⟨j + 1, lp b, v2, R2, o ++ [c]⟩, (Knows.spec (by repeat (first | exact trivial | refine ⟨rfl, ?_⟩))), (by repeat (first | exact SubH.nilR _ | refine SubH.pick (by repeat (first | exact HTake.here | apply HTake.there)) ?_)), ⟨⟨.inr rfl, h2, .inr (by simp)⟩, by simp only; omega, by simp only [List.length_append, List.length_cons, List.length_nil]; omega⟩, by simp only; omega⟩
        · (repeat' (first | refine k_seq ?_ | refine k_region ?_ | refine k_nil ?_ | refine k_then ?_ | refine k_true ?_ | refine k_false ?_ | refine k_blk ?_ | refine k_skip ?_ | refine s_gskipt ?_ | refine s_move ?_ | refine s_assign ?_ | refine s_lss_t ?_ | refine s_eql_f ?_ | refine s_pickf ?_ | refine s_lens ?_ | refine s_index ?_))
          refine s_call (bldByte_tr b p v o R c hp hO (by omega)) (fun u K hR => ?_)
          obtain ⟨rfl, v2, R2, h2, rfl⟩ := hR
          (repeat' (first | refine k_region ?_ | refine k_nil ?_ | refine k_then ?_ | refine k_block ?_ | refine s_move ?_ | refine s_assign ?_ | refine s_add1 ?_))
          exact ⟨⟨j + 1, lp b, v2, R2, o ++ [c]⟩, (Knows.spec (by repeat (first | exact trivial | refine ⟨rfl, ?_⟩))), (by repeat (first | exact SubH.nilR _ | refine SubH.pick (by repeat (first | exact HTake.here | apply HTake.there)) ?_)), ⟨⟨.inr rfl, h2, .inr (by simp)⟩, by simp only; omega, by simp only [List.length_append, List.length_cons, List.length_nil]; omega⟩, by simp only; omega⟩
    · have : j = l.length := by omega
      subst this
      (repeat' (first | refine k_seq ?_ | refine k_region ?_ | refine k_nil ?_ | refine k_then ?_ | refine k_false ?_ | refine k_exit ?_ | refine k_exit_then ?_ | refine k_hit ?_ | refine s_move ?_ | refine s_lss_f ?_ | refine s_lens ?_))
      refine ⟨⟨l.length, p, v, R, o⟩, (by repeat (first | exact trivial | refine ⟨rfl, ?_⟩)), (by repeat (first | exact SubH.nilR _ | refine SubH.pick (by repeat (first | exact HTake.here | apply HTake.there)) ?_)), ⟨hp, hO, hN⟩, by simp only; omega, fun h => ?_⟩
      rw [h] at ho
      exact List.eq_nil_of_length_eq_zero (by simpa using ho)
  · intro x ⟨⟨hp, hO, hN⟩, ho, hn⟩
    obtain ⟨j, p, v, R, o⟩ := x
    simp only at hp hO hN ho hn ⊢
    rcases hN with ⟨rfl, rfl, rfl⟩ | hne
    · (repeat' (first | refine k_seq ?_ | refine k_region ?_))
      refine s_call (bldString_nil b p) (fun u K hR => ?_)
      obtain ⟨rfl, rfl⟩ := hR
      (repeat' (first | refine k_nil ?_ | refine k_then ?_ | refine k_ret ?_ | refine s_assign ?_))
      exact e_ret _ ⟨[], rfl, by simp, fun _ => rfl, rfl⟩ (by repeat (first | exact SubH.nilR _ | refine SubH.pick (by repeat (first | exact HTake.here | apply HTake.there)) ?_))
    · (repeat' (first | refine k_seq ?_ | refine k_region ?_))
      refine s_call (bldString_tr b p v o R hO hne (by omega)) (fun u K hR => ?_)
      obtain ⟨rfl, rfl⟩ := hR
      (repeat' (first | refine k_nil ?_ | refine k_then ?_ | refine k_ret ?_ | refine s_assign ?_))
      exact e_ret _ ⟨o, rfl, ho, hn, rfl⟩ (by repeat (first | exact SubH.nilR _ | refine SubH.pick (by repeat (first | exact HTake.here | apply HTake.there)) ?_))
end Go.Proofs

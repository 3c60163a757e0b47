/- Steps of the walk of the program and plain facts on what it computes. Conditions: as each theorem states them. -/
import Derived.Test.YthmgajolaekpdaaGreatDoorT11
namespace Go.Proofs
open Go Go.Eng
set_option maxRecDepth 20000
set_option maxHeartbeats 4000000

def closeTagM (s : List UInt8) (i : Nat) : Option Nat :=
  if s[i]? = some 60 ∧ s[i + 1]? = some 47 ∧ i + 2 < s.length then (match tagNameM s (i + 2) with
    | none => none
    | some j => if s[scan isSp s j]? = some 62 then some (scan isSp s j + 1) else none) else none
theorem closeTagM_lt {s : List UInt8} {i k : Nat} (h : closeTagM s i = some k) : i < k ∧ k ≤ s.length := by
  unfold closeTagM at h
  split at h
  · split at h
    · cases h
    · rename_i j hj
      have h1 := tagNameM_lt hj
      have h2 := scan_ge isSp s j
      generalize scan isSp s j = a at h h2
      by_cases h62 : s[a]? = some 62
      · rw [if_pos h62] at h
        have := (List.getElem?_eq_some_iff.1 h62).1
        have := Option.some.inj h
        omega
      · rw [if_neg h62] at h; cases h
  · cases h
theorem closeTagG_tr (p : Nat) (st : PS) (s : List UInt8) (i : Nat) (hl : s.length ≤ 1000000) (hi : i ≤ s.length) (cn : Bool) (hcn : st.corner = .bool cn) :
    Tr Tryz.prog 147 [lp p, str s, inat i] [st.blk p] fun u K => ∃ q cn', u = tagV q (closeTagM s i) ∧ K = ({ st with corner := .bool cn' } : PS).blk p :: tagK q s i (closeTagM s i) := by
  obtain ⟨par, root, links, lineno, stack, depth, corner, sv, em, list, lists, texts, bt⟩ := st
  subst hcn
  by_cases hlt : i + 2 < s.length
  · obtain ⟨c, hc⟩ := get_some (show i < s.length by omega)
    obtain ⟨d, hd⟩ := get_some (show i + 1 < s.length by omega)
    by_cases h60 : c.toNat = 60
    · by_cases h47 : d.toNat = 47
      · have e60 : c = 60 := UInt8.toNat_inj.1 h60
        have e47 : d = 47 := UInt8.toNat_inj.1 h47
        unfold closeTagM
        rw [hc, hd, e60, e47, if_pos ⟨rfl, rfl, hlt⟩]
        have hS := skipSpaceG_tr s (i + 2) hl (by omega)
        have hT := tagNameG_tr s (i + 2) hl (by omega)
        generalize scan isSp s (i + 2) = a at hS
        refine Tr.start (n := 72) (rs := [.tmp 6, .tmp 7, .tmp 8]) rfl rfl rfl rfl fun B => ?_
        (repeat' (first | refine s_pure (hS) ?_ | refine k_seq ?_ | refine k_region ?_ | refine k_nil ?_ | refine k_then ?_ | refine k_false ?_ | refine k_skip ?_ | refine s_grun ?_ | refine s_move ?_ | refine s_assign ?_ | refine s_add1 ?_ | refine s_add2 ?_ | refine s_geq_f ?_ | refine s_neq_f ?_ | refine s_neq ?_ | refine s_pickf ?_ | refine s_lens ?_ | refine s_index ?_))
        refine k_midx (fun c : Bool => [(0, lp p), (1, str s), (2, inat i)]) (fun c => [(⟨par, root, links, lineno, stack, depth, .bool c, sv, em, list, lists, texts, bt⟩ : PS).blk p]) (fun _ => True) ?_ ?_
        · refine k_split (fun _ => ?_) (fun _ => ?_)
          · (repeat' (first | refine k_region ?_ | refine k_nil ?_ | refine k_then ?_ | refine s_move ?_ | refine s_field ?_ | refine s_nilp ?_ | refine s_store ?_))
            exact ⟨true, (by repeat (first | exact trivial | refine ⟨rfl, ?_⟩)), (by repeat (first | exact SubH.nilR _ | refine SubH.pick (by repeat (first | exact HTake.here | apply HTake.there)) ?_)), trivial⟩
          · (repeat' (first | refine k_then ?_ | refine k_skip ?_))
            exact ⟨cn, (by repeat (first | exact trivial | refine ⟨rfl, ?_⟩)), (by repeat (first | exact SubH.nilR _ | refine SubH.pick (by repeat (first | exact HTake.here | apply HTake.there)) ?_)), trivial⟩
        · rintro c2 -
          cases hn : tagNameM s (i + 2) with
          | none =>
            rw [hn] at hT
            dsimp only
            (repeat' (first | refine s_pure (hT) ?_ | refine k_seq ?_ | refine k_region ?_ | refine k_nil ?_ | refine k_then ?_ | refine k_false ?_ | refine k_skip ?_ | refine k_ret ?_ | refine s_move ?_ | refine s_assign ?_ | refine s_add2 ?_ | refine s_ext ?_))
            exact e_ret _ ⟨0, c2, rfl, rfl⟩ (by repeat (first | exact SubH.nilR _ | refine SubH.pick (by repeat (first | exact HTake.here | apply HTake.there)) ?_))
          | some j =>
            rw [hn] at hT
            have h1 := tagNameM_lt hn
            dsimp only
            have hS2 := skipSpaceG_tr s j hl (by omega)
            have hge := scan_ge isSp s j
            generalize scan isSp s j = k at hS2 hge ⊢
            by_cases hkl : k < s.length
            · obtain ⟨e, he⟩ := get_some hkl
              rw [he]
              by_cases h62 : e.toNat = 62
              · have e62 : e = 62 := UInt8.toNat_inj.1 h62
                rw [e62, if_pos rfl]
                (repeat' (first | refine s_pure (hT) ?_ | refine s_pure (hS2) ?_ | refine k_seq ?_ | refine k_region ?_ | refine k_nil ?_ | refine k_then ?_ | refine k_true ?_ | refine k_ret ?_ | refine k_ret_then ?_ | refine s_grun ?_ | refine s_move ?_ | refine s_assign ?_ | refine s_add1 ?_ | refine s_add2 ?_ | refine s_lss_t ?_ | refine s_eql_t ?_ | refine s_pickt ?_ | refine s_lens ?_ | refine s_index ?_ | refine s_ext ?_ | refine s_slices ?_ | refine s_mki ?_ | refine s_buildx ?_ | refine s_box (fun _ => ?_)))
                rename_i q
                exact e_ret _ ⟨q, c2, rfl, rfl⟩ (by repeat (first | exact SubH.nilR _ | refine SubH.pick (by repeat (first | exact HTake.here | apply HTake.there)) ?_))
              · rw [if_neg (fun h => by cases h; exact h62 rfl)]
                (repeat' (first | refine s_pure (hT) ?_ | refine s_pure (hS2) ?_ | refine k_seq ?_ | refine k_region ?_ | refine k_nil ?_ | refine k_then ?_ | refine k_true ?_ | refine k_false ?_ | refine k_skip ?_ | refine k_ret ?_ | refine s_grun ?_ | refine s_move ?_ | refine s_assign ?_ | refine s_add2 ?_ | refine s_lss_t ?_ | refine s_eql_f ?_ | refine s_pickt ?_ | refine s_lens ?_ | refine s_index ?_ | refine s_ext ?_))
                exact e_ret _ ⟨0, c2, rfl, rfl⟩ (by repeat (first | exact SubH.nilR _ | refine SubH.pick (by repeat (first | exact HTake.here | apply HTake.there)) ?_))
            · rw [List.getElem?_eq_none (by omega), if_neg (by simp)]
              (repeat' (first | refine s_pure (hT) ?_ | refine s_pure (hS2) ?_ | refine k_seq ?_ | refine k_region ?_ | refine k_nil ?_ | refine k_then ?_ | refine k_true ?_ | refine k_false ?_ | refine k_skip ?_ | refine k_ret ?_ | refine s_gskipt ?_ | refine s_move ?_ | refine s_assign ?_ | refine s_add2 ?_ | refine s_lss_f ?_ | refine s_pickf ?_ | refine s_lens ?_ | refine s_ext ?_))
              exact e_ret _ ⟨0, c2, rfl, rfl⟩ (by repeat (first | exact SubH.nilR _ | refine SubH.pick (by repeat (first | exact HTake.here | apply HTake.there)) ?_))
      · have e : closeTagM s i = none := by
          unfold closeTagM
          rw [if_neg (by rintro ⟨_, h, _⟩; rw [hd] at h; cases h; exact h47 rfl)]
        rw [e]
        refine Tr.start (n := 72) (rs := [.tmp 6, .tmp 7, .tmp 8]) rfl rfl rfl rfl fun B => ?_
        (repeat' (first | refine k_seq ?_ | refine k_region ?_ | refine k_nil ?_ | refine k_then ?_ | refine k_true ?_ | refine k_ret ?_ | refine k_ret_then ?_ | refine s_grun ?_ | refine s_move ?_ | refine s_assign ?_ | refine s_add1 ?_ | refine s_add2 ?_ | refine s_geq_f ?_ | refine s_neq_t ?_ | refine s_neq_f ?_ | refine s_pickf ?_ | refine s_lens ?_ | refine s_index ?_))
        exact e_ret _ ⟨0, cn, rfl, rfl⟩ (by repeat (first | exact SubH.nilR _ | refine SubH.pick (by repeat (first | exact HTake.here | apply HTake.there)) ?_))
    · have e : closeTagM s i = none := by
        unfold closeTagM
        rw [if_neg (by rintro ⟨h, _, _⟩; rw [hc] at h; cases h; exact h60 rfl)]
      rw [e]
      refine Tr.start (n := 72) (rs := [.tmp 6, .tmp 7, .tmp 8]) rfl rfl rfl rfl fun B => ?_
      (repeat' (first | refine k_seq ?_ | refine k_region ?_ | refine k_nil ?_ | refine k_then ?_ | refine k_true ?_ | refine k_ret ?_ | refine k_ret_then ?_ | refine s_grun ?_ | refine s_gskipf ?_ | refine s_move ?_ | refine s_assign ?_ | refine s_add2 ?_ | refine s_geq_f ?_ | refine s_neq_t ?_ | refine s_pickt ?_ | refine s_pickf ?_ | refine s_lens ?_ | refine s_index ?_))
      exact e_ret _ ⟨0, cn, rfl, rfl⟩ (by repeat (first | exact SubH.nilR _ | refine SubH.pick (by repeat (first | exact HTake.here | apply HTake.there)) ?_))
  · have e : closeTagM s i = none := by
      unfold closeTagM
      rw [if_neg (by rintro ⟨_, _, h⟩; omega)]
    rw [e]
    refine Tr.start (n := 72) (rs := [.tmp 6, .tmp 7, .tmp 8]) rfl rfl rfl rfl fun B => ?_
    (repeat' (first | refine k_seq ?_ | refine k_region ?_ | refine k_nil ?_ | refine k_then ?_ | refine k_true ?_ | refine k_ret ?_ | refine k_ret_then ?_ | refine s_gskipf ?_ | refine s_move ?_ | refine s_assign ?_ | refine s_add2 ?_ | refine s_geq_t ?_ | refine s_pickt ?_ | refine s_lens ?_))
    exact e_ret _ ⟨0, cn, rfl, rfl⟩ (by repeat (first | exact SubH.nilR _ | refine SubH.pick (by repeat (first | exact HTake.here | apply HTake.there)) ?_))

theorem declM_lt {s : List UInt8} {i k : Nat} (h : declM s i = some k) : i < k ∧ k ≤ s.length := by
  unfold declM at h
  split at h
  · split at h
    · have := markM_lt (by decide) h
      simp only [List.length_cons, List.length_nil] at this
      omega
    · cases h
  · cases h
/-- A piece of HTML in a line. -/
def htmlTagM (s : List UInt8) (i : Nat) : Option Nat := if s[i]? = some 60 then (match s[i + 1]?, s[i + 2]? with
  | some c, some d => if c.toNat = 47 then closeTagM s i else if c.toNat = 33 then (if d.toNat = 45 then commentM s i else if d.toNat = 91 then cdataM s i else declM s i) else if c.toNat = 63 then procM s i else openTagM s i
  | _, _ => none) else none
theorem htmlTagM_lt {s : List UInt8} {i k : Nat} (h : htmlTagM s i = some k) : i < k ∧ k ≤ s.length := by
  unfold htmlTagM at h
  split at h
  · split at h
    · split at h
      · exact closeTagM_lt h
      · split at h
        · split at h
          · exact commentM_lt h
          · split at h
            · have := markM_lt (by decide) h
              simp only [List.length_cons, List.length_nil] at this
              omega
            · exact declM_lt h
        · split at h
          · have := markM_lt (by decide) h
            simp only [List.length_cons, List.length_nil] at this
            omega
          · exact openTagM_lt h
    · cases h
  · cases h
theorem htmlTagG_tr (p : Nat) (st : PS) (s : List UInt8) (i : Nat) (hl : s.length ≤ 1000000) (hi : i ≤ s.length) (cn : Bool) (hcn : st.corner = .bool cn) :
    Tr Tryz.prog 97 [lp p, str s, inat i] [st.blk p] fun u K => ∃ q cn', u = tagV q (htmlTagM s i) ∧ K = ({ st with corner := .bool cn' } : PS).blk p :: tagK q s i (htmlTagM s i) := by
  obtain ⟨par, root, links, lineno, stack, depth, corner, sv, em, list, lists, texts, bt⟩ := st
  subst hcn
  unfold htmlTagM
  by_cases hlt : i + 2 < s.length
  · obtain ⟨c0, hc0⟩ := get_some (show i < s.length by omega)
    obtain ⟨c, hc⟩ := get_some (show i + 1 < s.length by omega)
    obtain ⟨d, hd⟩ := get_some hlt
    rw [hc0, hc, hd]
    dsimp only
    by_cases h60 : c0.toNat = 60
    · have e60 : c0 = 60 := UInt8.toNat_inj.1 h60
      rw [e60, if_pos rfl]
      by_cases h1 : c.toNat = 47
      · rw [if_pos h1]
        refine Tr.start (n := 77) (rs := [.tmp 6, .tmp 7, .tmp 8]) rfl rfl rfl rfl fun B => ?_
        (repeat' (first | refine k_seq ?_ | refine k_region ?_ | refine k_nil ?_ | refine k_then ?_ | refine k_true ?_ | refine k_blk ?_ | refine s_grun ?_ | refine s_move ?_ | refine s_assign ?_ | refine s_add1 ?_ | refine s_add3 ?_ | refine s_leq_t ?_ | refine s_eql_t ?_ | refine s_pickt ?_ | refine s_lens ?_ | refine s_index ?_))
        refine s_call (closeTagG_tr p _ s i hl hi cn rfl) (fun u K hR => ?_)
        obtain ⟨q, cn', rfl, rfl⟩ := hR
        cases closeTagM s i with
        | none =>
          (repeat' (first | refine k_nil ?_ | refine k_then ?_ | refine k_ret ?_ | refine k_ret_then ?_ | refine k_ret_block ?_ | refine s_assign ?_ | refine s_ext ?_))
          exact e_ret _ ⟨q, cn', rfl, rfl⟩ (by repeat (first | exact SubH.nilR _ | refine SubH.pick (by repeat (first | exact HTake.here | apply HTake.there)) ?_))
        | some j =>
          (repeat' (first | refine k_nil ?_ | refine k_then ?_ | refine k_ret ?_ | refine k_ret_then ?_ | refine k_ret_block ?_ | refine s_assign ?_ | refine s_ext ?_))
          exact e_ret _ ⟨q, cn', rfl, rfl⟩ (by repeat (first | exact SubH.nilR _ | refine SubH.pick (by repeat (first | exact HTake.here | apply HTake.there)) ?_))
      rw [if_neg h1]
      by_cases h2 : c.toNat = 33
      · rw [if_pos h2]
        by_cases h3 : d.toNat = 45
        · rw [if_pos h3]
          refine Tr.start (n := 77) (rs := [.tmp 6, .tmp 7, .tmp 8]) rfl rfl rfl rfl fun B => ?_
          (repeat' (first | refine k_seq ?_ | refine k_region ?_ | refine k_nil ?_ | refine k_then ?_ | refine k_true ?_ | refine k_false ?_ | refine k_blk ?_ | refine s_grun ?_ | refine s_move ?_ | refine s_assign ?_ | refine s_add1 ?_ | refine s_add2 ?_ | refine s_add3 ?_ | refine s_leq_t ?_ | refine s_eql_t ?_ | refine s_eql_f ?_ | refine s_pickt ?_ | refine s_lens ?_ | refine s_index ?_))
          refine s_call (commentG_tr s i hl hi) (fun u K hR => ?_)
          obtain ⟨q, rfl, rfl⟩ := hR
          cases commentM s i with
          | none =>
            (repeat' (first | refine k_nil ?_ | refine k_then ?_ | refine k_ret ?_ | refine k_ret_then ?_ | refine k_ret_block ?_ | refine s_assign ?_ | refine s_ext ?_))
            exact e_ret _ ⟨q, cn, rfl, rfl⟩ (by repeat (first | exact SubH.nilR _ | refine SubH.pick (by repeat (first | exact HTake.here | apply HTake.there)) ?_))
          | some j =>
            (repeat' (first | refine k_nil ?_ | refine k_then ?_ | refine k_ret ?_ | refine k_ret_then ?_ | refine k_ret_block ?_ | refine s_assign ?_ | refine s_ext ?_))
            exact e_ret _ ⟨q, cn, rfl, rfl⟩ (by repeat (first | exact SubH.nilR _ | refine SubH.pick (by repeat (first | exact HTake.here | apply HTake.there)) ?_))
        rw [if_neg h3]
        by_cases h4 : d.toNat = 91
        · rw [if_pos h4]
          refine Tr.start (n := 77) (rs := [.tmp 6, .tmp 7, .tmp 8]) rfl rfl rfl rfl fun B => ?_
          (repeat' (first | refine k_seq ?_ | refine k_region ?_ | refine k_nil ?_ | refine k_then ?_ | refine k_true ?_ | refine k_false ?_ | refine k_blk ?_ | refine s_grun ?_ | refine s_move ?_ | refine s_assign ?_ | refine s_add1 ?_ | refine s_add2 ?_ | refine s_add3 ?_ | refine s_leq_t ?_ | refine s_eql_t ?_ | refine s_eql_f ?_ | refine s_pickt ?_ | refine s_lens ?_ | refine s_index ?_))
          refine s_call (cdataG_tr s i hl hi) (fun u K hR => ?_)
          obtain ⟨q, rfl, rfl⟩ := hR
          cases cdataM s i with
          | none =>
            (repeat' (first | refine k_nil ?_ | refine k_then ?_ | refine k_ret ?_ | refine k_ret_then ?_ | refine k_ret_block ?_ | refine s_assign ?_ | refine s_ext ?_))
            exact e_ret _ ⟨q, cn, rfl, rfl⟩ (by repeat (first | exact SubH.nilR _ | refine SubH.pick (by repeat (first | exact HTake.here | apply HTake.there)) ?_))
          | some j =>
            (repeat' (first | refine k_nil ?_ | refine k_then ?_ | refine k_ret ?_ | refine k_ret_then ?_ | refine k_ret_block ?_ | refine s_assign ?_ | refine s_ext ?_))
            exact e_ret _ ⟨q, cn, rfl, rfl⟩ (by repeat (first | exact SubH.nilR _ | refine SubH.pick (by repeat (first | exact HTake.here | apply HTake.there)) ?_))
        · rw [if_neg h4]
          refine Tr.start (n := 77) (rs := [.tmp 6, .tmp 7, .tmp 8]) rfl rfl rfl rfl fun B => ?_
          (repeat' (first | refine k_seq ?_ | refine k_region ?_ | refine k_nil ?_ | refine k_then ?_ | refine k_true ?_ | refine k_false ?_ | refine k_blk ?_ | refine s_grun ?_ | refine s_move ?_ | refine s_assign ?_ | refine s_add1 ?_ | refine s_add2 ?_ | refine s_add3 ?_ | refine s_leq_t ?_ | refine s_eql_t ?_ | refine s_eql_f ?_ | refine s_pickt ?_ | refine s_lens ?_ | refine s_index ?_))
          refine s_call (declG_tr p _ s i hl hi cn rfl) (fun u K hR => ?_)
          obtain ⟨q, cn', rfl, rfl⟩ := hR
          cases declM s i with
          | none =>
            (repeat' (first | refine k_nil ?_ | refine k_then ?_ | refine k_ret ?_ | refine k_ret_then ?_ | refine k_ret_block ?_ | refine s_assign ?_ | refine s_ext ?_))
            exact e_ret _ ⟨q, cn', rfl, rfl⟩ (by repeat (first | exact SubH.nilR _ | refine SubH.pick (by repeat (first | exact HTake.here | apply HTake.there)) ?_))
          | some j =>
            (repeat' (first | refine k_nil ?_ | refine k_then ?_ | refine k_ret ?_ | refine k_ret_then ?_ | refine k_ret_block ?_ | refine s_assign ?_ | refine s_ext ?_))
            exact e_ret _ ⟨q, cn', rfl, rfl⟩ (by repeat (first | exact SubH.nilR _ | refine SubH.pick (by repeat (first | exact HTake.here | apply HTake.there)) ?_))
      rw [if_neg h2]
      by_cases h5 : c.toNat = 63
      · rw [if_pos h5]
        refine Tr.start (n := 77) (rs := [.tmp 6, .tmp 7, .tmp 8]) rfl rfl rfl rfl fun B => ?_
        (repeat' (first | refine k_seq ?_ | refine k_region ?_ | refine k_nil ?_ | refine k_then ?_ | refine k_true ?_ | refine k_false ?_ | refine k_blk ?_ | refine s_grun ?_ | refine s_move ?_ | refine s_assign ?_ | refine s_add1 ?_ | refine s_add3 ?_ | refine s_leq_t ?_ | refine s_eql_t ?_ | refine s_eql_f ?_ | refine s_pickt ?_ | refine s_lens ?_ | refine s_index ?_))
        refine s_call (procG_tr s i hl hi) (fun u K hR => ?_)
        obtain ⟨q, rfl, rfl⟩ := hR
        cases procM s i with
        | none =>
          (repeat' (first | refine k_nil ?_ | refine k_then ?_ | refine k_ret ?_ | refine k_ret_then ?_ | refine k_ret_block ?_ | refine s_assign ?_ | refine s_ext ?_))
          exact e_ret _ ⟨q, cn, rfl, rfl⟩ (by repeat (first | exact SubH.nilR _ | refine SubH.pick (by repeat (first | exact HTake.here | apply HTake.there)) ?_))
        | some j =>
          (repeat' (first | refine k_nil ?_ | refine k_then ?_ | refine k_ret ?_ | refine k_ret_then ?_ | refine k_ret_block ?_ | refine s_assign ?_ | refine s_ext ?_))
          exact e_ret _ ⟨q, cn, rfl, rfl⟩ (by repeat (first | exact SubH.nilR _ | refine SubH.pick (by repeat (first | exact HTake.here | apply HTake.there)) ?_))
      · rw [if_neg h5]
        refine Tr.start (n := 77) (rs := [.tmp 6, .tmp 7, .tmp 8]) rfl rfl rfl rfl fun B => ?_
        (repeat' (first | refine k_seq ?_ | refine k_region ?_ | refine k_nil ?_ | refine k_then ?_ | refine k_true ?_ | refine k_false ?_ | refine k_blk ?_ | refine s_grun ?_ | refine s_move ?_ | refine s_assign ?_ | refine s_add1 ?_ | refine s_add3 ?_ | refine s_leq_t ?_ | refine s_eql_t ?_ | refine s_eql_f ?_ | refine s_pickt ?_ | refine s_lens ?_ | refine s_index ?_))
        refine s_call (openTagG_tr p _ s i hl (by omega) cn rfl) (fun u K hR => ?_)
        obtain ⟨q, cn', rfl, rfl⟩ := hR
        cases openTagM s i with
        | none =>
          (repeat' (first | refine k_nil ?_ | refine k_then ?_ | refine k_ret ?_ | refine k_ret_then ?_ | refine k_ret_block ?_ | refine s_assign ?_ | refine s_ext ?_))
          exact e_ret _ ⟨q, cn', rfl, rfl⟩ (by repeat (first | exact SubH.nilR _ | refine SubH.pick (by repeat (first | exact HTake.here | apply HTake.there)) ?_))
        | some j =>
          (repeat' (first | refine k_nil ?_ | refine k_then ?_ | refine k_ret ?_ | refine k_ret_then ?_ | refine k_ret_block ?_ | refine s_assign ?_ | refine s_ext ?_))
          exact e_ret _ ⟨q, cn', rfl, rfl⟩ (by repeat (first | exact SubH.nilR _ | refine SubH.pick (by repeat (first | exact HTake.here | apply HTake.there)) ?_))
    · rw [if_neg (fun h => by cases h; exact h60 rfl)]
      refine Tr.start (n := 77) (rs := [.tmp 6, .tmp 7, .tmp 8]) rfl rfl rfl rfl fun B => ?_
      (repeat' (first | refine k_seq ?_ | refine k_region ?_ | refine k_nil ?_ | refine k_then ?_ | refine k_false ?_ | refine k_skip ?_ | refine k_ret ?_ | refine s_grun ?_ | refine s_move ?_ | refine s_assign ?_ | refine s_add3 ?_ | refine s_leq_t ?_ | refine s_eql_f ?_ | refine s_pickt ?_ | refine s_lens ?_ | refine s_index ?_))
      exact e_ret _ ⟨0, cn, rfl, rfl⟩ (by repeat (first | exact SubH.nilR _ | refine SubH.pick (by repeat (first | exact HTake.here | apply HTake.there)) ?_))
  · have e : (if s[i]? = some 60 then (match s[i + 1]?, s[i + 2]? with
      | some c, some d => if c.toNat = 47 then closeTagM s i else if c.toNat = 33 then (if d.toNat = 45 then commentM s i else if d.toNat = 91 then cdataM s i else declM s i) else if c.toNat = 63 then procM s i else openTagM s i
      | _, _ => none) else none) = none := by
      rw [List.getElem?_eq_none (show s.length ≤ i + 2 by omega)]
      split
      · cases s[i + 1]? <;> rfl
      · rfl
    rw [e]
    refine Tr.start (n := 77) (rs := [.tmp 6, .tmp 7, .tmp 8]) rfl rfl rfl rfl fun B => ?_
    (repeat' (first | refine k_seq ?_ | refine k_region ?_ | refine k_nil ?_ | refine k_then ?_ | refine k_false ?_ | refine k_skip ?_ | refine k_ret ?_ | refine s_gskipt ?_ | refine s_move ?_ | refine s_assign ?_ | refine s_add3 ?_ | refine s_leq_f ?_ | refine s_pickf ?_ | refine s_lens ?_))
    exact e_ret _ ⟨0, cn, rfl, rfl⟩ (by repeat (first | exact SubH.nilR _ | refine SubH.pick (by repeat (first | exact HTake.here | apply HTake.there)) ?_))
end Go.Proofs

namespace Go.Proofs
open Go Go.Eng
set_option maxRecDepth 20000
set_option maxHeartbeats 4000000

def ldB (c : UInt8) : Bool := decide (ld8 c.toNat)
theorem isLDB_tr (c : UInt8) : TrP Tryz.prog 124 [.int .u8 c.toNat] (.bool (ldB c)) := isLDF c.toNat c.toNat_lt
def schB (c : UInt8) : Bool := ldB c || c.toNat == 43 || c.toNat == 46 || c.toNat == 45
theorem isSchB_tr (c : UInt8) : TrP Tryz.prog 142 [.int .u8 c.toNat] (.bool (schB c)) := by
  have hL := isLDB_tr c
  cases hb : ldB c with
  | true =>
    rw [hb] at hL
    rw [show schB c = true by simp [schB, hb]]
    refine Tr.start (n := 17) (rs := [.tmp 2]) rfl rfl rfl rfl fun B => ?_
    (repeat' (first | refine s_pure (hL) ?_ | refine k_seq ?_ | refine k_region ?_ | refine k_nil ?_ | refine k_then ?_ | refine k_ret ?_ | refine s_gskipf ?_ | refine s_move ?_ | refine s_assign ?_ | refine s_pickt ?_))
    exact e_pure ⟨rfl, rfl⟩
  | false =>
    rw [hb] at hL
    by_cases h1 : c.toNat = 43
    · rw [show schB c = true by simp [schB, h1]]
      refine Tr.start (n := 17) (rs := [.tmp 2]) rfl rfl rfl rfl fun B => ?_
      (repeat' (first | refine s_pure (hL) ?_ | refine k_seq ?_ | refine k_region ?_ | refine k_nil ?_ | refine k_then ?_ | refine k_ret ?_ | refine s_grun ?_ | refine s_gskipf ?_ | refine s_move ?_ | refine s_assign ?_ | refine s_eql_t ?_ | refine s_pickt ?_ | refine s_pickf ?_))
      exact e_pure ⟨rfl, rfl⟩
    by_cases h2 : c.toNat = 46
    · rw [show schB c = true by simp [schB, h2]]
      refine Tr.start (n := 17) (rs := [.tmp 2]) rfl rfl rfl rfl fun B => ?_
      (repeat' (first | refine s_pure (hL) ?_ | refine k_seq ?_ | refine k_region ?_ | refine k_nil ?_ | refine k_then ?_ | refine k_ret ?_ | refine s_grun ?_ | refine s_gskipf ?_ | refine s_move ?_ | refine s_assign ?_ | refine s_eql_t ?_ | refine s_eql_f ?_ | refine s_pickt ?_ | refine s_pickf ?_))
      exact e_pure ⟨rfl, rfl⟩
    by_cases h3 : c.toNat = 45
    · rw [show schB c = true by simp [schB, h3]]
      refine Tr.start (n := 17) (rs := [.tmp 2]) rfl rfl rfl rfl fun B => ?_
      (repeat' (first | refine s_pure (hL) ?_ | refine k_seq ?_ | refine k_region ?_ | refine k_nil ?_ | refine k_then ?_ | refine k_ret ?_ | refine s_grun ?_ | refine s_move ?_ | refine s_assign ?_ | refine s_eql_t ?_ | refine s_eql_f ?_ | refine s_pickf ?_))
      exact e_pure ⟨rfl, rfl⟩
    · rw [show schB c = false by simp [schB, hb, h1, h2, h3]]
      refine Tr.start (n := 17) (rs := [.tmp 2]) rfl rfl rfl rfl fun B => ?_
      (repeat' (first | refine s_pure (hL) ?_ | refine k_seq ?_ | refine k_region ?_ | refine k_nil ?_ | refine k_then ?_ | refine k_ret ?_ | refine s_grun ?_ | refine s_move ?_ | refine s_assign ?_ | refine s_eql_f ?_ | refine s_pickf ?_))
      exact e_pure ⟨rfl, rfl⟩
def urlB (c : UInt8) : Bool := decide (32 < c.toNat ∧ c.toNat ≠ 60 ∧ c.toNat ≠ 62)
theorem isURLB_tr (c : UInt8) : TrP Tryz.prog 143 [.int .u8 c.toNat] (.bool (urlB c)) := by
  by_cases h1 : 32 < c.toNat
  · by_cases h2 : c.toNat = 60
    · rw [show urlB c = false by simp [urlB, h2]]
      refine Tr.start (n := 13) (rs := [.tmp 2]) rfl rfl rfl rfl fun B => ?_
      (repeat' (first | refine k_seq ?_ | refine k_region ?_ | refine k_nil ?_ | refine k_then ?_ | refine k_ret ?_ | refine s_grun ?_ | refine s_gskipt ?_ | refine s_move ?_ | refine s_assign ?_ | refine s_gtr_t ?_ | refine s_neq_f ?_ | refine s_pickt ?_ | refine s_pickf ?_))
      exact e_pure ⟨rfl, rfl⟩
    · by_cases h3 : c.toNat = 62
      · rw [show urlB c = false by simp [urlB, h3]]
        refine Tr.start (n := 13) (rs := [.tmp 2]) rfl rfl rfl rfl fun B => ?_
        (repeat' (first | refine k_seq ?_ | refine k_region ?_ | refine k_nil ?_ | refine k_then ?_ | refine k_ret ?_ | refine s_grun ?_ | refine s_move ?_ | refine s_assign ?_ | refine s_gtr_t ?_ | refine s_neq_t ?_ | refine s_neq_f ?_ | refine s_pickt ?_))
        exact e_pure ⟨rfl, rfl⟩
      · rw [show urlB c = true by simp [urlB, h1, h2, h3]]
        refine Tr.start (n := 13) (rs := [.tmp 2]) rfl rfl rfl rfl fun B => ?_
        (repeat' (first | refine k_seq ?_ | refine k_region ?_ | refine k_nil ?_ | refine k_then ?_ | refine k_ret ?_ | refine s_grun ?_ | refine s_move ?_ | refine s_assign ?_ | refine s_gtr_t ?_ | refine s_neq_t ?_ | refine s_pickt ?_))
        exact e_pure ⟨rfl, rfl⟩
  · rw [show urlB c = false by simp [urlB, h1]]
    refine Tr.start (n := 13) (rs := [.tmp 2]) rfl rfl rfl rfl fun B => ?_
    (repeat' (first | refine k_seq ?_ | refine k_region ?_ | refine k_nil ?_ | refine k_then ?_ | refine k_ret ?_ | refine s_gskipt ?_ | refine s_move ?_ | refine s_assign ?_ | refine s_gtr_f ?_ | refine s_pickf ?_))
    exact e_pure ⟨rfl, rfl⟩
def userL : List UInt8 := [46, 33, 35, 36, 37, 38, 39, 42, 43, 47, 61, 63, 94, 95, 96, 123, 124, 125, 126, 45]
def userB (c : UInt8) : Bool := ldB c || decide (c ∈ userL)
theorem isUserB_tr (c : UInt8) : TrP Tryz.prog 144 [.int .u8 c.toNat] (.bool (userB c)) := by
  have hul : userL.length = 20 := rfl
  have hL := isLDB_tr c
  cases hb : ldB c with
  | true =>
    rw [hb] at hL
    rw [show userB c = true by simp [userB, hb]]
    refine Tr.start (n := 18) (rs := [.tmp 2]) rfl rfl rfl rfl fun B => ?_
    (repeat' (first | refine s_pure (hL) ?_ | refine k_seq ?_ | refine k_region ?_ | refine k_nil ?_ | refine k_then ?_ | refine k_true ?_ | refine k_ret ?_ | refine k_ret_then ?_ | refine s_move ?_ | refine s_assign ?_))
    exact e_pure ⟨rfl, rfl⟩
  | false =>
    rw [hb] at hL
    by_cases hin : c ∈ userL
    · rw [show userB c = true by simp [userB, hin]]
      refine Tr.start (n := 18) (rs := [.tmp 2]) rfl rfl rfl rfl fun B => ?_
      (repeat' (first | refine s_pure (hL) ?_ | refine k_seq ?_ | refine k_region ?_ | refine k_nil ?_ | refine k_then ?_ | refine k_false ?_ | refine k_skip ?_ | refine s_move ?_ | refine s_assign ?_))
      refine k_midx (fun _ : Unit => []) (fun _ => []) (fun _ => False) ?_ (fun _ h => h.elim)
      (repeat' (first | refine k_blk ?_))
      refine k_loop (fun j : Nat => [(0, .int .u8 c.toNat), (3, str userL), (4, inat j)]) (fun _ => []) (fun j => j ≤ userL.length ∧ ∀ d ∈ userL.take j, d ≠ c) (fun j => userL.length - j) 0 ⟨Nat.zero_le _, by simp⟩ (Knows.spec (by repeat (first | exact trivial | refine ⟨rfl, ?_⟩))) (by repeat (first | exact SubH.nilR _ | refine SubH.pick (by repeat (first | exact HTake.here | apply HTake.there)) ?_)) fun j hj => ?_
      obtain ⟨hj, hA⟩ := hj
      by_cases h : j < userL.length
      · obtain ⟨d, hd⟩ : ∃ d, userL[j]? = some d := ⟨_, List.getElem?_eq_getElem h⟩
        by_cases e : d.toNat = c.toNat
        · (repeat' (first | refine k_seq ?_ | refine k_region ?_ | refine k_nil ?_ | refine k_then ?_ | refine k_true ?_ | refine k_blk ?_ | refine k_skip ?_ | refine k_ret ?_ | refine k_ret_then ?_ | refine k_ret_block ?_ | refine s_move ?_ | refine s_assign ?_ | refine s_lss_t ?_ | refine s_eql_t ?_ | refine s_lens ?_ | refine s_index ?_))
          exact e_pure ⟨rfl, rfl⟩
        · (repeat' (first | refine k_seq ?_ | refine k_region ?_ | refine k_nil ?_ | refine k_then ?_ | refine k_true ?_ | refine k_false ?_ | refine k_blk ?_ | refine k_skip ?_ | refine k_block ?_ | refine s_move ?_ | refine s_assign ?_ | refine s_add1 ?_ | refine s_lss_t ?_ | refine s_eql_f ?_ | refine s_lens ?_ | refine s_index ?_))
          exact ⟨j + 1, (Knows.spec (by repeat (first | exact trivial | refine ⟨rfl, ?_⟩))), (by repeat (first | exact SubH.nilR _ | refine SubH.pick (by repeat (first | exact HTake.here | apply HTake.there)) ?_)), ⟨by omega, all_snoc (p := fun d => d ≠ c) hd hA (fun h => e (by rw [h]))⟩, by omega⟩
      · have : userL.take j = userL := List.take_of_length_le (by omega)
        rw [this] at hA
        exact absurd rfl (hA c hin)
    · rw [show userB c = false by simp [userB, hb, hin]]
      refine Tr.start (n := 18) (rs := [.tmp 2]) rfl rfl rfl rfl fun B => ?_
      (repeat' (first | refine s_pure (hL) ?_ | refine k_seq ?_ | refine k_region ?_ | refine k_nil ?_ | refine k_then ?_ | refine k_false ?_ | refine k_skip ?_ | refine s_move ?_ | refine s_assign ?_))
      refine k_mid [] [] ?_ ?_
      · (repeat' (first | refine k_blk ?_))
        refine k_loop (fun j : Nat => [(0, .int .u8 c.toNat), (3, str userL), (4, inat j)]) (fun _ => []) (fun j => j ≤ userL.length) (fun j => userL.length - j) 0 (Nat.zero_le _) (Knows.spec (by repeat (first | exact trivial | refine ⟨rfl, ?_⟩))) (by repeat (first | exact SubH.nilR _ | refine SubH.pick (by repeat (first | exact HTake.here | apply HTake.there)) ?_)) fun j hj => ?_
        by_cases h : j < userL.length
        · obtain ⟨d, hd⟩ : ∃ d, userL[j]? = some d := ⟨_, List.getElem?_eq_getElem h⟩
          have e : ¬ d.toNat = c.toNat := fun e => hin (by rw [← UInt8.toNat_inj.1 e]; exact List.mem_of_getElem? hd)
          (repeat' (first | refine k_seq ?_ | refine k_region ?_ | refine k_nil ?_ | refine k_then ?_ | refine k_true ?_ | refine k_false ?_ | refine k_blk ?_ | refine k_skip ?_ | refine k_block ?_ | refine s_move ?_ | refine s_assign ?_ | refine s_add1 ?_ | refine s_lss_t ?_ | refine s_eql_f ?_ | refine s_lens ?_ | refine s_index ?_))
          exact ⟨j + 1, (Knows.spec (by repeat (first | exact trivial | refine ⟨rfl, ?_⟩))), (by repeat (first | exact SubH.nilR _ | refine SubH.pick (by repeat (first | exact HTake.here | apply HTake.there)) ?_)), by omega, by omega⟩
        · have : j = userL.length := by omega
          subst this
          (repeat' (first | refine k_seq ?_ | refine k_region ?_ | refine k_nil ?_ | refine k_then ?_ | refine k_false ?_ | refine k_exit ?_ | refine k_exit_then ?_ | refine k_hit ?_ | refine s_move ?_ | refine s_lss_f ?_ | refine s_lens ?_))
          exact ⟨(by repeat (first | exact trivial | refine ⟨rfl, ?_⟩)), (by repeat (first | exact SubH.nilR _ | refine SubH.pick (by repeat (first | exact HTake.here | apply HTake.there)) ?_))⟩
      · (repeat' (first | refine k_seq ?_ | refine k_region ?_ | refine k_nil ?_ | refine k_then ?_ | refine k_ret ?_ | refine s_assign ?_))
        exact e_pure ⟨rfl, rfl⟩

/-- Behind a run of bytes of a class, at most n of them. -/
def bscan (p : UInt8 → Bool) (n : Nat) (s : List UInt8) (i : Nat) : Nat := min (scan p s i) (i + n)
def skipDomM (l : List UInt8) : Option Nat := match l[0]? with
  | none => none
  | some c => if ldB c = true then (let i := min (scan ldhB l 1) 64
    if 63 < i then none else match l[i - 1]? with
      | some d => if ldB d = true then some i else none
      | none => none) else none
theorem skipDomM_le {l : List UInt8} {n : Nat} (h : skipDomM l = some n) : 0 < n ∧ n ≤ l.length := by
  unfold skipDomM at h
  split at h
  · cases h
  · rename_i c hc
    have h0 := (List.getElem?_eq_some_iff.1 hc).1
    have h1 := scan_ge ldhB l 1
    have h2 := scan_le (p := ldhB) (s := l) (i := 1) (by omega)
    generalize scan ldhB l 1 = a at h h1 h2
    split at h
    · dsimp only at h
      by_cases h63 : 63 < min a 64
      · rw [if_pos h63] at h; cases h
      · rw [if_neg h63] at h
        split at h
        · split at h
          · have := Option.some.inj h
            omega
          · cases h
        · cases h
    · cases h
theorem skipDomG_tr (l : List UInt8) (hl : l.length ≤ 1000000) : TrP Tryz.prog 145 [str l] (match skipDomM l with | some n => .tuple #[inat n, .bool true] | none => .tuple #[inat 0, .bool false]) := by
  by_cases h0 : 0 < l.length
  · obtain ⟨c, hc⟩ := get_some h0
    have hL := isLDB_tr c
    unfold skipDomM
    rw [hc]
    dsimp only
    cases hb : ldB c with
    | false =>
      rw [hb] at hL
      simp only [Bool.false_eq_true, if_false]
      refine Tr.start (n := 41) (rs := [.tmp 2, .tmp 3]) rfl rfl rfl rfl fun B => ?_
      (repeat' (first | refine s_pure (hL) ?_ | refine Ops.pure _ (q_index c (i := 0) (by rfl) (by rfl) hc) (by rfl) ?_ | refine k_seq ?_ | refine k_region ?_ | refine k_nil ?_ | refine k_then ?_ | refine k_true ?_ | refine k_ret ?_ | refine k_ret_then ?_ | refine s_grun ?_ | refine s_move ?_ | refine s_assign ?_ | refine s_lss_f ?_ | refine s_pickf ?_ | refine s_lens ?_ | refine s_notf ?_))
      exact e_pure ⟨rfl, rfl⟩
    | true =>
      rw [hb] at hL
      simp only [if_true]
      have h1 := scan_ge ldhB l 1
      have h2 := scan_le (p := ldhB) (s := l) (i := 1) (by omega)
      generalize hj : scan ldhB l 1 = j at h1 h2 ⊢
      refine Tr.start (n := 41) (rs := [.tmp 2, .tmp 3]) rfl rfl rfl rfl fun B => ?_
      (repeat' (first | refine s_pure (hL) ?_ | refine Ops.pure _ (q_index c (i := 0) (by rfl) (by rfl) hc) (by rfl) ?_ | refine k_seq ?_ | refine k_region ?_ | refine k_nil ?_ | refine k_then ?_ | refine k_false ?_ | refine k_skip ?_ | refine s_grun ?_ | refine s_move ?_ | refine s_assign ?_ | refine s_lss_f ?_ | refine s_pickf ?_ | refine s_lens ?_ | refine s_nott ?_))
      refine k_mid [(0, str l), (4, inat (min j 64))] [] ?_ ?_
      · (repeat' (first | refine k_blk ?_))
        refine k_loop (fun k : Nat => [(0, str l), (4, inat k)]) (fun _ => []) (fun k => scan ldhB l k = j ∧ k ≤ l.length ∧ k ≤ 64 ∧ 1 ≤ k) (fun k => l.length - k) 1 ⟨hj, by omega, by omega, by omega⟩ (Knows.spec (by repeat (first | exact trivial | refine ⟨rfl, ?_⟩))) (by repeat (first | exact SubH.nilR _ | refine SubH.pick (by repeat (first | exact HTake.here | apply HTake.there)) ?_)) fun k hk => ?_
        obtain ⟨hk1, hk2, hk3, hk4⟩ := hk
        by_cases hlt : k < l.length
        · obtain ⟨d, hd⟩ := get_some hlt
          have hD := isLDHB_tr d
          cases hb1 : ldhB d with
          | true =>
            rw [hb1] at hD
            by_cases h63 : k ≤ 63
            · (repeat' (first | refine s_pure (hD) ?_ | refine k_seq ?_ | refine k_region ?_ | refine k_nil ?_ | refine k_then ?_ | refine k_true ?_ | refine k_blk ?_ | refine k_skip ?_ | refine k_block ?_ | refine s_grun ?_ | refine s_move ?_ | refine s_assign ?_ | refine s_add1 ?_ | refine s_lss_t ?_ | refine s_leq_t ?_ | refine s_pickt ?_ | refine s_lens ?_ | refine s_index ?_))
              exact ⟨k + 1, (Knows.spec (by repeat (first | exact trivial | refine ⟨rfl, ?_⟩))), (by repeat (first | exact SubH.nilR _ | refine SubH.pick (by repeat (first | exact HTake.here | apply HTake.there)) ?_)), ⟨by rw [← hk1, scan_step hd hb1], by omega, by omega, by omega⟩, by omega⟩
            · have : k = min j 64 := by rw [← hk1]; have := scan_ge ldhB l k; omega
              rw [← this]
              (repeat' (first | refine s_pure (hD) ?_ | refine k_seq ?_ | refine k_region ?_ | refine k_nil ?_ | refine k_then ?_ | refine k_false ?_ | refine k_exit ?_ | refine k_exit_then ?_ | refine k_hit ?_ | refine s_grun ?_ | refine s_move ?_ | refine s_lss_t ?_ | refine s_leq_f ?_ | refine s_pickt ?_ | refine s_lens ?_ | refine s_index ?_))
              exact ⟨(by repeat (first | exact trivial | refine ⟨rfl, ?_⟩)), (by repeat (first | exact SubH.nilR _ | refine SubH.pick (by repeat (first | exact HTake.here | apply HTake.there)) ?_))⟩
          | false =>
            rw [hb1] at hD
            have hkj : k = j := by rw [← hk1, scan_stop hd hb1]
            have : k = min j 64 := by omega
            rw [← this]
            (repeat' (first | refine s_pure (hD) ?_ | refine k_seq ?_ | refine k_region ?_ | refine k_nil ?_ | refine k_then ?_ | refine k_false ?_ | refine k_exit ?_ | refine k_exit_then ?_ | refine k_hit ?_ | refine s_grun ?_ | refine s_gskipt ?_ | refine s_move ?_ | refine s_lss_t ?_ | refine s_pickt ?_ | refine s_pickf ?_ | refine s_lens ?_ | refine s_index ?_))
            exact ⟨(by repeat (first | exact trivial | refine ⟨rfl, ?_⟩)), (by repeat (first | exact SubH.nilR _ | refine SubH.pick (by repeat (first | exact HTake.here | apply HTake.there)) ?_))⟩
        · have hkj : k = j := by rw [← hk1, scan_end (by omega)]
          have : k = min j 64 := by omega
          rw [← this]
          (repeat' (first | refine k_seq ?_ | refine k_region ?_ | refine k_nil ?_ | refine k_then ?_ | refine k_false ?_ | refine k_exit ?_ | refine k_exit_then ?_ | refine k_hit ?_ | refine s_gskipt ?_ | refine s_move ?_ | refine s_lss_f ?_ | refine s_pickf ?_ | refine s_lens ?_))
          exact ⟨(by repeat (first | exact trivial | refine ⟨rfl, ?_⟩)), (by repeat (first | exact SubH.nilR _ | refine SubH.pick (by repeat (first | exact HTake.here | apply HTake.there)) ?_))⟩
      · generalize hi : min j 64 = i
        have hi1 : 1 ≤ i ∧ i ≤ l.length := by omega
        by_cases h63 : 63 < i
        · rw [if_pos h63]
          (repeat' (first | refine k_seq ?_ | refine k_region ?_ | refine k_nil ?_ | refine k_then ?_ | refine k_true ?_ | refine k_ret ?_ | refine k_ret_then ?_ | refine s_gskipf ?_ | refine s_move ?_ | refine s_assign ?_ | refine s_gtr_t ?_ | refine s_pickt ?_))
          exact e_pure ⟨rfl, rfl⟩
        · rw [if_neg h63]
          obtain ⟨d, hd⟩ := get_some (show i - 1 < l.length by omega)
          have hD := isLDB_tr d
          rw [hd]
          dsimp only
          cases hb1 : ldB d with
          | true =>
            rw [hb1] at hD
            simp only [if_true]
            (repeat' (first | refine Ops.pure _ (p_sub (a := i) (b := 1) (c := i - 1) (by rfl) (by rfl) (by omega) (by omega)) (by rfl) ?_ | refine s_pure (hD) ?_ | refine k_seq ?_ | refine k_region ?_ | refine k_nil ?_ | refine k_then ?_ | refine k_false ?_ | refine k_skip ?_ | refine k_ret ?_ | refine s_grun ?_ | refine s_move ?_ | refine s_assign ?_ | refine s_gtr_f ?_ | refine s_pickf ?_ | refine s_index ?_ | refine s_nott ?_))
            exact e_pure ⟨rfl, rfl⟩
          | false =>
            rw [hb1] at hD
            simp only [Bool.false_eq_true, if_false]
            (repeat' (first | refine Ops.pure _ (p_sub (a := i) (b := 1) (c := i - 1) (by rfl) (by rfl) (by omega) (by omega)) (by rfl) ?_ | refine s_pure (hD) ?_ | refine k_seq ?_ | refine k_region ?_ | refine k_nil ?_ | refine k_then ?_ | refine k_true ?_ | refine k_ret ?_ | refine k_ret_then ?_ | refine s_grun ?_ | refine s_move ?_ | refine s_assign ?_ | refine s_gtr_f ?_ | refine s_pickf ?_ | refine s_index ?_ | refine s_notf ?_))
            exact e_pure ⟨rfl, rfl⟩
  · have e : skipDomM l = none := by
      unfold skipDomM
      rw [List.getElem?_eq_none (by omega)]
    rw [e]
    refine Tr.start (n := 41) (rs := [.tmp 2, .tmp 3]) rfl rfl rfl rfl fun B => ?_
    (repeat' (first | refine k_seq ?_ | refine k_region ?_ | refine k_nil ?_ | refine k_then ?_ | refine k_true ?_ | refine k_ret ?_ | refine k_ret_then ?_ | refine s_gskipf ?_ | refine s_move ?_ | refine s_assign ?_ | refine s_lss_t ?_ | refine s_pickt ?_ | refine s_lens ?_))
    exact e_pure ⟨rfl, rfl⟩
end Go.Proofs

namespace Go.Proofs
open Go Go.Eng
set_option maxRecDepth 20000
set_option maxHeartbeats 4000000

/-- The end of an address in angle brackets (where the bracket stands that closes it). -/
def autoURIM (s : List UInt8) (i : Nat) : Option Nat := match s[i]?, s[i + 1]? with
  | some c, some d => if c.toNat = 60 ∧ letB d = true then (let a := bscan schB 33 s (i + 1)
    if a < i + 3 ∨ i + 33 < a then none else if s[a]? = some 58 then (let b := scan urlB s (a + 1)
      if s[b]? = some 62 then some b else none) else none) else none
  | _, _ => none
def autV (q : Nat) : Option Nat → Value
  | some j => .tuple #[.iface 255 (lp q), inat (j + 1), .bool true]
  | none => .tuple #[.nilIface, inat 0, .bool false]
def autK (q : Nat) (s pre : List UInt8) (i : Nat) : Option Nat → Heap
  | some j => [[(q, cellsOf [str ((s.take j).drop (i + 1)), str (pre ++ (s.take j).drop (i + 1))] 257)]]
  | none => []
theorem autoURIM_lt {s : List UInt8} {i k : Nat} (h : autoURIM s i = some k) : i < k ∧ k < s.length := by
  unfold autoURIM at h
  split at h
  · rename_i c d hc hd
    split at h
    · have h1 := scan_ge schB s (i + 1)
      generalize ha : bscan schB 33 s (i + 1) = a at h
      have ha1 : i + 1 ≤ a := by rw [← ha]; unfold bscan; omega
      dsimp only at h
      by_cases hx : a < i + 3 ∨ i + 33 < a
      · rw [if_pos hx] at h; cases h
      · rw [if_neg hx] at h
        by_cases h58 : s[a]? = some 58
        · rw [if_pos h58] at h
          have h2 := scan_ge urlB s (a + 1)
          generalize scan urlB s (a + 1) = b at h h2
          by_cases h62 : s[b]? = some 62
          · rw [if_pos h62] at h
            have := (List.getElem?_eq_some_iff.1 h62).1
            have := Option.some.inj h
            omega
          · rw [if_neg h62] at h; cases h
        · rw [if_neg h58] at h; cases h
    · cases h
  · cases h

theorem autoURIG_tr (s : List UInt8) (i : Nat) (hl : s.length ≤ 1000000) (hi : i ≤ s.length) :
    Tr Tryz.prog 95 [str s, inat i] [] fun u K => ∃ q, u = autV q (autoURIM s i) ∧ K = autK q s [] i (autoURIM s i) := by
  unfold autoURIM
  by_cases hlt : i + 1 < s.length
  · obtain ⟨c, hc⟩ := get_some (show i < s.length by omega)
    obtain ⟨d, hd⟩ := get_some hlt
    have hL := isLetB_tr d
    rw [hc, hd]
    dsimp only
    by_cases h60 : c.toNat = 60
    · cases hb : letB d with
      | false =>
        rw [hb] at hL
        rw [if_neg (by rintro ⟨_, h⟩; cases h)]
        refine Tr.start (n := 110) (rs := [.tmp 4, .tmp 5, .tmp 6]) rfl rfl rfl rfl fun B => ?_
        (repeat' (first | refine s_pure (hL) ?_ | refine k_seq ?_ | refine k_region ?_ | refine k_nil ?_ | refine k_then ?_ | refine k_true ?_ | refine k_ret ?_ | refine k_ret_then ?_ | refine s_grun ?_ | refine s_move ?_ | refine s_assign ?_ | refine s_add1 ?_ | refine s_geq_f ?_ | refine s_neq_f ?_ | refine s_pickf ?_ | refine s_lens ?_ | refine s_index ?_ | refine s_notf ?_))
        exact e_ret _ ⟨0, rfl, rfl⟩ (by repeat (first | exact SubH.nilR _ | refine SubH.pick (by repeat (first | exact HTake.here | apply HTake.there)) ?_))
      | true =>
        rw [hb] at hL
        rw [if_pos ⟨h60, rfl⟩]
        have h1 := scan_ge schB s (i + 1)
        have h2 := scan_le (p := schB) (s := s) (i := i + 1) (by omega)
        unfold bscan
        generalize hj : scan schB s (i + 1) = j at h1 h2 ⊢
        refine Tr.start (n := 110) (rs := [.tmp 4, .tmp 5, .tmp 6]) rfl rfl rfl rfl fun B => ?_
        (repeat' (first | refine s_pure (hL) ?_ | refine k_seq ?_ | refine k_region ?_ | refine k_nil ?_ | refine k_then ?_ | refine k_false ?_ | refine k_skip ?_ | refine s_grun ?_ | refine s_move ?_ | refine s_assign ?_ | refine s_add1 ?_ | refine s_geq_f ?_ | refine s_neq_f ?_ | refine s_pickf ?_ | refine s_lens ?_ | refine s_index ?_ | refine s_nott ?_))
        refine k_mid [(0, str s), (1, inat i), (7, inat (min j (i + 1 + 33)))] [] ?_ ?_
        · (repeat' (first | refine k_blk ?_))
          refine k_loop (fun k : Nat => [(0, str s), (1, inat i), (7, inat k)]) (fun _ => []) (fun k => scan schB s k = j ∧ k ≤ s.length ∧ k ≤ i + 34 ∧ i + 1 ≤ k) (fun k => s.length - k) (i + 1) ⟨hj, by omega, by omega, by omega⟩ (Knows.spec (by repeat (first | exact trivial | refine ⟨rfl, ?_⟩))) (by repeat (first | exact SubH.nilR _ | refine SubH.pick (by repeat (first | exact HTake.here | apply HTake.there)) ?_)) fun k hk => ?_
          obtain ⟨hk1, hk2, hk3, hk4⟩ := hk
          by_cases hlt : k < s.length
          · obtain ⟨e, he⟩ := get_some hlt
            have hD := isSchB_tr e
            cases hb1 : schB e with
            | true =>
              rw [hb1] at hD
              by_cases h63 : k ≤ i + 33
              · (repeat' (first | refine s_pure (hD) ?_ | refine Ops.pure _ (p_sub (a := k) (b := i + 1) (c := k - (i + 1)) (by rfl) (by rfl) (by omega) (by omega)) (by rfl) ?_ | refine k_seq ?_ | refine k_region ?_ | refine k_nil ?_ | refine k_then ?_ | refine k_true ?_ | refine k_blk ?_ | refine k_skip ?_ | refine k_block ?_ | refine s_grun ?_ | refine s_move ?_ | refine s_assign ?_ | refine s_add1 ?_ | refine s_lss_t ?_ | refine s_leq_t ?_ | refine s_pickt ?_ | refine s_lens ?_ | refine s_index ?_))
                exact ⟨k + 1, (Knows.spec (by repeat (first | exact trivial | refine ⟨rfl, ?_⟩))), (by repeat (first | exact SubH.nilR _ | refine SubH.pick (by repeat (first | exact HTake.here | apply HTake.there)) ?_)), ⟨by rw [← hk1, scan_step he hb1], by omega, by omega, by omega⟩, by omega⟩
              · have hx : k = min j (i + 1 + 33) := by rw [← hk1]; have := scan_ge schB s k; omega
                rw [← hx]
                (repeat' (first | refine s_pure (hD) ?_ | refine Ops.pure _ (p_sub (a := k) (b := i + 1) (c := k - (i + 1)) (by rfl) (by rfl) (by omega) (by omega)) (by rfl) ?_ | refine k_seq ?_ | refine k_region ?_ | refine k_nil ?_ | refine k_then ?_ | refine k_false ?_ | refine k_exit ?_ | refine k_exit_then ?_ | refine k_hit ?_ | refine s_grun ?_ | refine s_move ?_ | refine s_add1 ?_ | refine s_lss_t ?_ | refine s_leq_f ?_ | refine s_pickt ?_ | refine s_lens ?_ | refine s_index ?_))
                exact ⟨(by repeat (first | exact trivial | refine ⟨rfl, ?_⟩)), (by repeat (first | exact SubH.nilR _ | refine SubH.pick (by repeat (first | exact HTake.here | apply HTake.there)) ?_))⟩
            | false =>
              rw [hb1] at hD
              have hkj : k = j := by rw [← hk1, scan_stop he hb1]
              have hx : k = min j (i + 1 + 33) := by omega
              rw [← hx]
              (repeat' (first | refine s_pure (hD) ?_ | refine k_seq ?_ | refine k_region ?_ | refine k_nil ?_ | refine k_then ?_ | refine k_false ?_ | refine k_exit ?_ | refine k_exit_then ?_ | refine k_hit ?_ | refine s_grun ?_ | refine s_gskipt ?_ | refine s_move ?_ | refine s_lss_t ?_ | refine s_pickt ?_ | refine s_pickf ?_ | refine s_lens ?_ | refine s_index ?_))
              exact ⟨(by repeat (first | exact trivial | refine ⟨rfl, ?_⟩)), (by repeat (first | exact SubH.nilR _ | refine SubH.pick (by repeat (first | exact HTake.here | apply HTake.there)) ?_))⟩
          · have hkj : k = j := by rw [← hk1, scan_end (by omega)]
            have hx : k = min j (i + 1 + 33) := by omega
            rw [← hx]
            (repeat' (first | refine k_seq ?_ | refine k_region ?_ | refine k_nil ?_ | refine k_then ?_ | refine k_false ?_ | refine k_exit ?_ | refine k_exit_then ?_ | refine k_hit ?_ | refine s_gskipt ?_ | refine s_move ?_ | refine s_lss_f ?_ | refine s_pickf ?_ | refine s_lens ?_))
            exact ⟨(by repeat (first | exact trivial | refine ⟨rfl, ?_⟩)), (by repeat (first | exact SubH.nilR _ | refine SubH.pick (by repeat (first | exact HTake.here | apply HTake.there)) ?_))⟩
        · have ha : ∃ a, a = min j (i + 1 + 33) := ⟨_, rfl⟩
          obtain ⟨a, ha⟩ := ha
          rw [← ha]
          have ha1 : i + 1 ≤ a ∧ a ≤ s.length := by omega
          clear ha
          by_cases hx1 : a < i + 3
          · rw [if_pos (.inl hx1)]
            (repeat' (first | refine Ops.pure _ (p_sub (a := a) (b := i + 1) (c := a - (i + 1)) (by rfl) (by rfl) (by omega) (by omega)) (by rfl) ?_ | refine k_seq ?_ | refine k_region ?_ | refine k_nil ?_ | refine k_then ?_ | refine k_true ?_ | refine k_ret ?_ | refine k_ret_then ?_ | refine s_gskipf ?_ | refine s_move ?_ | refine s_assign ?_ | refine s_add1 ?_ | refine s_lss_t ?_ | refine s_pickt ?_))
            exact e_ret _ ⟨0, rfl, rfl⟩ (by repeat (first | exact SubH.nilR _ | refine SubH.pick (by repeat (first | exact HTake.here | apply HTake.there)) ?_))
          by_cases hx2 : i + 33 < a
          · rw [if_pos (.inr hx2)]
            (repeat' (first | refine Ops.pure _ (p_sub (a := a) (b := i + 1) (c := a - (i + 1)) (by rfl) (by rfl) (by omega) (by omega)) (by rfl) ?_ | refine k_seq ?_ | refine k_region ?_ | refine k_nil ?_ | refine k_then ?_ | refine k_true ?_ | refine k_ret ?_ | refine k_ret_then ?_ | refine s_grun ?_ | refine s_gskipf ?_ | refine s_move ?_ | refine s_assign ?_ | refine s_add1 ?_ | refine s_lss_f ?_ | refine s_gtr_t ?_ | refine s_pickt ?_ | refine s_pickf ?_))
            exact e_ret _ ⟨0, rfl, rfl⟩ (by repeat (first | exact SubH.nilR _ | refine SubH.pick (by repeat (first | exact HTake.here | apply HTake.there)) ?_))
          rw [if_neg (by omega)]
          by_cases hal : a < s.length
          · obtain ⟨e, he⟩ := get_some hal
            rw [he]
            by_cases h58 : e.toNat = 58
            · have e58 : e = 58 := UInt8.toNat_inj.1 h58
              rw [e58, if_pos rfl]
              have h3 := scan_ge urlB s (a + 1)
              have h4 := scan_le (p := urlB) (s := s) (i := a + 1) (by omega)
              generalize hb2 : scan urlB s (a + 1) = b at h3 h4 ⊢
              (repeat' (first | refine Ops.pure _ (p_sub (a := a) (b := i + 1) (c := a - (i + 1)) (by rfl) (by rfl) (by omega) (by omega)) (by rfl) ?_ | refine k_seq ?_ | refine k_region ?_ | refine k_nil ?_ | refine k_then ?_ | refine k_false ?_ | refine k_skip ?_ | refine s_grun ?_ | refine s_move ?_ | refine s_assign ?_ | refine s_add1 ?_ | refine s_lss_f ?_ | refine s_gtr_f ?_ | refine s_geq_f ?_ | refine s_neq_f ?_ | refine s_pickf ?_ | refine s_lens ?_ | refine s_index ?_))
              refine k_mid [(0, str s), (1, inat i), (7, inat b)] [] ?_ ?_
              · (repeat' (first | refine k_blk ?_))
                refine k_loop (fun k : Nat => [(0, str s), (1, inat i), (7, inat k)]) (fun _ => []) (fun k => scan urlB s k = b ∧ k ≤ s.length) (fun k => s.length - k) (a + 1) ⟨hb2, by omega⟩ (Knows.spec (by repeat (first | exact trivial | refine ⟨rfl, ?_⟩))) (by repeat (first | exact SubH.nilR _ | refine SubH.pick (by repeat (first | exact HTake.here | apply HTake.there)) ?_)) fun k hk => ?_
                obtain ⟨hk1, hk2⟩ := hk
                by_cases hlt : k < s.length
                · obtain ⟨f, hf⟩ := get_some hlt
                  have hU := isURLB_tr f
                  cases hb1 : urlB f with
                  | true =>
                    rw [hb1] at hU
                    (repeat' (first | refine s_pure (hU) ?_ | refine k_seq ?_ | refine k_region ?_ | refine k_nil ?_ | refine k_then ?_ | refine k_true ?_ | refine k_blk ?_ | refine k_skip ?_ | refine k_block ?_ | refine s_grun ?_ | refine s_move ?_ | refine s_assign ?_ | refine s_add1 ?_ | refine s_lss_t ?_ | refine s_pickt ?_ | refine s_lens ?_ | refine s_index ?_))
                    exact ⟨k + 1, (Knows.spec (by repeat (first | exact trivial | refine ⟨rfl, ?_⟩))), (by repeat (first | exact SubH.nilR _ | refine SubH.pick (by repeat (first | exact HTake.here | apply HTake.there)) ?_)), ⟨by rw [← hk1, scan_step hf hb1], by omega⟩, by omega⟩
                  | false =>
                    rw [hb1] at hU
                    have : k = b := by rw [← hk1, scan_stop hf hb1]
                    subst this
                    (repeat' (first | refine s_pure (hU) ?_ | refine k_seq ?_ | refine k_region ?_ | refine k_nil ?_ | refine k_then ?_ | refine k_false ?_ | refine k_exit ?_ | refine k_exit_then ?_ | refine k_hit ?_ | refine s_grun ?_ | refine s_move ?_ | refine s_lss_t ?_ | refine s_pickt ?_ | refine s_lens ?_ | refine s_index ?_))
                    exact ⟨(by repeat (first | exact trivial | refine ⟨rfl, ?_⟩)), (by repeat (first | exact SubH.nilR _ | refine SubH.pick (by repeat (first | exact HTake.here | apply HTake.there)) ?_))⟩
                · have : k = b := by rw [← hk1, scan_end (by omega)]
                  subst this
                  (repeat' (first | refine k_seq ?_ | refine k_region ?_ | refine k_nil ?_ | refine k_then ?_ | refine k_false ?_ | refine k_exit ?_ | refine k_exit_then ?_ | refine k_hit ?_ | refine s_gskipt ?_ | refine s_move ?_ | refine s_lss_f ?_ | refine s_pickf ?_ | refine s_lens ?_))
                  exact ⟨(by repeat (first | exact trivial | refine ⟨rfl, ?_⟩)), (by repeat (first | exact SubH.nilR _ | refine SubH.pick (by repeat (first | exact HTake.here | apply HTake.there)) ?_))⟩
              · by_cases hbl : b < s.length
                · obtain ⟨f, hf⟩ := get_some hbl
                  rw [hf]
                  by_cases h62 : f.toNat = 62
                  · have e62 : f = 62 := UInt8.toNat_inj.1 h62
                    rw [e62, if_pos rfl]
                    (repeat' (first | refine k_seq ?_ | refine k_region ?_ | refine k_nil ?_ | refine k_then ?_ | refine k_false ?_ | refine k_skip ?_ | refine k_ret ?_ | refine s_grun ?_ | refine s_move ?_ | refine s_assign ?_ | refine s_add1 ?_ | refine s_geq_f ?_ | refine s_neq_f ?_ | refine s_pickf ?_ | refine s_lens ?_ | refine s_index ?_ | refine s_slices ?_ | refine s_mki ?_ | refine s_buildx ?_ | refine s_box (fun _ => ?_)))
                    rename_i q
                    exact e_ret _ ⟨q, rfl, rfl⟩ (by repeat (first | exact SubH.nilR _ | refine SubH.pick (by repeat (first | exact HTake.here | apply HTake.there)) ?_))
                  · rw [if_neg (fun h => by cases h; exact h62 rfl)]
                    (repeat' (first | refine k_seq ?_ | refine k_region ?_ | refine k_nil ?_ | refine k_then ?_ | refine k_true ?_ | refine k_ret ?_ | refine k_ret_then ?_ | refine s_grun ?_ | refine s_move ?_ | refine s_assign ?_ | refine s_geq_f ?_ | refine s_neq_t ?_ | refine s_pickf ?_ | refine s_lens ?_ | refine s_index ?_))
                    exact e_ret _ ⟨0, rfl, rfl⟩ (by repeat (first | exact SubH.nilR _ | refine SubH.pick (by repeat (first | exact HTake.here | apply HTake.there)) ?_))
                · rw [List.getElem?_eq_none (by omega), if_neg (by simp)]
                  (repeat' (first | refine k_seq ?_ | refine k_region ?_ | refine k_nil ?_ | refine k_then ?_ | refine k_true ?_ | refine k_ret ?_ | refine k_ret_then ?_ | refine s_gskipf ?_ | refine s_move ?_ | refine s_assign ?_ | refine s_geq_t ?_ | refine s_pickt ?_ | refine s_lens ?_))
                  exact e_ret _ ⟨0, rfl, rfl⟩ (by repeat (first | exact SubH.nilR _ | refine SubH.pick (by repeat (first | exact HTake.here | apply HTake.there)) ?_))
            · rw [if_neg (fun h => by cases h; exact h58 rfl)]
              (repeat' (first | refine Ops.pure _ (p_sub (a := a) (b := i + 1) (c := a - (i + 1)) (by rfl) (by rfl) (by omega) (by omega)) (by rfl) ?_ | refine k_seq ?_ | refine k_region ?_ | refine k_nil ?_ | refine k_then ?_ | refine k_true ?_ | refine k_ret ?_ | refine k_ret_then ?_ | refine s_grun ?_ | refine s_move ?_ | refine s_assign ?_ | refine s_add1 ?_ | refine s_lss_f ?_ | refine s_gtr_f ?_ | refine s_geq_f ?_ | refine s_neq_t ?_ | refine s_pickf ?_ | refine s_lens ?_ | refine s_index ?_))
              exact e_ret _ ⟨0, rfl, rfl⟩ (by repeat (first | exact SubH.nilR _ | refine SubH.pick (by repeat (first | exact HTake.here | apply HTake.there)) ?_))
          · rw [List.getElem?_eq_none (by omega), if_neg (by simp)]
            (repeat' (first | refine Ops.pure _ (p_sub (a := a) (b := i + 1) (c := a - (i + 1)) (by rfl) (by rfl) (by omega) (by omega)) (by rfl) ?_ | refine k_seq ?_ | refine k_region ?_ | refine k_nil ?_ | refine k_then ?_ | refine k_true ?_ | refine k_ret ?_ | refine k_ret_then ?_ | refine s_grun ?_ | refine s_gskipf ?_ | refine s_move ?_ | refine s_assign ?_ | refine s_add1 ?_ | refine s_lss_f ?_ | refine s_gtr_f ?_ | refine s_geq_t ?_ | refine s_pickt ?_ | refine s_pickf ?_ | refine s_lens ?_))
            exact e_ret _ ⟨0, rfl, rfl⟩ (by repeat (first | exact SubH.nilR _ | refine SubH.pick (by repeat (first | exact HTake.here | apply HTake.there)) ?_))
    · rw [if_neg (by rintro ⟨h, _⟩; exact h60 h)]
      refine Tr.start (n := 110) (rs := [.tmp 4, .tmp 5, .tmp 6]) rfl rfl rfl rfl fun B => ?_
      (repeat' (first | refine k_seq ?_ | refine k_region ?_ | refine k_nil ?_ | refine k_then ?_ | refine k_true ?_ | refine k_ret ?_ | refine k_ret_then ?_ | refine s_grun ?_ | refine s_gskipf ?_ | refine s_move ?_ | refine s_assign ?_ | refine s_add1 ?_ | refine s_geq_f ?_ | refine s_neq_t ?_ | refine s_pickt ?_ | refine s_pickf ?_ | refine s_lens ?_ | refine s_index ?_))
      exact e_ret _ ⟨0, rfl, rfl⟩ (by repeat (first | exact SubH.nilR _ | refine SubH.pick (by repeat (first | exact HTake.here | apply HTake.there)) ?_))
  · rw [List.getElem?_eq_none (show s.length ≤ i + 1 by omega)]
    have e : ∀ (o : Option UInt8) (f : UInt8 → UInt8 → Option Nat), (match o, (none : Option UInt8) with
      | some c, some d => f c d
      | _, _ => none) = (none : Option Nat) := fun o f => by cases o <;> rfl
    rw [e]
    refine Tr.start (n := 110) (rs := [.tmp 4, .tmp 5, .tmp 6]) rfl rfl rfl rfl fun B => ?_
    (repeat' (first | refine k_seq ?_ | refine k_region ?_ | refine k_nil ?_ | refine k_then ?_ | refine k_true ?_ | refine k_ret ?_ | refine k_ret_then ?_ | refine s_gskipf ?_ | refine s_move ?_ | refine s_assign ?_ | refine s_add1 ?_ | refine s_geq_t ?_ | refine s_pickt ?_ | refine s_lens ?_))
    exact e_ret _ ⟨0, rfl, rfl⟩ (by repeat (first | exact SubH.nilR _ | refine SubH.pick (by repeat (first | exact HTake.here | apply HTake.there)) ?_))
end Go.Proofs

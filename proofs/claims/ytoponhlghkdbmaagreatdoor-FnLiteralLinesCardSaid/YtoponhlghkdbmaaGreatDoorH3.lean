/- HTML of lines of literal and escaped characters. Conditions: Lines. -/
import Derived.Test.YtoponhlghkdbmaaGreatDoorH2
namespace Go.Proofs
open Go Go.Eng
set_option maxRecDepth 20000
set_option maxHeartbeats 4000000

def Tok.char : Tok → UInt8
  | .lit c => c
  | .esc c => c
  | .nl => 10
theorem stOf_text (l : List Tok) : (stOf l).1.flatMap Itm.text ++ (stOf l).2 = l.map Tok.char := by
  rw [← List.reverse_reverse l]
  generalize l.reverse = r
  induction r with
  | nil => rfl
  | cons t r ih =>
    rw [List.reverse_cons, stOf_snoc, List.map_append, ← ih]
    generalize stOf r.reverse = st
    obtain ⟨a, b⟩ := st
    cases t with
    | lit c => simp [Tok.step, Tok.char]
    | esc c =>
      by_cases h : b = []
      · simp [Tok.step, Tok.char, h, Itm.text]
      · simp [Tok.step, Tok.char, h, Itm.text]
    | nl =>
      by_cases h : b = []
      · simp [Tok.step, Tok.char, h, Itm.text]
      · simp [Tok.step, Tok.char, h, Itm.text]
theorem itemsOf_text (l : List Tok) : (itemsOf l).flatMap Itm.text = l.map Tok.char := by
  have h := stOf_text l
  unfold itemsOf
  split
  · rename_i h0; rw [h0, List.append_nil] at h; exact h
  · rw [List.flatMap_append, ← h]; simp [Itm.text]
theorem htmlOf_eq (its : List Itm) : htmlOf its = escH (its.flatMap Itm.text) := by
  simp [htmlOf, escH, List.flatMap_assoc]
theorem htmlOf_items (l : List Tok) : htmlOf (itemsOf l) = escH (l.map Tok.char) := by rw [htmlOf_eq, itemsOf_text]
theorem items_bound (its : List Itm) (k : Nat) (x : Itm) (h : its[k]? = some x) : (htmlOf (its.take k)).length + 6 * x.text.length ≤ 6 * (its.flatMap Itm.text).length := by
  obtain ⟨h1, h2⟩ := List.getElem?_eq_some_iff.1 h
  have e1 : its = its.take k ++ x :: its.drop (k + 1) := by
    rw [← h2, ← List.drop_eq_getElem_cons h1, List.take_append_drop]
  have e2 : its.flatMap Itm.text = (its.take k).flatMap Itm.text ++ (x.text ++ (its.drop (k + 1)).flatMap Itm.text) := by
    conv => lhs; rw [e1]
    simp
  have e3 := escH_len ((its.take k).flatMap Itm.text)
  rw [htmlOf_eq, e2, List.length_append, List.length_append]; omega

theorem toHTML_tr (d a b' q t a2 b2 : Nat) (lk : Value) (ia : Option Addr) (im ic : Nat) (KB : Blk) (ja : Option Addr) (jm jc : Nat) (raw : List UInt8) (its : List Itm) (vals : List Value) (LB IB : Blk)
    (hB : Blks (.slice ia im ic) [.iface 130 (lp q)] KB)
    (hI : Items its vals IB) (hL : Inls (.slice ja jm jc) vals LB) (hil : its.length ≤ 1000000) (hlim : ∀ k x, its[k]? = some x → ([60, 112, 62] ++ htmlOf (its.take k)).length + 6 * x.text.length ≤ 1000000) (hlim2 : (htmlOf its).length ≤ 100000000) :
    Tr Tryz.prog 18 [.iface 36 (lp d)] [docb d a b' (.slice ia im ic) lk, pgb q a2 b2 t, txb t a2 b2 (.slice ja jm jc) raw, KB, LB, IB] fun u K => u = str (paraOut its) ∧ K = [] := by
  refine Tr.start (n := 7) (rs := [.tmp 2]) rfl rfl rfl rfl fun B => ?_
  (repeat' (first | refine k_seq ?_ | refine k_region ?_ | refine k_nil ?_ | refine k_then ?_ | refine s_move ?_ | refine s_assign ?_ | refine s_alloc (fun _ => ?_)))
  rename_i b
  refine s_nilblk ?_
  refine s_inv (docHTML_tr d a b' q t a2 b2 b lk ia im ic KB ja jm jc raw its vals LB IB hB hI hL hil hlim hlim2) (fun u K hR => ?_)
  obtain ⟨rfl, v3, R3, lr3, h3, rfl⟩ := hR
  (repeat' (first | refine s_callD (bufString_tr b v3 (paraOut its) R3 lr3 h3 (by simp)) ?_ | refine k_seq ?_ | refine k_region ?_ | refine k_nil ?_ | refine k_then ?_ | refine k_ret ?_ | refine s_assign ?_))
  exact e_ret [] ⟨rfl, rfl⟩ (by repeat (first | exact SubH.nilR _ | refine SubH.pick (by repeat (first | exact HTake.here | apply HTake.there)) ?_))

abbrev noOpt : Value := .agg #[.bool false, .bool false, .bool false, .bool false, .bool false, .bool false, .bool false, .bool false, .bool false, .bool false]
abbrev noPO : PO := ⟨false, false, false, false, false, false, false, false, false, false⟩
theorem parser_tr : Tr Tryz.prog 19 [noOpt] [] fun u K => ∃ pr, u = lp pr ∧ K = [noPO.blk pr] := by
  refine Tr.start (n := 25) (rs := [.tmp 2]) rfl rfl rfl rfl fun B => ?_
  (repeat' (first | refine k_seq ?_ | refine k_region ?_ | refine k_nil ?_ | refine k_then ?_ | refine k_ret ?_ | refine s_assign ?_ | refine s_load ?_ | refine s_field ?_ | refine s_buildx ?_ | refine s_box (fun _ => ?_)))
  rename_i r1 r2
  exact e_ret [noPO.blk r2] ⟨r2, rfl, rfl⟩ (by repeat (first | exact SubH.nilR _ | refine SubH.pick (by repeat (first | exact HTake.here | apply HTake.there)) ?_))

theorem itemsOf_len (l : List Tok) : (itemsOf l).length ≤ 2 * l.length := by
  have h : (stOf l).1.length + (if (stOf l).2 = [] then 0 else 1) ≤ 2 * l.length := by
    rw [← List.reverse_reverse l]
    generalize l.reverse = r
    induction r with
    | nil => simp
    | cons t r ih =>
      rw [List.reverse_cons, stOf_snoc, List.length_append]
      generalize stOf r.reverse = st at ih ⊢
      obtain ⟨a, b⟩ := st
      cases t with
      | lit c =>
        by_cases hb : b = []
        · simp [Tok.step, hb] at ih ⊢; omega
        · simp [Tok.step, hb] at ih ⊢; omega
      | esc c =>
        simp only [Tok.step]
        by_cases hb : b = []
        · simp [hb] at ih ⊢; omega
        · simp [hb] at ih ⊢; omega
      | nl =>
        simp only [Tok.step]
        by_cases hb : b = []
        · simp [hb] at ih ⊢; omega
        · simp [hb] at ih ⊢; omega
  unfold itemsOf
  split at h
  · rename_i h0; rw [if_pos h0]; omega
  · rename_i h0; rw [if_neg h0, List.length_append]; simpa using h

/-- Lines of plain and escaped characters that begin nothing but a paragraph. -/
structure Lines (ls : List (List UInt8)) (toks : List Tok) : Prop where
  bytes : bytesOf toks = jn ls
  ok : ∀ t ∈ toks, t.ok
  ne : ls ≠ []
  cnt : ls.length ≤ 100
  len : toks.length ≤ 15000
  tne : toks ≠ []
  trim : btrim (bytesOf toks) = bytesOf toks
  lines : ∀ l ∈ ls, PL l
  m32 : at0 (bytesOf toks) 0 ≠ 32
  m9 : at0 (bytesOf toks) 0 ≠ 9
  m10 : at0 (bytesOf toks) 0 ≠ 10
  m91 : at0 (bytesOf toks) 0 ≠ 91
  brk : ∀ d r, toks = d ++ .nl :: r → (∀ c, 0 < (bytesOf d).length → (bytesOf toks)[(bytesOf d).length - 1]? = some c → ¬ c.toNat = 32 ∧ ¬ c.toNat = 9) ∧ (∀ c, (bytesOf toks)[(bytesOf d).length + 1]? = some c → ¬ c.toNat = 32 ∧ ¬ c.toNat = 9)

theorem bytesOf_len (l : List Tok) : (bytesOf l).length ≤ 2 * l.length := by
  induction l with
  | nil => simp
  | cons t l ih => cases t <;> simp [Tok.bytes] at ih ⊢ <;> omega

theorem parseDoc_tr (pr : Nat) (ls : List (List UInt8)) (toks : List Tok) (h : Lines ls toks) : Tr Tryz.prog 20 [lp pr, str (bytesOf toks)] [noPO.blk pr] fun u K => ∃ d e q t ia im ic KB ja jm jc vals LB IB, u = lp d ∧ Blks (.slice ia im ic) [.iface 130 (lp q)] KB ∧ Items (itemsOf toks) vals IB ∧ Inls (.slice ja jm jc) vals LB ∧
    K = [docb d 0 e (.slice ia im ic) (.map none), pgb q 1 (1 + ls.length - 1) t, txb t 1 (1 + ls.length - 1) (.slice ja jm jc) (bytesOf toks), KB, LB, IB] := by
  have hbl := bytesOf_len toks
  have hlen := h.len
  have hcnt := h.cnt
  have hp := parse_tr pr noPO ls (bytesOf toks) h.bytes.symm h.ne (by omega) (by omega) h.lines (fun ia im ic G => ∃ vals LB IB, Items (itemsOf toks) vals IB ∧ Inls (.slice ia im ic) vals LB ∧ G = LB ++ IB) rfl rfl h.m32 h.m9 h.m10 h.m91
    (fun p s hs => (inline_tr p pr noPO s toks h.ok (by omega) h.trim rfl rfl rfl rfl rfl rfl hs h.tne h.brk))
  refine Tr.start (n := 14) (rs := [.tmp 4]) rfl rfl rfl rfl fun B => ?_
  (repeat' (first | refine k_seq ?_ | refine k_region ?_ | refine k_nil ?_ | refine k_then ?_ | refine s_move ?_ | refine s_assign ?_))
  refine s_call hp (fun u K hR => ?_)
  obtain ⟨d, q, t, cv, e, ia, im, ic, KB, ja, jm, jc, G, rfl, hB, ⟨vals, LB, IB, hI, hL, rfl⟩, rfl⟩ := hR
  (repeat' (first | refine k_seq ?_ | refine k_region ?_ | refine k_nil ?_ | refine k_then ?_ | refine k_ret ?_ | refine s_move ?_ | refine s_assign ?_ | refine s_ext ?_))
  refine e_ret [docb d 0 e (.slice ia im ic) (.map none), pgb q 1 (1 + ls.length - 1) t, txb t 1 (1 + ls.length - 1) (.slice ja jm jc) (bytesOf toks), KB, LB, IB] ⟨d, e, q, t, ia, im, ic, KB, ja, jm, jc, vals, LB, IB, rfl, hB, hI, hL, rfl⟩ ?_
  exact SubH.trans (H' := [docb d 0 e (.slice ia im ic) (.map none), pgb q 1 (1 + ls.length - 1) t, txb t 1 (1 + ls.length - 1) (.slice ja jm jc) (bytesOf toks), KB, LB ++ IB]) (by repeat (first | exact SubH.nilR _ | refine SubH.pick (by repeat (first | exact HTake.here | apply HTake.there)) ?_)) (SubH.keep (SubH.keep (SubH.keep (SubH.keep SubH.cut))))

theorem html_tr (ls : List (List UInt8)) (toks : List Tok) (h : Lines ls toks) : Tr Tryz.prog 8 [noOpt, str (bytesOf toks)] [] fun u K => u = str ([60, 112, 62] ++ escH (toks.map Tok.char) ++ [60, 47, 112, 62, 10]) ∧ K = [] := by
  have hlen := h.len
  have hil := itemsOf_len toks
  have htl : ((itemsOf toks).flatMap Itm.text).length = toks.length := by rw [itemsOf_text, List.length_map]
  have h2 : (htmlOf (itemsOf toks)).length ≤ 6 * toks.length := by
    rw [htmlOf_eq, ← htl]; exact escH_len _
  rw [← htmlOf_items]
  refine Tr.start (n := 11) (rs := [.tmp 4]) rfl rfl rfl rfl fun B => ?_
  (repeat' (first | refine k_seq ?_ | refine k_region ?_ | refine k_nil ?_ | refine k_then ?_ | refine s_assign ?_ | refine s_loada ?_ | refine s_box (fun _ => ?_)))
  rename_i r
  refine s_call parser_tr (fun u K hR => ?_)
  obtain ⟨pr, rfl, rfl⟩ := hR
  (repeat' (first | refine s_move ?_))
  refine s_call (parseDoc_tr pr ls toks h) (fun u K hR => ?_)
  obtain ⟨d, e, q, t, ia, im, ic, KB, ja, jm, jc, vals, LB, IB, rfl, hB, hI, hL, rfl⟩ := hR
  (repeat' (first | refine s_mki ?_))
  refine s_call (toHTML_tr d 0 e q t 1 (1 + ls.length - 1) (.map none) ia im ic KB ja jm jc (bytesOf toks) (itemsOf toks) vals LB IB hB hI hL (by omega) (fun k x hk => ?_) (by omega)) (fun u K hR => ?_)
  · have := items_bound _ k x hk
    simp only [List.length_append, List.length_cons, List.length_nil]; omega
  · obtain ⟨rfl, rfl⟩ := hR
    (repeat' (first | refine k_nil ?_ | refine k_then ?_ | refine k_ret ?_ | refine s_assign ?_))
    exact e_ret [] ⟨rfl, rfl⟩ (by repeat (first | exact SubH.nilR _ | refine SubH.pick (by repeat (first | exact HTake.here | apply HTake.there)) ?_))
end Go.Proofs

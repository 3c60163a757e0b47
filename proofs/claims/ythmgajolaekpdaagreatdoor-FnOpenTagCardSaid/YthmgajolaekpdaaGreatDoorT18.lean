/- Steps of the walk of the program and plain facts on what it computes. Conditions: as each theorem states them. -/
import Derived.Test.YthmgajolaekpdaaGreatDoorT16
import Derived.Test.YthmgajolaekpdaaGreatDoorT17
import Derived.Test.YthmgajolaekpdaaGreatDoorT15
import Derived.Test.YthmgajolaekpdaaGreatDoorT08
import Derived.Test.YthmgajolaekpdaaGreatDoorT04
import Derived.Test.YthmgajolaekpdaaGreatDoorT10
namespace Go.Proofs
open Go Go.Eng
set_option maxRecDepth 20000
set_option maxHeartbeats 4000000

/-- What a list of inlines puts out. -/
structure OutsL (its : List LIt) (outs : List (List UInt8)) : Prop where
  len : outs.length = its.length
  pr : ∀ (j : Nat) (x : LIt) (out : List UInt8), its[j]? = some x → outs[j]? = some out → ∀ (q : Nat) (G : Blk), x.cell q ∈ G → Prn x.ty (lp q) G out
  lim : outs.flatten.length ≤ 400000

theorem shownL {its : List LIt} {vals : List Value} {IB LB : Blk} {ia : Option Addr} {im ic : Nat} {outs : List (List UInt8)} (hI : ItsL its vals IB) (hL : Inls (.slice ia im ic) vals LB) (hne : its ≠ []) (hO : OutsL its outs) (hl : its.length ≤ 100000) :
    ∃ g, ia = some ⟨g, 0, none⟩ ∧ im ≤ 100000 ∧ Shown g im (LB ++ IB) outs := by
  have hlen := hI.length
  obtain ⟨n, hn⟩ : ∃ n, vals.length = n + 1 := by
    cases its with
    | nil => exact absurd rfl hne
    | cons a b => exact ⟨b.length, by rw [hlen]; rfl⟩
  have h : Own 125 1 (.slice ia im ic) (n + 1) vals LB := hn ▸ hL
  obtain ⟨g, cap, cur, e1, rfl, k1, k2, k3, k4⟩ := h.pos
  injection e1 with e1 e2 e3
  subst e1 e2 e3
  refine ⟨g, rfl, by omega, ⟨⟨cur, by simp, by omega, fun j hj => ?_⟩, by rw [hO.len]; omega, hO.lim⟩⟩
  obtain ⟨x, hx⟩ : ∃ x, its[j]? = some x := ⟨_, List.getElem?_eq_getElem (by omega)⟩
  obtain ⟨out, ho⟩ : ∃ o, outs[j]? = some o := ⟨_, List.getElem?_eq_getElem (by rw [hO.len]; omega)⟩
  obtain ⟨q, h1, h2⟩ := hI.get j x hx
  have h3 : cur[j]? = some (.iface x.ty (lp q)) := by
    rw [← h1, ← k4, List.getElem?_take, if_pos (by omega)]
  exact ⟨_, _, out, h3, ho, hO.pr j x out hx ho q _ (by simp [h2])⟩

theorem htmlA_tr (tx : List UInt8) (m j : Nat) (hA : ALink tx 0 m j) (hp : ALine tx) (hcc : ∀ d ∈ tx, d ≠ 10 ∧ d ≠ 13 ∧ d ≠ 0) (hlt0 : ltrim tx = tx) (toks : List LTk) (hb : bytesL toks = tx) (hok : LTkOK toks) (outs : List (List UInt8)) (hO : OutsL (itemsL toks) outs) (hil : (itemsL toks).length ≤ 100000) :
    TrD Tryz.prog 10 [optO false false, str tx] [] (str (paraO outs.flatten)) [] := by
  subst hb
  obtain ⟨c60, hc60, h60⟩ := hA.o
  have hat : at0 (bytesL toks) 0 = 60 := by rw [at0_some hc60, h60]
  have hD : ∀ pr, Tr Tryz.prog 24 [lp pr, str (bytesL toks)] [(poO false false).blk pr] fun u K => ∃ dd e qq t ia im ic KB g m c G, u = lp dd ∧ Blks (.slice ia im ic) [.iface 146 (lp qq)] KB ∧ Shown g m G outs ∧ m ≤ 100000 ∧
      K = [docb dd 0 e (.slice ia im ic) (.map none), pgb qq 1 (1 + 1 - 1) t, txb t 1 (1 + 1 - 1) (.slice (some ⟨g, 0, none⟩) m c) (bytesL toks), KB, G] := by
    intro pr
    have hpt := parse_al pr (poO false false) (bytesL toks) m j hA hp hcc hlt0 (fun ia im ic G => ∃ g', ia = some ⟨g', 0, none⟩ ∧ im ≤ 100000 ∧ Shown g' im G outs) rfl rfl (by omega) (by omega) (by omega) (by omega)
      (fun p s hs ⟨cn, hcn⟩ => (inlineL_tr p pr (poO false false) s toks hok cn hcn rfl rfl rfl rfl rfl rfl hs).mono (by
        rintro u K ⟨s', ia, im, ic, G, rfl, ⟨vals, LB, IB, h1, h2, rfl⟩, h3, h4, rfl⟩
        exact ⟨s', ia, im, ic, _, rfl, shownL h1 h2 hok.ne hO hil, h3, h4, rfl⟩))
    refine Tr.start (n := 14) (rs := [.tmp 4]) rfl rfl rfl rfl fun B => ?_
    (repeat' (first | refine k_seq ?_ | refine k_region ?_ | refine k_nil ?_ | refine k_then ?_ | refine s_move ?_ | refine s_assign ?_))
    refine s_call hpt (fun u K hR => ?_)
    obtain ⟨dd, qq, t, cv, e, ia, im, ic, KB, ja, jm, jc, G, rfl, hB, ⟨g, rfl, hjm, hS⟩, rfl⟩ := hR
    (repeat' (first | refine k_seq ?_ | refine k_region ?_ | refine k_nil ?_ | refine k_then ?_ | refine k_ret ?_ | refine s_move ?_ | refine s_assign ?_ | refine s_ext ?_))
    exact e_ret [docb dd 0 e (.slice ia im ic) (.map none), pgb qq 1 (1 + 1 - 1) t, txb t 1 (1 + 1 - 1) (.slice (some ⟨g, 0, none⟩) jm jc) (bytesL toks), KB, G] ⟨dd, e, qq, t, ia, im, ic, KB, g, jm, jc, G, rfl, hB, hS, hjm, rfl⟩ (by repeat (first | exact SubH.nilR _ | refine SubH.pick (by repeat (first | exact HTake.here | apply HTake.there)) ?_))
  refine Tr.start (n := 11) (rs := [.tmp 4]) rfl rfl rfl rfl fun B => ?_
  (repeat' (first | refine k_seq ?_ | refine k_region ?_ | refine k_nil ?_ | refine k_then ?_ | refine s_assign ?_ | refine s_loada ?_ | refine s_box (fun _ => ?_)))
  rename_i r
  refine s_call (parserO_tr false false) (fun u K hR => ?_)
  obtain ⟨pr, rfl, rfl⟩ := hR
  (repeat' (first | refine s_move ?_))
  refine s_call (hD pr) (fun u K hR => ?_)
  obtain ⟨dd, e, qq, t, ia, im, ic, KB, g, m, c, G, rfl, hB, hS, hjm, rfl⟩ := hR
  (repeat' (first | refine s_mki ?_))
  refine s_call (toP_tr dd 0 e qq t 1 (1 + 1 - 1) (.map none) ia im ic KB g m c (bytesL toks) outs G hB hS hjm) (fun u K hR => ?_)
  obtain ⟨rfl, rfl⟩ := hR
  (repeat' (first | refine k_nil ?_ | refine k_then ?_ | refine k_ret ?_ | refine s_assign ?_))
  exact e_ret [] ⟨rfl, rfl⟩ (by repeat (first | exact SubH.nilR _ | refine SubH.pick (by repeat (first | exact HTake.here | apply HTake.there)) ?_))
end Go.Proofs

namespace Go.Proofs
open Go Go.Eng
set_option maxRecDepth 20000
set_option maxHeartbeats 4000000

theorem btrim_ink {l s p : List UInt8} {c z : UInt8} (h1 : l = c :: s) (hc : isBl c = false) (h2 : l = p ++ [z]) (hz : isBl z = false) : btrim l = l := by
  have e1 : ltrim l = l := by
    rw [h1]; unfold ltrim
    rw [List.dropWhile_cons_of_neg (by simp [hc])]
  unfold btrim
  rw [e1]
  unfold rtrim
  rw [h2, List.reverse_append]
  simp [hz]

/-- What the law lets in. -/
structure AText (sc rest : List UInt8) : Prop where
  two : 2 ≤ sc.length
  most : sc.length ≤ 32
  sch : ∀ c ∈ sc, let8 c.toNat
  len : rest.length ≤ 60
  url : ∀ c ∈ rest, 32 < c.toNat ∧ c.toNat < 127 ∧ c.toNat ≠ 60 ∧ c.toNat ≠ 62

abbrev autoS (sc rest : List UInt8) : List UInt8 := sc ++ [58] ++ rest
abbrev autoT (sc rest : List UInt8) : List UInt8 := [60] ++ autoS sc rest ++ [62]
abbrev autoX (s : List UInt8) : LIt := ⟨255, 257, [str s, str s]⟩
abbrev autoOut (s : List UInt8) : List UInt8 := [60, 97, 32, 104, 114, 101, 102, 61, 34] ++ pairH linkPairs s ++ [34, 62] ++ escH s ++ [60, 47, 97, 62]

theorem alink_of {sc rest : List UInt8} (h : AText sc rest) : ALink (autoT sc rest) 0 (sc.length + 1) (sc.length + rest.length + 2) := by
  have e : autoT sc rest = 60 :: (sc ++ 58 :: (rest ++ [62])) := by simp
  rw [e]
  refine ⟨⟨60, rfl, rfl⟩, by have := h.two; omega, by have := h.most; omega, fun k h1 h2 => ?_, ⟨58, ?_, rfl⟩, by omega, fun k h1 h2 => ?_, ⟨62, ?_, rfl⟩⟩
  · obtain ⟨k, rfl⟩ : ∃ k', k = k' + 1 := ⟨k - 1, by omega⟩
    have hk : k < sc.length := by omega
    refine ⟨sc[k], ?_, h.sch _ (List.getElem_mem hk)⟩
    rw [List.getElem?_cons_succ, List.getElem?_append_left hk, List.getElem?_eq_getElem hk]
  · rw [List.getElem?_cons_succ, List.getElem?_append_right (Nat.le_refl _), Nat.sub_self]; rfl
  · obtain ⟨k, rfl⟩ : ∃ k', k = sc.length + k' + 2 := ⟨k - sc.length - 2, by omega⟩
    have hk : k < rest.length := by omega
    refine ⟨rest[k], ?_, ?_⟩
    · rw [show sc.length + k + 2 = (sc.length + k + 1) + 1 by omega, List.getElem?_cons_succ, List.getElem?_append_right (by omega), show sc.length + k + 1 - sc.length = k + 1 by omega, List.getElem?_cons_succ, List.getElem?_append_left hk, List.getElem?_eq_getElem hk]
    · obtain ⟨a, _, b, c⟩ := h.url _ (List.getElem_mem hk)
      exact ⟨a, b, c⟩
  · rw [show sc.length + rest.length + 2 = (sc.length + rest.length + 1) + 1 by omega, List.getElem?_cons_succ, List.getElem?_append_right (by omega), show sc.length + rest.length + 1 - sc.length = rest.length + 1 by omega, List.getElem?_cons_succ, List.getElem?_append_right (by omega), Nat.sub_self]; rfl

theorem autoT_mem {sc rest : List UInt8} (h : AText sc rest) : ∀ d ∈ autoT sc rest, 32 < d.toNat ∧ d.toNat < 127 := by
  intro d hd
  simp only [List.mem_append, List.mem_singleton] at hd
  rcases hd with (rfl | (hd | rfl) | hd) | rfl
  · decide
  · have := h.sch d hd; omega
  · decide
  · have := h.url d hd; omega
  · decide

theorem autoT_cut {sc rest : List UInt8} : ((autoT sc rest).take (sc.length + rest.length + 2)).drop (0 + 1) = autoS sc rest := by
  have e : autoT sc rest = (60 :: autoS sc rest) ++ [62] := by simp
  rw [e, List.take_append_of_le_length (by simp; omega), List.take_of_length_le (by simp; omega)]
  rfl

theorem htmlAuto_tr {sc rest : List UInt8} (h : AText sc rest) : TrD Tryz.prog 10 [optO false false, str (autoT sc rest)] [] (str (paraO (autoOut (autoS sc rest)))) [] := by
  have hA := alink_of h
  have hmem := autoT_mem h
  have hlen : (autoT sc rest).length = sc.length + rest.length + 3 := by simp; omega
  have hl1 := h.most
  have hl2 := h.len
  have hnt : NoTab (autoT sc rest) := fun d hd => by have := hmem d hd; omega
  have hsl : (autoS sc rest).length ≤ 1000 := by simp; omega
  have hp := aline_of hA hnt (by omega)
  have hlt : ltrim (autoT sc rest) = autoT sc rest := by
    unfold ltrim
    rw [show autoT sc rest = 60 :: (autoS sc rest ++ [62]) by simp, List.dropWhile_cons_of_neg (by decide)]
  have hbt : btrim (autoT sc rest) = autoT sc rest := btrim_ink (c := 60) (s := autoS sc rest ++ [62]) (p := 60 :: autoS sc rest) (z := 62) (by simp) (by decide) (by simp) (by decide)
  have hb : bytesL [.leaf (autoT sc rest) (autoX (autoS sc rest))] = autoT sc rest := by simp [bytesL, LTk.bytes]
  have hits : itemsL [.leaf (autoT sc rest) (autoX (autoS sc rest))] = [autoX (autoS sc rest)] := rfl
  have hok : LTkOK [.leaf (autoT sc rest) (autoX (autoS sc rest))] := by
    refine ⟨fun c hc => by simp at hc, fun d r bs x he => ?_, by rw [hb]; omega, by rw [hb]; exact hbt, by rw [hits]; simp, fun x hx => ?_, fun j x y hx hy _ => ?_⟩
    · cases d with
      | cons a d => simp at he
      | nil =>
        simp only [List.nil_append, List.cons.injEq, LTk.leaf.injEq] at he
        obtain ⟨⟨rfl, rfl⟩, rfl⟩ := he
        refine ⟨by simp, ⟨60, by rw [hb]; rfl, rfl⟩, rfl, fun p s cn hcn => ?_⟩
        refine Tr.ps (Tr.fr (F := [s.blk p]) (autoLink_tr p _ 0 (sc.length + 1) (sc.length + rest.length + 2) (by rw [hb]; omega) (by rw [hb]; exact hA)) HTakes.nil) ?_
        rintro u K ⟨K0, ⟨q, rfl, rfl⟩, rfl⟩
        refine ⟨[s.blk p, [(autoX (autoS sc rest)).cell q]], ⟨q, cn, ?_, ?_⟩, ?_⟩
        · have e1 : (bytesL ([] : List LTk)).length = 0 := rfl
          rw [e1, hlen, Nat.zero_add]
        · rw [← hcn]
        · rw [hb, autoT_cut]
          exact (by repeat (first | exact SubH.nilR _ | refine SubH.pick (by repeat (first | exact HTake.here | apply HTake.there)) ?_))
    · rw [hits, List.mem_singleton] at hx
      subst hx
      exact .inr ⟨rfl, rfl, rfl⟩
    · rw [hits] at hy
      simp at hy
  have hO : OutsL (itemsL [.leaf (autoT sc rest) (autoX (autoS sc rest))]) [autoOut (autoS sc rest)] := by
    have k1 := pairH_len linkOK (autoS sc rest)
    have k2 := escH_len (autoS sc rest)
    refine ⟨rfl, fun j x out hx ho q G hG => ?_, ?_⟩
    · rw [hits] at hx
      cases j with
      | succ j => simp at hx
      | zero =>
        simp only [List.getElem?_cons_zero, Option.some.injEq] at hx ho
        subst hx; subst ho
        exact prnAuto q _ G hG hsl
    · simp only [List.flatten_cons, List.flatten_nil, List.length_append, List.length_cons, List.length_nil] at k1 k2 ⊢
      omega
  have := htmlA_tr (autoT sc rest) _ _ hA hp (fun d hd => by have := hmem d hd; refine ⟨?_, ?_, ?_⟩ <;> (intro h; subst h; revert this; decide)) hlt _ hb hok _ hO (by rw [hits]; simp)
  simpa using this
end Go.Proofs

namespace Go.Proofs
open Go Go.Eng
set_option maxRecDepth 20000
set_option maxHeartbeats 4000000

theorem endB_len (slash : Bool) : 0 < (endB slash).length ∧ (endB slash).length ≤ 3 := by cases slash <;> decide
theorem att_len (x : Att) : 3 ≤ x.bytes.length := by
  unfold Att.bytes sepB
  split <;> simp <;> omega
theorem atts_len (l : List Att) : l.length ≤ (attsB l).length := by
  induction l with
  | nil => simp
  | cons x l ih =>
    have := att_len x
    simp only [attsB, List.flatMap_cons, List.length_append, List.length_cons] at ih ⊢
    omega
abbrev tagB (name : List UInt8) (l : List Att) (slash : Bool) : List UInt8 := 60 :: (name ++ (attsB l ++ endB slash))
structure TagOK (name : List UInt8) (l : List Att) : Prop where
  ne : name ≠ []
  len : name.length ≤ 20
  abc : ∀ c ∈ name, 97 ≤ c.toNat ∧ c.toNat ≤ 99
  ok : ∀ x ∈ l, x.ok

theorem tagEnd_at {s post : List UInt8} {slash : Bool} {k : Nat} (h : s.drop k = endB slash ++ post) : tagEndM s k = some (k + (endB slash).length) := by
  unfold tagEndM
  cases slash with
  | true =>
    have h' : s.drop k = [32] ++ 47 :: (62 :: post) := h
    have e : scan isSp s k = k + 1 := scan_drop h' (by decide) (by decide)
    have h1 : s.drop (k + 1) = 47 :: (62 :: post) := drop_add (a := [32]) h'
    have g1 := get_drop h1
    have g2 := get_drop (drop_succ h1)
    rw [e]
    dsimp only
    rw [if_pos g1, if_pos g2]
    rfl
  | false =>
    have h' : s.drop k = [] ++ 62 :: post := h
    have e : scan isSp s k = k := scan_drop h' (by simp) (by decide)
    have g := get_drop h'
    rw [e]
    dsimp only
    rw [if_neg (show ¬ s[k]? = some 47 by rw [g]; decide), if_pos g]
    rfl
theorem openTag_at {s name post : List UInt8} {l : List Att} {slash : Bool} {i : Nat} (hT : TagOK name l) (h : s.drop i = tagB name l slash ++ post) : openTagM s i = some (i + (tagB name l slash).length) := by
  have h0 : s.drop i = 60 :: (name ++ (attsB l ++ (endB slash ++ post))) := by rw [h]; simp
  have h1 := drop_succ h0
  obtain ⟨c, nr, hn⟩ : ∃ c nr, name = c :: nr := by cases hnn : name with | nil => exact absurd hnn hT.ne | cons a b => exact ⟨a, b, rfl⟩
  have hcl : letB c = true := by
    have := hT.abc c (by rw [hn]; simp)
    simp only [letB, decide_eq_true_eq]; omega
  have hh := tail_head (tail_atts l slash post) l slash post rfl
  obtain ⟨d, r', hr, hd⟩ := hh
  have h1' : s.drop (i + 1) = c :: (nr ++ d :: r') := by rw [h1, hr, hn]; rfl
  have h2 := drop_succ h1'
  have e1 : scan ldhB s (i + 1 + 1) = i + 1 + 1 + nr.length := scan_drop h2 (fun x hx => by
    have := hT.abc x (by rw [hn]; simp [hx])
    simp only [ldhB, Bool.or_eq_true, decide_eq_true_eq, beq_iff_eq]; omega) (by rcases hd with h | h | h <;> (subst h; decide))
  have e2 : tagNameM s (i + 1) = some (i + 1 + 1 + nr.length) := by
    unfold tagNameM
    rw [get_drop h1']
    dsimp only
    rw [if_pos hcl, e1]
  have h3 : s.drop (i + 1 + 1 + nr.length) = attsB l ++ (endB slash ++ post) := by rw [hr]; exact drop_add h2
  have hsl : l.length < s.length + 1 := by
    have := congrArg List.length h3
    have h4 := atts_len l
    rw [List.length_drop, List.length_append] at this
    omega
  unfold openTagM
  rw [get_drop h0, if_pos rfl, e2]
  dsimp only
  rw [atts_at hT.ok h3 hsl]
  dsimp only
  rw [tagEnd_at (drop_add h3)]
  simp [hn]; omega
theorem ang_at {s name post : List UInt8} {l : List Att} {slash : Bool} {i : Nat} (hT : TagOK name l) (h : s.drop i = tagB name l slash ++ post) : angM s i = some (⟨279, 280, [str (tagB name l slash)]⟩, i + (tagB name l slash).length) := by
  have h0 : s.drop i = 60 :: (name ++ (attsB l ++ (endB slash ++ post))) := by rw [h]; simp
  have h1 := drop_succ h0
  obtain ⟨c, nr, hn⟩ : ∃ c nr, name = c :: nr := by cases hnn : name with | nil => exact absurd hnn hT.ne | cons a b => exact ⟨a, b, rfl⟩
  have hc := hT.abc c (by rw [hn]; simp)
  obtain ⟨d, r', hr, hd⟩ := tail_head (tail_atts l slash post) l slash post rfl
  have h1' : s.drop (i + 1) = name ++ d :: r' := by rw [h1, hr]
  have g1 : s[i + 1]? = some c := get_drop (r := nr ++ d :: r') (by rw [h1', hn]; rfl)
  have g2 : s[i + 1 + name.length]? = some d := get_drop (drop_add h1')
  have e1 : scan schB s (i + 1) = i + 1 + name.length := scan_drop h1' (fun x hx => by
    have := hT.abc x hx
    simp only [schB, ldB, Bool.or_eq_true, decide_eq_true_eq, beq_iff_eq]; omega) (by rcases hd with h | h | h <;> (subst h; decide))
  have e2 : scan userB s (i + 1) = i + 1 + name.length := scan_drop h1' (fun x hx => by
    have := hT.abc x hx
    simp only [userB, ldB, Bool.or_eq_true, decide_eq_true_eq]; omega) (by rcases hd with h | h | h <;> (subst h; decide))
  have hl := hT.len
  have k1 : autoURIM s i = none := by
    unfold autoURIM
    rw [get_drop h0, g1]
    dsimp only
    split
    · unfold bscan
      rw [e1, show min (i + 1 + name.length) (i + 1 + 33) = i + 1 + name.length by omega]
      split
      · rfl
      · rw [g2, if_neg (by rcases hd with h | h | h <;> (subst h; decide))]
    · rfl
  have k2 : emailM s i = none := by
    unfold emailM
    rw [get_drop h0, g1]
    dsimp only
    split
    · rw [e2, g2, if_neg (by rcases hd with h | h | h <;> (subst h; decide))]
    · rfl
  have g3 : ∃ e, s[i + 2]? = some e := by
    cases nr with
    | nil => exact ⟨d, by rw [hn] at g2; exact g2⟩
    | cons e nr => exact ⟨e, get_drop (r := nr ++ d :: r') (by
        have : s.drop (i + 1) = c :: (e :: (nr ++ d :: r')) := by rw [h1', hn]; rfl
        exact drop_succ this)⟩
  obtain ⟨e, g3⟩ := g3
  have k3 : htmlTagM s i = openTagM s i := by
    unfold htmlTagM
    rw [get_drop h0, if_pos rfl, g1, g3]
    dsimp only
    rw [if_neg (by omega), if_neg (by omega), if_neg (by omega)]
  unfold angM
  rw [k1]
  dsimp only
  rw [k2]
  dsimp only
  rw [k3, openTag_at hT h]
  dsimp only
  rw [List.drop_take, Nat.add_sub_cancel_left, h, List.take_left']
  rfl

theorem tagP_tr (q b : Nat) (t : List UInt8) (v : Value) (l : List UInt8) (R G : Blk) (lr : Int) (hx : (q, cellsOf [str t] 280) ∈ G) (ht : t.length ≤ 10000) (hR : BRow v l R) (hne : l ≠ []) (hlim : l.length ≤ 600000) :
    Tr Tryz.prog 337 [lp q, lp b] [G, bufb b v lr, R] fun u K => u = unit ∧ ∃ v' R' lr', BRow v' (l ++ t) R' ∧ K = [G, bufb b v' lr', R'] := by
  have hm : ∀ H, HMem (G :: H) q (cellsOf [str t] 280) := fun H => HMem.of_chunk hx
  refine Tr.start (n := 10) (rs := []) rfl rfl rfl rfl fun B => ?_
  (repeat' (first | refine s_load (hm := hm _) ?_ | refine k_region ?_ | refine s_move ?_ | refine s_field ?_ | refine s_nilp ?_))
  refine s_call (writeAny_tr b v l R lr t hR hne (by omega)) (fun u K hR => ?_)
  obtain ⟨rfl, v', R', h9, rfl⟩ := hR
  (repeat' (first | refine k_nil ?_))
  exact e_norm [G, bufb b v' 0, R'] ⟨rfl, v', R', 0, h9, rfl⟩ (by repeat (first | exact SubH.nilR _ | refine SubH.pick (by repeat (first | exact HTake.here | apply HTake.there)) ?_))
theorem prnTag (q : Nat) (t : List UInt8) (G : Blk) (hx : (q, cellsOf [str t] 280) ∈ G) (ht : t.length ≤ 10000) : Prn 279 (lp q) G t :=
  ⟨by omega, 337, inferInstance, fun w => by kernel_rfl, fun b v l R lr hR hn hl => tagP_tr q b t v l R G lr hx ht hR hn (by omega)⟩

/-- Lines that begin with a letter. -/
structure LLine (a : List UInt8) : Prop where
  hd : ∃ c r, a = c :: r ∧ 97 ≤ c.toNat ∧ c.toNat ≤ 122
  pr : ∀ d ∈ a, 32 ≤ d.toNat ∧ d.toNat < 127
theorem plL {tx : List UInt8} (h : LLine tx) (hl : tx.length ≤ 10000) : PL tx := by
  obtain ⟨c, r, e, hc⟩ := h.hd
  have h0 : at0 tx 0 = c.toNat := by rw [e]; rfl
  have hns : nsp tx = 0 := by rw [e]; simp [nsp]; omega
  have hsp : sp3 0 tx = 0 := by unfold sp3; rw [List.drop_zero, hns, Nat.zero_min]
  have hlt : ltrim tx = tx := by
    rw [e]; unfold ltrim
    rw [List.dropWhile_cons_of_neg]
    simp [isBl]; omega
  have hnt : NoTab tx := fun d hd => by have := h.pr d hd; omega
  have hq : ∀ k, k ≠ c.toNat → at0 tx (sp3 0 tx) ≠ k := fun k hk => by rw [hsp, h0]; exact fun h => hk h.symm
  refine ⟨⟨hnt, by omega, Nat.zero_le _, by rw [List.drop_zero, hlt, e]; simp, by rw [List.drop_zero, hns]; omega, hq _ (by omega), fun nl q nq nv => trimHeading_no q nq 0 nv tx nl hnt (by omega) (Nat.zero_le _) (hq 35 (by omega)), hq _ (by omega), hq _ (by omega), hq _ (by omega), hq _ (by omega), hq _ (by omega), hq _ (by omega), hq _ (by omega), ?_⟩, hlt, fun d hd => ?_⟩
  · rw [hsp, List.drop_zero]
    refine ⟨by omega, by omega, by omega, fun j hj hj0 => ?_⟩
    have := hj 0 hj0
    omega
  · have := h.pr d hd
    refine ⟨fun h => ?_, fun h => ?_, fun h => ?_⟩ <;> (subst h; exact absurd this (by decide))
theorem valB_pr (f : Nat) : ∀ d ∈ valB f, 32 ≤ d.toNat ∧ d.toNat < 127 := by
  unfold valB
  split <;> decide
theorem endB_pr (b : Bool) : ∀ d ∈ endB b, 32 ≤ d.toNat ∧ d.toNat < 127 := by cases b <;> decide
/-- The lines of a tag among words. -/
theorem tag_lines : ∀ (l : List Att) (a : List UInt8) (slash : Bool), (∀ x ∈ l, x.ok) → LLine a → ∃ ls, jn ls = a ++ (attsB l ++ (endB slash ++ [32, 120])) ∧ ls ≠ [] ∧ ls.length ≤ l.length + 1 ∧ ∀ b ∈ ls, LLine b
  | [], a, slash, _, ha => ⟨[a ++ (endB slash ++ [32, 120])], by rw [jn_one]; simp [attsB], by simp, by simp, fun b hb => by
      rw [List.mem_singleton] at hb
      subst hb
      obtain ⟨c, r, e, hc⟩ := ha.hd
      refine ⟨⟨c, r ++ (endB slash ++ [32, 120]), by rw [e]; rfl, hc⟩, fun d hd => ?_⟩
      rcases List.mem_append.1 hd with h | h
      · exact ha.pr d h
      · rcases List.mem_append.1 h with h | h
        · exact endB_pr _ d h
        · have : ∀ d ∈ ([32, 120] : List UInt8), 32 ≤ d.toNat ∧ d.toNat < 127 := by decide
          exact this d h⟩
  | x :: l, a, slash, hx, ha => by
    have hxo := hx x (by simp)
    have hd := digB_ok hxo.2.1
    have hkd : ∀ d ∈ [107, digB x.i] ++ valB x.form, 32 ≤ d.toNat ∧ d.toNat < 127 := by
      intro d hd'
      simp only [List.cons_append, List.nil_append, List.mem_cons] at hd'
      rcases hd' with rfl | rfl | h
      · decide
      · omega
      · exact valB_pr _ d h
    by_cases hs : x.sep = 1
    · obtain ⟨ls, e1, e2, e3, e4⟩ := tag_lines l ([107, digB x.i] ++ valB x.form) slash (fun y hy => hx y (by simp [hy])) ⟨⟨107, _, rfl, by decide⟩, hkd⟩
      obtain ⟨b, r, rfl⟩ : ∃ b r, ls = b :: r := by cases ls with | nil => exact absurd rfl e2 | cons b r => exact ⟨b, r, rfl⟩
      refine ⟨a :: b :: r, ?_, by simp, by simp only [List.length_cons] at e3 ⊢; omega, fun c hc => ?_⟩
      · rw [jn_cons, e1]
        simp [attsB, Att.bytes, hs, sepB]
      · rcases List.mem_cons.1 hc with rfl | hc
        · exact ha
        · exact e4 c hc
    · have hsp : ∀ d ∈ sepB x.sep, 32 ≤ d.toNat ∧ d.toNat < 127 := by
        have := hxo.1
        have h3 : x.sep = 0 ∨ x.sep = 2 := by omega
        rcases h3 with h | h <;> (rw [h]; decide)
      obtain ⟨ls, e1, e2, e3, e4⟩ := tag_lines l (a ++ x.bytes) slash (fun y hy => hx y (by simp [hy])) (by
        obtain ⟨c, r, e, hc⟩ := ha.hd
        refine ⟨⟨c, r ++ x.bytes, by rw [e]; rfl, hc⟩, fun d hd => ?_⟩
        rcases List.mem_append.1 hd with h | h
        · exact ha.pr d h
        · unfold Att.bytes at h
          rcases List.mem_append.1 h with h | h
          · exact hsp d h
          · exact hkd d h)
      exact ⟨ls, by rw [e1]; simp [attsB], e2, by simp only [List.length_cons]; omega, e4⟩

/-- HTML of lines that are a paragraph of literal bytes and inlines. -/
theorem htmlN_tr (toks : List LTk) (ls : List (List UInt8)) (htx : jn ls = bytesL toks) (hls : ls ≠ []) (hll : ls.length ≤ 1000) (htl : (bytesL toks).length ≤ 1000000) (hL : ∀ l ∈ ls, PL l) (h1 : at0 (bytesL toks) 0 ≠ 32) (h2 : at0 (bytesL toks) 0 ≠ 9) (h3 : at0 (bytesL toks) 0 ≠ 10) (h4 : at0 (bytesL toks) 0 ≠ 91)
    (hok : LTkOK toks) (outs : List (List UInt8)) (hO : OutsL (itemsL toks) outs) (hil : (itemsL toks).length ≤ 100000) :
    TrD Tryz.prog 10 [optO false false, str (bytesL toks)] [] (str (paraO outs.flatten)) [] := by
  have hD : ∀ pr, Tr Tryz.prog 24 [lp pr, str (bytesL toks)] [(poO false false).blk pr] fun u K => ∃ dd e qq t ia im ic KB g m c G, u = lp dd ∧ Blks (.slice ia im ic) [.iface 146 (lp qq)] KB ∧ Shown g m G outs ∧ m ≤ 100000 ∧
      K = [docb dd 0 e (.slice ia im ic) (.map none), pgb qq 1 (1 + ls.length - 1) t, txb t 1 (1 + ls.length - 1) (.slice (some ⟨g, 0, none⟩) m c) (bytesL toks), KB, G] := by
    intro pr
    have hpt := parse_tr pr (poO false false) ls (bytesL toks) htx hls hll htl hL (fun ia im ic G => ∃ g', ia = some ⟨g', 0, none⟩ ∧ im ≤ 100000 ∧ Shown g' im G outs) rfl rfl h1 h2 h3 h4
      (fun p s hs hcn => (inlineL_tr p pr (poO false false) s toks hok false hcn rfl rfl rfl rfl rfl rfl hs).mono (by
        rintro u K ⟨s', ia, im, ic, G, rfl, ⟨vals, LB, IB, h1, h2, rfl⟩, h3, h4, rfl⟩
        exact ⟨s', ia, im, ic, _, rfl, shownL h1 h2 hok.ne hO hil, h3, h4, rfl⟩))
    refine Tr.start (n := 14) (rs := [.tmp 4]) rfl rfl rfl rfl fun B => ?_
    (repeat' (first | refine k_seq ?_ | refine k_region ?_ | refine k_nil ?_ | refine k_then ?_ | refine s_move ?_ | refine s_assign ?_))
    refine s_call hpt (fun u K hR => ?_)
    obtain ⟨dd, qq, t, cv, e, ia, im, ic, KB, ja, jm, jc, G, rfl, hB, ⟨g, rfl, hjm, hS⟩, rfl⟩ := hR
    (repeat' (first | refine k_seq ?_ | refine k_region ?_ | refine k_nil ?_ | refine k_then ?_ | refine k_ret ?_ | refine s_move ?_ | refine s_assign ?_ | refine s_ext ?_))
    exact e_ret [docb dd 0 e (.slice ia im ic) (.map none), pgb qq 1 (1 + ls.length - 1) t, txb t 1 (1 + ls.length - 1) (.slice (some ⟨g, 0, none⟩) jm jc) (bytesL toks), KB, G] ⟨dd, e, qq, t, ia, im, ic, KB, g, jm, jc, G, rfl, hB, hS, hjm, rfl⟩ (by repeat (first | exact SubH.nilR _ | refine SubH.pick (by repeat (first | exact HTake.here | apply HTake.there)) ?_))
  refine Tr.start (n := 11) (rs := [.tmp 4]) rfl rfl rfl rfl fun B => ?_
  (repeat' (first | refine k_seq ?_ | refine k_region ?_ | refine k_nil ?_ | refine k_then ?_ | refine s_assign ?_ | refine s_loada ?_ | refine s_box (fun _ => ?_)))
  rename_i r
  refine s_call (parserO_tr false false) (fun u K hR => ?_)
  obtain ⟨pr, rfl, rfl⟩ := hR
  (repeat' (first | refine s_move ?_))
  refine s_call (hD pr) (fun u K hR => ?_)
  obtain ⟨dd, e, qq, t, ia, im, ic, KB, g, m, c, G, rfl, hB, hS, hjm, rfl⟩ := hR
  (repeat' (first | refine s_mki ?_))
  refine s_call (toP_tr dd 0 e qq t 1 (1 + ls.length - 1) (.map none) ia im ic KB g m c (bytesL toks) outs G hB hS hjm) (fun u K hR => ?_)
  obtain ⟨rfl, rfl⟩ := hR
  (repeat' (first | refine k_nil ?_ | refine k_then ?_ | refine k_ret ?_ | refine s_assign ?_))
  exact e_ret [] ⟨rfl, rfl⟩ (by repeat (first | exact SubH.nilR _ | refine SubH.pick (by repeat (first | exact HTake.here | apply HTake.there)) ?_))

abbrev tagX (t : List UInt8) : LIt := ⟨279, 280, [str t]⟩
theorem htmlTag_tr {name : List UInt8} {l : List Att} {slash : Bool} (hT : TagOK name l) (hl5 : l.length ≤ 5) : TrD Tryz.prog 10 [optO false false, str ([120, 32] ++ tagB name l slash ++ [32, 120])] [] (str (paraO ([120, 32] ++ tagB name l slash ++ [32, 120]))) [] := by
  have hal : ∀ l : List Att, (attsB l).length ≤ 12 * l.length := by
    intro l
    induction l with
    | nil => simp [attsB]
    | cons x l ih =>
      have : x.bytes.length ≤ 12 := by unfold Att.bytes sepB valB; split <;> split <;> simp
      simp only [attsB, List.flatMap_cons, List.length_append, List.length_cons] at ih ⊢
      omega
  have h1 := hal l
  have h2 := hT.len
  have h3 := endB_len slash
  have hlen : (tagB name l slash).length ≤ 1000 := by simp only [List.length_cons, List.length_append]; omega
  have hpos : 0 < (tagB name l slash).length := by simp
  generalize ht : tagB name l slash = tag at hlen hpos ⊢
  have hb : bytesL [.lit 120, .lit 32, .leaf tag (tagX tag), .lit 32, .lit 120] = [120, 32] ++ tag ++ [32, 120] := by simp [bytesL, LTk.bytes]
  have hits : itemsL [.lit 120, .lit 32, .leaf tag (tagX tag), .lit 32, .lit 120] = [plainL [120, 32], tagX tag, plainL [32, 120]] := by
    simp [itemsL, stL, LTk.step, outL]
  have hok : LTkOK [.lit 120, .lit 32, .leaf tag (tagX tag), .lit 32, .lit 120] := by
    refine ⟨fun c hc => ?_, fun d r bs x he => ?_, by rw [hb]; simp only [List.length_append, List.length_cons, List.length_nil]; omega, by rw [hb]; exact btrim_ink (c := 120) (s := 32 :: (tag ++ [32, 120])) (p := [120, 32] ++ tag ++ [32]) (z := 120) (by simp) (by decide) (by simp) (by decide), by rw [hits]; simp, fun x hx => ?_, fun j x y hx hy hxp => ?_⟩
    · simp only [List.mem_cons, LTk.lit.injEq, List.not_mem_nil, or_false, reduceCtorEq, false_or] at hc
      rcases hc with h | h | h | h <;> (subst h; decide)
    · have hd : d = [.lit 120, .lit 32] ∧ bs = tag ∧ x = tagX tag := by
        cases d with
        | nil => simp at he
        | cons a d =>
          cases d with
          | nil => simp at he
          | cons b d =>
            cases d with
            | nil => simp at he; exact ⟨by rw [← he.1, ← he.2.1], he.2.2.1.1.symm, he.2.2.1.2.symm⟩
            | cons c d =>
              cases d with
              | nil => simp at he
              | cons e d =>
                cases d with
                | nil => simp at he
                | cons f d => simp at he
      obtain ⟨rfl, rfl, rfl⟩ := hd
      have hdrop : (bytesL [.lit 120, .lit 32, .leaf bs (tagX bs), .lit 32, .lit 120]).drop 2 = tagB name l slash ++ [32, 120] := by rw [hb, ht]; rfl
      have e2 : (bytesL ([.lit 120, .lit 32] : List LTk)).length = 2 := rfl
      have hlt : (bytesL [.lit 120, .lit 32, .leaf bs (tagX bs), .lit 32, .lit 120]).length = bs.length + 4 := by rw [hb]; simp
      refine ⟨by intro h; rw [h] at hpos; simp at hpos, ⟨60, by rw [e2]; exact get_drop (r := name ++ (attsB l ++ endB slash) ++ [32, 120]) (by rw [hdrop]; rfl), rfl⟩, rfl, fun p s cn hcn => ?_⟩
      rw [e2]
      refine (angG_tr p s _ 2 (by rw [hlt]; omega) (by rw [hlt]; omega) cn hcn).mono ?_
      rintro u K ⟨q, cn', rfl, rfl⟩
      rw [ang_at hT hdrop, ht]
      exact ⟨q, cn', rfl, rfl⟩
    · rw [hits] at hx
      simp only [List.mem_cons, List.not_mem_nil, or_false] at hx
      rcases hx with rfl | rfl | rfl
      · exact .inl rfl
      · exact .inr ⟨rfl, rfl, rfl⟩
      · exact .inl rfl
    · rw [hits] at hx hy
      match j, hx, hy with
      | 0, hx, hy => simp at hx hy; subst hy; exact (show ¬ (279 : Nat) = 149 by decide)
      | 1, hx, hy => simp at hx hy; subst hx; exact absurd hxp (show ¬ (279 : Nat) = 149 by decide)
      | 2, hx, hy => simp at hy
      | j + 3, hx, hy => simp at hx
  obtain ⟨ls, e1, e2, e3, e4⟩ := tag_lines l ([120, 32] ++ 60 :: name) slash hT.ok ⟨⟨120, 32 :: 60 :: name, rfl, by decide⟩, fun d hd => by
    simp only [List.cons_append, List.nil_append, List.mem_cons] at hd
    rcases hd with rfl | rfl | rfl | h
    · decide
    · decide
    · decide
    · have := hT.abc d h; omega⟩
  have hjn : jn ls = bytesL [.lit 120, .lit 32, .leaf tag (tagX tag), .lit 32, .lit 120] := by rw [e1, hb, ← ht]; simp
  have hbl : (bytesL [.lit 120, .lit 32, .leaf tag (tagX tag), .lit 32, .lit 120]).length ≤ 2000 := by rw [hb]; simp only [List.length_append, List.length_cons, List.length_nil]; omega
  have hO : OutsL (itemsL [.lit 120, .lit 32, .leaf tag (tagX tag), .lit 32, .lit 120]) [[120, 32], tag, [32, 120]] := by
    refine ⟨by rw [hits]; rfl, fun j x out hx ho q G hG => ?_, by simp only [List.flatten_cons, List.flatten_nil, List.length_append, List.length_cons, List.length_nil]; omega⟩
    rw [hits] at hx
    match j, hx, ho with
    | 0, hx, ho => simp at hx ho; subst hx; subst ho; exact prnPlain q [120, 32] G hG (by decide)
    | 1, hx, ho => simp at hx ho; subst hx; subst ho; exact prnTag q _ G hG (by omega)
    | 2, hx, ho => simp at hx ho; subst hx; subst ho; exact prnPlain q [32, 120] G hG (by decide)
    | j + 3, hx, ho => simp at hx
  have hall : ∀ b ∈ ls, b.length ≤ (jn ls).length := by
    have : ∀ (ls : List (List UInt8)), ∀ b ∈ ls, b.length ≤ (jn ls).length := by
      intro ls
      induction ls with
      | nil => intro b hb; simp at hb
      | cons a r ih =>
        intro b hb
        cases r with
        | nil => rw [List.mem_singleton] at hb; subst hb; rw [jn_one]; exact Nat.le_refl _
        | cons c r =>
          rw [jn_cons]
          simp only [List.length_append, List.length_cons]
          rcases List.mem_cons.1 hb with rfl | hb
          · omega
          · have := ih b hb; omega
    exact this ls
  have h0 : at0 (bytesL [.lit 120, .lit 32, .leaf tag (tagX tag), .lit 32, .lit 120]) 0 = 120 := by rw [hb]; rfl
  have := htmlN_tr [.lit 120, .lit 32, .leaf tag (tagX tag), .lit 32, .lit 120] ls hjn e2 (by omega) (by omega) (fun b hb => plL (e4 b hb) (by have := hall b hb; rw [hjn] at this; omega)) (by rw [h0]; decide) (by rw [h0]; decide) (by rw [h0]; decide) (by rw [h0]; decide) hok _ hO (by rw [hits]; simp)
  rw [hb] at this
  simpa using this
end Go.Proofs

namespace Go.Proofs
open Go Go.Eng
set_option maxRecDepth 20000
set_option maxHeartbeats 4000000

/-- Printable characters of ASCII. -/
def Prin (l : List UInt8) : Prop := ∀ c ∈ l, 32 ≤ c.toNat ∧ c.toNat ≤ 126
theorem printableN_tr (l : List UInt8) (most : Nat) (hl : l.length ≤ 2147483647) : Tr Tryz.prog 9 [str l, inat most] [] fun u K => K = [] ∧ ∃ r, u = .bool r ∧ (r = true → Prin l ∧ l.length ≤ most) := by
  by_cases hl2 : most < l.length
  · refine Tr.start (n := 26) (rs := [.tmp 4]) rfl rfl rfl rfl fun B => ?_
    (repeat' (first | refine k_seq ?_ | refine k_region ?_ | refine k_nil ?_ | refine k_then ?_ | refine k_true ?_ | refine k_ret ?_ | refine k_ret_then ?_ | refine s_move ?_ | refine s_assign ?_ | refine s_gtr_t ?_ | refine s_lens ?_))
    exact e_ret [] ⟨rfl, false, rfl, fun h => Bool.noConfusion h⟩ (by repeat (first | exact SubH.nilR _ | refine SubH.pick (by repeat (first | exact HTake.here | apply HTake.there)) ?_))
  refine Tr.start (n := 26) (rs := [.tmp 4]) rfl rfl rfl rfl fun B => ?_
  (repeat' (first | refine k_seq ?_ | refine k_region ?_ | refine k_nil ?_ | refine k_then ?_ | refine k_false ?_ | refine k_skip ?_ | refine s_move ?_ | refine s_assign ?_ | refine s_gtr_f ?_ | refine s_lens ?_))
  refine k_midx (fun _ : Unit => []) (fun _ => []) (fun _ => Prin l) ?_ ?_
  · (repeat' (first | refine k_blk ?_))
    refine k_loop (fun j : Nat => [(0, str l), (11, inat l.length), (12, inat j)]) (fun _ => []) (fun j => j ≤ l.length ∧ Prin (l.take j)) (fun j => l.length - j) 0 ⟨Nat.zero_le _, fun c h => by simp at h⟩ (Knows.spec (by repeat (first | exact trivial | refine ⟨rfl, ?_⟩))) (by repeat (first | exact SubH.nilR _ | refine SubH.pick (by repeat (first | exact HTake.here | apply HTake.there)) ?_)) fun j hj => ?_
    obtain ⟨hj, hA⟩ := hj
    by_cases h : j < l.length
    · obtain ⟨c, hc⟩ : ∃ c, l[j]? = some c := ⟨_, List.getElem?_eq_getElem h⟩
      by_cases n1 : c.toNat < 32
      · (repeat' (first | refine k_seq ?_ | refine k_region ?_ | refine k_nil ?_ | refine k_then ?_ | refine k_true ?_ | refine k_blk ?_ | refine k_skip ?_ | refine k_ret ?_ | refine k_ret_then ?_ | refine k_ret_block ?_ | refine s_gskipf ?_ | refine s_move ?_ | refine s_assign ?_ | refine s_lss_t ?_ | refine s_pickt ?_ | refine s_index ?_))
        exact e_ret [] ⟨rfl, false, rfl, fun h => Bool.noConfusion h⟩ (by repeat (first | exact SubH.nilR _ | refine SubH.pick (by repeat (first | exact HTake.here | apply HTake.there)) ?_))
      by_cases n2 : 126 < c.toNat
      · (repeat' (first | refine k_seq ?_ | refine k_region ?_ | refine k_nil ?_ | refine k_then ?_ | refine k_true ?_ | refine k_blk ?_ | refine k_skip ?_ | refine k_ret ?_ | refine k_ret_then ?_ | refine k_ret_block ?_ | refine s_grun ?_ | refine s_move ?_ | refine s_assign ?_ | refine s_lss_t ?_ | refine s_lss_f ?_ | refine s_gtr_t ?_ | refine s_pickf ?_ | refine s_index ?_))
        exact e_ret [] ⟨rfl, false, rfl, fun h => Bool.noConfusion h⟩ (by repeat (first | exact SubH.nilR _ | refine SubH.pick (by repeat (first | exact HTake.here | apply HTake.there)) ?_))
      · (repeat' (first | refine k_seq ?_ | refine k_region ?_ | refine k_nil ?_ | refine k_then ?_ | refine k_true ?_ | refine k_false ?_ | refine k_blk ?_ | refine k_skip ?_ | refine k_block ?_ | refine s_grun ?_ | refine s_move ?_ | refine s_assign ?_ | refine s_add1 ?_ | refine s_lss_t ?_ | refine s_lss_f ?_ | refine s_gtr_f ?_ | refine s_pickf ?_ | refine s_index ?_))
        exact ⟨j + 1, (Knows.spec (by repeat (first | exact trivial | refine ⟨rfl, ?_⟩))), (by repeat (first | exact SubH.nilR _ | refine SubH.pick (by repeat (first | exact HTake.here | apply HTake.there)) ?_)), ⟨by omega, all_snoc hc hA (by omega)⟩, by omega⟩
    · have : j = l.length := by omega
      subst this
      (repeat' (first | refine k_seq ?_ | refine k_region ?_ | refine k_nil ?_ | refine k_then ?_ | refine k_false ?_ | refine k_exit ?_ | refine k_exit_then ?_ | refine k_hit ?_ | refine s_lss_f ?_))
      rw [List.take_length] at hA
      exact ⟨(), (by repeat (first | exact trivial | refine ⟨rfl, ?_⟩)), (by repeat (first | exact SubH.nilR _ | refine SubH.pick (by repeat (first | exact HTake.here | apply HTake.there)) ?_)), hA⟩
  · rintro _ hA
    (repeat' (first | refine k_seq ?_ | refine k_region ?_ | refine k_nil ?_ | refine k_then ?_ | refine k_ret ?_ | refine s_assign ?_))
    exact e_ret [] ⟨rfl, true, rfl, fun _ => ⟨hA, by omega⟩⟩ (by repeat (first | exact SubH.nilR _ | refine SubH.pick (by repeat (first | exact HTake.here | apply HTake.there)) ?_))

theorem specEsc_tr (l : List UInt8) (hl : l.length ≤ 2147483647) : TrP Tryz.prog 12 [str l] (str (escH l)) := by
  refine Tr.start (n := 38) (rs := [.tmp 2]) rfl rfl rfl rfl fun B => ?_
  (repeat' (first | refine k_seq ?_ | refine k_region ?_ | refine k_nil ?_ | refine k_then ?_ | refine s_assign ?_))
  refine k_mid [(3, str (escH l))] [] ?_ ?_
  · (repeat' (first | refine k_blk ?_))
    refine k_loop (fun j : Nat => [(0, str l), (3, str (escH (l.take j))), (4, inat j)]) (fun _ => []) (fun j => j ≤ l.length) (fun j => l.length - j) 0 (Nat.zero_le _) (Knows.spec (by repeat (first | exact trivial | refine ⟨rfl, ?_⟩))) (by repeat (first | exact SubH.nilR _ | refine SubH.pick (by repeat (first | exact HTake.here | apply HTake.there)) ?_)) fun j hj => ?_
    by_cases h : j < l.length
    · obtain ⟨c, hc⟩ : ∃ c, l[j]? = some c := ⟨_, List.getElem?_eq_getElem h⟩
      have hsn := escH_snoc hc
      have hs1 : (l.take (j + 1)).drop j = [c] := slice1 hc
      have hel : (escH (l.take j)).length ≤ 6 * j := by
        have h1 := escH_len (l.take j)
        rw [List.length_take] at h1; omega
      by_cases n1 : c.toNat = 34
      · have e1 : escB c = [38, 113, 117, 111, 116, 59] := by simp [escB, n1]
        rw [e1] at hsn
        (repeat' (first | refine s_addsx ?_ | refine k_seq ?_ | refine k_region ?_ | refine k_nil ?_ | refine k_then ?_ | refine k_true ?_ | refine k_false ?_ | refine k_blk ?_ | refine k_skip ?_ | refine k_block ?_ | refine s_move ?_ | refine s_assign ?_ | refine s_add1 ?_ | refine s_lss_t ?_ | refine s_eql_t ?_ | refine s_eql_f ?_ | refine s_lens ?_ | refine s_index ?_))
        exact ⟨j + 1, by rw [hsn]; exact (Knows.spec (by repeat (first | exact trivial | refine ⟨rfl, ?_⟩))), (by repeat (first | exact SubH.nilR _ | refine SubH.pick (by repeat (first | exact HTake.here | apply HTake.there)) ?_)), by omega, by omega⟩
      by_cases n2 : c.toNat = 38
      · have e1 : escB c = [38, 97, 109, 112, 59] := by simp [escB, n2]
        rw [e1] at hsn
        (repeat' (first | refine s_addsx ?_ | refine k_seq ?_ | refine k_region ?_ | refine k_nil ?_ | refine k_then ?_ | refine k_true ?_ | refine k_blk ?_ | refine k_skip ?_ | refine k_block ?_ | refine s_move ?_ | refine s_assign ?_ | refine s_add1 ?_ | refine s_lss_t ?_ | refine s_eql_t ?_ | refine s_lens ?_ | refine s_index ?_))
        exact ⟨j + 1, by rw [hsn]; exact (Knows.spec (by repeat (first | exact trivial | refine ⟨rfl, ?_⟩))), (by repeat (first | exact SubH.nilR _ | refine SubH.pick (by repeat (first | exact HTake.here | apply HTake.there)) ?_)), by omega, by omega⟩
      by_cases n3 : c.toNat = 60
      · have e1 : escB c = [38, 108, 116, 59] := by simp [escB, n3]
        rw [e1] at hsn
        (repeat' (first | refine s_addsx ?_ | refine k_seq ?_ | refine k_region ?_ | refine k_nil ?_ | refine k_then ?_ | refine k_true ?_ | refine k_false ?_ | refine k_blk ?_ | refine k_skip ?_ | refine k_block ?_ | refine s_move ?_ | refine s_assign ?_ | refine s_add1 ?_ | refine s_lss_t ?_ | refine s_eql_t ?_ | refine s_eql_f ?_ | refine s_lens ?_ | refine s_index ?_))
        exact ⟨j + 1, by rw [hsn]; exact (Knows.spec (by repeat (first | exact trivial | refine ⟨rfl, ?_⟩))), (by repeat (first | exact SubH.nilR _ | refine SubH.pick (by repeat (first | exact HTake.here | apply HTake.there)) ?_)), by omega, by omega⟩
      by_cases n4 : c.toNat = 62
      · have e1 : escB c = [38, 103, 116, 59] := by simp [escB, n4]
        rw [e1] at hsn
        (repeat' (first | refine s_addsx ?_ | refine k_seq ?_ | refine k_region ?_ | refine k_nil ?_ | refine k_then ?_ | refine k_true ?_ | refine k_false ?_ | refine k_blk ?_ | refine k_skip ?_ | refine k_block ?_ | refine s_move ?_ | refine s_assign ?_ | refine s_add1 ?_ | refine s_lss_t ?_ | refine s_eql_t ?_ | refine s_eql_f ?_ | refine s_lens ?_ | refine s_index ?_))
        exact ⟨j + 1, by rw [hsn]; exact (Knows.spec (by repeat (first | exact trivial | refine ⟨rfl, ?_⟩))), (by repeat (first | exact SubH.nilR _ | refine SubH.pick (by repeat (first | exact HTake.here | apply HTake.there)) ?_)), by omega, by omega⟩
      · have e1 : escB c = [c] := by simp [escB, n1, n2, n3, n4]
        have hl1 : ((l.take (j + 1)).drop j).length = 1 := by rw [hs1]; rfl
        rw [e1, ← hs1] at hsn
        (repeat' (first | refine k_seq ?_ | refine k_region ?_ | refine k_nil ?_ | refine k_then ?_ | refine k_true ?_ | refine k_false ?_ | refine k_blk ?_ | refine k_skip ?_ | refine k_block ?_ | refine s_move ?_ | refine s_assign ?_ | refine s_add1 ?_ | refine s_lss_t ?_ | refine s_eql_f ?_ | refine s_lens ?_ | refine s_index ?_ | refine s_slices ?_ | refine s_adds ?_))
        exact ⟨j + 1, by rw [hsn]; exact (Knows.spec (by repeat (first | exact trivial | refine ⟨rfl, ?_⟩))), (by repeat (first | exact SubH.nilR _ | refine SubH.pick (by repeat (first | exact HTake.here | apply HTake.there)) ?_)), by omega, by omega⟩
    · have : j = l.length := by omega
      subst this
      rw [List.take_length]
      (repeat' (first | refine k_seq ?_ | refine k_region ?_ | refine k_nil ?_ | refine k_then ?_ | refine k_false ?_ | refine k_exit ?_ | refine k_exit_then ?_ | refine k_hit ?_ | refine s_move ?_ | refine s_lss_f ?_ | refine s_lens ?_))
      exact ⟨(by repeat (first | exact trivial | refine ⟨rfl, ?_⟩)), (by repeat (first | exact SubH.nilR _ | refine SubH.pick (by repeat (first | exact HTake.here | apply HTake.there)) ?_))⟩
  · (repeat' (first | refine k_seq ?_ | refine k_region ?_ | refine k_nil ?_ | refine k_then ?_ | refine k_ret ?_ | refine s_move ?_ | refine s_assign ?_))
    exact e_pure ⟨rfl, rfl⟩
end Go.Proofs

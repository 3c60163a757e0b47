/- laws.FnSeven returns true whatever the arguments. Condition: the text's length is that of a Go string. -/
import Derived.Test.YtblaoglgknjepaaGreatDoorS3
import Derived.Test.YtblaoglgknjepaaGreatDoorS6
import Derived.Test.YtblaoglgknjepaaGreatDoorS0
namespace Go.Proofs
open Go Go.Eng
set_option maxRecDepth 20000
set_option maxHeartbeats 4000000

abbrev optO (d q : Bool) : Value := .agg #[.bool d, .bool false, .bool false, .bool false, .bool false, .bool false, .bool false, .bool q, .bool false, .bool false]
abbrev poO (d q : Bool) : PO := ⟨false, d, false, false, false, false, false, false, false, q⟩
theorem parserO_tr (d q : Bool) : Tr Tryz.prog 18 [optO d q] [] fun u K => ∃ pr, u = lp pr ∧ K = [(poO d q).blk pr] := by
  refine Tr.start (n := 25) (rs := [.tmp 2]) rfl rfl rfl rfl fun B => ?_
  (repeat' (first | refine k_seq ?_ | refine k_region ?_ | refine k_nil ?_ | refine k_then ?_ | refine k_ret ?_ | refine s_assign ?_ | refine s_load ?_ | refine s_field ?_ | refine s_buildx ?_ | refine s_box (fun _ => ?_)))
  rename_i r1 r2
  exact e_ret [(poO d q).blk r2] ⟨r2, rfl, rfl⟩ (by repeat (first | exact SubH.nilR _ | refine SubH.pick (by repeat (first | exact HTake.here | apply HTake.there)) ?_))

/-- Bytes of words, spaces, tildes and quotation marks. -/
abbrev sch (c : Nat) : Prop := wch c ∨ c = 32 ∨ c = 126 ∨ c = 34 ∨ c = 39
theorem plW {tx : List UInt8} {c : UInt8} {r : List UInt8} (e : tx = c :: r) (hc : wch c.toNat) (hall : ∀ d ∈ tx, sch d.toNat) (hl : tx.length ≤ 10000) : PL tx := by
  have h0 : at0 tx 0 = c.toNat := by rw [e]; rfl
  have hns : nsp tx = 0 := by rw [e]; simp [nsp]; omega
  have hsp : sp3 0 tx = 0 := by unfold sp3; rw [List.drop_zero, hns, Nat.zero_min]
  have hlt : ltrim tx = tx := by
    rw [e]; unfold ltrim
    rw [List.dropWhile_cons_of_neg]
    simp [isBl]; omega
  have hat : ∀ j, at0 tx j = 0 ∨ sch (at0 tx j) := fun j => by
    unfold at0
    split
    · rename_i d hd; exact .inr (hall d (List.mem_of_getElem? hd))
    · exact .inl rfl
  have hnt : NoTab tx := fun d hd => by have := hall d hd; omega
  have hq : ∀ k, k ≠ c.toNat → at0 tx (sp3 0 tx) ≠ k := fun k hk => by rw [hsp, h0]; exact fun h => hk h.symm
  refine ⟨⟨hnt, by omega, Nat.zero_le _, by rw [List.drop_zero, hlt, e]; simp, by rw [List.drop_zero, hns]; omega, hq _ (by omega), fun nl q nq nv => trimHeading_no q nq 0 nv tx nl hnt (by omega) (Nat.zero_le _) (hq 35 (by omega)), hq _ (by omega), hq _ (by omega), hq _ (by omega), hq _ (by omega), hq _ (by omega), hq _ (by omega), hq _ (by omega), ?_⟩, hlt, fun d hd => ?_⟩
  · rw [hsp, List.drop_zero]
    refine ⟨by omega, by omega, by omega, fun j hj hj0 => ?_⟩
    have := hat j
    omega
  · have := hall d hd
    refine ⟨fun h => ?_, fun h => ?_, fun h => ?_⟩ <;> (subst h; exact absurd this (by decide))

theorem docO_tr (pr : Nat) (d q : Bool) (toks : List Tk) (out : List UInt8) (hok : TkOK (poO d q) toks) (hp : PL (bytesT toks)) (m32 : at0 (bytesT toks) 0 ≠ 32) (m9 : at0 (bytesT toks) 0 ≠ 9) (m10 : at0 (bytesT toks) 0 ≠ 10) (m91 : at0 (bytesT toks) 0 ≠ 91)
    (M : Nat → List Value → Blk → Prop)
    (hE : ∀ (p g cap : Nat) (cur vals : List Value) (IB : Blk), ItsT (itemsT toks) vals IB → (itemsT toks).length ≤ cap → cur.length = cap → cur.take (itemsT toks).length = vals →
      Tr Tryz.prog 54 [lp p, .slice (some ⟨g, 0, none⟩) 0 cap, .slice (some ⟨g, 0, none⟩) (itemsT toks).length cap] [[(g, cellsOf cur 99)], IB] fun u K => ∃ im cur' G, u = .slice (some ⟨g, 0, none⟩) im cap ∧ cur'.length = cap ∧ im ≤ cap ∧ M im cur' G ∧ K = [[(g, cellsOf cur' 99)], G])
    (hM : ∀ (p g cap im : Nat) (cur : List Value) (G : Blk), cur.length = cap → im ≤ cap → M im cur G → Tr Tryz.prog 55 [lp p, .slice (some ⟨g, 0, none⟩) im cap] [[(g, cellsOf cur 99)], G] fun u K => ∃ ja jm jc G', u = .slice ja jm jc ∧ (∃ g' outs, ja = some ⟨g', 0, none⟩ ∧ jm ≤ 100000 ∧ Shown g' jm G' outs ∧ outs.flatten = out) ∧ K = [G']) :
    Tr Tryz.prog 19 [lp pr, str (bytesT toks)] [(poO d q).blk pr] fun u K => ∃ dd e qq t ia im ic KB g m c outs G, u = lp dd ∧ Blks (.slice ia im ic) [.iface 120 (lp qq)] KB ∧ Shown g m G outs ∧ outs.flatten = out ∧ m ≤ 100000 ∧
      K = [docb dd 0 e (.slice ia im ic) (.map none), pgb qq 1 (1 + 1 - 1) t, txb t 1 (1 + 1 - 1) (.slice (some ⟨g, 0, none⟩) m c) (bytesT toks), KB, G] := by
  have hlen := hok.len
  have hpt := parse_tr pr (poO d q) [bytesT toks] (bytesT toks) (jn_one _) (by simp) (by simp) (by omega) (fun l hl => by simp at hl; subst hl; exact hp) (fun ia im ic G => ∃ g' outs, ia = some ⟨g', 0, none⟩ ∧ im ≤ 100000 ∧ Shown g' im G outs ∧ outs.flatten = out) rfl rfl m32 m9 m10 m91
    (fun p s hs hcn => inlineT_tr p pr (poO d q) s toks hok false hcn rfl rfl rfl rfl hs M _ (fun g cap => hE p g cap) (fun g cap => hM p g cap))
  refine Tr.start (n := 14) (rs := [.tmp 4]) rfl rfl rfl rfl fun B => ?_
  (repeat' (first | refine k_seq ?_ | refine k_region ?_ | refine k_nil ?_ | refine k_then ?_ | refine s_move ?_ | refine s_assign ?_))
  refine s_call hpt (fun u K hR => ?_)
  obtain ⟨dd, qq, t, cv, e, ia, im, ic, KB, ja, jm, jc, G, rfl, hB, ⟨g, outs, rfl, hjm, hS, ho⟩, rfl⟩ := hR
  (repeat' (first | refine k_seq ?_ | refine k_region ?_ | refine k_nil ?_ | refine k_then ?_ | refine k_ret ?_ | refine s_move ?_ | refine s_assign ?_ | refine s_ext ?_))
  exact e_ret [docb dd 0 e (.slice ia im ic) (.map none), pgb qq 1 (1 + 1 - 1) t, txb t 1 (1 + 1 - 1) (.slice (some ⟨g, 0, none⟩) jm jc) (bytesT toks), KB, G] ⟨dd, e, qq, t, ia, im, ic, KB, g, jm, jc, outs, G, rfl, hB, hS, ho, hjm, rfl⟩ (by repeat (first | exact SubH.nilR _ | refine SubH.pick (by repeat (first | exact HTake.here | apply HTake.there)) ?_))

theorem htmlO_tr (d q : Bool) (toks : List Tk) (out : List UInt8) (hok : TkOK (poO d q) toks) (hp : PL (bytesT toks)) (m32 : at0 (bytesT toks) 0 ≠ 32) (m9 : at0 (bytesT toks) 0 ≠ 9) (m10 : at0 (bytesT toks) 0 ≠ 10) (m91 : at0 (bytesT toks) 0 ≠ 91)
    (M : Nat → List Value → Blk → Prop)
    (hE : ∀ (p g cap : Nat) (cur vals : List Value) (IB : Blk), ItsT (itemsT toks) vals IB → (itemsT toks).length ≤ cap → cur.length = cap → cur.take (itemsT toks).length = vals →
      Tr Tryz.prog 54 [lp p, .slice (some ⟨g, 0, none⟩) 0 cap, .slice (some ⟨g, 0, none⟩) (itemsT toks).length cap] [[(g, cellsOf cur 99)], IB] fun u K => ∃ im cur' G, u = .slice (some ⟨g, 0, none⟩) im cap ∧ cur'.length = cap ∧ im ≤ cap ∧ M im cur' G ∧ K = [[(g, cellsOf cur' 99)], G])
    (hM : ∀ (p g cap im : Nat) (cur : List Value) (G : Blk), cur.length = cap → im ≤ cap → M im cur G → Tr Tryz.prog 55 [lp p, .slice (some ⟨g, 0, none⟩) im cap] [[(g, cellsOf cur 99)], G] fun u K => ∃ ja jm jc G', u = .slice ja jm jc ∧ (∃ g' outs, ja = some ⟨g', 0, none⟩ ∧ jm ≤ 100000 ∧ Shown g' jm G' outs ∧ outs.flatten = out) ∧ K = [G']) :
    TrD Tryz.prog 11 [optO d q, str (bytesT toks)] [] (str (paraO out)) [] := by
  refine Tr.start (n := 11) (rs := [.tmp 4]) rfl rfl rfl rfl fun B => ?_
  (repeat' (first | refine k_seq ?_ | refine k_region ?_ | refine k_nil ?_ | refine k_then ?_ | refine s_assign ?_ | refine s_loada ?_ | refine s_box (fun _ => ?_)))
  rename_i r
  refine s_call (parserO_tr d q) (fun u K hR => ?_)
  obtain ⟨pr, rfl, rfl⟩ := hR
  (repeat' (first | refine s_move ?_))
  refine s_call (docO_tr pr d q toks out hok hp m32 m9 m10 m91 M hE hM) (fun u K hR => ?_)
  obtain ⟨dd, e, qq, t, ia, im, ic, KB, g, m, c, outs, G, rfl, hB, hS, ho, hjm, rfl⟩ := hR
  (repeat' (first | refine s_mki ?_))
  refine s_call (toP_tr dd 0 e qq t 1 (1 + 1 - 1) (.map none) ia im ic KB g m c (bytesT toks) outs G hB hS hjm) (fun u K hR => ?_)
  obtain ⟨rfl, rfl⟩ := hR
  rw [ho]
  (repeat' (first | refine k_nil ?_ | refine k_then ?_ | refine k_ret ?_ | refine s_assign ?_))
  exact e_ret [] ⟨rfl, rfl⟩ (by repeat (first | exact SubH.nilR _ | refine SubH.pick (by repeat (first | exact HTake.here | apply HTake.there)) ?_))
end Go.Proofs

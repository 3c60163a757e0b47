/- HTML of two words with a struck word between them, and of the same text without the option. Conditions: Word. -/
import Derived.Test.YtblaoglgknjepaaGreatDoorS8
import Derived.Test.YtblaoglgknjepaaGreatDoorS5
import Derived.Test.YtblaoglgknjepaaGreatDoorS15
namespace Go.Proofs
open Go Go.Eng
set_option maxRecDepth 20000
set_option maxHeartbeats 4000000

theorem Tr.weaker {f : FuncId} {args : List Value} {H0 H : Heap} {R : Value → Heap → Prop} (h : Tr Tryz.prog f args H R) (hs : SubH H0 H) : Tr Tryz.prog f args H0 R :=
  ⟨fun B w hw => h.run B w (hw.sub hs)⟩
theorem Tr.postSub {f : FuncId} {args : List Value} {H : Heap} {R R' : Value → Heap → Prop} (h : Tr Tryz.prog f args H R) (hr : ∀ v H', R v H' → ∃ H'', R' v H'' ∧ SubH H' H'') : Tr Tryz.prog f args H R' :=
  ⟨fun B w hw => (h.run B w hw).mono fun _ _ ⟨v, H', h1, h2, h3⟩ => by
    obtain ⟨H'', k1, k2⟩ := hr v H' h2
    exact ⟨v, H'', h1, k1, h3.sub k2⟩⟩
theorem Tr.framed {f : FuncId} {args : List Value} {c : Blk} {F : Heap} {R : Value → Heap → Prop} (h : Tr Tryz.prog f args [c] R) : Tr Tryz.prog f args (c :: F) (fun v K => ∃ K0, R v K0 ∧ K = K0 ++ F) :=
  ⟨fun B w hw => (h.calls (F := F) (HTakes.cons HTake.here HTakes.nil) hw).mono fun _ _ ⟨v, H', h1, h2, h3⟩ => ⟨v, H' ++ F, h1, ⟨H', h2, rfl⟩, h3⟩⟩

theorem ItsT.inv {its : List It} {x : It} {vals : List Value} {Bk : Blk} (h : ItsT (its ++ [x]) vals Bk) : ∃ vals' q Bk', vals = vals' ++ [.iface x.ty (lp q)] ∧ Bk = x.cell q :: Bk' ∧ ItsT its vals' Bk' := by
  generalize hi : its ++ [x] = l at h
  cases h with
  | nil => simp at hi
  | snoc y q h =>
    obtain ⟨h1, h2⟩ := List.append_inj' hi rfl
    injection h2 with h2 _
    subst h1 h2
    exact ⟨_, q, _, rfl, rfl, h⟩
theorem ItsT.inv0 {vals : List Value} {Bk : Blk} (h : ItsT [] vals Bk) : vals = [] ∧ Bk = [] := by
  generalize hi : ([] : List It) = l at h
  cases h with
  | nil => exact ⟨rfl, rfl⟩
  | snoc y q h => simp at hi

/-- What emph leaves of a struck word among texts. -/
def MDel (t0 t1 t2 : List UInt8) (im : Nat) (cur : List Value) (G : Blk) : Prop :=
  im = 3 ∧ ∃ q0 q2 q4 x mk gx capx curx, (cur[0]? = some (vPl q0) ∧ cur[1]? = some (vDe x) ∧ cur[2]? = some (vPl q4)) ∧ curx[0]? = some (vPl q2) ∧
    G = [(q0, cellsOf [str t0] 104), (q2, cellsOf [str t1] 104), (q4, cellsOf [str t2] 104), (x, cellsOf [str mk, .slice (some ⟨gx, 0, none⟩) 1 capx] 189), (gx, cellsOf curx 99)]

theorem emphDel (a b c : List UInt8) (hb : b ≠ []) (n : Nat) (hn : n = 1 ∨ n = 2) (p g cap : Nat) (cur vals : List Value) (IB : Blk) (hI : ItsT (itemsT (delToks a b c n)) vals IB) (hcap : (itemsT (delToks a b c n)).length ≤ cap) (hcl : cur.length = cap) (htk : cur.take (itemsT (delToks a b c n)).length = vals) :
    Tr Tryz.prog 54 [lp p, .slice (some ⟨g, 0, none⟩) 0 cap, .slice (some ⟨g, 0, none⟩) (itemsT (delToks a b c n)).length cap] [[(g, cellsOf cur 99)], IB] fun u K => ∃ im cur' G, u = .slice (some ⟨g, 0, none⟩) im cap ∧ cur'.length = cap ∧ im ≤ cap ∧ MDel (a ++ [32]) b (32 :: c) im cur' G ∧ K = [[(g, cellsOf cur' 99)], G] := by
  rw [del_items a b c n hb] at hI hcap htk ⊢
  obtain ⟨v4, q4, B4, rfl, rfl, hI4⟩ := ItsT.inv (its := [.plain (a ++ [32]), .emph (List.replicate n 126) true false n, .plain b, .emph (List.replicate n 126) false true n]) (x := .plain (32 :: c)) hI
  obtain ⟨v3, q3, B3, rfl, rfl, hI3⟩ := ItsT.inv (its := [.plain (a ++ [32]), .emph (List.replicate n 126) true false n, .plain b]) (x := .emph (List.replicate n 126) false true n) hI4
  obtain ⟨v2, q2, B2, rfl, rfl, hI2⟩ := ItsT.inv (its := [.plain (a ++ [32]), .emph (List.replicate n 126) true false n]) (x := .plain b) hI3
  obtain ⟨v1, q1, B1, rfl, rfl, hI1⟩ := ItsT.inv (its := [.plain (a ++ [32])]) (x := .emph (List.replicate n 126) true false n) hI2
  obtain ⟨v0, q0, B0, rfl, rfl, hI0⟩ := ItsT.inv (its := []) (x := .plain (a ++ [32])) hI1
  obtain ⟨rfl, rfl⟩ := hI0.inv0
  have hcap5 : 5 ≤ cap := hcap
  have get : ∀ j, j < 5 → cur[j]? = (cur.take 5)[j]? := fun j hj => by rw [List.getElem?_take, if_pos hj]
  have htk' : cur.take 5 = [vPl q0, vEm q1, vPl q2, vEm q3, vPl q4] := htk
  have c0 : cur[0]? = some (vPl q0) := by rw [get 0 (by omega), htk']; rfl
  have c1 : cur[1]? = some (vEm q1) := by rw [get 1 (by omega), htk']; rfl
  have c2 : cur[2]? = some (vPl q2) := by rw [get 2 (by omega), htk']; rfl
  have c3 : cur[3]? = some (vEm q3) := by rw [get 3 (by omega), htk']; rfl
  have c4 : cur[4]? = some (vPl q4) := by rw [get 4 (by omega), htk']; rfl
  have hfin : ∀ (u : Value) (K : Heap), (∃ x mk gx capx curx, u = .slice (some ⟨g, 0, none⟩) 3 cap ∧ (1 ≤ capx ∧ curx.length = capx ∧ curx[0]? = some (vPl q2)) ∧
      K = [[(g, cellsOf ((cur.set 1 (vDe x)).set 2 (vPl q4)) 99)], plb q0 (a ++ [32]), plb q2 b, plb q4 (32 :: c), deb x mk (.slice (some ⟨gx, 0, none⟩) 1 capx), [(gx, cellsOf curx 99)]]) →
      ∃ K' : Heap, (∃ im cur' G, u = .slice (some ⟨g, 0, none⟩) im cap ∧ cur'.length = cap ∧ im ≤ cap ∧ MDel (a ++ [32]) b (32 :: c) im cur' G ∧ K' = [[(g, cellsOf cur' 99)], G]) ∧ SubH K K' := by
    rintro u K ⟨x, mk, gx, capx, curx, rfl, ⟨_, _, hx⟩, rfl⟩
    refine ⟨_, ⟨3, (cur.set 1 (vDe x)).set 2 (vPl q4), _, rfl, by simp [hcl], by omega, ⟨rfl, q0, q2, q4, x, mk, gx, capx, curx, ⟨?_, ?_, ?_⟩, hx, rfl⟩, rfl⟩, ⟨[], by simp⟩⟩
    · rw [List.getElem?_set_ne (by decide), List.getElem?_set_ne (by decide)]; exact c0
    · rw [List.getElem?_set_ne (by decide), List.getElem?_set_self (by omega)]
    · rw [List.getElem?_set_self (by rw [List.length_set]; omega)]
  rcases hn with rfl | rfl
  · refine Tr.postSub (Tr.weaker (emphDel1_tr p g cap cur (a ++ [32]) b (32 :: c) q0 q1 q2 q3 q4 hcl hcap5 c0 c1 c2 c3 c4) ?_) hfin
    exact SubH.trans (H' := [[(g, cellsOf cur 99)], [It.cell (.plain (32 :: c)) q4], [It.cell (.emph (List.replicate 1 126) false true 1) q3], [It.cell (.plain b) q2], [It.cell (.emph (List.replicate 1 126) true false 1) q1], [It.cell (.plain (a ++ [32])) q0]]) ⟨[], by simp⟩ (by repeat (first | exact SubH.nilR _ | refine SubH.pick (by repeat (first | exact HTake.here | apply HTake.there)) ?_))
  · refine Tr.postSub (Tr.weaker (emphDel2_tr p g cap cur (a ++ [32]) b (32 :: c) q0 q1 q2 q3 q4 hcl hcap5 c0 c1 c2 c3 c4) ?_) hfin
    exact SubH.trans (H' := [[(g, cellsOf cur 99)], [It.cell (.plain (32 :: c)) q4], [It.cell (.emph (List.replicate 2 126) false true 2) q3], [It.cell (.plain b) q2], [It.cell (.emph (List.replicate 2 126) true false 2) q1], [It.cell (.plain (a ++ [32])) q0]]) ⟨[], by simp⟩ (by repeat (first | exact SubH.nilR _ | refine SubH.pick (by repeat (first | exact HTake.here | apply HTake.there)) ?_))

theorem mergeDel (t0 t1 t2 : List UInt8) (h0 : t0.length ≤ 100) (h1 : t1.length ≤ 100) (h2 : t2.length ≤ 100) (p g cap im : Nat) (cur : List Value) (G : Blk) (hcl : cur.length = cap) (him : im ≤ cap) (hM : MDel t0 t1 t2 im cur G) :
    Tr Tryz.prog 55 [lp p, .slice (some ⟨g, 0, none⟩) im cap] [[(g, cellsOf cur 99)], G] fun u K => ∃ ja jm jc G', u = .slice ja jm jc ∧ (∃ g' outs, ja = some ⟨g', 0, none⟩ ∧ jm ≤ 100000 ∧ Shown g' jm G' outs ∧ outs.flatten = escH t0 ++ ([60, 100, 101, 108, 62] ++ escH t1 ++ [60, 47, 100, 101, 108, 62]) ++ escH t2) ∧ K = [G'] := by
  obtain ⟨rfl, q0, q2, q4, x, mk, gx, capx, curx, ⟨c0, c1, c2⟩, hx, rfl⟩ := hM
  have e0 := escH_len t0
  have e1 := escH_len t1
  have e2 := escH_len t2
  have hm := mergePlain_tr p g 3 cap cur (by omega) (by omega) him hcl (fun j hj => by
    rcases (by omega : j = 0 ∨ j = 1 ∨ j = 2) with rfl | rfl | rfl
    · exact ⟨_, c0, .inl ⟨q0, rfl⟩⟩
    · exact ⟨_, c1, .inr ⟨_, _, rfl, rfl, rfl, rfl⟩⟩
    · exact ⟨_, c2, .inl ⟨q4, rfl⟩⟩) (fun j v w hj hv hw hp hq => by
    rcases (by omega : j = 0 ∨ j = 1) with rfl | rfl
    · rw [c1] at hw; cases hw
      obtain ⟨r, hr⟩ := hq
      simp at hr
    · rw [c1] at hv; cases hv
      obtain ⟨r, hr⟩ := hp
      simp at hr)
  refine Tr.postSub (Tr.framed hm) ?_
  rintro u K ⟨K0, ⟨rfl, rfl⟩, rfl⟩
  refine ⟨_, ⟨_, 3, cap, [(g, cellsOf cur 99)] ++ [(q0, cellsOf [str t0] 104), (q2, cellsOf [str t1] 104), (q4, cellsOf [str t2] 104), (x, cellsOf [str mk, .slice (some ⟨gx, 0, none⟩) 1 capx] 189), (gx, cellsOf curx 99)], rfl, ⟨g, [escH t0, [60, 100, 101, 108, 62] ++ escH t1 ++ [60, 47, 100, 101, 108, 62], escH t2], rfl, by omega, ⟨⟨cur, by simp, by omega, fun j hj => ?_⟩, rfl, ?_⟩, by simp⟩, rfl⟩, ⟨[], by simp⟩⟩
  · rcases (by omega : j = 0 ∨ j = 1 ∨ j = 2) with rfl | rfl | rfl
    · exact ⟨_, _, _, c0, rfl, prnPlain q0 t0 _ (by simp) (by omega)⟩
    · exact ⟨_, _, _, c1, rfl, prnDel x gx capx q2 mk t1 curx _ (by simp) (by simp) hx (by simp) (by omega)⟩
    · exact ⟨_, _, _, c2, rfl, prnPlain q4 t2 _ (by simp) (by omega)⟩
  · simp only [List.flatten_cons, List.flatten_nil, List.length_append, List.length_cons, List.length_nil]
    omega

/-- What emph leaves of a text alone. -/
def MOne (t : List UInt8) (im : Nat) (cur : List Value) (G : Blk) : Prop := im = 1 ∧ ∃ q, cur[0]? = some (vPl q) ∧ G = [(q, cellsOf [str t] 104)]
theorem emphOne (tx : List UInt8) (p g cap : Nat) (cur vals : List Value) (IB : Blk) (hI : ItsT (itemsT (lits tx)) vals IB) (hcap : (itemsT (lits tx)).length ≤ cap) (hcl : cur.length = cap) (htk : cur.take (itemsT (lits tx)).length = vals) :
    Tr Tryz.prog 54 [lp p, .slice (some ⟨g, 0, none⟩) 0 cap, .slice (some ⟨g, 0, none⟩) (itemsT (lits tx)).length cap] [[(g, cellsOf cur 99)], IB] fun u K => ∃ im cur' G, u = .slice (some ⟨g, 0, none⟩) im cap ∧ cur'.length = cap ∧ im ≤ cap ∧ MOne tx im cur' G ∧ K = [[(g, cellsOf cur' 99)], G] := by
  rw [lit_items] at hI hcap htk ⊢
  obtain ⟨v0, q0, B0, rfl, rfl, hI0⟩ := ItsT.inv (its := []) (x := .plain tx) hI
  obtain ⟨rfl, rfl⟩ := hI0.inv0
  have hcap1 : 1 ≤ cap := hcap
  have htk' : cur.take 1 = [vPl q0] := htk
  have c0 : cur[0]? = some (vPl q0) := by
    have : cur[0]? = (cur.take 1)[0]? := by rw [List.getElem?_take, if_pos (by omega)]
    rw [this, htk']; rfl
  have he := emph_tr p g 1 cap cur (by omega) hcap1 hcl (fun j hj => by
    obtain rfl : j = 0 := by omega
    exact ⟨_, _, c0, rfl, rfl⟩)
  refine Tr.postSub (Tr.framed he) ?_
  rintro u K ⟨K0, ⟨rfl, rfl⟩, rfl⟩
  exact ⟨_, ⟨1, cur, _, rfl, hcl, hcap1, ⟨rfl, q0, c0, rfl⟩, rfl⟩, SubH.refl _⟩
theorem mergeOne (t : List UInt8) (h0 : t.length ≤ 1000) (p g cap im : Nat) (cur : List Value) (G : Blk) (hcl : cur.length = cap) (him : im ≤ cap) (hM : MOne t im cur G) :
    Tr Tryz.prog 55 [lp p, .slice (some ⟨g, 0, none⟩) im cap] [[(g, cellsOf cur 99)], G] fun u K => ∃ ja jm jc G', u = .slice ja jm jc ∧ (∃ g' outs, ja = some ⟨g', 0, none⟩ ∧ jm ≤ 100000 ∧ Shown g' jm G' outs ∧ outs.flatten = escH t) ∧ K = [G'] := by
  obtain ⟨rfl, q0, c0, rfl⟩ := hM
  have e0 := escH_len t
  have hm := mergePlain_tr p g 1 cap cur (by omega) (by omega) him hcl (fun j hj => by
    obtain rfl : j = 0 := by omega
    exact ⟨_, c0, .inl ⟨q0, rfl⟩⟩) (fun j v w hj => by omega)
  refine Tr.postSub (Tr.framed hm) ?_
  rintro u K ⟨K0, ⟨rfl, rfl⟩, rfl⟩
  refine ⟨_, ⟨_, 1, cap, [(g, cellsOf cur 99)] ++ [(q0, cellsOf [str t] 104)], rfl, ⟨g, [escH t], rfl, by omega, ⟨⟨cur, by simp, by omega, fun j hj => ?_⟩, rfl, ?_⟩, by simp⟩, rfl⟩, ⟨[], by simp⟩⟩
  · obtain rfl : j = 0 := by omega
    exact ⟨_, _, _, c0, rfl, prnPlain q0 t _ (by simp) (by omega)⟩
  · simp only [List.flatten_cons, List.flatten_nil, List.length_append, List.length_nil]
    omega

theorem delHTML_tr {a b c : List UInt8} (ha : Word a) (hb : Word b) (hc : Word c) (n : Nat) (hn : n = 1 ∨ n = 2) :
    TrD Tryz.prog 11 [optO true false, str (delText a b c n)] [] (str (paraO ((a ++ [32]) ++ ([60, 100, 101, 108, 62] ++ b ++ [60, 47, 100, 101, 108, 62]) ++ (32 :: c)))) [] := by
  obtain ⟨a0, ar, ha0, haw⟩ := ha.cons
  have h1 := ha.len
  have h2 := hb.len
  have h3 := hc.len
  have hall : ∀ d ∈ delText a b c n, sch d.toNat := by
    intro d hd
    unfold delText at hd
    simp only [List.mem_append, List.mem_cons, List.not_mem_nil, or_false] at hd
    rcases hd with (((((h | h) | h) | h) | h) | h) | h
    · exact .inl (ha.c d h)
    · subst h; exact .inr (.inl rfl)
    · rw [List.eq_of_mem_replicate h]; exact .inr (.inr (.inl rfl))
    · exact .inl (hb.c d h)
    · rw [List.eq_of_mem_replicate h]; exact .inr (.inr (.inl rfl))
    · subst h; exact .inr (.inl rfl)
    · exact .inl (hc.c d h)
  have e1 : delText a b c n = a0 :: (ar ++ [32] ++ List.replicate n 126 ++ b ++ List.replicate n 126 ++ [32] ++ c) := by unfold delText; rw [ha0]; simp
  have hP := plW e1 haw hall (by unfold delText; simp only [List.length_append, List.length_replicate, List.length_cons, List.length_nil]; omega)
  have h0 : at0 (delText a b c n) 0 = a0.toNat := by rw [e1]; rfl
  have hT := htmlO_tr true false (delToks a b c n) _ (del_ok ha hb hc n hn) (by rw [del_bytes]; exact hP) (by rw [del_bytes, h0]; omega) (by rw [del_bytes, h0]; omega) (by rw [del_bytes, h0]; omega) (by rw [del_bytes, h0]; omega) (MDel (a ++ [32]) b (32 :: c)) (emphDel a b c hb.ne n hn)
    (mergeDel (a ++ [32]) b (32 :: c) (by simp; omega) (by omega) (by simp; omega))
  rw [del_bytes] at hT
  rw [escH_id (a ++ [32]) (fun d hd => by
    rcases List.mem_append.1 hd with h | h
    · exact .inl (ha.c d h)
    · simp at h; subst h; exact .inr (.inl rfl)), escH_id b (fun d hd => .inl (hb.c d hd)), escH_id (32 :: c) (fun d hd => by
    rcases List.mem_cons.1 hd with h | h
    · subst h; exact .inr (.inl rfl)
    · exact .inl (hc.c d h))] at hT
  exact hT

theorem litHTML_tr {tx : List UInt8} {c z : UInt8} {s p : List UInt8} (h1 : tx = c :: s) (hc : wch c.toNat) (h2 : tx = p ++ [z]) (hz : wch z.toNat) (hall : ∀ d ∈ tx, wch d.toNat ∨ d.toNat = 32 ∨ d.toNat = 126) (hl : tx.length ≤ 1000) :
    TrD Tryz.prog 11 [optO false false, str tx] [] (str (paraO tx)) [] := by
  have hP := plW h1 hc (fun d hd => by have := hall d hd; omega) (by omega)
  have h0 : at0 tx 0 = c.toNat := by rw [h1]; rfl
  have hT := htmlO_tr false false (lits tx) _ (lit_ok h1 hc h2 hz hall (by omega)) (by rw [bytes_lits]; exact hP) (by rw [bytes_lits, h0]; omega) (by rw [bytes_lits, h0]; omega) (by rw [bytes_lits, h0]; omega) (by rw [bytes_lits, h0]; omega) (MOne tx) (emphOne tx) (mergeOne tx hl)
  rw [bytes_lits, escH_id tx hall] at hT
  exact hT
end Go.Proofs

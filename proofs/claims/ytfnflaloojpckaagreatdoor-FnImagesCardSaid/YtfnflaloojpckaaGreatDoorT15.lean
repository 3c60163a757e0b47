/- Steps of the walk of the program and plain facts on what it computes. Conditions: as each theorem states them. -/
import Derived.Test.YtfnflaloojpckaaGreatDoorT14
namespace Go.Proofs
open Go Go.Eng
set_option maxRecDepth 40000
set_option maxHeartbeats 1000000

theorem bufBytes_tr (b : Nat) (l : List UInt8) (g cap : Nat) (lr : Int) (h0 : 1 ≤ l.length) (h1 : l.length ≤ cap) (h2 : cap ≤ 9223372036854775807) : TrD Tryz.prog 286 [lp b] [bufb b (.slice (some ⟨g, 0, none⟩) l.length cap) lr] (.slice (some ⟨g, 0, none⟩) l.length cap) [bufb b (.slice (some ⟨g, 0, none⟩) l.length cap) lr] := by
  refine Tr.start (n := 12) (rs := [.tmp 2]) rfl rfl rfl rfl fun B => ?_
  (repeat' (first | refine Wp.draw_all (id := 1) Mixed.out (by kernel_rfl) ?_ | refine OpsS.pure _ (zdn (a := 0) (by rfl) (by rfl) (by omega) (by omega)) (by rfl) ?_ | refine za ?_ | refine z8 ?_ | refine z6 ?_ | refine z7 ?_ | refine zh ?_ | refine zc ?_ | refine zab ?_ | refine za9 ?_ | refine zbf ?_ | refine za5 ?_ | refine zai ?_ | refine zag ?_))
  simp only [Nat.zero_mul, Nat.add_zero, Nat.sub_zero]
  exact e_ret _ ⟨rfl, rfl⟩ sA

/-- Line feeds in the alternative text become spaces. -/
def nlB (c : UInt8) : UInt8 := if c = 10 then 32 else c
def imageH (u t : List UInt8) (o : List UInt8) : List UInt8 := [60, 105, 109, 103, 32, 115, 114, 99, 61, 34] ++ pairH linkPairs u ++ [34] ++ [32, 97, 108, 116, 61, 34] ++ o.map nlB ++ [34] ++ titH t ++ [32, 47, 62]

theorem nl_cell {c3 : List Value} {Z O : List UInt8} {j : Nat} {c : UInt8} (h : c3.take (Z ++ O).length = Lib.byteCells (Z ++ (O.take j).map nlB ++ O.drop j)) (hc : O[j]? = some c) : c3[0 + (Z.length + j) * 1]? = some (.int .u8 (c.toNat : Nat)) := by
  obtain ⟨hj, hcc⟩ := List.getElem?_eq_some_iff.1 hc
  have h1 : (c3.take (Z ++ O).length)[Z.length + j]? = some (.int .u8 (c.toNat : Nat)) := by
    rw [h, Lib.byteCells, List.getElem?_map, List.append_assoc, List.getElem?_append_right (by omega), List.getElem?_append_right (by simp; omega)]
    simp only [List.length_map, List.length_take, List.getElem?_drop]
    rw [show j + (Z.length + j - Z.length - min j O.length) = j by omega, hc]
    rfl
  rw [List.getElem?_take] at h1
  rw [show 0 + (Z.length + j) * 1 = Z.length + j by omega]
  split at h1
  · exact h1
  · cases h1
theorem diff_one (A D : List UInt8) (x y : UInt8) (i : Nat) (h : i ≠ A.length) : (A ++ x :: D)[i]? = (A ++ y :: D)[i]? := by
  by_cases h1 : i < A.length
  · rw [List.getElem?_append_left h1, List.getElem?_append_left h1]
  · rw [List.getElem?_append_right (by omega), List.getElem?_append_right (by omega)]
    obtain ⟨k, hk⟩ : ∃ k, i - A.length = k + 1 := ⟨i - A.length - 1, by omega⟩
    rw [hk]
    simp
theorem nl_next {Z O : List UInt8} {j : Nat} {c : UInt8} (hc : O[j]? = some c) : Lib.byteCells (Z ++ (O.take (j + 1)).map nlB ++ O.drop (j + 1)) = (Lib.byteCells (Z ++ (O.take j).map nlB ++ O.drop j)).set (Z.length + j) (.int .u8 ((nlB c).toNat : Nat)) := by
  obtain ⟨hj, hcc⟩ := List.getElem?_eq_some_iff.1 hc
  apply List.ext_getElem?
  intro i
  rw [List.getElem?_set]
  simp only [Lib.byteCells, List.getElem?_map, List.length_map, List.length_append, List.length_take, List.length_drop]
  rw [List.take_add_one, hc, List.drop_eq_getElem_cons hj]
  by_cases hi : Z.length + j = i
  · subst hi
    rw [if_pos rfl, if_pos (by omega), List.append_assoc, List.getElem?_append_right (by omega)]
    rw [List.getElem?_append_left (by simp; omega)]
    simp only [Option.toList, List.map_append, List.map_cons, List.map_nil]
    rw [List.getElem?_append_right (by simp; omega)]
    simp only [List.length_map, List.length_take]
    rw [show Z.length + j - Z.length - min j O.length = 0 by omega]
    simp
  · rw [if_neg hi]
    congr 1
    have := diff_one (Z ++ (O.take j).map nlB) (O.drop (j + 1)) (nlB c) O[j] i (by simp; omega)
    simpa [Option.toList] using this
theorem nl_set {c3 : List Value} {Z O : List UInt8} {j : Nat} (h : c3.take (Z ++ O).length = Lib.byteCells (Z ++ (O.take j).map nlB ++ O.drop j)) (hc : O[j]? = some 10) : (c3.set (0 + (Z.length + j) * 1) (.int .u8 32)).take (Z ++ O).length = Lib.byteCells (Z ++ (O.take (j + 1)).map nlB ++ O.drop (j + 1)) := by
  rw [nl_next hc, ← h, List.take_set, show 0 + (Z.length + j) * 1 = Z.length + j by omega]
  rfl
theorem nl_keep {c3 : List Value} {Z O : List UInt8} {j : Nat} {c : UInt8} (h : c3.take (Z ++ O).length = Lib.byteCells (Z ++ (O.take j).map nlB ++ O.drop j)) (hc : O[j]? = some c) (h10 : c ≠ 10) : c3.take (Z ++ O).length = Lib.byteCells (Z ++ (O.take (j + 1)).map nlB ++ O.drop (j + 1)) := by
  have h2 := nl_cell h hc
  rw [nl_next hc, ← h]
  apply List.ext_getElem?
  intro i
  rw [List.getElem?_set]
  by_cases hi : Z.length + j = i
  · subst hi
    obtain ⟨hj, hcc⟩ := List.getElem?_eq_some_iff.1 hc
    have h3 : (c3.take (Z ++ O).length).length = (Z ++ O).length := by rw [h]; simp [Lib.byteCells]; omega
    rw [if_pos rfl, if_pos (by rw [h3]; simp; omega), List.getElem?_take, if_pos (by simp; omega)]
    rw [show 0 + (Z.length + j) * 1 = Z.length + j by omega] at h2
    rw [h2, nlB, if_neg h10]
  · rw [if_neg hi]

theorem imageHG_tr (x b : Nat) (rs : List Value) (url ti : List UInt8) (sv : Value) (outs : List (List UInt8)) (v : Value) (l : List UInt8) (R G : Blk) (lr : Int) (hx : (x, cellsOf (sv :: str url :: str ti :: rs) 106) ∈ G) (hS : ShownG "PrintText" sv G outs) (hR : BRow v l R) (hne : l ≠ []) (hu : url.length ≤ 10000) (ht : ti.length ≤ 10000) (hlim : l.length + (imageH url ti outs.flatten).length ≤ 900000) :
    Tr Tryz.prog 283 [lp x, lp b] [G, bufb b v lr, R] fun u K => u = unit ∧ ∃ v' R' lr', BRow v' (l ++ imageH url ti outs.flatten) R' ∧ K = [G, bufb b v' lr', R'] := by
  have hm : ∀ H, HMem (G :: H) x (cellsOf (sv :: str url :: str ti :: rs) 106) := fun H => HMem.of_chunk hx
  have hl1 := pairH_len linkOK url
  have hl2 := escH_len ti
  simp only [imageH, List.length_map, List.length_append, List.length_cons, List.length_nil] at hlim
  refine Tr.start (n := 70) (rs := []) rfl rfl rfl rfl fun B => ?_
  (repeat' (first | refine za ?_))
  refine Wp.draw_held (id := 0) [G] 10 Mixed.out sA rfl ?_
  refine hF 0 ?_
  refine hF 2 ?_
  refine hF 3 ?_
  refine hF 4 ?_
  refine hG 5 _ rfl (zaa rfl (hm _) rfl) ?_
  refine hO 1 ?_
  refine za1 htmlLinkEscaper_tr (fun u K hR => ?_)
  obtain ⟨g, rfl, rfl⟩ := hR
  (repeat' (first | refine z6 ?_ | refine z7 ?_))
  refine ⟨sA, ?_⟩
  refine hO 6 ?_
  refine za1 (replaceP_tr linkPairs linkOK g url (by omega)) (fun u K hR => ?_)
  obtain ⟨rfl, rfl⟩ := hR
  (repeat' (first | refine z6 ?_ | refine z7 ?_))
  refine ⟨sA, ?_⟩
  refine hG 7 _ rfl (zbv (a := [60, 105, 109, 103, 32, 115, 114, 99, 61, 34]) (b := pairH linkPairs url) rfl rfl rfl (by simp only [List.length_cons, List.length_nil]; omega)) ?_
  refine hG 8 _ rfl (zbv (a := [60, 105, 109, 103, 32, 115, 114, 99, 61, 34] ++ pairH linkPairs url) (b := [34]) rfl rfl rfl (by simp only [List.length_append, List.length_cons, List.length_nil]; omega)) ?_
  refine hO 9 ?_
  refine za1 (writeAny_tr b v l R lr (([60, 105, 109, 103, 32, 115, 114, 99, 61, 34] ++ pairH linkPairs url) ++ [34]) hR hne (by simp only [List.length_append, List.length_cons, List.length_nil]; omega)) (fun u K hR => ?_)
  obtain ⟨rfl, v1, R1, h1, rfl⟩ := hR
  (repeat' (first | refine z6 ?_ | refine z7 ?_))
  refine ⟨sA, ?_⟩
  refine OpsH.nil (by kernel_rfl) ?_
  (repeat' (first | refine za ?_ | refine z8 ?_ | refine zb ?_))
  refine za1 (writeString_tr b v1 _ R1 0 [32, 97, 108, 116, 61, 34] h1 (by simp) (by simp) (by simp only [List.length_append, List.length_cons, List.length_nil]; omega)) (fun u K hR => ?_)
  obtain ⟨rfl, v2, R2, h2, rfl⟩ := hR
  have hE : l ++ imageH url ti outs.flatten = (l ++ (([60, 105, 109, 103, 32, 115, 114, 99, 61, 34] ++ pairH linkPairs url) ++ [34]) ++ [32, 97, 108, 116, 61, 34]) ++ outs.flatten.map nlB ++ [34] ++ titH ti ++ [32, 47, 62] := by simp [imageH]
  have hN : (l ++ (([60, 105, 109, 103, 32, 115, 114, 99, 61, 34] ++ pairH linkPairs url) ++ [34]) ++ [32, 97, 108, 116, 61, 34]) ≠ [] := by simp
  have hL : (l ++ (([60, 105, 109, 103, 32, 115, 114, 99, 61, 34] ++ pairH linkPairs url) ++ [34]) ++ [32, 97, 108, 116, 61, 34]).length + outs.flatten.length + (titH ti).length + 4 ≤ 900000 := by simp only [List.length_append, List.length_cons, List.length_nil]; omega
  rw [hE]
  generalize (l ++ (([60, 105, 109, 103, 32, 115, 114, 99, 61, 34] ++ pairH linkPairs url) ++ [34]) ++ [32, 97, 108, 116, 61, 34]) = Z at h2 hN hL ⊢
  clear hE hlim h1 hne hR
  obtain ⟨_, g, cap, cur, rfl, rfl, k1, k2, k3, k4⟩ := h2.resolve_left (fun h => hN h.1)
  have hZ : 1 ≤ Z.length := by cases Z with | nil => exact absurd rfl hN | cons _ _ => simp
  have hBr : BRow (.slice (some ⟨g, 0, none⟩) Z.length cap) Z [(g, cellsOf cur 5)] := .inr ⟨hN, g, cap, cur, rfl, rfl, k1, k2, k3, k4⟩
  rcases hS.cases with ⟨rfl, rfl⟩ | ⟨gx, c, curx, rfl, hg, hol, hrow⟩
  · simp only [List.flatten_nil, List.length_nil] at hL
    (repeat' (first | refine Ops.pure _ (zaa (by rfl) (by repeat (first | exact hm _ | apply HMem.there)) (by rfl)) (by rfl) ?_ | refine zad (bufLen_tr b Z.length cap (some ⟨g, 0, none⟩) 0 (by omega)) ?_ | refine za ?_ | refine z8 ?_ | refine z6 ?_ | refine z7 ?_ | refine zg ?_ | refine zb ?_ | refine zc ?_ | refine zp ?_ | refine zq ?_ | refine zac ?_))
    refine za7 (fun y : PW => [(0, lp x), (1, lp b), (4, inat Z.length), (25, .slice none 0 0), (26, inat 0), (27, inat 0)]) (fun y => [G, bufb b (.slice (some ⟨g, 0, none⟩) Z.length cap) 0, [(g, cellsOf cur 5)]])
      (fun y => True) (fun y => 0) ⟨0, v, [], 0⟩ trivial kB sA fun y hy => ?_
    (repeat' (first | refine zad (bufBytes_tr b Z g cap 0 hZ k1 k2) ?_ | refine za ?_ | refine z8 ?_ | refine z6 ?_ | refine z7 ?_ | refine zd ?_ | refine zg ?_ | refine zy ?_ | refine zz ?_ | refine za0 ?_ | refine zb ?_ | refine zc ?_ | refine za4 ?_))
    refine za7 (fun y : PW => [(0, lp x), (1, lp b), (4, inat Z.length), (7, .slice (some ⟨g, 0, none⟩) Z.length cap)]) (fun y => [G, bufb b (.slice (some ⟨g, 0, none⟩) Z.length cap) 0, [(g, cellsOf cur 5)]])
      (fun y => True) (fun y => 0) ⟨0, v, [], 0⟩ trivial kB sA fun y hy => ?_
    have hBf := hBr
    (repeat' (first | refine za ?_ | refine z8 ?_ | refine z6 ?_ | refine z7 ?_ | refine zd ?_ | refine zy ?_ | refine zz ?_ | refine za0 ?_ | refine zb ?_ | refine za4 ?_ | refine zac ?_))
    have hE2 : (titH ti).length = (titH ti).length := rfl
    refine za1 (writeString_tr b _ _ _ 0 [34] hBf (by simp) (by simp) (by simp only [List.length_append, List.length_map, List.length_cons, List.length_nil]; omega)) (fun u K hR => ?_)
    obtain ⟨rfl, v4, R4, h4, rfl⟩ := hR
    by_cases hti : ti = []
    · subst hti
      (repeat' (first | refine Ops.pure _ (zaa (by rfl) (by repeat (first | exact hm _ | apply HMem.there)) (by rfl)) (by rfl) ?_ | refine za ?_ | refine z8 ?_ | refine z6 ?_ | refine z7 ?_ | refine zd ?_ | refine zf ?_ | refine zb ?_ | refine zp ?_ | refine zq ?_ | refine zck ?_))
      refine za1 (writeString_tr b v4 _ R4 0 [32, 47, 62] h4 (by simp) (by simp) (by simp only [List.length_append, List.length_map, List.length_cons, List.length_nil]; omega)) (fun u K hR => ?_)
      obtain ⟨rfl, v5, R5, h5, rfl⟩ := hR
      (repeat' (first | refine z6 ?_))
      exact e_norm [G, bufb b v5 0, R5] ⟨rfl, v5, R5, 0, by simpa [titH] using h5, rfl⟩ sA
    · have htl : (titH ti).length = 8 + (escH ti).length + 1 := by simp [titH, hti]; omega
      (repeat' (first | refine Ops.pure _ (zaa (by rfl) (by repeat (first | exact hm _ | apply HMem.there)) (by rfl)) (by rfl) ?_ | refine za ?_ | refine z8 ?_ | refine z6 ?_ | refine z7 ?_ | refine ze ?_ | refine zb ?_ | refine zp ?_ | refine zq ?_ | refine zc3 ?_))
      refine Wp.draw_held (id := 15) [G] 10 Mixed.out sA rfl ?_
      refine hF 0 ?_
      refine hF 2 ?_
      refine hF 3 ?_
      refine hF 4 ?_
      refine hG 5 _ rfl (zaa rfl (hm _) rfl) ?_
      refine hO 1 ?_
      refine za1 htmlQuoteEscaper_tr (fun u K hR => ?_)
      obtain ⟨g, rfl, rfl⟩ := hR
      (repeat' (first | refine z6 ?_ | refine z7 ?_))
      refine ⟨sA, ?_⟩
      refine hO 6 ?_
      refine za1 (replaceEsc_tr g ti (by omega)) (fun u K hR => ?_)
      obtain ⟨rfl, rfl⟩ := hR
      (repeat' (first | refine z6 ?_ | refine z7 ?_))
      refine ⟨sA, ?_⟩
      refine hG 7 _ rfl (zbv (a := [32, 116, 105, 116, 108, 101, 61, 34]) (b := escH ti) rfl rfl rfl (by simp only [List.length_cons, List.length_nil]; omega)) ?_
      refine hG 8 _ rfl (zbv (a := [32, 116, 105, 116, 108, 101, 61, 34] ++ escH ti) (b := [34]) rfl rfl rfl (by simp only [List.length_append, List.length_cons, List.length_nil]; omega)) ?_
      refine hO 9 ?_
      refine za1 (writeAny_tr b v4 _ R4 0 (([32, 116, 105, 116, 108, 101, 61, 34] ++ escH ti) ++ [34]) h4 (by simp) (by simp only [List.length_append, List.length_map, List.length_cons, List.length_nil]; omega)) (fun u K hR => ?_)
      obtain ⟨rfl, v2, R2, h9, rfl⟩ := hR
      (repeat' (first | refine z6 ?_ | refine z7 ?_))
      refine ⟨sA, ?_⟩
      refine OpsH.nil (by kernel_rfl) ?_
      (repeat' (first | refine z8 ?_ | refine zb ?_))
      refine za1 (writeString_tr b v2 _ R2 0 [32, 47, 62] h9 (by simp) (by simp) (by simp only [List.length_append, List.length_map, List.length_cons, List.length_nil]; omega)) (fun u K hR => ?_)
      obtain ⟨rfl, v5, R5, h5, rfl⟩ := hR
      (repeat' (first | refine z6 ?_))
      exact e_norm [G, bufb b v5 0, R5] ⟨rfl, v5, R5, 0, by simpa [titH, hti] using h5, rfl⟩ sA
  have hmg : ∀ H, HMem (G :: H) gx (cellsOf curx 85) := fun H => HMem.of_chunk hg
  (repeat' (first | refine Ops.pure _ (zaa (by rfl) (by repeat (first | exact hm _ | apply HMem.there)) (by rfl)) (by rfl) ?_ | refine zad (bufLen_tr b Z.length cap (some ⟨g, 0, none⟩) 0 (by omega)) ?_ | refine za ?_ | refine z8 ?_ | refine z6 ?_ | refine z7 ?_ | refine zg ?_ | refine zb ?_ | refine zc ?_ | refine zp ?_ | refine zq ?_ | refine zac ?_))
  refine za7 (fun y : PW => [(0, lp x), (1, lp b), (4, inat Z.length), (25, .slice (some ⟨gx, 0, none⟩) outs.length c), (26, inat outs.length), (27, inat y.j)]) (fun y => [G, bufb b y.v y.lr, y.R])
    (fun y => y.j ≤ outs.length ∧ BRow y.v (Z ++ (outs.take y.j).flatten) y.R) (fun y => outs.length - y.j) ⟨0, _, _, 0⟩ ⟨Nat.zero_le _, by simpa using hBr⟩ kB sA fun y hy => ?_
  obtain ⟨j, v, R, lr⟩ := y
  obtain ⟨y1, y2⟩ := hy
  simp only at y1 y2 ⊢
  by_cases hj : j < outs.length
  · obtain ⟨ty, u, out, hc', ho, f, hf, hme, htr⟩ := hrow j hj
    have hfl := out_le ho
    (repeat' (first | refine Ops.pure _ (zaa (by rfl) (by repeat (first | exact hmg _ | apply HMem.there)) hc') (by rfl) ?_ | refine za ?_ | refine z8 ?_ | refine z6 ?_ | refine z7 ?_ | refine ze ?_ | refine zg ?_ | refine zf ?_ | refine zb ?_ | refine zc ?_ | refine zo ?_ | refine zaj ?_))
    refine Ops.invoke (f := f) (args := [lp b]) hf.out rfl hme rfl (htr b v _ R lr y2 (by simp [hN]) (by simp only [List.length_append, List.length_cons, List.length_nil]; omega)) (by repeat' (first | exact HTakes.nil | exact HTake.here | apply HTakes.cons | apply HTake.there)) rfl (fun u K hR => ?_)
    obtain ⟨rfl, v', R', lr', h9, rfl⟩ := hR
    (repeat' (first | refine z8 ?_ | refine z6 ?_ | refine z7 ?_ | refine zu ?_ | refine zb ?_ | refine zm ?_))
    exact ⟨⟨j + 1, v', R', lr'⟩, kB, sA, ⟨by simp only; omega, by simp only; rw [flat_snoc ho, ← List.append_assoc]; exact h9⟩, by simp only; omega⟩
  · have : j = outs.length := by omega
    subst this
    rw [List.take_of_length_le (by omega)] at y2
    obtain ⟨_, g2, cap2, cur2, rfl, rfl, m1, m2, m3, m4⟩ := y2.resolve_left (fun h => by simp [hN] at h)
    (repeat' (first | refine zad (bufBytes_tr b (Z ++ outs.flatten) g2 cap2 lr (by simp only [List.length_append]; omega) m1 m2) ?_ | refine za ?_ | refine z8 ?_ | refine z6 ?_ | refine z7 ?_ | refine zd ?_ | refine zg ?_ | refine zy ?_ | refine zz ?_ | refine za0 ?_ | refine zb ?_ | refine zc ?_ | refine za4 ?_))
    refine za7 (fun y : PW => [(0, lp x), (1, lp b), (4, inat (Z.length + y.j)), (7, .slice (some ⟨g2, 0, none⟩) (Z ++ outs.flatten).length cap2)]) (fun y => [G, bufb b (.slice (some ⟨g2, 0, none⟩) (Z ++ outs.flatten).length cap2) lr, y.R])
      (fun y => y.j ≤ (outs.flatten).length ∧ ∃ c3, y.R = [(g2, cellsOf c3 5)] ∧ c3.length = cap2 ∧ c3.take (Z ++ outs.flatten).length = Lib.byteCells (Z ++ ((outs.flatten).take y.j).map nlB ++ (outs.flatten).drop y.j)) (fun y => (outs.flatten).length - y.j) ⟨0, .nilIface, [(g2, cellsOf cur2 5)], 0⟩ ⟨Nat.zero_le _, cur2, rfl, m3, by simpa using m4⟩ kB sA fun y hy => ?_
    obtain ⟨k, _, _, _⟩ := y
    obtain ⟨z1, c3, rfl, z2, z3⟩ := hy
    simp only at z1 z3 ⊢
    have hlen : (Z ++ outs.flatten).length = Z.length + outs.flatten.length := List.length_append
    have hlen2 : (Z ++ outs.flatten.map nlB).length = Z.length + outs.flatten.length := by rw [List.length_append, List.length_map]
    by_cases hk : k < (outs.flatten).length
    · have hcc := nl_cell z3 (List.getElem?_eq_getElem hk)
      by_cases h10 : (outs.flatten)[k] = 10
      · have hset := nl_set z3 (by rw [List.getElem?_eq_getElem hk, h10])
        have hcd : c3[0 + (Z.length + k) * 1]? = some (.int .u8 10) := by rw [hcc, h10]; rfl
        (repeat' (first | refine Ops.pure _ (zaa (by rfl) (by repeat (first | exact HMem.here | apply HMem.there)) hcd) (by rfl) ?_ | refine zc8 ?_ | refine za ?_ | refine z8 ?_ | refine z6 ?_ | refine z7 ?_ | refine ze ?_ | refine zg ?_ | refine zf ?_ | refine zu ?_ | refine zb ?_ | refine zc ?_ | refine zm ?_ | refine zo ?_ | refine zx ?_ | refine zac ?_ | refine zaj ?_))
        exact ⟨⟨k + 1, .nilIface, _, 0⟩, kB, sA, ⟨by simp only; omega, _, rfl, by simpa using z2, hset⟩, by simp only; omega⟩
      · have hset := nl_keep z3 (List.getElem?_eq_getElem hk) h10
        have hn10 : ¬ (outs.flatten[k].toNat = 10) := by
          intro h
          exact h10 (UInt8.toNat_inj.1 h)
        (repeat' (first | refine Ops.pure _ (zaa (by rfl) (by repeat (first | exact HMem.here | apply HMem.there)) hcc) (by rfl) ?_ | refine za ?_ | refine z8 ?_ | refine z6 ?_ | refine z7 ?_ | refine ze ?_ | refine zd ?_ | refine zg ?_ | refine zf ?_ | refine zu ?_ | refine zb ?_ | refine zc ?_ | refine zm ?_ | refine zo ?_ | refine zw ?_ | refine zac ?_ | refine zaj ?_))
        exact ⟨⟨k + 1, .nilIface, _, 0⟩, kB, sA, ⟨by simp only; omega, _, rfl, z2, hset⟩, by simp only; omega⟩
    · have : k = (outs.flatten).length := by omega
      subst this
      have hBf : BRow (.slice (some ⟨g2, 0, none⟩) (Z ++ (outs.flatten).map nlB).length cap2) (Z ++ (outs.flatten).map nlB) [(g2, cellsOf c3 5)] := .inr ⟨by simp [hN], g2, cap2, c3, rfl, rfl, by rw [hlen2]; omega, m2, z2, by rw [hlen2, ← hlen]; rw [List.take_length, List.drop_length, List.append_nil] at z3; exact z3⟩
      have hle : (Z ++ outs.flatten).length = (Z ++ (outs.flatten).map nlB).length := by rw [hlen, hlen2]
      rw [hle]
      (repeat' (first | refine za ?_ | refine z8 ?_ | refine z6 ?_ | refine z7 ?_ | refine zd ?_ | refine zy ?_ | refine zz ?_ | refine za0 ?_ | refine zb ?_ | refine za4 ?_ | refine zac ?_))
      have hE2 : (titH ti).length = (titH ti).length := rfl
      refine za1 (writeString_tr b _ _ _ lr [34] hBf (by simp) (by simp) (by simp only [List.length_append, List.length_map, List.length_cons, List.length_nil]; omega)) (fun u K hR => ?_)
      obtain ⟨rfl, v4, R4, h4, rfl⟩ := hR
      by_cases hti : ti = []
      · subst hti
        (repeat' (first | refine Ops.pure _ (zaa (by rfl) (by repeat (first | exact hm _ | apply HMem.there)) (by rfl)) (by rfl) ?_ | refine za ?_ | refine z8 ?_ | refine z6 ?_ | refine z7 ?_ | refine zd ?_ | refine zf ?_ | refine zb ?_ | refine zp ?_ | refine zq ?_ | refine zck ?_))
        refine za1 (writeString_tr b v4 _ R4 0 [32, 47, 62] h4 (by simp) (by simp) (by simp only [List.length_append, List.length_map, List.length_cons, List.length_nil]; omega)) (fun u K hR => ?_)
        obtain ⟨rfl, v5, R5, h5, rfl⟩ := hR
        (repeat' (first | refine z6 ?_))
        exact e_norm [G, bufb b v5 0, R5] ⟨rfl, v5, R5, 0, by simpa [titH] using h5, rfl⟩ sA
      · have htl : (titH ti).length = 8 + (escH ti).length + 1 := by simp [titH, hti]; omega
        (repeat' (first | refine Ops.pure _ (zaa (by rfl) (by repeat (first | exact hm _ | apply HMem.there)) (by rfl)) (by rfl) ?_ | refine za ?_ | refine z8 ?_ | refine z6 ?_ | refine z7 ?_ | refine ze ?_ | refine zb ?_ | refine zp ?_ | refine zq ?_ | refine zc3 ?_))
        refine Wp.draw_held (id := 15) [G] 10 Mixed.out sA rfl ?_
        refine hF 0 ?_
        refine hF 2 ?_
        refine hF 3 ?_
        refine hF 4 ?_
        refine hG 5 _ rfl (zaa rfl (hm _) rfl) ?_
        refine hO 1 ?_
        refine za1 htmlQuoteEscaper_tr (fun u K hR => ?_)
        obtain ⟨g, rfl, rfl⟩ := hR
        (repeat' (first | refine z6 ?_ | refine z7 ?_))
        refine ⟨sA, ?_⟩
        refine hO 6 ?_
        refine za1 (replaceEsc_tr g ti (by omega)) (fun u K hR => ?_)
        obtain ⟨rfl, rfl⟩ := hR
        (repeat' (first | refine z6 ?_ | refine z7 ?_))
        refine ⟨sA, ?_⟩
        refine hG 7 _ rfl (zbv (a := [32, 116, 105, 116, 108, 101, 61, 34]) (b := escH ti) rfl rfl rfl (by simp only [List.length_cons, List.length_nil]; omega)) ?_
        refine hG 8 _ rfl (zbv (a := [32, 116, 105, 116, 108, 101, 61, 34] ++ escH ti) (b := [34]) rfl rfl rfl (by simp only [List.length_append, List.length_cons, List.length_nil]; omega)) ?_
        refine hO 9 ?_
        refine za1 (writeAny_tr b v4 _ R4 0 (([32, 116, 105, 116, 108, 101, 61, 34] ++ escH ti) ++ [34]) h4 (by simp) (by simp only [List.length_append, List.length_map, List.length_cons, List.length_nil]; omega)) (fun u K hR => ?_)
        obtain ⟨rfl, v2, R2, h9, rfl⟩ := hR
        (repeat' (first | refine z6 ?_ | refine z7 ?_))
        refine ⟨sA, ?_⟩
        refine OpsH.nil (by kernel_rfl) ?_
        (repeat' (first | refine z8 ?_ | refine zb ?_))
        refine za1 (writeString_tr b v2 _ R2 0 [32, 47, 62] h9 (by simp) (by simp) (by simp only [List.length_append, List.length_map, List.length_cons, List.length_nil]; omega)) (fun u K hR => ?_)
        obtain ⟨rfl, v5, R5, h5, rfl⟩ := hR
        (repeat' (first | refine z6 ?_))
        exact e_norm [G, bufb b v5 0, R5] ⟨rfl, v5, R5, 0, by simpa [titH, hti] using h5, rfl⟩ sA
end Go.Proofs

namespace Go.Proofs
open Go Go.Eng
set_option maxRecDepth 20000
set_option maxHeartbeats 1000000

/-! The delimiters' pass: what is put out, and five stacks of places of openers in it. -/
structure EmS where
  dst : List In
  st : List (List Nat)

/-- The number of a sign's stack. -/
def emIdx (c : UInt8) : Nat := if c.toNat = 95 then 0 else if c.toNat = 42 then 1 else if c.toNat = 126 then 2 else if c.toNat = 34 then 3 else 4
def isQ (c : UInt8) : Bool := c.toNat == 34 || c.toNat == 39
/-- How many places of a stack are below n, from the top. -/
def tlen (n : Nat) (ps : List Nat) : Nat → Nat
  | 0 => 0
  | k + 1 => if n ≤ ps.getD k 0 then tlen n ps k else k + 1
def trimTop (n : Nat) (ps : List Nat) : List Nat := ps.take (tlen n ps ps.length)
/-- The highest of the first k places that are good. -/
def findTop (ok : Nat → Bool) (ps : List Nat) : Nat → Option Nat
  | 0 => none
  | k + 1 => if ok (ps.getD k 0) then some k else findTop ok ps k
def ruleM (c : UInt8) (po pc : Bool) (pn : Nat) (so sc : Bool) (sn : Nat) : Bool :=
  (c.toNat == 42 || c.toNat == 95) && ((po && pc) || (so && sc)) && ((pn + sn) % 3 == 0) && (pn % 3 != 0 || sn % 3 != 0)
/-- May the run p end at the opener at this place? -/
def okM (dst : List In) (c : UInt8) (m : Nat) (po pc : Bool) (pn : Nat) (k : Nat) : Bool := match dst[k]? with
  | some (.em t so sc sn) => !(ruleM c po pc pn so sc sn) && !(c.toNat == 126 && m != t.length)
  | _ => true
def mkNode (c : UInt8) (d : Nat) (l : List In) : In := if c.toNat = 126 then .del (List.replicate d c) l else if d = 2 then .strong (List.replicate d c) l else .emph (List.replicate d c) l
def dOf (m m2 : Nat) : Nat := if 2 ≤ m ∧ 2 ≤ m2 then 2 else 1
def baseOf (dst : List In) (k d : Nat) (t : List UInt8) (so sc : Bool) (sn : Nat) : List In := if t.length ≤ d then dst.take k else dst.take k ++ [.em (t.take (t.length - d)) so sc sn]
def closeStep (c : UInt8) (d k : Nat) (t : List UInt8) (so sc : Bool) (sn : Nat) (S : EmS) : EmS :=
  let base := baseOf S.dst k d t so sc sn
  ⟨base ++ [mkNode c d (S.dst.drop (k + 1))], S.st.map (trimTop base.length)⟩
/-- Ends of the run (m signs left) are matched with openers. -/
def closeF (c : UInt8) (po pc : Bool) (pn : Nat) : Nat → Nat → EmS → Nat × EmS
  | 0, m, S => (m, S)
  | f + 1, m, S => if m = 0 then (0, S) else
    let ps := S.st.getD (emIdx c) []
    match findTop (okM S.dst c m po pc pn) ps ps.length with
    | none => (m, S)
    | some j => match S.dst[ps.getD j 0]? with
      | some (.em t so sc sn) => closeF c po pc pn f (m - dOf m t.length) (closeStep c (dOf m t.length) (ps.getD j 0) t so sc sn S)
      | _ => (m, S)
def openQ (c : UInt8) : List UInt8 := if c.toNat = 39 then [226, 128, 152] else [226, 128, 156]
def closeQ (c : UInt8) : List UInt8 := if c.toNat = 39 then [226, 128, 153] else [226, 128, 157]
def restQ (c : UInt8) (cl : Bool) : List UInt8 := if c.toNat = 39 then [226, 128, 153] else if cl then [226, 128, 157] else [226, 128, 156]
/-- What is left of a run is put out, as an opener or as text. -/
def restM (k : Nat) (t : List UInt8) (o c : Bool) (n : Nat) (S : EmS) : EmS :=
  if o then ⟨S.dst ++ [.em t o c n], S.st.set k (S.st.getD k [] ++ [S.dst.length])⟩ else ⟨S.dst ++ [.plain t], S.st⟩
def quoteM (ch : UInt8) (o c : Bool) (n : Nat) (S : EmS) : EmS :=
  let ps := S.st.getD (emIdx ch) []
  if c = true ∧ ps ≠ [] then
    let k := ps.getD (ps.length - 1) 0
    match S.dst[k]? with
    | some (.em _ so sc sn) => ⟨S.dst.set k (.em (openQ ch) so sc sn) ++ [.em (closeQ ch) o c n], S.st.set (emIdx ch) (ps.take (ps.length - 1))⟩
    | _ => S
  else restM (emIdx ch) (restQ ch c) o c n S
def emStep (S : EmS) : In → EmS
  | .op t _ => ⟨S.dst ++ [.plain t], S.st⟩
  | .em t o c n =>
    let ch := t.headD 0
    if isQ ch then quoteM ch o c n S
    else
      let r := if c then closeF ch o c n t.length t.length S else (t.length, S)
      if r.1 = 0 then r.2 else restM (emIdx ch) (List.replicate r.1 ch) o c n r.2
  | x => ⟨S.dst ++ [x], S.st⟩
def emS0 : EmS := ⟨[], [[], [], [], [], []]⟩
def emphM (src : List In) : List In := (src.foldl emStep emS0).dst

/-! What holds all along. -/
def isRunC (c : UInt8) : Prop := c.toNat = 95 ∨ c.toNat = 42 ∨ c.toNat = 126
/-- A run as the scan makes it. -/
def EmWF : In → Prop
  | .em t o c n => n ≤ 1000000 ∧ ((∃ ch m, isRunC ch ∧ t = List.replicate m ch ∧ 1 ≤ m ∧ m ≤ 1000000) ∨ ((∃ ch, isQ ch = true ∧ t = [ch]) ∧ (o && c) = false))
  | _ => True
/-- The sign of a run (95, 42 or 126), 0 for all else. -/
def runOf : In → Nat
  | .em t _ _ _ => let ch := (t.headD 0).toNat; if ch = 95 ∨ ch = 42 ∨ ch = 126 then ch else 0
  | _ => 0
/-- No two runs of one sign stand side by side. -/
def Apart (src : List In) : Prop := ∀ (j : Nat) (x y : In), src[j]? = some x → src[j + 1]? = some y → runOf x ≠ 0 → runOf x ≠ runOf y
def chrK (k : Nat) : Nat := if k = 0 then 95 else if k = 1 then 42 else 126
/-- An opener in the stack k. -/
def OpenAt (dst : List In) (k p : Nat) : Prop := ∃ t c n, dst[p]? = some (.em t true c n) ∧ n ≤ 1000000 ∧ (k < 3 → ∃ ch m, ch.toNat = chrK k ∧ t = List.replicate m ch ∧ 1 ≤ m ∧ m ≤ 1000000) ∧ (3 ≤ k → t.length = 3 ∧ runOf (.em t true c n) = 0)
structure EInv (S : EmS) : Prop where
  five : S.st.length = 5
  open_ : ∀ (k : Nat) (ps : List Nat), S.st[k]? = some ps → ∀ p ∈ ps, OpenAt S.dst k p
  inc : ∀ (k : Nat) (ps : List Nat), S.st[k]? = some ps → ps.Pairwise (· < ·)
/-- The last one put out is no opener of this sign. -/
def LastNot (S : EmS) (x : In) : Prop := ∀ y, S.dst.getLast? = some y → runOf y ≠ 0 → runOf y ≠ runOf x

theorem tlen_lt {n : Nat} {ps : List Nat} (hi : ps.Pairwise (· < ·)) : ∀ k, k ≤ ps.length → ∀ p ∈ ps.take (tlen n ps k), p < n
  | 0, _, p, hp => by simp [tlen] at hp
  | k + 1, hk, p, hp => by
    unfold tlen at hp
    split at hp
    · exact tlen_lt hi k (by omega) p hp
    · rename_i hn
      obtain ⟨j, hj, rfl⟩ := List.mem_iff_getElem.1 hp
      rw [List.length_take] at hj
      rw [List.getElem_take]
      have hkl : k < ps.length := by omega
      have h1 : ps.getD k 0 = ps[k] := by simp [List.getD, hkl]
      rw [h1] at hn
      by_cases hjk : j = k
      · subst hjk; omega
      · have := List.pairwise_iff_getElem.1 hi j k (by omega) hkl (by omega)
        omega
theorem trimTop_sub {n : Nat} {ps : List Nat} {p : Nat} (h : p ∈ trimTop n ps) : p ∈ ps := List.mem_of_mem_take h
theorem findTop_lt {ok : Nat → Bool} {ps : List Nat} : ∀ {k j : Nat}, findTop ok ps k = some j → j < k ∧ ok (ps.getD j 0) = true
  | 0, j, h => by cases h
  | k + 1, j, h => by
    unfold findTop at h
    split at h
    · cases h; exact ⟨by omega, by assumption⟩
    · have := findTop_lt h; exact ⟨by omega, this.2⟩
end Go.Proofs

namespace Go.Proofs
open Go Go.Eng
set_option maxRecDepth 20000
set_option maxHeartbeats 1000000

theorem replicate_headD {m : Nat} {c : UInt8} (h : 1 ≤ m) : (List.replicate m c).headD 0 = c := by
  cases m with
  | zero => omega
  | succ m => rfl
theorem runOf_rep {m : Nat} {ch : UInt8} {o c : Bool} {n : Nat} (h : 1 ≤ m) (hr : isRunC ch) : runOf (.em (List.replicate m ch) o c n) = ch.toNat := by
  unfold runOf
  dsimp only
  rw [replicate_headD h]
  exact if_pos hr
theorem mkNode_run (c : UInt8) (d : Nat) (l : List In) : runOf (mkNode c d l) = 0 := by
  unfold mkNode
  split
  · rfl
  · split <;> rfl
theorem getLast?_snoc {α : Type} (l : List α) (x : α) : (l ++ [x]).getLast? = some x := by simp
theorem emIdx_run {c : UInt8} (h : isRunC c) : emIdx c < 3 ∧ chrK (emIdx c) = c.toNat := by
  unfold emIdx
  rcases h with h | h | h <;> simp [h, chrK]
theorem emIdx_lt (c : UInt8) : emIdx c < 5 := by
  unfold emIdx
  repeat' split
  all_goals omega
theorem emIdx_q {c : UInt8} (h : isQ c = true) : 3 ≤ emIdx c := by
  unfold emIdx
  simp [isQ] at h
  rcases h with h | h <;> simp [h]
theorem isQ_run {c : UInt8} (h : isRunC c) : isQ c = false := by
  unfold isQ
  rcases h with h | h | h <;> simp [h]

theorem OpenAt.app {dst : List In} {k p : Nat} (l : List In) (h : OpenAt dst k p) : OpenAt (dst ++ l) k p := by
  obtain ⟨t, c, n, h1, h2⟩ := h
  exact ⟨t, c, n, by rw [List.getElem?_append_left (List.getElem?_eq_some_iff.1 h1).1]; exact h1, h2⟩
theorem EInv.push {S : EmS} (h : EInv S) (x : In) : EInv ⟨S.dst ++ [x], S.st⟩ :=
  ⟨h.five, fun k ps hk p hp => (h.open_ k ps hk p hp).app _, h.inc⟩
theorem EInv.lt {S : EmS} (h : EInv S) {k : Nat} {ps : List Nat} (hk : S.st[k]? = some ps) {p : Nat} (hp : p ∈ ps) : p < S.dst.length := by
  obtain ⟨t, c, n, h1, h2⟩ := h.open_ k ps hk p hp
  exact (List.getElem?_eq_some_iff.1 h1).1
theorem EInv.get {S : EmS} (h : EInv S) {k : Nat} (hk : k < 5) : S.st[k]? = some (S.st.getD k []) := by
  have := h.five
  rw [List.getD, List.getElem?_eq_getElem (by omega)]; rfl

/-- An opener is put out. -/
theorem EInv.rest {S : EmS} (h : EInv S) {k : Nat} (hk : k < 5) {t : List UInt8} {o c : Bool} {n : Nat} (hn : n ≤ 1000000)
    (h1 : k < 3 → ∃ ch m, ch.toNat = chrK k ∧ t = List.replicate m ch ∧ 1 ≤ m ∧ m ≤ 1000000) (h2 : 3 ≤ k → t.length = 3 ∧ runOf (.em t true c n) = 0) : EInv (restM k t o c n S) := by
  unfold restM
  cases o with
  | false => exact h.push _
  | true =>
    rw [if_pos rfl]
    have hk5 : k < S.st.length := by rw [h.five]; exact hk
    refine ⟨by simp [h.five], fun k' ps hk' p hp => ?_, fun k' ps hk' => ?_⟩
    · dsimp only at hk' ⊢
      rw [List.getElem?_set] at hk'
      split at hk'
      · rename_i e; subst e
        cases hk'
        rcases List.mem_append.1 hp with hp | hp
        · exact (h.open_ k _ (h.get hk) p hp).app _
        · simp at hp
          subst hp
          exact ⟨t, c, n, by simp, hn, h1, h2⟩
      · exact (h.open_ k' ps hk' p hp).app _
    · dsimp only at hk'
      rw [List.getElem?_set] at hk'
      split at hk'
      · rename_i e; subst e
        cases hk'
        refine List.pairwise_append.2 ⟨h.inc k _ (h.get hk), by simp, fun a ha b hb => ?_⟩
        simp at hb
        subst hb
        exact h.lt (h.get hk) ha
      · exact h.inc k' ps hk'

theorem baseOf_len {dst : List In} {k d : Nat} {t : List UInt8} {so sc : Bool} {sn : Nat} (hk : k < dst.length) : (baseOf dst k d t so sc sn).length = if t.length ≤ d then k else k + 1 := by
  unfold baseOf
  split <;> simp <;> omega
theorem baseOf_get {dst : List In} {k d p : Nat} {t : List UInt8} {so sc : Bool} {sn : Nat} (hk : k < dst.length) (hp : p < k) : (baseOf dst k d t so sc sn)[p]? = dst[p]? := by
  have h1 : (dst.take k)[p]? = dst[p]? := by rw [List.getElem?_take, if_pos hp]
  unfold baseOf
  split
  · exact h1
  · rw [List.getElem?_append_left (by rw [List.length_take]; omega)]; exact h1
theorem baseOf_at {dst : List In} {k d : Nat} {t : List UInt8} {so sc : Bool} {sn : Nat} (hk : k < dst.length) (hd : ¬ t.length ≤ d) : (baseOf dst k d t so sc sn)[k]? = some (.em (t.take (t.length - d)) so sc sn) := by
  unfold baseOf
  rw [if_neg hd, List.getElem?_append_right (by rw [List.length_take]; omega), List.length_take]
  simp [show k - min k dst.length = 0 by omega]

theorem EInv.close {S : EmS} (h : EInv S) {ch : UInt8} (_hch : isRunC ch) {d k : Nat} {m : Nat} {so sc : Bool} {sn : Nat} (hk : S.dst[k]? = some (.em (List.replicate m ch) so sc sn)) (_hd : 1 ≤ d) (hm : 1 ≤ m) : EInv (closeStep ch d k (List.replicate m ch) so sc sn S) := by
  have hkl := (List.getElem?_eq_some_iff.1 hk).1
  unfold closeStep
  dsimp only
  have key : ∀ (k' : Nat) (ps : List Nat), S.st[k']? = some ps → ∀ p ∈ trimTop (baseOf S.dst k d (List.replicate m ch) so sc sn).length ps, OpenAt (baseOf S.dst k d (List.replicate m ch) so sc sn ++ [mkNode ch d (S.dst.drop (k + 1))]) k' p := by
    intro k' ps hk' p hp
    refine OpenAt.app _ ?_
    have hlt : p < (baseOf S.dst k d (List.replicate m ch) so sc sn).length := tlen_lt (h.inc k' ps hk') ps.length (Nat.le_refl _) p hp
    have hlen := baseOf_len (d := d) (t := List.replicate m ch) (so := so) (sc := sc) (sn := sn) hkl
    obtain ⟨t, c, n, h1, h2, h3, h4⟩ := h.open_ k' ps hk' p (trimTop_sub hp)
    by_cases hpk : p < k
    · exact ⟨t, c, n, by rw [baseOf_get hkl hpk]; exact h1, h2, h3, h4⟩
    · by_cases hd2 : (List.replicate m ch).length ≤ d
      · rw [if_pos hd2] at hlen; omega
      · rw [if_neg hd2] at hlen
        have hpe : p = k := by omega
        subst hpe
        rw [hk] at h1
        have h1' := Option.some.inj h1
        injection h1' with e1 e2 e3 e4
        subst e1; subst e2; subst e3; subst e4
        rw [List.length_replicate] at hd2
        refine ⟨_, _, _, baseOf_at hkl (by rw [List.length_replicate]; exact hd2), h2, fun hk3 => ?_, fun hk3 => ?_⟩
        · obtain ⟨ch2, m2, q1, q2, q3, q4⟩ := h3 hk3
          have hmm : m = m2 := by simpa using congrArg List.length q2
          exact ⟨ch2, m - d, q1, by rw [q2]; simp [hmm], by omega, by omega⟩
        · obtain ⟨q1, q2⟩ := h4 hk3
          have := runOf_rep (o := true) (c := sc) (n := sn) hm _hch
          rw [this] at q2
          rcases _hch with e | e | e <;> omega
  refine ⟨by simp [h.five], fun k' ps hk' p hp => ?_, fun k' ps hk' => ?_⟩
  · dsimp only at hk' ⊢
    rw [List.getElem?_map] at hk'
    cases hs : S.st[k']? with
    | none => rw [hs] at hk'; cases hk'
    | some ps0 =>
      rw [hs] at hk'
      cases hk'
      exact key k' ps0 hs p hp
  · dsimp only at hk'
    rw [List.getElem?_map] at hk'
    cases hs : S.st[k']? with
    | none => rw [hs] at hk'; cases hk'
    | some ps0 =>
      rw [hs] at hk'
      cases hk'
      exact (h.inc k' ps0 hs).sublist (List.take_sublist _ _)

/-- The opener that a run of this sign finds. -/
theorem EInv.find {S : EmS} (h : EInv S) {ch : UInt8} (hch : isRunC ch) {j : Nat} (hj : j < (S.st.getD (emIdx ch) []).length) : ∃ m sc sn, S.dst[(S.st.getD (emIdx ch) []).getD j 0]? = some (.em (List.replicate m ch) true sc sn) ∧ 1 ≤ m ∧ m ≤ 1000000 ∧ sn ≤ 1000000 := by
  have hk := h.get (emIdx_lt ch)
  have hm : (S.st.getD (emIdx ch) []).getD j 0 ∈ S.st.getD (emIdx ch) [] := by
    generalize S.st.getD (emIdx ch) [] = ps at hj
    rw [List.getD, List.getElem?_eq_getElem hj]; exact List.getElem_mem _
  obtain ⟨t, c, n, h1, h2, h3, h4⟩ := h.open_ _ _ hk _ hm
  obtain ⟨q1, q2⟩ := emIdx_run hch
  obtain ⟨ch2, m, e1, e2, e3, e4⟩ := h3 q1
  have : ch2 = ch := UInt8.toNat_inj.1 (by rw [e1, q2])
  subst this
  exact ⟨m, c, n, by rw [← e2]; exact h1, e3, e4, h2⟩
/-- There is something between an opener and a run behind it. -/
theorem LastNot.inner {S : EmS} {x : In} {ch : UInt8} (h : LastNot S x) (hx : runOf x = ch.toNat) (hch : isRunC ch) {k m : Nat} {so sc : Bool} {sn : Nat} (hk : S.dst[k]? = some (.em (List.replicate m ch) so sc sn)) (hm : 1 ≤ m) : k + 1 < S.dst.length := by
  have hkl := (List.getElem?_eq_some_iff.1 hk).1
  by_cases he : k + 1 = S.dst.length
  · exfalso
    have h1 : S.dst.getLast? = some (.em (List.replicate m ch) so sc sn) := by
      rw [List.getLast?_eq_getElem?, show S.dst.length - 1 = k by omega]; exact hk
    have h2 := runOf_rep (o := so) (c := sc) (n := sn) hm hch
    refine h _ h1 ?_ (by rw [h2, hx])
    rw [h2]
    rcases hch with e | e | e <;> omega
  · omega
theorem closeStep_len {S : EmS} {ch : UInt8} {d k : Nat} {t : List UInt8} {so sc : Bool} {sn : Nat} (hk : k + 1 < S.dst.length) : (closeStep ch d k t so sc sn S).dst.length ≤ S.dst.length := by
  unfold closeStep
  dsimp only
  rw [List.length_append, baseOf_len (by omega)]
  split <;> simp <;> omega
theorem closeStep_last {S : EmS} {ch : UInt8} {d k : Nat} {t : List UInt8} {so sc : Bool} {sn : Nat} (x : In) : LastNot (closeStep ch d k t so sc sn S) x := by
  intro y hy hr
  unfold closeStep at hy
  dsimp only at hy
  rw [getLast?_snoc] at hy
  cases hy
  exact absurd (mkNode_run _ _ _) hr
theorem dOf_le {m m2 : Nat} (h : 1 ≤ m) : 1 ≤ dOf m m2 ∧ dOf m m2 ≤ m := by
  unfold dOf
  split <;> omega

/-- What a run leaves. -/
structure EGood (S : EmS) (i : Nat) (x : In) : Prop where
  inv : EInv S
  le : S.dst.length ≤ i
  last : LastNot S x
theorem closeF_good {ch : UInt8} (hch : isRunC ch) {x : In} (hx : runOf x = ch.toNat) {po pc : Bool} {pn i : Nat} : ∀ (f m : Nat) (S : EmS), EGood S i x → (closeF ch po pc pn f m S).1 ≤ m ∧ EGood (closeF ch po pc pn f m S).2 i x
  | 0, m, S, h => ⟨Nat.le_refl _, h⟩
  | f + 1, m, S, h => by
    unfold closeF
    by_cases hm : m = 0
    · rw [if_pos hm]; exact ⟨Nat.zero_le _, h⟩
    · rw [if_neg hm]
      dsimp only
      cases hf : findTop (okM S.dst ch m po pc pn) (S.st.getD (emIdx ch) []) (S.st.getD (emIdx ch) []).length with
      | none => exact ⟨Nat.le_refl _, h⟩
      | some j =>
        dsimp only
        obtain ⟨m2, sc, sn, h1, h2, h3, h4⟩ := h.inv.find hch (findTop_lt hf).1
        rw [h1]
        dsimp only
        have hd := dOf_le (m := m) (m2 := (List.replicate m2 ch).length) (by omega)
        have hin := h.last.inner hx hch h1 h2
        have := closeF_good hch hx (po := po) (pc := pc) (pn := pn) (i := i) f (m - dOf m (List.replicate m2 ch).length) (closeStep ch (dOf m (List.replicate m2 ch).length) _ (List.replicate m2 ch) true sc sn S)
          ⟨h.inv.close hch h1 hd.1 h2, Nat.le_trans (closeStep_len hin) h.le, closeStep_last x⟩
        exact ⟨by omega, this.2⟩
theorem closeF_zero (c : UInt8) (po pc : Bool) (pn : Nat) : ∀ (f : Nat) (S : EmS), closeF c po pc pn f 0 S = (0, S)
  | 0, _ => rfl
  | f + 1, S => by unfold closeF; rw [if_pos rfl]

theorem restM_len (k : Nat) (t : List UInt8) (o c : Bool) (n : Nat) (S : EmS) : (restM k t o c n S).dst.length = S.dst.length + 1 := by
  unfold restM
  split <;> simp
theorem restM_last (k : Nat) (t : List UInt8) (o c : Bool) (n : Nat) (S : EmS) (y : In) (hy : (restM k t o c n S).dst.getLast? = some y) : y = .em t o c n ∨ y = .plain t := by
  unfold restM at hy
  split at hy
  · rw [getLast?_snoc] at hy; cases hy; exact .inl rfl
  · rw [getLast?_snoc] at hy; cases hy; exact .inr rfl
theorem openQ_run (ch : UInt8) (o c : Bool) (n : Nat) : runOf (.em (openQ ch) o c n) = 0 ∧ (openQ ch).length = 3 := by
  unfold openQ
  split <;> exact ⟨rfl, rfl⟩
theorem closeQ_run (ch : UInt8) (o c : Bool) (n : Nat) : runOf (.em (closeQ ch) o c n) = 0 := by
  unfold closeQ
  split <;> rfl
theorem restQ_run (ch : UInt8) (cl o c : Bool) (n : Nat) : runOf (.em (restQ ch cl) o c n) = 0 ∧ (restQ ch cl).length = 3 := by
  unfold restQ
  repeat' split
  all_goals exact ⟨rfl, rfl⟩

theorem quote_top {S : EmS} (h : EInv S) {ch : UInt8} (hq : isQ ch = true) (hne : S.st.getD (emIdx ch) [] ≠ []) : ∃ t sc sn, S.dst[(S.st.getD (emIdx ch) []).getD ((S.st.getD (emIdx ch) []).length - 1) 0]? = some (.em t true sc sn) ∧ t.length = 3 ∧ sn ≤ 1000000 := by
  have hk := h.get (emIdx_lt ch)
  have hm : (S.st.getD (emIdx ch) []).getD ((S.st.getD (emIdx ch) []).length - 1) 0 ∈ S.st.getD (emIdx ch) [] := by
    generalize S.st.getD (emIdx ch) [] = ps at hne
    have : 0 < ps.length := List.length_pos_iff.2 hne
    rw [List.getD, List.getElem?_eq_getElem (show ps.length - 1 < ps.length by omega)]; exact List.getElem_mem _
  obtain ⟨t, c, n, h1, h2, h3, h4⟩ := h.open_ _ _ hk _ hm
  exact ⟨t, c, n, h1, (h4 (emIdx_q hq)).1, h2⟩
theorem EInv.quote {S : EmS} (h : EInv S) {ch : UInt8} (hq : isQ ch = true) {o c : Bool} {n : Nat} (hn : n ≤ 1000000) : EInv (quoteM ch o c n S) := by
  unfold quoteM
  dsimp only
  split
  · rename_i hc
    obtain ⟨t, sc, sn, h1, h2, h3⟩ := quote_top h hq hc.2
    rw [h1]
    dsimp only
    have hk := h.get (emIdx_lt ch)
    have hpos : 0 < (S.st.getD (emIdx ch) []).length := List.length_pos_iff.2 hc.2
    have hmem : (S.st.getD (emIdx ch) []).getD ((S.st.getD (emIdx ch) []).length - 1) 0 ∈ S.st.getD (emIdx ch) [] := by
      generalize S.st.getD (emIdx ch) [] = ps at hpos
      rw [List.getD, List.getElem?_eq_getElem (show ps.length - 1 < ps.length by omega)]; exact List.getElem_mem _
    generalize (S.st.getD (emIdx ch) []).getD ((S.st.getD (emIdx ch) []).length - 1) 0 = top at h1 hmem
    have hop : ∀ (k' : Nat) (ps : List Nat), S.st[k']? = some ps → ∀ p ∈ ps, OpenAt (S.dst.set top (.em (openQ ch) true sc sn) ++ [.em (closeQ ch) o c n]) k' p := by
      intro k' ps hk' p hp
      refine OpenAt.app _ ?_
      obtain ⟨t', c', n', e1, e2, e3, e4⟩ := h.open_ k' ps hk' p hp
      by_cases hpt : top = p
      · subst hpt
        rw [h1] at e1
        have e1' := Option.some.inj e1
        injection e1' with f1 f2 f3 f4
        subst f1; subst f3; subst f4
        refine ⟨openQ ch, sc, sn, by rw [List.getElem?_set_self (List.getElem?_eq_some_iff.1 h1).1], h3, fun hk3 => ?_, fun _ => ⟨(openQ_run ch true sc sn).2, (openQ_run ch true sc sn).1⟩⟩
        exfalso
        obtain ⟨t2, c2, n2, g1, g2, g3, g4⟩ := h.open_ _ _ hk _ hmem
        rw [h1] at g1
        have g1' := Option.some.inj g1
        injection g1' with q1 q2 q3 q4
        subst q1; subst q3; subst q4
        obtain ⟨ch2, m2, r1, r2, r3, r4⟩ := e3 hk3
        have hr := (g4 (emIdx_q hq)).2
        have hcr : isRunC ch2 := by
          unfold isRunC
          rw [r1]
          unfold chrK
          repeat' split
          all_goals omega
        have hrr := runOf_rep (o := true) (c := sc) (n := sn) r3 hcr
        rw [← r2, hr] at hrr
        rcases hcr with e | e | e <;> omega
      · exact ⟨t', c', n', by rw [List.getElem?_set_ne hpt]; exact e1, e2, e3, e4⟩
    refine ⟨by simp [h.five], fun k' ps hk' p hp => ?_, fun k' ps hk' => ?_⟩
    · dsimp only at hk' ⊢
      rw [List.getElem?_set] at hk'
      split at hk'
      · rename_i e; subst e
        split at hk'
        · cases hk'
          exact hop _ _ hk p (List.mem_of_mem_take hp)
        · cases hk'
      · exact hop k' ps hk' p hp
    · dsimp only at hk'
      rw [List.getElem?_set] at hk'
      split at hk'
      · rename_i e; subst e
        split at hk'
        · cases hk'
          exact (h.inc _ _ hk).sublist (List.take_sublist _ _)
        · cases hk'
      · exact h.inc k' ps hk'
  · exact h.rest (emIdx_lt ch) hn (fun h3 => by have := emIdx_q hq; omega) (fun _ => ⟨(restQ_run ch c true c n).2, (restQ_run ch c true c n).1⟩)
theorem quoteM_len {S : EmS} (h : EInv S) {ch : UInt8} (hq : isQ ch = true) {o c : Bool} {n : Nat} : (quoteM ch o c n S).dst.length = S.dst.length + 1 := by
  unfold quoteM
  dsimp only
  split
  · rename_i hc
    obtain ⟨t, sc, sn, h1, h2, h3⟩ := quote_top h hq hc.2
    rw [h1]
    simp
  · exact restM_len _ _ _ _ _ _
theorem quoteM_last {S : EmS} (h : EInv S) {ch : UInt8} (hq : isQ ch = true) {o c : Bool} {n : Nat} (y : In) (hy : (quoteM ch o c n S).dst.getLast? = some y) : runOf y = 0 := by
  unfold quoteM at hy
  dsimp only at hy
  split at hy
  · rename_i hc
    obtain ⟨t, sc, sn, h1, h2, h3⟩ := quote_top h hq hc.2
    rw [h1] at hy
    dsimp only at hy
    rw [getLast?_snoc] at hy
    cases hy
    exact closeQ_run _ _ _ _
  · rcases restM_last _ _ _ _ _ _ y hy with rfl | rfl
    · exact (restQ_run _ _ _ _ _).1
    · rfl

/-- A step: what holds goes on. -/
theorem emStep_inv {S : EmS} {x : In} {i : Nat} (hw : EmWF x) (h : EGood S i x) : EInv (emStep S x) ∧ (emStep S x).dst.length ≤ i + 1 ∧ ∀ y, (emStep S x).dst.getLast? = some y → runOf y ≠ 0 → runOf y = runOf x := by
  have hle := h.le
  cases x with
  | em t o c n =>
    obtain ⟨hn, hw⟩ := hw
    rcases hw with ⟨ch, m, hr, rfl, hm1, hm2⟩ | ⟨⟨ch, hq, rfl⟩, hoc⟩
    · unfold emStep
      dsimp only
      rw [replicate_headD hm1, isQ_run hr, List.length_replicate]
      have hrun := runOf_rep (o := o) (c := c) (n := n) hm1 hr
      have hlen : ∀ r : Nat × EmS, r.1 ≤ m → EGood r.2 i (.em (List.replicate m ch) o c n) → EInv (if r.1 = 0 then r.2 else restM (emIdx ch) (List.replicate r.1 ch) o c n r.2) ∧ (if r.1 = 0 then r.2 else restM (emIdx ch) (List.replicate r.1 ch) o c n r.2).dst.length ≤ i + 1 ∧ ∀ y, (if r.1 = 0 then r.2 else restM (emIdx ch) (List.replicate r.1 ch) o c n r.2).dst.getLast? = some y → runOf y ≠ 0 → runOf y = runOf (.em (List.replicate m ch) o c n) → runOf y = runOf (.em (List.replicate m ch) o c n) := by
        intro r hr1 hg
        have := hg.le
        split
        · exact ⟨hg.inv, by omega, fun y _ _ e => e⟩
        · obtain ⟨q1, q2⟩ := emIdx_run hr
          refine ⟨hg.inv.rest (by omega) hn (fun _ => ⟨ch, r.1, q2.symm, rfl, by omega, by omega⟩) (fun h3 => by omega), by rw [restM_len]; omega, fun y _ _ e => e⟩
      have hlast : ∀ r : Nat × EmS, (∀ y, r.2.dst.getLast? = some y → r.1 = 0 → runOf y = 0) → ∀ y, (if r.1 = 0 then r.2 else restM (emIdx ch) (List.replicate r.1 ch) o c n r.2).dst.getLast? = some y → runOf y ≠ 0 → runOf y = runOf (.em (List.replicate m ch) o c n) := by
        intro r hz y hy hy0
        split at hy
        · exact absurd (hz y hy (by assumption)) hy0
        · rcases restM_last _ _ _ _ _ _ y hy with rfl | rfl
          · rw [hrun, runOf_rep (by omega) hr]
          · exact absurd rfl hy0
      simp only [Bool.false_eq_true, if_false]
      cases c with
      | false =>
        simp only [Bool.false_eq_true, if_false]
        obtain ⟨a1, a2, _⟩ := hlen (m, S) (Nat.le_refl _) h
        exact ⟨a1, a2, hlast (m, S) (fun y _ e => by simp only at e; omega)⟩
      | true =>
        simp only [if_true]
        obtain ⟨b1, b2⟩ := closeF_good hr hrun (po := o) (pc := true) (pn := n) m m S h
        obtain ⟨a1, a2, _⟩ := hlen _ b1 b2
        refine ⟨a1, a2, hlast _ (fun y hy e => ?_)⟩
        -- all signs were matched: the last one is a node
        have key : ∀ (f k : Nat) (S : EmS), 1 ≤ k → EGood S i (.em (List.replicate m ch) o true n) → (closeF ch o true n f k S).1 = 0 → ∀ y, (closeF ch o true n f k S).2.dst.getLast? = some y → runOf y = 0 := by
          intro f
          induction f with
          | zero => intro k S hk _ h0; simp [closeF] at h0; omega
          | succ f ih =>
            intro k S hk hg h0 y hy
            unfold closeF at h0 hy
            rw [if_neg (show ¬ k = 0 by omega)] at h0 hy
            dsimp only at h0 hy
            cases hf : findTop (okM S.dst ch k o true n) (S.st.getD (emIdx ch) []) (S.st.getD (emIdx ch) []).length with
            | none => rw [hf] at h0; dsimp only at h0; omega
            | some j =>
              rw [hf] at h0 hy
              dsimp only at h0 hy
              obtain ⟨m2, sc, sn, h1, h2, h3, h4⟩ := hg.inv.find hr (findTop_lt hf).1
              rw [h1] at h0 hy
              dsimp only at h0 hy
              have hd := dOf_le (m := k) (m2 := (List.replicate m2 ch).length) hk
              have hin := hg.last.inner hrun hr h1 h2
              by_cases hz : k - dOf k (List.replicate m2 ch).length = 0
              · rw [hz, closeF_zero] at hy
                unfold closeStep at hy
                dsimp only at hy
                rw [getLast?_snoc] at hy
                cases hy
                exact mkNode_run _ _ _
              · exact ih _ _ (by omega) ⟨hg.inv.close hr h1 hd.1 h2, Nat.le_trans (closeStep_len hin) hg.le, closeStep_last _⟩ h0 y hy
        exact key m m S hm1 h e y hy
    · unfold emStep
      dsimp only
      rw [show List.headD [ch] 0 = ch from rfl, hq, if_pos rfl]
      exact ⟨h.inv.quote hq hn, by rw [quoteM_len h.inv hq]; omega, fun y hy hy0 => absurd (quoteM_last h.inv hq y hy) hy0⟩
  | op t k =>
    refine ⟨h.inv.push _, by simp [emStep, h.le], fun y hy hy0 => ?_⟩
    simp only [emStep, getLast?_snoc] at hy
    cases hy
    exact absurd rfl hy0
  | plain t => exact ⟨h.inv.push _, by simp [emStep, h.le], fun y hy hy0 => by simp only [emStep, getLast?_snoc] at hy; cases hy; exact absurd rfl hy0⟩
  | esc t => exact ⟨h.inv.push _, by simp [emStep, h.le], fun y hy hy0 => by simp only [emStep, getLast?_snoc] at hy; cases hy; exact absurd rfl hy0⟩
  | soft => exact ⟨h.inv.push _, by simp [emStep, h.le], fun y hy hy0 => by simp only [emStep, getLast?_snoc] at hy; cases hy; exact absurd rfl hy0⟩
  | hard => exact ⟨h.inv.push _, by simp [emStep, h.le], fun y hy hy0 => by simp only [emStep, getLast?_snoc] at hy; cases hy; exact absurd rfl hy0⟩
  | code t => exact ⟨h.inv.push _, by simp [emStep, h.le], fun y hy hy0 => by simp only [emStep, getLast?_snoc] at hy; cases hy; exact absurd rfl hy0⟩
  | auto t u => exact ⟨h.inv.push _, by simp [emStep, h.le], fun y hy hy0 => by simp only [emStep, getLast?_snoc] at hy; cases hy; exact absurd rfl hy0⟩
  | tag t => exact ⟨h.inv.push _, by simp [emStep, h.le], fun y hy hy0 => by simp only [emStep, getLast?_snoc] at hy; cases hy; exact absurd rfl hy0⟩
  | emph m l => exact ⟨h.inv.push _, by simp [emStep, h.le], fun y hy hy0 => by simp only [emStep, getLast?_snoc] at hy; cases hy; exact absurd rfl hy0⟩
  | strong m l => exact ⟨h.inv.push _, by simp [emStep, h.le], fun y hy hy0 => by simp only [emStep, getLast?_snoc] at hy; cases hy; exact absurd rfl hy0⟩
  | del m l => exact ⟨h.inv.push _, by simp [emStep, h.le], fun y hy hy0 => by simp only [emStep, getLast?_snoc] at hy; cases hy; exact absurd rfl hy0⟩
  | link d l => exact ⟨h.inv.push _, by simp [emStep, h.le], fun y hy hy0 => by simp only [emStep, getLast?_snoc] at hy; cases hy; exact absurd rfl hy0⟩
  | image d l => exact ⟨h.inv.push _, by simp [emStep, h.le], fun y hy hy0 => by simp only [emStep, getLast?_snoc] at hy; cases hy; exact absurd rfl hy0⟩
theorem emS0_inv : EInv emS0 := by
  refine ⟨rfl, fun k ps hk p hp => ?_, fun k ps hk => ?_⟩
  · unfold emS0 at hk
    dsimp only at hk
    match k with
    | 0 | 1 | 2 | 3 | 4 => simp at hk; subst hk; cases hp
    | k + 5 => simp at hk
  · unfold emS0 at hk
    dsimp only at hk
    match k with
    | 0 | 1 | 2 | 3 | 4 => simp at hk; subst hk; exact .nil
    | k + 5 => simp at hk
/-- What holds ahead of each part of the list. -/
theorem em_at {src : List In} (hw : ∀ x ∈ src, EmWF x) (ha : Apart src) : ∀ (i : Nat) (x : In), src[i]? = some x → EGood ((src.take i).foldl emStep emS0) i x
  | 0, x, _ => ⟨emS0_inv, Nat.le_refl _, fun y hy => by cases hy⟩
  | i + 1, x, hx => by
    have hlt := (List.getElem?_eq_some_iff.1 hx).1
    obtain ⟨y, hy⟩ : ∃ y, src[i]? = some y := ⟨_, List.getElem?_eq_getElem (by omega)⟩
    have ih := em_at hw ha i y hy
    obtain ⟨h1, h2, h3⟩ := emStep_inv (hw y (List.mem_of_getElem? hy)) ih
    rw [List.take_add_one, hy, List.foldl_append]
    simp only [Option.toList, List.foldl_cons, List.foldl_nil]
    refine ⟨h1, h2, fun z hz hz0 => ?_⟩
    have := h3 z hz hz0
    rw [this]
    exact ha i y x hy hx (by rw [← this]; exact hz0)
end Go.Proofs

/- impl.inline and impl.inlines turn such inlines into nodes. Conditions: the inlines are plain texts, code, emphasis, strong emphasis and deletions. impl.put turns such a node into an inline. Conditions: as for D3. impl.written turns such nodes into inlines. Conditions: as for D3. Such inlines put their HTML into a buffer. Conditions: no text is longer than 10,000 bytes. The tokens of two words with a struck word between them, and of a text taken as it is: plain facts on lists. Conditions: Word. -/
import Derived.Test.YtjbpohkcmgelkaaGreatDoorT16
import Derived.Test.YtjbpohkcmgelkaaGreatDoorT13
import Derived.Test.YtjbpohkcmgelkaaGreatDoorT14
import Derived.Test.YtjbpohkcmgelkaaGreatDoorT12
namespace Go.Proofs
open Go Go.Eng
set_option maxRecDepth 20000
set_option maxHeartbeats 1000000

/-! Inlines as plain data. -/
/-- What a node holds. -/
structure ND where
  k : Nat
  t : List UInt8
  m : List UInt8
  sv : Value
abbrev ND.cells (n : ND) : List Value := [inat n.k, str n.t, str [], .int .i64 0, str [], .bool false, .slice none 0 0, n.sv, .int .i64 0, .int .i64 0, str n.m, .int .i64 0, .bool false, .bool false, .bool false, .slice none 0 0]
abbrev Nods (v : Value) (ns : List ND) (B : Blk) : Prop := Own 92 16 v ns.length (ns.flatMap ND.cells) B
mutual
inductive NodeR : In → ND → Blk → Prop
  | plain {t : List UInt8} : NodeR (.plain t) ⟨20, t, [], .slice none 0 0⟩ []
  | code {t : List UInt8} : NodeR (.code t) ⟨23, t, [], .slice none 0 0⟩ []
  | emph {m : List UInt8} {l : List In} {sv : Value} {ns : List ND} {LB NB : Blk} (hL : Nods sv ns LB) (hN : NodesR l ns NB) : NodeR (.emph m l) ⟨24, [], m, sv⟩ (LB ++ NB)
  | strong {m : List UInt8} {l : List In} {sv : Value} {ns : List ND} {LB NB : Blk} (hL : Nods sv ns LB) (hN : NodesR l ns NB) : NodeR (.strong m l) ⟨25, [], m, sv⟩ (LB ++ NB)
  | del {m : List UInt8} {l : List In} {sv : Value} {ns : List ND} {LB NB : Blk} (hL : Nods sv ns LB) (hN : NodesR l ns NB) : NodeR (.del m l) ⟨26, [], m, sv⟩ (LB ++ NB)
inductive NodesR : List In → List ND → Blk → Prop
  | nil : NodesR [] [] []
  | cons {x : In} {l : List In} {n : ND} {ns : List ND} {G K : Blk} (h : NodeR x n G) (hs : NodesR l ns K) : NodesR (x :: l) (n :: ns) (G ++ K)
end
theorem NodesR.length : ∀ {l : List In} {ns : List ND} {K : Blk}, NodesR l ns K → ns.length = l.length
  | [], _, _, h => by cases h; rfl
  | x :: l, _, _, h => by
    cases h with
    | cons h hs => simp [hs.length]
theorem NodesR.snoc : ∀ {l : List In} {ns : List ND} {K G : Blk} {x : In} {n : ND}, NodesR l ns K → NodeR x n G → NodesR (l ++ [x]) (ns ++ [n]) (K ++ G)
  | [], _, _, G, x, n, h, hx => by
    cases h
    have := NodesR.cons hx NodesR.nil
    simpa using this
  | y :: l, _, _, G, x, n, h, hx => by
    cases h with
    | cons h hs =>
      have := NodesR.cons h (NodesR.snoc hs hx)
      simpa using this
theorem NodesR.splitAt : ∀ {l : List In} {ns : List ND} {K : Blk} (j : Nat) {x : In}, NodesR l ns K → l[j]? = some x → ∃ n K1 G K2, ns[j]? = some n ∧ NodeR x n G ∧ K = K1 ++ (G ++ K2)
  | [], _, _, j, x, _, h => by simp at h
  | y :: l, _, _, 0, x, h, hx => by
    cases h with
    | cons h hs =>
      simp at hx
      subst hx
      exact ⟨_, [], _, _, rfl, h, rfl⟩
  | y :: l, _, _, j + 1, x, h, hx => by
    cases h with
    | @cons _ _ _ _ G0 K0 h hs =>
      obtain ⟨n, K1, G, K2, h1, h2, h3⟩ := NodesR.splitAt j hs (by simpa using hx)
      exact ⟨n, G0 ++ K1, G, K2, by simpa using h1, h2, by rw [h3]; simp⟩
theorem InsR.splitAt : ∀ {l : List In} {vs : List Value} {K : Blk} (j : Nat) {x : In}, InsR l vs K → l[j]? = some x → ∃ v K1 G K2, vs[j]? = some v ∧ InR x v G ∧ K = K1 ++ (G ++ K2)
  | [], _, _, j, x, _, h => by simp at h
  | y :: l, _, _, 0, x, h, hx => by
    cases h with
    | cons h hs =>
      simp at hx
      subst hx
      exact ⟨_, [], _, _, rfl, h, rfl⟩
  | y :: l, _, _, j + 1, x, h, hx => by
    cases h with
    | @cons _ _ _ _ G0 K0 h hs =>
      obtain ⟨n, K1, G, K2, h1, h2, h3⟩ := InsR.splitAt j hs (by simpa using hx)
      exact ⟨n, G0 ++ K1, G, K2, by simpa using h1, h2, by rw [h3]; simp⟩
theorem Own.isSliceD {E sz : Nat} {v : Value} {m : Nat} {xs : List Value} {Bk : Blk} (h : Own E sz v m xs Bk) : ∃ a c, v = .slice a m c := by
  rcases h.2 with ⟨rfl, rfl, rfl⟩ | ⟨g, cap, cur, rfl, _⟩
  · exact ⟨_, _, rfl⟩
  · exact ⟨_, _, rfl⟩
theorem NodeR.sv {x : In} {n : ND} {K : Blk} (h : NodeR x n K) : ∃ a m c, n.sv = .slice a m c := by
  cases h with
  | plain => exact ⟨_, _, _, rfl⟩
  | code => exact ⟨_, _, _, rfl⟩
  | emph hL hN => obtain ⟨a, c, e⟩ := Own.isSliceD hL; exact ⟨_, _, _, e⟩
  | strong hL hN => obtain ⟨a, c, e⟩ := Own.isSliceD hL; exact ⟨_, _, _, e⟩
  | del hL hN => obtain ⟨a, c, e⟩ := Own.isSliceD hL; exact ⟨_, _, _, e⟩
theorem subE {H H' : Heap} (h : H.flatten = H'.flatten) : SubH H H' := ⟨[], by simp [h]⟩
theorem nrms_snoc : ∀ (l : List In) (x : In), nrms (l ++ [x]) = nrms l ++ [nrm x]
  | [], x => rfl
  | y :: l, x => by simp only [List.cons_append, nrms, nrms_snoc l x]

/-! Reading: impl.inline, impl.inlines. -/
theorem zzPlain_tr {v r : Value} (h : TrP Tryz.prog 84 [v] r) : TrP Tryz.prog 58 [v] r := by
  refine Tr.start (n := 5) (rs := [.tmp 2]) rfl rfl rfl rfl fun B => ?_
  (repeat' (first | refine zo (h) ?_ | refine z7 ?_ | refine z6 ?_ | refine z2 ?_ | refine z1 ?_ | refine ze ?_ | refine z8 ?_ | refine za ?_))
  exact e_pure ⟨rfl, rfl⟩
abbrev InlineT (x : In) : Prop := ∀ (v : Value) (K : Blk), InR x v K → Tr Tryz.prog 45 [v] [K] fun u H => ∃ n NK, u = .agg n.cells.toArray ∧ NodeR (nrm x) n NK ∧ H = [K, NK]
abbrev InlinesT (l : List In) : Prop := ∀ (sv : Value) (vals : List Value) (LB IB : Blk), Inls sv vals LB → InsR l vals IB → Tr Tryz.prog 33 [sv] [LB, IB] fun u H => ∃ ns LB' NB, Nods u ns LB' ∧ NodesR (nrms l) ns NB ∧ H = [LB, IB, LB', NB]
theorem inline_text {x : In} {t : List UInt8} (hx : textOf x = some t) (hn : nrm x = .plain t) : InlineT x := by
  intro v K h
  obtain ⟨ty, q, r, T, rfl, hT, rfl⟩ := h.text hx
  have hZ := zzPlain_tr hT
  rw [hn]
  refine Tr.start (n := 179) (rs := [.cell 2 92]) rfl rfl rfl rfl fun B => ?_
  (repeat' (first | refine zo (hZ) ?_ | refine z7 ?_ | refine z6 ?_ | refine z2 ?_ | refine z1 ?_ | refine zc ?_ | refine ze ?_ | refine zx ?_ | refine z8 ?_ | refine za ?_ | refine zn ?_ | refine zp ?_ | refine zq ?_ | refine zdl ?_ | refine zaj ?_ | refine zao ?_ | refine zai (fun _ => ?_)))
  exact e_ret [[(q, cellsOf (str t :: r) T)], []] ⟨⟨20, t, [], .slice none 0 0⟩, [], rfl, .plain, rfl⟩ (SubH.trans (H' := [[(q, cellsOf (str t :: r) T)]]) sA (subE (by simp)))
theorem inline_code (t : List UInt8) : InlineT (.code t) := by
  intro v K h
  obtain ⟨ty, q, e, hT⟩ := h.notext rfl
  cases h
  have hZ := zzPlain_tr hT
  cases e
  refine Tr.start (n := 179) (rs := [.cell 2 92]) rfl rfl rfl rfl fun B => ?_
  (repeat' (first | refine zo (hZ) ?_ | refine z7 ?_ | refine z6 ?_ | refine z2 ?_ | refine z1 ?_ | refine zc ?_ | refine zb ?_ | refine zf ?_ | refine zd ?_ | refine ze ?_ | refine zx ?_ | refine zag ?_ | refine z8 ?_ | refine za ?_ | refine zn ?_ | refine zp ?_ | refine zq ?_ | refine za0 ?_ | refine zcf ?_ | refine zby ?_ | refine zcl ?_ | refine zaj ?_ | refine zao ?_ | refine zai (fun _ => ?_)))
  exact e_ret [[(q, cellsOf [str t] 136)], []] ⟨⟨23, t, [], .slice none 0 0⟩, [], rfl, .code, rfl⟩ (SubH.trans (H' := [[(q, cellsOf [str t] 136)]]) sA (subE (by simp)))
theorem inline_emph (m : List UInt8) (l : List In) (hl : InlinesT l) : InlineT (.emph m l) := by
  intro v K h
  obtain ⟨ty, q, e, hT⟩ := h.notext rfl
  have hZ := zzPlain_tr hT
  cases h with
  | @emph _ _ q sv vals LB IB hL hI =>
  cases e
  refine ⟨fun B w hw => (?_ : Tr Tryz.prog 45 [.iface 137 (lp q)] [[(q, cellsOf [str m, sv] 139)], LB, IB] _).run B w (hw.sub (subE (by simp)))⟩
  refine Tr.start (n := 179) (rs := [.cell 2 92]) rfl rfl rfl rfl fun B => ?_
  (repeat' (first | refine zo (hZ) ?_ | refine z7 ?_ | refine z6 ?_ | refine z2 ?_ | refine z1 ?_ | refine zc ?_ | refine zb ?_ | refine zf ?_ | refine zd ?_ | refine z8 ?_ | refine za ?_ | refine za0 ?_ | refine zcf ?_ | refine zby ?_ | refine zcl ?_ | refine zai (fun _ => ?_)))
  refine Wp.draw_held (id := 19) [[(q, cellsOf [str m, sv] 139)]] 11 Mixed.out sA rfl ?_
  refine hF 0 ?_
  refine hF 1 ?_
  refine hF 2 ?_
  refine hF 3 ?_
  refine hF 4 ?_
  refine hF 5 ?_
  refine hF 6 ?_
  refine hF 7 ?_
  refine hO 8 ?_
  refine za1 (hl sv vals LB IB hL hI) (fun u K hR => ?_)
  obtain ⟨ns, LB', NB, h1, h2, rfl⟩ := hR
  obtain ⟨ia, ic, rfl⟩ := Own.isSliceD h1
  (repeat' (first | refine z2 ?_ | refine z1 ?_))
  refine ⟨sA, ?_⟩
  refine hF 9 ?_
  refine hO 10 ?_
  (repeat' (first | refine z2 ?_ | refine z1 ?_ | refine zaj ?_))
  refine ⟨sA, ?_⟩
  refine OpsH.nil (by kernel_rfl) ?_
  (repeat' (first | refine ze ?_ | refine zx ?_ | refine zag ?_))
  exact e_ret [(q, cellsOf [str m, sv] 139) :: (LB ++ IB), LB' ++ NB] ⟨⟨24, [], m, .slice ia ns.length ic⟩, _, rfl, .emph h1 h2, rfl⟩ (SubH.trans (H' := [[(q, cellsOf [str m, sv] 139)], LB, IB, LB', NB]) sA (subE (by simp)))
theorem inline_strong (m : List UInt8) (l : List In) (hl : InlinesT l) : InlineT (.strong m l) := by
  intro v K h
  obtain ⟨ty, q, e, hT⟩ := h.notext rfl
  have hZ := zzPlain_tr hT
  cases h with
  | @strong _ _ q sv vals LB IB hL hI =>
  cases e
  refine ⟨fun B w hw => (?_ : Tr Tryz.prog 45 [.iface 140 (lp q)] [[(q, cellsOf [str m, sv] 139)], LB, IB] _).run B w (hw.sub (subE (by simp)))⟩
  refine Tr.start (n := 179) (rs := [.cell 2 92]) rfl rfl rfl rfl fun B => ?_
  (repeat' (first | refine zo (hZ) ?_ | refine z7 ?_ | refine z6 ?_ | refine z2 ?_ | refine z1 ?_ | refine zc ?_ | refine zb ?_ | refine zf ?_ | refine zd ?_ | refine z8 ?_ | refine za ?_ | refine za0 ?_ | refine zcf ?_ | refine zby ?_ | refine zcl ?_ | refine zai (fun _ => ?_)))
  refine Wp.draw_held (id := 22) [[(q, cellsOf [str m, sv] 139)]] 11 Mixed.out sA rfl ?_
  refine hF 0 ?_
  refine hF 1 ?_
  refine hF 2 ?_
  refine hF 3 ?_
  refine hF 4 ?_
  refine hF 5 ?_
  refine hF 6 ?_
  refine hF 7 ?_
  refine hO 8 ?_
  refine za1 (hl sv vals LB IB hL hI) (fun u K hR => ?_)
  obtain ⟨ns, LB', NB, h1, h2, rfl⟩ := hR
  obtain ⟨ia, ic, rfl⟩ := Own.isSliceD h1
  (repeat' (first | refine z2 ?_ | refine z1 ?_))
  refine ⟨sA, ?_⟩
  refine hF 9 ?_
  refine hO 10 ?_
  (repeat' (first | refine z2 ?_ | refine z1 ?_ | refine zaj ?_))
  refine ⟨sA, ?_⟩
  refine OpsH.nil (by kernel_rfl) ?_
  (repeat' (first | refine ze ?_ | refine zx ?_ | refine zag ?_))
  exact e_ret [(q, cellsOf [str m, sv] 139) :: (LB ++ IB), LB' ++ NB] ⟨⟨25, [], m, .slice ia ns.length ic⟩, _, rfl, .strong h1 h2, rfl⟩ (SubH.trans (H' := [[(q, cellsOf [str m, sv] 139)], LB, IB, LB', NB]) sA (subE (by simp)))
theorem inline_del (m : List UInt8) (l : List In) (hl : InlinesT l) : InlineT (.del m l) := by
  intro v K h
  obtain ⟨ty, q, e, hT⟩ := h.notext rfl
  have hZ := zzPlain_tr hT
  cases h with
  | @del _ _ q sv vals LB IB hL hI =>
  cases e
  refine ⟨fun B w hw => (?_ : Tr Tryz.prog 45 [.iface 142 (lp q)] [[(q, cellsOf [str m, sv] 139)], LB, IB] _).run B w (hw.sub (subE (by simp)))⟩
  refine Tr.start (n := 179) (rs := [.cell 2 92]) rfl rfl rfl rfl fun B => ?_
  (repeat' (first | refine zo (hZ) ?_ | refine z7 ?_ | refine z6 ?_ | refine z2 ?_ | refine z1 ?_ | refine zc ?_ | refine zb ?_ | refine zf ?_ | refine zd ?_ | refine z8 ?_ | refine za ?_ | refine za0 ?_ | refine zcf ?_ | refine zby ?_ | refine zcl ?_ | refine zai (fun _ => ?_)))
  refine Wp.draw_held (id := 25) [[(q, cellsOf [str m, sv] 139)]] 11 Mixed.out sA rfl ?_
  refine hF 0 ?_
  refine hF 1 ?_
  refine hF 2 ?_
  refine hF 3 ?_
  refine hF 4 ?_
  refine hF 5 ?_
  refine hF 6 ?_
  refine hF 7 ?_
  refine hO 8 ?_
  refine za1 (hl sv vals LB IB hL hI) (fun u K hR => ?_)
  obtain ⟨ns, LB', NB, h1, h2, rfl⟩ := hR
  obtain ⟨ia, ic, rfl⟩ := Own.isSliceD h1
  (repeat' (first | refine z2 ?_ | refine z1 ?_))
  refine ⟨sA, ?_⟩
  refine hF 9 ?_
  refine hO 10 ?_
  (repeat' (first | refine z2 ?_ | refine z1 ?_ | refine zaj ?_))
  refine ⟨sA, ?_⟩
  refine OpsH.nil (by kernel_rfl) ?_
  (repeat' (first | refine ze ?_ | refine zx ?_ | refine zag ?_))
  exact e_ret [(q, cellsOf [str m, sv] 139) :: (LB ++ IB), LB' ++ NB] ⟨⟨26, [], m, .slice ia ns.length ic⟩, _, rfl, .del h1 h2, rfl⟩ (SubH.trans (H' := [[(q, cellsOf [str m, sv] 139)], LB, IB, LB', NB]) sA (subE (by simp)))
/-- Where the loop stands. -/
structure IL where
  j : Nat
  ns : List ND
  v : Value
  R : Blk
  N : Blk
theorem nods_grow {v : Value} {ns : List ND} {n : ND} {R : Blk} (h : Own 92 16 v (ns.length + 1) (ns.flatMap ND.cells ++ (n.cells).take 16) R) : Nods v (ns ++ [n]) R := by
  have e : (ns ++ [n]).flatMap ND.cells = ns.flatMap ND.cells ++ (n.cells).take 16 := by simp
  have e2 : (ns ++ [n]).length = ns.length + 1 := by simp
  unfold Nods
  rw [e, e2]
  exact h
theorem inlines_of {l : List In} (hll : l.length ≤ 100000) (h : ∀ (j : Nat) (x : In), l[j]? = some x → InlineT x) : InlinesT l := by
  intro sv vals LB IB hL hI
  have hvl := hI.length
  obtain ⟨ia, ic, rfl⟩ := Own.isSliceD hL
  refine Tr.start (n := 19) (rs := [.tmp 2]) rfl rfl rfl rfl fun B => ?_
  (repeat' (first | refine z7 ?_ | refine z6 ?_ | refine z2 ?_ | refine z1 ?_ | refine zf ?_ | refine z8 ?_ | refine za ?_ | refine zah ?_))
  refine za6 (fun y : IL => [(3, y.v), (6, .slice ia vals.length ic), (7, inat vals.length), (8, inat y.j)]) (fun y => [LB, IB, y.R, y.N]) (fun y => y.j ≤ l.length ∧ y.ns.length = y.j ∧ Nods y.v y.ns y.R ∧ NodesR (nrms (l.take y.j)) y.ns y.N) (fun y => l.length - y.j) ⟨0, [], .slice none 0 0, [], []⟩ ⟨Nat.zero_le _, rfl, Own.nil _ _, .nil⟩ kB (subE (by simp)) fun y hy => ?_
  obtain ⟨j, ns, v, R, N⟩ := y
  obtain ⟨hj, hns, hO, hN⟩ := hy
  dsimp only at hj hns hO hN ⊢
  by_cases hlt : j < l.length
  · obtain ⟨x, hx⟩ : ∃ x, l[j]? = some x := ⟨_, List.getElem?_eq_getElem hlt⟩
    obtain ⟨w, K1, G, K2, h1, h2, rfl⟩ := hI.splitAt j hx
    have hT := h j x hx w G h2
    rcases hL.2 with ⟨e, e2, _⟩ | ⟨g, cap, cur, e, rfl, k1, k2, k3, k4⟩
    · omega
    · injection e with e3 e4 e5
      subst e3 e5
      have hc : cur[0 + j * 1]? = some w := by
        have h3 : (cur.take (vals.length * 1))[j]? = some w := by rw [k4]; exact h1
        rw [List.getElem?_take] at h3
        split at h3
        · rw [show 0 + j * 1 = j by omega]; exact h3
        · cases h3
      refine Wp.weak _ [[(g, cellsOf cur 89)], K1, G, K2, R, N] (fun _ _ h => h) (subE (by simp)) ?_
      (repeat' (first | refine zn (hc := hc) ?_ | refine z7 ?_ | refine z6 ?_ | refine z2 ?_ | refine z1 ?_ | refine zc ?_ | refine zf ?_ | refine zd ?_ | refine z8 ?_ | refine za ?_ | refine zm ?_ | refine zal ?_))
      refine za1 hT (fun u K hR => ?_)
      obtain ⟨n, NK, rfl, hNK, rfl⟩ := hR
      obtain ⟨ja, jm, jc, hsv⟩ := hNK.sv
      obtain ⟨nk, nt, nm, nv⟩ := n
      dsimp only at hsv
      subst hsv
      (repeat' (first | refine zdn (fun _ => ?_)))
      refine zbz hO (by omega) (fun v' R' hO' => ?_)
      (repeat' (first | refine z6 ?_ | refine z2 ?_ | refine z1 ?_ | refine zu ?_ | refine z8 ?_ | refine za ?_ | refine zl ?_))
      refine ⟨⟨j + 1, ns ++ [⟨nk, nt, nm, .slice ja jm jc⟩], v', R', N ++ NK⟩, kB, (SubH.trans (H' := [[(g, cellsOf cur 89)], K1, G, K2, R', N, NK]) sA (subE (by simp))), ⟨by dsimp only; omega, by simp; omega, nods_grow hO', ?_⟩, by dsimp only; omega⟩
      dsimp only
      rw [List.take_add_one, hx]
      simp only [Option.toList]
      rw [nrms_snoc]
      exact hN.snoc hNK
  · have : j = l.length := by omega
    subst this
    rw [List.take_length] at hN
    (repeat' (first | refine z7 ?_ | refine z6 ?_ | refine z2 ?_ | refine z1 ?_ | refine zb ?_ | refine zw ?_ | refine zy ?_ | refine zz ?_ | refine ze ?_ | refine z8 ?_ | refine za ?_ | refine za4 ?_))
    exact e_ret (vs := [v]) [LB, IB, R, N] ⟨ns, R, N, hO, hN, rfl⟩ sA
mutual
theorem inline_t : ∀ (x : In), Smp x → wtI x ≤ 100000 → InlineT x
  | .plain t, _, _ => inline_text rfl rfl
  | .em t _ _ _, _, _ => inline_text rfl rfl
  | .code t, _, _ => inline_code t
  | .emph m l, h, hw => inline_emph m l (inlines_of (by have := len_wt l h.2; simp only [wtI] at hw; omega) (inline_ts l h.2 (by simp only [wtI] at hw; omega)))
  | .strong m l, h, hw => inline_strong m l (inlines_of (by have := len_wt l h.2; simp only [wtI] at hw; omega) (inline_ts l h.2 (by simp only [wtI] at hw; omega)))
  | .del m l, h, hw => inline_del m l (inlines_of (by have := len_wt l h.2; simp only [wtI] at hw; omega) (inline_ts l h.2 (by simp only [wtI] at hw; omega)))
  | .esc _, h, _ => h.elim
  | .soft, h, _ => h.elim
  | .hard, h, _ => h.elim
  | .auto _ _, h, _ => h.elim
  | .tag _, h, _ => h.elim
  | .op _ _, h, _ => h.elim
  | .link _ _, h, _ => h.elim
  | .image _ _, h, _ => h.elim
theorem inline_ts : ∀ (l : List In), Smps l → wtIs l ≤ 100000 → ∀ (j : Nat) (x : In), l[j]? = some x → InlineT x
  | [], _, _, j, x, e => by simp at e
  | y :: l, h, hw, 0, x, e => by
    simp at e
    subst e
    exact inline_t y h.1 (by simp only [wtIs] at hw; omega)
  | y :: l, h, hw, j + 1, x, e => inline_ts l h.2 (by simp only [wtIs] at hw; omega) j x (by simpa using e)
end
theorem inlines_tr {l : List In} (h : Smps l) (hw : wtIs l ≤ 100000) : InlinesT l := inlines_of (by have := len_wt l h; omega) (inline_ts l h hw)
end Go.Proofs

namespace Go.Proofs
open Go Go.Eng
set_option maxRecDepth 20000
set_option maxHeartbeats 1000000

/-! Writing: impl.put, impl.written. -/
mutual
/-- An inline in memory, whatever its cells are called. -/
inductive InP : In → Value → Blk → Prop
  | plain {t : List UInt8} {q T : Nat} {r : List Value} : InP (.plain t) (.iface 161 (lp q)) [(q, cellsOf (str t :: r) T)]
  | em {t : List UInt8} {o c : Bool} {n q T : Nat} {r : List Value} : InP (.em t o c n) (.iface 202 (lp q)) [(q, cellsOf (str t :: r) T)]
  | code {t : List UInt8} {q : Nat} : InP (.code t) (.iface 134 (lp q)) [(q, cellsOf [str t] 136)]
  | emph {m : List UInt8} {l : List In} {q T : Nat} {sv : Value} {vals : List Value} {LB IB : Blk} (hL : Inls sv vals LB) (hI : InsP l vals IB) : InP (.emph m l) (.iface 137 (lp q)) ((q, cellsOf [str m, sv] T) :: (LB ++ IB))
  | strong {m : List UInt8} {l : List In} {q T : Nat} {sv : Value} {vals : List Value} {LB IB : Blk} (hL : Inls sv vals LB) (hI : InsP l vals IB) : InP (.strong m l) (.iface 140 (lp q)) ((q, cellsOf [str m, sv] T) :: (LB ++ IB))
  | del {m : List UInt8} {l : List In} {q T : Nat} {sv : Value} {vals : List Value} {LB IB : Blk} (hL : Inls sv vals LB) (hI : InsP l vals IB) : InP (.del m l) (.iface 142 (lp q)) ((q, cellsOf [str m, sv] T) :: (LB ++ IB))
inductive InsP : List In → List Value → Blk → Prop
  | nil : InsP [] [] []
  | cons {x : In} {l : List In} {v : Value} {vs : List Value} {G K : Blk} (h : InP x v G) (hs : InsP l vs K) : InsP (x :: l) (v :: vs) (G ++ K)
end
theorem InsP.length : ∀ {l : List In} {vs : List Value} {K : Blk}, InsP l vs K → vs.length = l.length
  | [], _, _, h => by cases h; rfl
  | x :: l, _, _, h => by
    cases h with
    | cons h hs => simp [hs.length]
theorem InsP.snoc : ∀ {l : List In} {vs : List Value} {K G : Blk} {x : In} {v : Value}, InsP l vs K → InP x v G → InsP (l ++ [x]) (vs ++ [v]) (K ++ G)
  | [], _, _, G, x, v, h, hx => by
    cases h
    have := InsP.cons hx InsP.nil
    simpa using this
  | y :: l, _, _, G, x, v, h, hx => by
    cases h with
    | cons h hs =>
      have := InsP.cons h (InsP.snoc hs hx)
      simpa using this
mutual
theorem toP : ∀ (x : In) {v : Value} {K : Blk}, Smp x → InR x v K → InP x v K
  | .plain t, _, _, _, h => by cases h; exact .plain
  | .em _ _ _ _, _, _, _, h => by cases h; exact .em
  | .code t, _, _, _, h => by cases h; exact .code
  | .emph m l, _, _, hs, .emph hL hI => .emph hL (toPs l hs.2 hI)
  | .strong m l, _, _, hs, .strong hL hI => .strong hL (toPs l hs.2 hI)
  | .del m l, _, _, hs, .del hL hI => .del hL (toPs l hs.2 hI)
  | .esc _, _, _, h, _ => h.elim
  | .soft, _, _, h, _ => h.elim
  | .hard, _, _, h, _ => h.elim
  | .auto _ _, _, _, h, _ => h.elim
  | .tag _, _, _, h, _ => h.elim
  | .op _ _, _, _, h, _ => h.elim
  | .link _ _, _, _, h, _ => h.elim
  | .image _ _, _, _, h, _ => h.elim
theorem toPs : ∀ (l : List In) {vs : List Value} {K : Blk}, Smps l → InsR l vs K → InsP l vs K
  | [], _, _, _, .nil => .nil
  | x :: l, _, _, hs, .cons h hI => .cons (toP x hs.1 h) (toPs l hs.2 hI)
end
theorem written_nil : TrP Tryz.prog 32 [.slice none 0 0] (.slice none 0 0) := by
  refine Tr.start (n := 19) (rs := [.tmp 2]) rfl rfl rfl rfl fun B => ?_
  (repeat' (first | refine z7 ?_ | refine z6 ?_ | refine z2 ?_ | refine z1 ?_ | refine zf ?_ | refine z8 ?_ | refine za ?_ | refine zah ?_))
  refine za6 (fun _ : Unit => [(3, .slice none 0 0), (6, .slice none 0 0), (7, inat 0), (8, inat 0)]) (fun _ => []) (fun _ => True) (fun _ => 0) () trivial kB sA fun y hy => ?_
  (repeat' (first | refine z7 ?_ | refine z6 ?_ | refine z2 ?_ | refine z1 ?_ | refine zb ?_ | refine zw ?_ | refine zy ?_ | refine zz ?_ | refine ze ?_ | refine z8 ?_ | refine za ?_ | refine za4 ?_))
  exact e_pure ⟨rfl, rfl⟩
abbrev PutT (x : In) : Prop := ∀ (n : ND) (NK : Blk), NodeR x n NK → Tr Tryz.prog 44 [.agg n.cells.toArray] [NK] fun u H => ∃ K, InP x u K ∧ H = [NK, K]
abbrev WrittenT (l : List In) : Prop := ∀ (sv : Value) (ns : List ND) (LB NB : Blk), Nods sv ns LB → NodesR l ns NB → Tr Tryz.prog 32 [sv] [LB, NB] fun u H => ∃ vals IL IB, Inls u vals IL ∧ InsP l vals IB ∧ H = [LB, NB, IL, IB]
theorem put_plain (t : List UInt8) : PutT (.plain t) := by
  intro n NK h
  cases h
  dsimp only [ND.cells]
  refine Tr.start (n := 131) (rs := [.tmp 2]) rfl rfl rfl rfl fun B => ?_
  (repeat' (first | refine zo (written_nil) ?_ | refine z7 ?_ | refine z6 ?_ | refine z2 ?_ | refine z1 ?_ | refine zb ?_ | refine zf ?_ | refine zd ?_ | refine zu ?_ | refine ze ?_ | refine za ?_ | refine zn ?_ | refine zp ?_ | refine zr ?_ | refine zan ?_ | refine zao ?_ | refine zaf (fun _ => ?_)))
  rename_i r1 r2
  exact e_ret [[], [(r2, cellsOf [str t] 158)]] ⟨_, .plain, rfl⟩ (SubH.trans (H' := [[(r2, cellsOf [str t] 158)]]) sA (subE (by simp)))
theorem put_code (t : List UInt8) : PutT (.code t) := by
  intro n NK h
  cases h
  dsimp only [ND.cells]
  refine Tr.start (n := 131) (rs := [.tmp 2]) rfl rfl rfl rfl fun B => ?_
  (repeat' (first | refine zo (written_nil) ?_ | refine z7 ?_ | refine z6 ?_ | refine z2 ?_ | refine z1 ?_ | refine zc ?_ | refine zb ?_ | refine zf ?_ | refine ze ?_ | refine zx ?_ | refine zag ?_ | refine za ?_ | refine zn ?_ | refine zp ?_ | refine zt ?_ | refine zr ?_ | refine zan ?_ | refine zao ?_ | refine zaf (fun _ => ?_)))
  rename_i r1 r2
  exact e_ret [[], [(r2, cellsOf [str t] 136)]] ⟨_, .code, rfl⟩ (SubH.trans (H' := [[(r2, cellsOf [str t] 136)]]) sA (subE (by simp)))
theorem put_emph (m : List UInt8) (l : List In) (hl : WrittenT l) : PutT (.emph m l) := by
  intro n NK h
  cases h with
  | @emph _ _ sv ns LB NB hL hN =>
  refine ⟨fun B w hw => (?_ : Tr Tryz.prog 44 [.agg (⟨24, [], m, sv⟩ : ND).cells.toArray] [LB, NB] _).run B w (hw.sub (subE (by simp)))⟩
  dsimp only [ND.cells]
  refine Tr.start (n := 131) (rs := [.tmp 2]) rfl rfl rfl rfl fun B => ?_
  (repeat' (first | refine z7 ?_ | refine z6 ?_ | refine z2 ?_ | refine z1 ?_ | refine za ?_ | refine zn ?_ | refine zp ?_ | refine zaf (fun _ => ?_)))
  refine za1 (hl sv ns LB NB hL hN) (fun u K hR => ?_)
  obtain ⟨vals, IL, IB, h1, h2, rfl⟩ := hR
  obtain ⟨ia, ic, rfl⟩ := Own.isSliceD h1
  (repeat' (first | refine z7 ?_ | refine z6 ?_ | refine z2 ?_ | refine z1 ?_ | refine zc ?_ | refine zb ?_ | refine zf ?_ | refine ze ?_ | refine zx ?_ | refine zag ?_ | refine z8 ?_ | refine za ?_ | refine zn ?_ | refine zp ?_ | refine zt ?_ | refine zr ?_ | refine zan ?_ | refine zao ?_ | refine zaf (fun _ => ?_)))
  rename_i r
  exact e_ret [LB ++ NB, (r, cellsOf [str m, .slice ia vals.length ic] 139) :: (IL ++ IB)] ⟨_, .emph h1 h2, rfl⟩ (SubH.trans (H' := [LB, NB, [(r, cellsOf [str m, .slice ia vals.length ic] 139)], IL, IB]) sA (subE (by simp)))
theorem put_strong (m : List UInt8) (l : List In) (hl : WrittenT l) : PutT (.strong m l) := by
  intro n NK h
  cases h with
  | @strong _ _ sv ns LB NB hL hN =>
  refine ⟨fun B w hw => (?_ : Tr Tryz.prog 44 [.agg (⟨25, [], m, sv⟩ : ND).cells.toArray] [LB, NB] _).run B w (hw.sub (subE (by simp)))⟩
  dsimp only [ND.cells]
  refine Tr.start (n := 131) (rs := [.tmp 2]) rfl rfl rfl rfl fun B => ?_
  (repeat' (first | refine z7 ?_ | refine z6 ?_ | refine z2 ?_ | refine z1 ?_ | refine za ?_ | refine zn ?_ | refine zp ?_ | refine zaf (fun _ => ?_)))
  refine za1 (hl sv ns LB NB hL hN) (fun u K hR => ?_)
  obtain ⟨vals, IL, IB, h1, h2, rfl⟩ := hR
  obtain ⟨ia, ic, rfl⟩ := Own.isSliceD h1
  (repeat' (first | refine z7 ?_ | refine z6 ?_ | refine z2 ?_ | refine z1 ?_ | refine zc ?_ | refine zb ?_ | refine zf ?_ | refine ze ?_ | refine zx ?_ | refine zag ?_ | refine z8 ?_ | refine za ?_ | refine zn ?_ | refine zp ?_ | refine zt ?_ | refine zr ?_ | refine zan ?_ | refine zao ?_ | refine zaf (fun _ => ?_)))
  rename_i r
  exact e_ret [LB ++ NB, (r, cellsOf [str m, .slice ia vals.length ic] 141) :: (IL ++ IB)] ⟨_, .strong h1 h2, rfl⟩ (SubH.trans (H' := [LB, NB, [(r, cellsOf [str m, .slice ia vals.length ic] 141)], IL, IB]) sA (subE (by simp)))
theorem put_del (m : List UInt8) (l : List In) (hl : WrittenT l) : PutT (.del m l) := by
  intro n NK h
  cases h with
  | @del _ _ sv ns LB NB hL hN =>
  refine ⟨fun B w hw => (?_ : Tr Tryz.prog 44 [.agg (⟨26, [], m, sv⟩ : ND).cells.toArray] [LB, NB] _).run B w (hw.sub (subE (by simp)))⟩
  dsimp only [ND.cells]
  refine Tr.start (n := 131) (rs := [.tmp 2]) rfl rfl rfl rfl fun B => ?_
  (repeat' (first | refine z7 ?_ | refine z6 ?_ | refine z2 ?_ | refine z1 ?_ | refine za ?_ | refine zn ?_ | refine zp ?_ | refine zaf (fun _ => ?_)))
  refine za1 (hl sv ns LB NB hL hN) (fun u K hR => ?_)
  obtain ⟨vals, IL, IB, h1, h2, rfl⟩ := hR
  obtain ⟨ia, ic, rfl⟩ := Own.isSliceD h1
  (repeat' (first | refine z7 ?_ | refine z6 ?_ | refine z2 ?_ | refine z1 ?_ | refine zc ?_ | refine zb ?_ | refine zf ?_ | refine ze ?_ | refine zx ?_ | refine zag ?_ | refine z8 ?_ | refine za ?_ | refine zn ?_ | refine zp ?_ | refine zt ?_ | refine zr ?_ | refine zan ?_ | refine zao ?_ | refine zaf (fun _ => ?_)))
  rename_i r
  exact e_ret [LB ++ NB, (r, cellsOf [str m, .slice ia vals.length ic] 143) :: (IL ++ IB)] ⟨_, .del h1 h2, rfl⟩ (SubH.trans (H' := [LB, NB, [(r, cellsOf [str m, .slice ia vals.length ic] 143)], IL, IB]) sA (subE (by simp)))
end Go.Proofs

namespace Go.Proofs
open Go Go.Eng
set_option maxRecDepth 20000
set_option maxHeartbeats 400000

theorem segOf : ∀ (cs vs : List Value) (o : Nat), o + vs.length ≤ cs.length → (∀ (i : Nat) (v : Value), vs[i]? = some v → cs[o + i]? = some v) → Seg cs o vs.length vs
  | cs, [], 0, _, _ => .stop
  | [], [], o + 1, hl, _ => by simp at hl
  | c :: cs, [], o + 1, hl, h => .drop (segOf cs [] o (by simp at hl ⊢; omega) fun i v e => by simp at e)
  | [], v :: vs, o, hl, h => by simp at hl
  | c :: cs, v :: vs, 0, hl, h => by
    have h0 := h 0 v rfl
    simp at h0
    subst h0
    exact .take (segOf cs vs 0 (by simp at hl ⊢; omega) fun i w e => by have := h (i + 1) w (by simpa using e); simpa using this)
  | c :: cs, v :: vs, o + 1, hl, h => .drop (segOf cs (v :: vs) o (by simp at hl ⊢; omega) fun i w e => by have := h i w e; rw [show o + 1 + i = o + i + 1 by omega] at this; simpa using this)
theorem flat_get : ∀ {ns : List ND} {j : Nat} {n : ND} {i : Nat} {v : Value}, ns[j]? = some n → n.cells[i]? = some v → (ns.flatMap ND.cells)[j * 16 + i]? = some v
  | [], j, n, i, v, h, _ => by simp at h
  | a :: ns, 0, n, i, v, h, hv => by
    simp at h
    subst h
    rw [List.flatMap_cons, Nat.zero_mul, Nat.zero_add, List.getElem?_append_left (List.getElem?_eq_some_iff.1 hv).1]
    exact hv
  | a :: ns, j + 1, n, i, v, h, hv => by
    rw [List.flatMap_cons, List.getElem?_append_right (by simp; omega)]
    rw [show (j + 1) * 16 + i - (ND.cells a).length = j * 16 + i by simp; omega]
    exact flat_get (by simpa using h) hv
/-- Where the loop stands. -/
structure WL where
  j : Nat
  vals : List Value
  v : Value
  R : Blk
  N : Blk
theorem written_of {l : List In} (hll : l.length ≤ 100000) (h : ∀ (j : Nat) (x : In), l[j]? = some x → PutT x) : WrittenT l := by
  intro sv ns LB NB hL hN
  have hnl := hN.length
  obtain ⟨ia, ic, rfl⟩ := Own.isSliceD hL
  refine Tr.start (n := 19) (rs := [.tmp 2]) rfl rfl rfl rfl fun B => ?_
  (repeat' (first | refine z7 ?_ | refine z6 ?_ | refine z2 ?_ | refine z1 ?_ | refine zf ?_ | refine z8 ?_ | refine za ?_ | refine zah ?_))
  refine za6 (fun y : WL => [(3, y.v), (6, .slice ia ns.length ic), (7, inat ns.length), (8, inat y.j)]) (fun y => [LB, NB, y.R, y.N]) (fun y => y.j ≤ l.length ∧ y.vals.length = y.j ∧ Inls y.v y.vals y.R ∧ InsP (l.take y.j) y.vals y.N) (fun y => l.length - y.j) ⟨0, [], .slice none 0 0, [], []⟩ ⟨Nat.zero_le _, rfl, Own.nil _ _, .nil⟩ kB (subE (by simp)) fun y hy => ?_
  obtain ⟨j, vals, v, R, N⟩ := y
  obtain ⟨hj, hvs, hO, hI⟩ := hy
  dsimp only at hj hvs hO hI ⊢
  by_cases hlt : j < l.length
  · obtain ⟨x, hx⟩ : ∃ x, l[j]? = some x := ⟨_, List.getElem?_eq_getElem hlt⟩
    obtain ⟨n, K1, G, K2, h1, h2, rfl⟩ := hN.splitAt j hx
    have hT := h j x hx n G h2
    obtain ⟨ja, jm, jc, hsv⟩ := h2.sv
    obtain ⟨nk, nt, nm, nv⟩ := n
    dsimp only at hsv
    subst hsv
    have hnj := (List.getElem?_eq_some_iff.1 h1).1
    rcases hL.2 with ⟨e, e2, _⟩ | ⟨g, cap, cur, e, rfl, k1, k2, k3, k4⟩
    · omega
    · injection e with e3 e4 e5
      subst e3 e5
      have hc : Seg cur (0 + j * 16) 16 (⟨nk, nt, nm, .slice ja jm jc⟩ : ND).cells := by
        refine segOf cur (⟨nk, nt, nm, .slice ja jm jc⟩ : ND).cells (0 + j * 16) (by simp; omega) fun i w e => ?_
        have hi := (List.getElem?_eq_some_iff.1 e).1
        simp at hi
        have h3 := flat_get h1 e
        rw [← k4, List.getElem?_take] at h3
        split at h3
        · rw [show 0 + j * 16 + i = j * 16 + i by omega]; exact h3
        · cases h3
      dsimp only [ND.cells] at hc hT
      refine Wp.weak _ [[(g, cellsOf cur 92)], K1, G, K2, R, N] (fun _ _ h => h) (subE (by simp)) ?_
      (repeat' (first | refine zak (hc := hc) ?_ | refine z7 ?_ | refine z6 ?_ | refine z2 ?_ | refine z1 ?_ | refine zc ?_ | refine zf ?_ | refine zd ?_ | refine z8 ?_ | refine zm ?_ | refine zal ?_ | refine zak ?_ | refine zaj ?_ | refine zai (fun _ => ?_)))
      refine za1 hT (fun u K hR => ?_)
      obtain ⟨NK, hNK, rfl⟩ := hR
      obtain ⟨ty, q, rfl⟩ : ∃ ty q, u = .iface ty (lp q) := by cases hNK <;> exact ⟨_, _, rfl⟩
      (repeat' (first | refine zb7 (fun _ => ?_)))
      refine zbz hO (by omega) (fun v' R' hO' => ?_)
      (repeat' (first | refine z6 ?_ | refine z2 ?_ | refine z1 ?_ | refine zu ?_ | refine z8 ?_ | refine za ?_ | refine zl ?_))
      refine ⟨⟨j + 1, vals ++ [.iface ty (lp q)], v', R', N ++ NK⟩, kB, (SubH.trans (H' := [[(g, cellsOf cur 92)], K1, G, K2, R', N, NK]) sA (subE (by simp))), ⟨by dsimp only; omega, by simp; omega, ?_, ?_⟩, by dsimp only; omega⟩
      · dsimp only
        unfold Inls
        rw [List.length_append, List.length_singleton]
        exact hO'
      · dsimp only
        rw [List.take_add_one, hx]
        exact hI.snoc hNK
  · have : j = l.length := by omega
    subst this
    rw [List.take_length] at hI
    (repeat' (first | refine z7 ?_ | refine z6 ?_ | refine z2 ?_ | refine z1 ?_ | refine zb ?_ | refine zw ?_ | refine zy ?_ | refine zz ?_ | refine ze ?_ | refine z8 ?_ | refine za ?_ | refine za4 ?_))
    exact e_ret (vs := [v]) [LB, NB, R, N] ⟨vals, R, N, hO, hI, rfl⟩ sA
mutual
theorem put_t : ∀ (x : In), Smp x → wtI x ≤ 100000 → PutT (nrm x)
  | .plain t, _, _ => put_plain t
  | .em t _ _ _, _, _ => put_plain t
  | .code t, _, _ => put_code t
  | .emph m l, h, hw => put_emph m _ (written_of (by rw [nrms_len]; have := len_wt l h.2; simp only [wtI] at hw; omega) (put_ts l h.2 (by simp only [wtI] at hw; omega)))
  | .strong m l, h, hw => put_strong m _ (written_of (by rw [nrms_len]; have := len_wt l h.2; simp only [wtI] at hw; omega) (put_ts l h.2 (by simp only [wtI] at hw; omega)))
  | .del m l, h, hw => put_del m _ (written_of (by rw [nrms_len]; have := len_wt l h.2; simp only [wtI] at hw; omega) (put_ts l h.2 (by simp only [wtI] at hw; omega)))
  | .esc _, h, _ => h.elim
  | .soft, h, _ => h.elim
  | .hard, h, _ => h.elim
  | .auto _ _, h, _ => h.elim
  | .tag _, h, _ => h.elim
  | .op _ _, h, _ => h.elim
  | .link _ _, h, _ => h.elim
  | .image _ _, h, _ => h.elim
theorem put_ts : ∀ (l : List In), Smps l → wtIs l ≤ 100000 → ∀ (j : Nat) (x : In), (nrms l)[j]? = some x → PutT x
  | [], _, _, j, x, e => by simp [nrms] at e
  | y :: l, h, hw, 0, x, e => by
    simp [nrms] at e
    subst e
    exact put_t y h.1 (by simp only [wtIs] at hw; omega)
  | y :: l, h, hw, j + 1, x, e => put_ts l h.2 (by simp only [wtIs] at hw; omega) j x (by simpa [nrms] using e)
end
theorem written_tr {l : List In} (h : Smps l) (hw : wtIs l ≤ 100000) : WrittenT (nrms l) := written_of (by rw [nrms_len]; have := len_wt l h; omega) (put_ts l h hw)
end Go.Proofs

namespace Go.Proofs
open Go Go.Eng
set_option maxRecDepth 40000
set_option maxHeartbeats 1000000

/-! Printing such inlines. -/
theorem shown_ofD {nm : String} {sv : Value} {vals : List Value} {LB G : Blk} {outs : List (List UInt8)} (hO : Own 89 1 sv vals.length vals LB) (hG : ∀ y ∈ LB, y ∈ G) (hl : outs.length = vals.length) (h : ∀ (j : Nat) (v : Value), vals[j]? = some v → ∃ out, outs[j]? = some out ∧ PrnG nm v G out) : ShownG nm sv G outs :=
  ⟨vals, ⟨LB, hO, hG⟩, hl, h⟩
theorem of_oneD {a : Nat × Obj} {G : Blk} (h : ∀ y ∈ [a], y ∈ G) : a ∈ G := h _ (by simp)
mutual
theorem prnD : ∀ (x : In) {v : Value} {K G : Blk}, InP x v K → (∀ y ∈ K, y ∈ G) → SzI x → PrnG "PrintHTML" v G (htmlI x)
  | .plain t, _, _, G, .plain (q := q) (T := T) (r := r), hG, hs => ⟨_, _, rfl, 306, inferInstance, fun w => by kernel_rfl, fun b v l R lr hR hn hl => plainH_tr q b t r T v l R G lr (of_oneD hG) hs hR (by omega)⟩
  | .em t _ _ _, _, _, G, .em (q := q) (T := T) (r := r), hG, hs => ⟨_, _, rfl, 306, inferInstance, fun w => by kernel_rfl, fun b v l R lr hR hn hl => plainH_tr q b t r T v l R G lr (of_oneD hG) hs hR (by omega)⟩
  | .code t, _, _, G, .code (q := q), hG, hs => ⟨_, _, rfl, 268, inferInstance, fun w => by kernel_rfl, fun b v l R lr hR hn hl => codeH_tr q b t v l R G lr (of_oneD hG) hs hR hn (by omega)⟩
  | .emph m l, _, _, G, .emph (q := q) (LB := LB) (IB := IB) hL hI, hG, hs => by
    have h := prnDs l hI (fun y hy => hG y (by simp [hy])) hs
    have hS1 := shown_ofD (G := G) (outs := htmlIs l) hL (fun y hy => hG y (by simp [hy])) (by rw [htmlIs_len, hI.length]) h
    exact ⟨_, _, rfl, 273, inferInstance, fun w => by kernel_rfl, fun b v l2 R lr hR hn hl => emphHG_tr _ b m _ _ v l2 R G lr (hG _ (List.mem_cons_self ..)) hS1 hR (by simp only [htmlI, List.length_append, List.length_cons, List.length_nil] at hl; omega)⟩
  | .strong m l, _, _, G, .strong (q := q) (LB := LB) (IB := IB) hL hI, hG, hs => by
    have h := prnDs l hI (fun y hy => hG y (by simp [hy])) hs
    have hS1 := shown_ofD (G := G) (outs := htmlIs l) hL (fun y hy => hG y (by simp [hy])) (by rw [htmlIs_len, hI.length]) h
    exact ⟨_, _, rfl, 277, inferInstance, fun w => by kernel_rfl, fun b v l2 R lr hR hn hl => strongHG_tr _ b m _ _ v l2 R G lr (hG _ (List.mem_cons_self ..)) hS1 hR (by simp only [htmlI, List.length_append, List.length_cons, List.length_nil] at hl; omega)⟩
  | .del m l, _, _, G, .del (q := q) (LB := LB) (IB := IB) hL hI, hG, hs => by
    have h := prnDs l hI (fun y hy => hG y (by simp [hy])) hs
    have hS1 := shown_ofD (G := G) (outs := htmlIs l) hL (fun y hy => hG y (by simp [hy])) (by rw [htmlIs_len, hI.length]) h
    exact ⟨_, _, rfl, 281, inferInstance, fun w => by kernel_rfl, fun b v l2 R lr hR hn hl => delHG_tr _ b m _ _ v l2 R G lr (hG _ (List.mem_cons_self ..)) hS1 hR (by simp only [htmlI, List.length_append, List.length_cons, List.length_nil] at hl; omega)⟩
theorem prnDs : ∀ (l : List In) {vs : List Value} {K G : Blk}, InsP l vs K → (∀ y ∈ K, y ∈ G) → SzIs l → ∀ (j : Nat) (v : Value), vs[j]? = some v → ∃ out, (htmlIs l)[j]? = some out ∧ PrnG "PrintHTML" v G out
  | [], _, _, _, .nil, _, _, j, v, h => by simp at h
  | x :: l, _, _, G, .cons (v := v0) h hs, hG, hz, j, v, hv => by
    have h1 := prnD x h (fun y hy => hG y (by simp [hy])) hz.1
    have i1 := prnDs l hs (fun y hy => hG y (by simp [hy])) hz.2
    cases j with
    | zero => simp at hv; subst hv; exact ⟨_, rfl, h1⟩
    | succ j => exact i1 j v (by simpa using hv)
end
end Go.Proofs

namespace Go.Proofs
open Go Go.Eng
set_option maxRecDepth 20000
set_option maxHeartbeats 4000000

/-- A word. -/
structure Word (l : List UInt8) : Prop where
  ne : l ≠ []
  len : l.length ≤ 20
  c : ∀ d ∈ l, wch d.toNat
theorem Word.snoc {l : List UInt8} (h : Word l) : ∃ p z, l = p ++ [z] ∧ wch z.toNat := by
  refine ⟨l.dropLast, l.getLast h.ne, (List.dropLast_concat_getLast h.ne).symm, h.c _ (List.getLast_mem h.ne)⟩
theorem Word.cons {l : List UInt8} (h : Word l) : ∃ z s, l = z :: s ∧ wch z.toNat := by
  cases hl : l with
  | nil => exact absurd hl h.ne
  | cons z s => exact ⟨z, s, rfl, h.c z (by rw [hl]; simp)⟩
end Go.Proofs

namespace Go.Proofs
open Go Go.Eng
set_option maxRecDepth 20000
set_option maxHeartbeats 1000000

/-! Images within images: what inline makes of them. -/
theorem unesc_id {tab : Nat → List UInt8} {l : List UInt8} (h : ∀ c ∈ l, c.toNat ≠ 92 ∧ c.toNat ≠ 38) : unescM tab l = l := by
  unfold unescM
  rw [if_neg]
  rintro (h1 | h1)
  · exact (h _ h1).1 rfl
  · exact (h _ h1).2 rfl
/-! The scan's steps. -/
inductive Steps (o : IO) (s : List UInt8) : IS → IS → Prop
  | refl {x : IS} : Steps o s x x
  | step {x y : IS} (h : x.i < s.length) (h2 : x.i < (stepI o s x).i) (h3 : Steps o s (stepI o s x) y) : Steps o s x y
theorem Steps.trans {o : IO} {s : List UInt8} {x y z : IS} (h : Steps o s x y) (h2 : Steps o s y z) : Steps o s x z := by
  induction h with
  | refl => exact h2
  | step a b _ ih => exact .step a b (ih h2)
theorem Steps.run {o : IO} {s : List UInt8} {x y : IS} (h : Steps o s x y) : ∀ f, s.length < x.i + f → ∃ f', s.length < y.i + f' ∧ runI o s f x = runI o s f' y := by
  induction h with
  | refl => exact fun f hf => ⟨f, hf, rfl⟩
  | @step x y a b c ih =>
    intro f hf
    cases f with
    | zero => omega
    | succ f =>
      obtain ⟨f', k1, k2⟩ := ih f (by omega)
      exact ⟨f', k1, by rw [← k2]; conv => lhs; unfold runI
                        rw [if_pos a]⟩
/-! The text, from outside to inside. -/
theorem link_url_le {tab : Nat → List UInt8} {s : List UInt8} {i k j : Nat} {d : LDat} (h : ∀ c ∈ s, c.toNat ≠ 92 ∧ c.toNat ≠ 38) (hk : linkCloseM tab [] s i k = some (d, j)) : d.url.length ≤ s.length := by
  have hsub : ∀ a b : Nat, (unescM tab ((s.take b).drop a)).length ≤ s.length := fun a b => by
    rw [unesc_id (fun c hc => h c (List.mem_of_mem_take (List.mem_of_mem_drop hc)))]
    simp only [List.length_drop, List.length_take]; omega
  have hdest : ∀ (a b : Nat) (u : List UInt8), linkDestM tab s a = some (u, b) → u.length ≤ s.length := fun a b u hd => by
    unfold linkDestM at hd
    split at hd
    · cases hd
    · split at hd
      · cases ha : angF s (s.length + 1) (a + 1) with
        | none => rw [ha] at hd; cases hd
        | some j => rw [ha] at hd; simp at hd; rw [← hd.1]; exact hsub _ _
      · cases ha : plF s (s.length + 1) a 0 with
        | none => rw [ha] at hd; cases hd
        | some j => rw [ha] at hd; simp at hd; rw [← hd.1]; exact hsub _ _
  have hclose : ∀ (x : Nat) (e : LDat) (r : LDat × Nat), e.url.length ≤ s.length → closeAt s x e = some r → r.1.url.length ≤ s.length := fun x e r he hr => by
    unfold closeAt at hr
    split at hr
    · cases hr; exact he
    · cases hr
  have hinl : ∀ r, inlineLinkM tab s i = some r → r.1.url.length ≤ s.length := fun r hr => by
    unfold inlineLinkM at hr
    dsimp only at hr
    split at hr
    · split at hr
      · cases hr
      · rename_i dest b hd
        split at hr
        · split at hr
          · cases hr
          · exact hclose _ _ _ (hdest _ _ _ hd) hr
        · exact hclose _ _ _ (hdest _ _ _ hd) hr
    · exact hclose _ ⟨[], [], 0, false⟩ _ (Nat.zero_le _) hr
  have hsh : shortM [] s i k = none := rfl
  unfold linkCloseM at hk
  split at hk
  · rw [hsh] at hk; cases hk
  · split at hk
    · cases hi : inlineLinkM tab s i with
      | none => rw [hi] at hk; dsimp only at hk; rw [hsh] at hk; cases hk
      | some r => rw [hi] at hk; dsimp only at hk; cases hk; exact hinl _ hi
    · split at hk
      · split at hk
        · rw [hsh] at hk; cases hk
        · exact absurd hk (by simp [tfind])
      · rw [hsh] at hk; cases hk
end Go.Proofs

namespace Go.Proofs
open Go Go.Eng
set_option maxRecDepth 20000
set_option maxHeartbeats 1000000

def hexB (c : UInt8) : Bool := decide (65 ≤ c.toNat ∧ c.toNat ≤ 70 ∨ 97 ≤ c.toNat ∧ c.toNat ≤ 102 ∨ 48 ≤ c.toNat ∧ c.toNat ≤ 57)
theorem hexB_tr (c : UInt8) : TrP Tryz.prog 94 [.int .u8 c.toNat] (.bool (hexB c)) := by
  unfold hexB
  refine Tr.start (n := 25) (rs := [.tmp 2]) rfl rfl rfl rfl fun B => ?_
  (repeat' (first | refine z7 ?_ | refine z6 ?_ | refine z2 ?_ | refine z1 ?_ | refine ze ?_ | refine zh ?_ | refine za2 ?_ | refine zaa ?_ | refine zay ?_ | refine z8 ?_ | refine za ?_ | refine zb8 ?_ | refine zbt ?_ | refine zda ?_ | refine zj ?_ | refine zk ?_ | refine Ops.split_run (fun hg => ?_) (fun hg => ?_) | refine Ops.split_skip (fun hg => ?_) (fun hg => ?_)))
  all_goals (refine e_pure ?_; refine ⟨?_, rfl⟩; simp only [oneOr, Value.bool.injEq]; first | (symm; exact decide_eq_true (by omega)) | (symm; exact decide_eq_false (by omega)) | (rw [decide_eq_decide]; omega))
theorem linkCorner_tr (s : List UInt8) (hl : s.length ≤ 1000000) : Tr Tryz.prog 76 [str s] [] fun u K => ∃ b, u = .bool b ∧ K = [] := by
  refine Tr.start (n := 35) (rs := [.tmp 2]) rfl rfl rfl rfl fun B => ?_
  ((repeat (refine z7 ?_)); refine z6 ?_; (repeat' (first | refine za ?_)); refine z2 ?_; refine z1 ?_)
  ((repeat (refine z7 ?_)); refine z6 ?_; (repeat' (first | refine za ?_)); refine z2 ?_; refine z1 ?_)
  (repeat (refine z7 ?_))
  refine zac [] [] ?_ ?_
  · refine zf ?_
    refine za6 (fun k : Nat => [(0, str s), (3, inat k)]) (fun _ => []) (fun k => k ≤ s.length) (fun k => s.length - k) 0 (Nat.zero_le _) kB sA fun k hk => ?_
    by_cases hlt : k < s.length
    · obtain ⟨c, hc⟩ := get_some hlt
      by_cases h37 : c.toNat = 37
      · by_cases h2 : k + 2 < s.length
        · obtain ⟨c1, hc1⟩ := get_some (show k + 1 < s.length by omega)
          obtain ⟨c2, hc2⟩ := get_some h2
          have hP1 := hexB_tr c1
          have hP2 := hexB_tr c2
          cases hb1 : hexB c1 with
          | false =>
            rw [hb1] at hP1
            (repeat' (first | refine zo (hP1) ?_ | refine z7 ?_ | refine z6 ?_ | refine z2 ?_ | refine z1 ?_ | refine zc ?_ | refine zf ?_ | refine zd ?_ | refine ze ?_ | refine zx ?_ | refine zag ?_ | refine zh ?_ | refine zaa ?_ | refine z8 ?_ | refine za ?_ | refine zl ?_ | refine zb3 ?_ | refine zm ?_ | refine zab ?_ | refine zt ?_ | refine zj ?_ | refine zk ?_ | refine zg ?_ | refine zi ?_ | refine zam ?_))
            exact e_ret _ ⟨true, rfl, rfl⟩ sA
          | true =>
            cases hb2 : hexB c2 with
            | false =>
              rw [hb1] at hP1
              rw [hb2] at hP2
              (repeat' (first | refine zo (hP1) ?_ | refine zo (hP2) ?_ | refine z7 ?_ | refine z6 ?_ | refine z2 ?_ | refine z1 ?_ | refine zc ?_ | refine zf ?_ | refine zd ?_ | refine ze ?_ | refine zx ?_ | refine zag ?_ | refine zh ?_ | refine z8 ?_ | refine za ?_ | refine zl ?_ | refine zb3 ?_ | refine zm ?_ | refine zab ?_ | refine zt ?_ | refine zk ?_ | refine zg ?_ | refine zi ?_ | refine zaq ?_ | refine zam ?_))
              exact e_ret _ ⟨true, rfl, rfl⟩ sA
            | true =>
              rw [hb1] at hP1
              rw [hb2] at hP2
              (repeat' (first | refine zo (hP1) ?_ | refine zo (hP2) ?_ | refine z7 ?_ | refine z6 ?_ | refine z2 ?_ | refine z1 ?_ | refine zc ?_ | refine zb ?_ | refine zf ?_ | refine zd ?_ | refine zu ?_ | refine zh ?_ | refine z8 ?_ | refine za ?_ | refine zl ?_ | refine zb3 ?_ | refine zm ?_ | refine zab ?_ | refine zt ?_ | refine zk ?_ | refine zg ?_ | refine zi ?_ | refine zaq ?_))
              exact ⟨k + 1, kB, sA, by omega, by omega⟩
        · (repeat' (first | refine z7 ?_ | refine z6 ?_ | refine z2 ?_ | refine z1 ?_ | refine zc ?_ | refine zf ?_ | refine zd ?_ | refine ze ?_ | refine zx ?_ | refine zag ?_ | refine zaa ?_ | refine z8 ?_ | refine za ?_ | refine zb3 ?_ | refine zm ?_ | refine zas ?_ | refine zt ?_ | refine zj ?_ | refine zg ?_ | refine zi ?_))
          exact e_ret _ ⟨true, rfl, rfl⟩ sA
      · (repeat' (first | refine z7 ?_ | refine z6 ?_ | refine z2 ?_ | refine z1 ?_ | refine zc ?_ | refine zb ?_ | refine zf ?_ | refine zd ?_ | refine zu ?_ | refine z8 ?_ | refine za ?_ | refine zl ?_ | refine zm ?_ | refine zr ?_ | refine zg ?_ | refine zi ?_))
        exact ⟨k + 1, kB, sA, by omega, by omega⟩
    · (repeat' (first | refine z7 ?_ | refine z6 ?_ | refine z2 ?_ | refine z1 ?_ | refine zb ?_ | refine zw ?_ | refine zy ?_ | refine zz ?_ | refine z8 ?_ | refine za4 ?_ | refine zg ?_))
      exact ⟨kA, sA⟩
  · (repeat' (first | refine z7 ?_ | refine z6 ?_ | refine z2 ?_ | refine z1 ?_ | refine ze ?_ | refine za ?_))
    exact e_ret _ ⟨false, rfl, rfl⟩ sA

theorem setSeg_all : ∀ (vs cs : List Value), cs.length = vs.length → setSeg cs 0 vs = vs
  | [], [], _ => rfl
  | v :: vs, c :: cs, h => by
    show setSeg (v :: cs) (0 + 1) vs = v :: vs
    rw [setSeg_cons_succ, setSeg_all vs cs (by simpa using h)]
theorem setSeg_bt (s : PS) (vs : List Value) (h : s.bt.length = vs.length) : setSeg s.cells 12 vs = ({ s with bt := vs } : PS).cells := by
  show setSeg (_ :: _ :: _ :: _ :: _ :: _ :: _ :: _ :: _ :: _ :: _ :: _ :: s.bt) 12 vs = _
  simp only [setSeg_cons_succ]
  rw [setSeg_all vs s.bt h]
instance zerBt : Zer Tryz.prog 101 (.agg bt00.vals.toArray) := ⟨fun w => by kernel_rfl⟩
theorem reset_tr (p : Nat) (st : PS) (h : st.bt.length = 81) : TrD Tryz.prog 62 [.pointer (some ⟨p, 12, none⟩)] [st.blk p] unit [({ st with bt := bt00.vals } : PS).blk p] := by
  have hs := setSeg_bt st bt00.vals (by rw [h]; rfl)
  have hle : st.cells.length = 12 + 81 := by simp [PS.cells, h]
  refine Tr.start (n := 5) (rs := []) rfl rfl rfl rfl fun B => ?_
  (repeat (refine z7 ?_))
  refine z6 ?_
  refine z8 ?_
  refine zao ?_
  refine zq ?_
  refine Ops.store_agg (vs := bt00.vals) (k := 81) (b := p) (off := 12) (cs := st.cells) (T := 103) ({ st with bt := bt00.vals } : PS).cells [({ st with bt := bt00.vals } : PS).blk p] Siz.out rfl rfl rfl rfl .here hs (by rw [hle]; rfl) ?_
  (repeat' (first | refine z2 ?_))
  exact e_norm _ ⟨rfl, rfl⟩ sA

/-- emit: what is not yet put out, if anything. -/
theorem emitI_tr (p i e : Nat) (s : PS) (tx : List UInt8) (out : List In) (vals : List Value) (LB IB : Blk) (he : s.em = inat e) (hs : s.str = str tx) (hi : i ≤ tx.length) (hl : tx.length ≤ 140737488355328) (hv : Inls s.list vals LB) (hvl : vals.length ≤ 1000000) (hI : InsR out vals IB) :
    Tr Tryz.prog 73 [lp p, inat i] [s.blk p, LB, IB] fun u K => u = unit ∧ ∃ vals' v' LB' IB' e', Inls v' vals' LB' ∧ InsR (emitI tx e i out) vals' IB' ∧ K = [({ s with list := v', em := inat e' } : PS).blk p, LB', IB'] := by
  by_cases hei : e < i
  · refine Tr.ps (Tr.fr (F := [IB]) (emitP p i e s tx vals LB he hs hei hi hl hv hvl) (by repeat' (first | exact HTakes.nil | exact HTake.here | apply HTakes.cons | apply HTake.there))) ?_
    rintro u K ⟨K0, ⟨rfl, q, v', LB', h1, rfl⟩, rfl⟩
    refine ⟨[({ s with list := v', em := inat i } : PS).blk p, LB', IB ++ [It.cell (.plain ((tx.take i).drop e)) q]], ⟨rfl, _, v', LB', _, i, h1, ?_, rfl⟩, SubH.trans (H' := [_, LB', IB, [It.cell (.plain ((tx.take i).drop e)) q]]) sA ⟨[], by simp⟩⟩
    unfold emitI
    rw [if_pos hei]
    exact hI.snoc .plain
  · obtain ⟨par, root, links, lineno, stack, depth, corner, sv, em, list, lists, texts, bt⟩ := s
    simp only at he hs hv
    subst he
    refine Tr.ps (Tr.fr (F := [LB, IB]) (emit_no p i e (⟨par, root, links, lineno, stack, depth, corner, sv, inat e, list, lists, texts, bt⟩ : PS) rfl (by omega)) (by repeat' (first | exact HTakes.nil | exact HTake.here | apply HTakes.cons | apply HTake.there))) ?_
    rintro u K ⟨K0, ⟨rfl, rfl⟩, rfl⟩
    exact ⟨_, ⟨rfl, vals, list, LB, IB, e, hv, by unfold emitI; rw [if_neg hei]; exact hI, rfl⟩, SubH.refl _⟩
end Go.Proofs

/- Steps of the walk of the program and plain facts on what it computes. Conditions: as each theorem states them. -/
import Derived.Test.YtfnflaloojpckaaGreatDoorT15
import Derived.Test.YtfnflaloojpckaaGreatDoorEngB
namespace Go.Proofs
open Go Go.Eng
set_option maxRecDepth 20000
set_option maxHeartbeats 1000000

abbrev vEm (q : Nat) : Value := .iface 200 (lp q)
abbrev emC (t : List UInt8) (o c : Bool) (i n : Nat) : List Value := [str t, .bool o, .bool c, inat i, inat n]
/-- An inline of the list that is put out: an opener knows its place. -/
inductive InD : Nat → In → Value → Blk → Prop
  | opener {k n q : Nat} {t : List UInt8} {c : Bool} : InD k (.em t true c n) (vEm q) [(q, cellsOf (emC t true c k n) 202)]
  | other {k : Nat} {x : In} {v : Value} {G : Blk} (hx : ∀ t c n, x ≠ .em t true c n) (h : InR x v G) : InD k x v G
inductive DsR : Nat → List In → List Value → Blk → Prop
  | nil {k : Nat} : DsR k [] [] []
  | cons {k : Nat} {x : In} {l : List In} {v : Value} {vs : List Value} {G K : Blk} (h : InD k x v G) (hs : DsR (k + 1) l vs K) : DsR k (x :: l) (v :: vs) (G ++ K)
theorem InD.toR {k : Nat} {x : In} {v : Value} {G : Blk} (h : InD k x v G) : InR x v G := by
  cases h with
  | opener => exact .em
  | other _ h => exact h
theorem DsR.toR : ∀ {k : Nat} {l : List In} {vs : List Value} {K : Blk}, DsR k l vs K → InsR l vs K
  | _, _, _, _, .nil => .nil
  | _, _, _, _, .cons h hs => .cons h.toR hs.toR
theorem DsR.length : ∀ {k : Nat} {l : List In} {vs : List Value} {K : Blk}, DsR k l vs K → vs.length = l.length
  | _, _, _, _, .nil => rfl
  | _, _, _, _, .cons _ hs => by simp [hs.length]
theorem DsR.snoc : ∀ {k : Nat} {l : List In} {vs : List Value} {K G : Blk} {x : In} {v : Value}, DsR k l vs K → InD (k + l.length) x v G → DsR k (l ++ [x]) (vs ++ [v]) (K ++ G)
  | _, _, _, _, G, x, v, .nil, hx => by
    have := DsR.cons (by simpa using hx) DsR.nil
    simpa using this
  | k, _, _, _, G, x, v, .cons (l := l) h hs, hx => by
    have := DsR.cons h (hs.snoc (G := G) (x := x) (v := v) (by rw [show k + 1 + l.length = k + (l.length + 1) by omega]; exact hx))
    simpa using this
theorem DsR.at : ∀ {k : Nat} {l : List In} {vs : List Value} {K : Blk} (j : Nat) {x : In}, DsR k l vs K → l[j]? = some x →
    ∃ K1 G K2 v, K = K1 ++ (G ++ K2) ∧ vs[j]? = some v ∧ InD (k + j) x v G ∧ DsR k (l.take j) (vs.take j) K1 ∧ InsR (l.drop (j + 1)) (vs.drop (j + 1)) K2 ∧ ∀ x' G', InD (k + j) x' v G' → DsR k (l.set j x') vs (K1 ++ (G' ++ K2))
  | k, _, _, _, j, x, .nil, hx => by simp at hx
  | k, _, _, _, 0, x, .cons (G := G) (K := K) (v := v) h hs, hx => by
    simp at hx
    subst hx
    exact ⟨[], G, K, v, rfl, rfl, h, .nil, hs.toR, fun x' G' h' => (DsR.cons h' hs : DsR k (x' :: _) _ (G' ++ K))⟩
  | k, _, _, _, j + 1, x, .cons (G := G0) (K := K0) (v := v0) h hs, hx => by
    obtain ⟨K1, G, K2, v, h1, h2, h3, h4, h5, h6⟩ := hs.at j (by simpa using hx)
    rw [show k + 1 + j = k + (j + 1) by omega] at h3 h6
    refine ⟨G0 ++ K1, G, K2, v, by rw [h1]; simp, by simpa using h2, h3, DsR.cons h h4, by simpa using h5, fun x' G' h' => ?_⟩
    have := DsR.cons h (h6 x' G' h')
    simpa using this

/-- A stack of openers in memory. -/
structure StkR (vals : List Value) (v : Value) (R : Blk) (ps : List Nat) (qs : List Nat) : Prop where
  own : Own 200 1 v ps.length (qs.map lp) R
  len : qs.length = ps.length
  at_ : ∀ (j p q : Nat), ps[j]? = some p → qs[j]? = some q → vals[p]? = some (vEm q)
inductive StksR (vals : List Value) : List (List Nat) → List Value → Blk → Prop
  | nil : StksR vals [] [] []
  | cons {ps qs : List Nat} {st : List (List Nat)} {v : Value} {vs : List Value} {R K : Blk} (h : StkR vals v R ps qs) (hs : StksR vals st vs K) : StksR vals (ps :: st) (v :: vs) (R ++ K)
theorem StksR.length {vals : List Value} : ∀ {st : List (List Nat)} {vs : List Value} {K : Blk}, StksR vals st vs K → vs.length = st.length
  | _, _, _, .nil => rfl
  | _, _, _, .cons _ hs => by simp [hs.length]
theorem StksR.at {vals : List Value} : ∀ {st : List (List Nat)} {vs : List Value} {K : Blk} (j : Nat) {ps : List Nat}, StksR vals st vs K → st[j]? = some ps →
    ∃ A R C v qs, K = A ++ (R ++ C) ∧ vs[j]? = some v ∧ StkR vals v R ps qs ∧ ∀ v' R' ps' qs', StkR vals v' R' ps' qs' → StksR vals (st.set j ps') (vs.set j v') (A ++ (R' ++ C))
  | _, _, _, j, ps, .nil, hx => by simp at hx
  | _, _, _, 0, ps, .cons (R := R) (K := K) (v := v) (qs := qs) h hs, hx => by
    simp at hx
    subst hx
    exact ⟨[], R, K, v, qs, rfl, rfl, h, fun v' R' ps' qs' h' => (StksR.cons h' hs : StksR vals (ps' :: _) (v' :: _) (R' ++ K))⟩
  | _, _, _, j + 1, ps, .cons (R := R0) (K := K0) (v := v0) h hs, hx => by
    obtain ⟨A, R, C, v, qs, h1, h2, h3, h4⟩ := hs.at j (by simpa using hx)
    refine ⟨R0 ++ A, R, C, v, qs, by rw [h1]; simp, by simpa using h2, h3, fun v' R' ps' qs' h' => ?_⟩
    have := StksR.cons h (h4 v' R' ps' qs' h')
    simpa using this
theorem StkR.mono {vals vals' : List Value} {v : Value} {R : Blk} {ps qs : List Nat} (h : StkR vals v R ps qs) (hv : ∀ p ∈ ps, ∀ u, vals[p]? = some u → vals'[p]? = some u) : StkR vals' v R ps qs :=
  ⟨h.own, h.len, fun j p q h1 h2 => hv p (List.mem_of_getElem? h1) _ (h.at_ j p q h1 h2)⟩
theorem StksR.mono {vals vals' : List Value} : ∀ {st : List (List Nat)} {vs : List Value} {K : Blk}, StksR vals st vs K → (∀ ps ∈ st, ∀ p ∈ ps, ∀ u, vals[p]? = some u → vals'[p]? = some u) → StksR vals' st vs K
  | _, _, _, .nil, _ => .nil
  | _, _, _, .cons h hs, hv => .cons (h.mono (hv _ (by simp))) (hs.mono fun ps hps => hv ps (by simp [hps]))
/-- A stack is cut. -/
theorem StkR.take {vals : List Value} {v : Value} {R : Blk} {ps qs : List Nat} (h : StkR vals v R ps qs) {g m cap : Nat} (hv : v = .slice (some ⟨g, 0, none⟩) m cap) {k : Nat} (hk : k ≤ ps.length) : StkR vals (.slice (some ⟨g, 0, none⟩) k cap) R (ps.take k) (qs.take k) := by
  have hl := h.len
  refine ⟨⟨by rw [List.length_map, List.length_take, List.length_take]; omega, .inr ?_⟩, by rw [List.length_take, List.length_take]; omega, fun j p q h1 h2 => ?_⟩
  · rcases h.own.2 with ⟨e, _, _⟩ | ⟨g', cap', cur, e, rfl, h1, h2, h3, h4⟩
    · rw [hv] at e; cases e
    · rw [hv] at e
      cases e
      have hlt : (ps.take k).length = k := by rw [List.length_take]; omega
      refine ⟨g, cap, cur, by rw [hlt], rfl, by rw [hlt]; omega, h2, h3, ?_⟩
      rw [hlt, Nat.mul_one, List.map_take, ← h4, Nat.mul_one, List.take_take, Nat.min_eq_left hk]
  · rw [List.getElem?_take] at h1 h2
    split at h1
    · rename_i hjk
      rw [if_pos hjk] at h2
      exact h.at_ j p q h1 h2
    · cases h1
/-- One more is laid on it. -/
theorem StkR.push {vals : List Value} {v v' : Value} {R R' : Blk} {ps qs : List Nat} (h : StkR vals v R ps qs) {q p : Nat} (hO : Own 200 1 v' (ps.length + 1) (qs.map lp ++ [lp q]) R') (hp : vals[p]? = some (vEm q)) : StkR vals v' R' (ps ++ [p]) (qs ++ [q]) := by
  have hl := h.len
  refine ⟨by simpa using hO, by simp [hl], fun j p' q' h1 h2 => ?_⟩
  by_cases hj : j < ps.length
  · rw [List.getElem?_append_left hj] at h1
    rw [List.getElem?_append_left (by omega)] at h2
    exact h.at_ j p' q' h1 h2
  · rw [List.getElem?_append_right (by omega)] at h1
    rw [List.getElem?_append_right (by omega)] at h2
    have hz : j - ps.length = 0 := by
      have := (List.getElem?_eq_some_iff.1 h1).1
      simp at this; omega
    rw [hz] at h1
    rw [show j - qs.length = 0 by omega] at h2
    simp at h1 h2
    subst h1; subst h2
    exact hp
theorem StkR.pos {vals : List Value} {v : Value} {R : Blk} {ps qs : List Nat} (h : StkR vals v R ps qs) (hp : ps ≠ []) : ∃ g cap cur, v = .slice (some ⟨g, 0, none⟩) ps.length cap ∧ R = [(g, cellsOf cur 200)] ∧ cap ≤ 9223372036854775807 ∧ cur.length = cap ∧ ps.length ≤ cap ∧ ∀ (j q : Nat), qs[j]? = some q → cur[j]? = some (lp q) := by
  rcases h.own.2 with ⟨_, e, _⟩ | ⟨g, cap, cur, rfl, rfl, h1, h2, h3, h4⟩
  · exact absurd (List.eq_nil_of_length_eq_zero e) hp
  · refine ⟨g, cap, cur, rfl, rfl, h2, by omega, h1, fun j q hq => ?_⟩
    have h5 : (qs.map lp)[j]? = some (lp q) := by rw [List.getElem?_map, hq]; rfl
    rw [← h4, List.getElem?_take] at h5
    split at h5
    · exact h5
    · cases h5
end Go.Proofs

namespace Go.Proofs
open Go Go.Eng
set_option maxRecDepth 20000
set_option maxHeartbeats 1000000

instance arrOf5 : UArr Tryz.prog 215 5 214 := ⟨Tryz.underlying215⟩
abbrev arrb (r7 : Nat) (sv : List Value) : Blk := [(r7, cellsOf sv 215)]
abbrev dstv (r4 : Nat) (dv : Value) : Blk := [(r4, cellsOf [dv] 58)]
/-- Openers know their places. -/
def Places5 (st : List (List Nat)) (vals : List Value) (K : Blk) : Prop := ∀ ps ∈ st, ∀ p ∈ ps, p ≤ 1000000000 ∧ ∀ q, vals[p]? = some (vEm q) → ∃ t o c n, (q, cellsOf (emC t o c p n) 202) ∈ K
structure TG where
  i : Nat
  sv : List Value
  SB : Blk
theorem trim_next {f : List Nat → List Nat} {st : List (List Nat)} {i : Nat} {ps : List Nat} (h : st[i]? = some ps) : ((st.take i).map f ++ st.drop i).set i (f ps) = (st.take (i + 1)).map f ++ st.drop (i + 1) := by
  have hi := (List.getElem?_eq_some_iff.1 h).1
  have e : st.drop i = ps :: st.drop (i + 1) := by
    rw [List.drop_eq_getElem_cons hi]
    have := (List.getElem?_eq_some_iff.1 h).2
    rw [this]
  rw [e, List.set_append_right _ _ (by simp; omega), List.take_add_one, h]
  simp [show i - min i st.length = 0 by omega]
theorem trim_at {f : List Nat → List Nat} {st : List (List Nat)} {i : Nat} {ps : List Nat} (h : st[i]? = some ps) : ((st.take i).map f ++ st.drop i)[i]? = some ps := by
  have hi := (List.getElem?_eq_some_iff.1 h).1
  rw [List.getElem?_append_right (by simp; omega)]
  simp [show i - min i st.length = 0 by omega, List.getElem?_drop, h]
theorem ownShape {E sz : Nat} {v : Value} {m : Nat} {xs : List Value} {Bk : Blk} (h : Own E sz v m xs Bk) : ∃ a c, v = .slice a m c := by
  rcases h.2 with ⟨rfl, rfl, _⟩ | ⟨g, cap, cur, rfl, _⟩
  · exact ⟨_, _, rfl⟩
  · exact ⟨_, _, rfl⟩
theorem set_same {α : Type} {l : List α} {j : Nat} {v : α} (h : l[j]? = some v) : l.set j v = l := by
  obtain ⟨h1, h2⟩ := List.getElem?_eq_some_iff.1 h
  rw [← h2, List.set_getElem_self]
theorem tlen_at {n : Nat} {ps : List Nat} {k p : Nat} (hp : ps[k]? = some p) : tlen n ps (k + 1) = if n ≤ p then tlen n ps k else k + 1 := by
  rw [tlen, List.getD, hp]; rfl

theorem trimG_tr (r7 r4 dl : Nat) (st : List (List Nat)) (sv vals : List Value) (SB K : Blk) (da : Option Addr) (dc : Nat) (h5 : st.length = 5) (hS : StksR vals st sv SB) (hP : Places5 st vals K) (hdl : dl ≤ 1000000000) (hbig : ∀ ps ∈ st, ps.length ≤ 1000000000) :
    Tr Tryz.prog 100 [lp r7, lp r4] [arrb r7 sv, dstv r4 (.slice da dl dc), SB, K] fun u H => u = unit ∧ ∃ sv' SB', StksR vals (st.map (trimTop dl)) sv' SB' ∧ H = [arrb r7 sv', dstv r4 (.slice da dl dc), SB', K] := by
  refine Tr.start (n := 44) (rs := []) rfl rfl rfl rfl fun B => ?_
  ((repeat (refine za ?_)); refine z8 ?_; (repeat' (first | refine zb ?_)); refine z6 ?_; refine z7 ?_)
  (repeat (refine za ?_))
  refine zg ?_
  refine za7 (fun x : TG => [(0, lp r7), (1, lp r4), (4, inat x.i)]) (fun x => [arrb r7 x.sv, dstv r4 (.slice da dl dc), x.SB, K]) (fun x => x.i ≤ 5 ∧ StksR vals ((st.take x.i).map (trimTop dl) ++ st.drop x.i) x.sv x.SB) (fun x => 5 - x.i) ⟨0, sv, SB⟩ ⟨by dsimp only; omega, by simpa using hS⟩ kB sA fun x hx => ?_
  obtain ⟨i, sv, SB⟩ := x
  obtain ⟨hi, hS⟩ := hx
  dsimp only at hi hS ⊢
  by_cases hlt : i < 5
  · obtain ⟨ps, hps⟩ : ∃ ps, st[i]? = some ps := ⟨_, List.getElem?_eq_getElem (by omega)⟩
    have hpm := List.mem_of_getElem? hps
    have hpl := hbig ps hpm
    obtain ⟨A, R, C, v, qs, rfl, hv, hk, hset⟩ := hS.at i (trim_at hps)
    have hsvl : i < sv.length := (List.getElem?_eq_some_iff.1 hv).1
    have hv' : sv[0 + i * 1]? = some v := by rw [Nat.zero_add, Nat.mul_one]; exact hv
    ((repeat (refine za ?_)); refine z8 ?_; (repeat' (first | refine zo ?_)); refine z6 ?_; refine z7 ?_)
    (repeat (refine za ?_))
    refine ze ?_
    refine zf ?_
    refine z7 ?_
    refine za ?_
    refine zg ?_
    ((repeat (refine za ?_)); refine z8 ?_; (repeat' (first | refine zb ?_ | refine zc ?_)); refine z6 ?_; refine z7 ?_)
    ((repeat (refine za ?_)); refine z8 ?_; (repeat' (first | refine zcf ?_ | refine zb ?_ | refine zc ?_)); refine z6 ?_; refine z7 ?_)
    (repeat (refine za ?_))
    by_cases hne : ps = []
    · subst hne
      obtain ⟨a, c, hvv⟩ := ownShape hk.own
      rw [List.length_nil] at hvv
      subst hvv
      refine zg ?_
      refine za7 (fun _ : Unit => [(0, lp r7), (1, lp r4), (3, .pointer (some ⟨r7, 0 + i * 1, none⟩)), (4, inat i)]) (fun _ => [arrb r7 sv, dstv r4 (.slice da dl dc), A ++ (R ++ C), K]) (fun _ => True) (fun _ => 0) () trivial kB sA fun _ _ => ?_
      (repeat' (first | refine Wp.draw_all (id := 4) Mixed.out (by kernel_rfl) ?_ | refine za5 (hc := hv') ?_ | refine za ?_ | refine z8 ?_ | refine z6 ?_ | refine z7 ?_ | refine zd ?_ | refine zu ?_ | refine zy ?_ | refine zz ?_ | refine za0 ?_ | refine zb ?_ | refine zm ?_ | refine zab ?_ | refine zc0 ?_ | refine za9 ?_ | refine zag ?_ | refine zew ?_ | refine zbh ?_ | refine zb8 ?_))
      have hS' := hset _ _ _ _ hk
      rw [set_same hv] at hS'
      exact ⟨⟨i + 1, sv, A ++ (R ++ C)⟩, kB, sA, ⟨by dsimp only; omega, by rw [← trim_next (f := trimTop dl) hps]; exact hS'⟩, by dsimp only; omega⟩
    · obtain ⟨g, cap, cur, rfl, rfl, g1, g2, g3, g4⟩ := hk.pos hne
      have hcur : ∀ X Y Z, HMem [X, Y, A ++ ([(g, cellsOf cur 200)] ++ C), Z] g (cellsOf cur 200) := fun X Y Z => .there (.there (HMem.of_chunk (by simp)))
      have hql := hk.len
      have hsame : sv.set (0 + i * 1) (.slice (some ⟨g, 0, none⟩) ps.length cap) = sv := by rw [Nat.zero_add, Nat.mul_one]; exact set_same hv
      refine zg ?_
      refine za7 (fun _ : Nat => [(0, lp r7), (1, lp r4), (3, .pointer (some ⟨r7, 0 + i * 1, none⟩)), (4, inat i)]) (fun m => [arrb r7 (sv.set (0 + i * 1) (.slice (some ⟨g, 0, none⟩) m cap)), dstv r4 (.slice da dl dc), A ++ ([(g, cellsOf cur 200)] ++ C), K]) (fun m => m ≤ ps.length ∧ tlen dl ps m = tlen dl ps ps.length) (fun m => m) ps.length ⟨Nat.le_refl _, rfl⟩ kB (by rw [hsame]; exact sA) fun m hm => ?_
      obtain ⟨hm1, hm2⟩ := hm
      have hsv : (sv.set (0 + i * 1) (.slice (some ⟨g, 0, none⟩) m cap))[0 + i * 1]? = some (.slice (some ⟨g, 0, none⟩) m cap) := List.getElem?_set_self (by omega)
      have hfin : m = tlen dl ps ps.length → StksR vals ((st.take (i + 1)).map (trimTop dl) ++ st.drop (i + 1)) (sv.set (0 + i * 1) (.slice (some ⟨g, 0, none⟩) m cap)) (A ++ ([(g, cellsOf cur 200)] ++ C)) := by
        intro e
        have h1 := hset _ _ _ _ (hk.take (k := m) rfl hm1)
        rw [← trim_next (f := trimTop dl) hps]
        unfold trimTop at h1 ⊢
        rw [← e, show 0 + i * 1 = i by omega]
        exact h1
      cases m with
      | zero =>
        (repeat' (first | refine Wp.draw_all (id := 4) Mixed.out (by kernel_rfl) ?_ | refine za5 (hc := hsv) ?_ | refine za ?_ | refine z8 ?_ | refine z6 ?_ | refine z7 ?_ | refine zd ?_ | refine zu ?_ | refine zy ?_ | refine zz ?_ | refine za0 ?_ | refine zb ?_ | refine zm ?_ | refine zab ?_ | refine zc0 ?_ | refine za9 ?_ | refine zag ?_ | refine zew ?_ | refine zbh ?_ | refine zb8 ?_))
        exact ⟨⟨i + 1, _, _⟩, kB, sA, ⟨by dsimp only; omega, hfin hm2⟩, by dsimp only; omega⟩
      | succ j =>
        obtain ⟨p, hp⟩ : ∃ p, ps[j]? = some p := ⟨_, List.getElem?_eq_getElem (by omega)⟩
        obtain ⟨q, hq⟩ : ∃ q, qs[j]? = some q := ⟨_, List.getElem?_eq_getElem (by omega)⟩
        obtain ⟨hpb, hpK⟩ := hP ps hpm p (List.mem_of_getElem? hp)
        obtain ⟨t, o, c, nn, hmem⟩ := hpK q (hk.at_ j p q hp hq)
        have hKm : ∀ X Y Z, HMem [X, Y, Z, K] q (cellsOf (emC t o c p nn) 202) := fun X Y Z => .there (.there (.there (HMem.of_chunk hmem)))
        have hce : cur[0 + (j + 1 - 1) * 1]? = some (lp q) := by rw [show 0 + (j + 1 - 1) * 1 = j by omega]; exact g4 j q hq
        rw [tlen_at hp] at hm2
        by_cases hd : dl ≤ p
        · rw [if_pos hd] at hm2
          (repeat' (first | refine Wp.draw_all (id := 4) Mixed.out (by kernel_rfl) ?_ | refine Wp.draw_tail (id := 5) 10 Mixed.out (by kernel_rfl) ?_ | refine za5 (hc := hsv) ?_ | refine za5 (hm := hcur _ _ _) (hc := hce) ?_ | refine za5 (hm := hKm _ _ _) (hc := rfl) ?_ | refine zc8 ?_ | refine za ?_ | refine z6 ?_ | refine z7 ?_ | refine ze ?_ | refine zg ?_ | refine zf ?_ | refine zu ?_ | refine zq ?_ | refine zab ?_ | refine zb6 ?_ | refine za9 ?_ | refine za5 ?_ | refine zai ?_ | refine zag ?_ | refine zca ?_ | refine zee ?_ | refine ze4 ?_ | refine zb7 ?_ | refine zb8 ?_ | refine zdx ?_ | refine zb9 ?_))
          rw [List.set_set]
          exact ⟨j, kB, sA, ⟨by omega, hm2⟩, by omega⟩
        · rw [if_neg hd] at hm2
          (repeat' (first | refine Wp.draw_all (id := 4) Mixed.out (by kernel_rfl) ?_ | refine za5 (hc := hsv) ?_ | refine za5 (hm := hcur _ _ _) (hc := hce) ?_ | refine za5 (hm := hKm _ _ _) (hc := rfl) ?_ | refine za ?_ | refine z8 ?_ | refine z6 ?_ | refine z7 ?_ | refine zd ?_ | refine zu ?_ | refine zy ?_ | refine zz ?_ | refine za0 ?_ | refine zb ?_ | refine zm ?_ | refine zab ?_ | refine zb6 ?_ | refine za9 ?_ | refine za5 ?_ | refine zai ?_ | refine zag ?_ | refine zca ?_ | refine zee ?_ | refine zec ?_ | refine zb7 ?_ | refine zb8 ?_ | refine zb9 ?_))
          exact ⟨⟨i + 1, _, _⟩, kB, sA, ⟨by dsimp only; omega, hfin hm2⟩, by dsimp only; omega⟩
  · have : i = 5 := by omega
    subst this
    (repeat' (first | refine za ?_ | refine z8 ?_ | refine z6 ?_ | refine z7 ?_ | refine zd ?_ | refine zy ?_ | refine zz ?_ | refine za0 ?_ | refine za4 ?_))
    rw [List.take_of_length_le (by omega), List.drop_eq_nil_of_le (by omega), List.append_nil] at hS
    exact e_norm _ ⟨rfl, sv, SB, hS, rfl⟩ sA
end Go.Proofs

namespace Go.Proofs
open Go Go.Eng
set_option maxRecDepth 20000
set_option maxHeartbeats 1000000

/-! The scan for inlines. -/
abbrev PrsI := Option (In × Nat × Nat)
/-- An inline without inlines of its own, as it lies in memory. -/
def lf : In → LIt
  | .plain t => plainL t
  | .esc t => escL t
  | .soft => softL
  | .hard => hardL
  | .code t => codeL t
  | .auto t u => ⟨140, 142, [str t, str u]⟩
  | .tag t => ⟨145, 146, [str t]⟩
  | .op t i => openL t i
  | .em t o c n => emL t o c n
  | _ => plainL []
def isLeaf : In → Bool
  | .emph _ _ | .strong _ _ | .del _ _ | .link _ _ | .image _ _ => false
  | _ => true
theorem lf_R {x : In} (h : isLeaf x = true) (q : Nat) : InR x (.iface (lf x).ty (lp q)) [(lf x).cell q] := by
  cases x with
  | plain t => exact .plain
  | esc t => exact .esc
  | soft => exact .soft
  | hard => exact .hard
  | code t => exact .code
  | auto t u => exact .auto
  | tag t => exact .tag
  | op t i => exact .op
  | em t o c n => exact .em
  | emph m l => cases h
  | strong m l => cases h
  | del m l => cases h
  | link d l => cases h
  | image d l => cases h
def lfP : PrsI → Prs := Option.map fun r => (lf r.1, r.2)

def escI (s : List UInt8) (i : Nat) : PrsI := match s[i + 1]? with
  | none => none
  | some c => if isPunB c = true then some (.esc [c], i, i + 2) else if c.toNat = 10 then some (.hard, i, scan isBl s (i + 2)) else none
theorem esc_lf (s : List UInt8) (i : Nat) : escapeM s i = lfP (escI s i) := by
  unfold escapeM escI
  cases s[i + 1]? with
  | none => rfl
  | some c =>
    dsimp only
    by_cases h1 : isPunB c = true
    · rw [if_pos h1, if_pos h1]; rfl
    · rw [if_neg h1, if_neg h1]
      by_cases h2 : c.toNat = 10
      · rw [if_pos h2, if_pos h2]; rfl
      · rw [if_neg h2, if_neg h2]; rfl
def breakI (s : List UInt8) (i : Nat) : PrsI := some (if 2 ≤ i ∧ s[i - 1]? = some 32 ∧ s[i - 2]? = some 32 then .hard else .soft, bcan s i, scan isBl s (i + 1))
theorem break_lf (s : List UInt8) (i : Nat) : breakM s i = lfP (breakI s i) := by
  unfold breakM breakI
  by_cases h : 2 ≤ i ∧ s[i - 1]? = some 32 ∧ s[i - 2]? = some 32
  · rw [if_pos h, if_pos h]; rfl
  · rw [if_neg h, if_neg h]; rfl
def linkOpenI (s : List UInt8) (i : Nat) : PrsI := some (.op ((s.take (i + 1)).drop i) (i + 1), i, i + 1)
theorem linkOpen_lf (s : List UInt8) (i : Nat) : linkOpenM s i = lfP (linkOpenI s i) := rfl
def imageOpenI (s : List UInt8) (i : Nat) : PrsI := if s[i + 1]? = some 91 then some (.op ((s.take (i + 2)).drop i) (i + 2), i, i + 2) else none
theorem imageOpen_lf (s : List UInt8) (i : Nat) : imageOpenM s i = lfP (imageOpenI s i) := by
  unfold imageOpenM imageOpenI
  by_cases h : s[i + 1]? = some 91
  · rw [if_pos h, if_pos h]; rfl
  · rw [if_neg h, if_neg h]; rfl
def angI (s : List UInt8) (i : Nat) : PrsI := match autoURIM s i with
  | some j => some (.auto ((s.take j).drop (i + 1)) ((s.take j).drop (i + 1)), i, j + 1)
  | none => match emailM s i with
    | some j => some (.auto ((s.take j).drop (i + 1)) ([109, 97, 105, 108, 116, 111, 58] ++ (s.take j).drop (i + 1)), i, j + 1)
    | none => match htmlTagM s i with
      | some j => some (.tag ((s.take j).drop i), i, j)
      | none => none
theorem ang_lf (s : List UInt8) (i : Nat) : (angM s i).map (fun r => (r.1, i, r.2)) = lfP (angI s i) := by
  unfold angM angI
  cases autoURIM s i with
  | some j => rfl
  | none =>
    dsimp only
    cases emailM s i with
    | some j => rfl
    | none =>
      dsimp only
      cases htmlTagM s i with
      | some j => rfl
      | none => rfl
theorem inl_prs (q i : Nat) (x : Option (LIt × Nat)) : inlV q i x = prsV q (x.map fun r => (r.1, i, r.2)) ∧ inlK q x = prsK q (x.map fun r => (r.1, i, r.2)) := by
  cases x with
  | none => exact ⟨rfl, rfl⟩
  | some r => exact ⟨rfl, rfl⟩
def codeI (s : List UInt8) (i : Nat) (b : BT) : (In × Nat × Nat) × BT :=
  let j := scan tickB s (i + 1)
  if 80 < j - i ∨ b.sc = true ∧ b.last.getD (j - i - 1) 0 < j then ((.plain ((s.take j).drop i), i, j), b)
  else match runsM s (j - i) b.sc (s.length + 1) j b.last with
    | (some (e, e'), last') => ((.code (codeText ((s.take e).drop j)), i, e'), ⟨last', b.sc⟩)
    | (none, last') => ((.plain ((s.take j).drop i), i, j), ⟨last', true⟩)
theorem code_lf (s : List UInt8) (i : Nat) (b : BT) : some (codeSpanM s i b).1 = lfP (some (codeI s i b).1) ∧ (codeSpanM s i b).2 = (codeI s i b).2 := by
  unfold codeSpanM codeI
  dsimp only
  by_cases h : 80 < scan tickB s (i + 1) - i ∨ b.sc = true ∧ b.last.getD (scan tickB s (i + 1) - i - 1) 0 < scan tickB s (i + 1)
  · rw [if_pos h, if_pos h]; exact ⟨rfl, rfl⟩
  · rw [if_neg h, if_neg h]
    generalize runsM s (scan tickB s (i + 1) - i) b.sc (s.length + 1) (scan tickB s (i + 1)) b.last = r
    obtain ⟨_ | ⟨e, e'⟩, l⟩ := r
    · exact ⟨rfl, rfl⟩
    · exact ⟨rfl, rfl⟩
def emphI (s : List UInt8) (i : Nat) (c : UInt8) : PrsI :=
  let j := emphEnd s i c
  if c.toNat = 126 ∧ 2 < j - i then some (.plain ((s.take j).drop i), i, j)
  else some (.em ((s.take j).drop i) (canOpenM c (beforeM s i) (afterM s j)) (canCloseM c (beforeM s i) (afterM s j)) (j - i), i, j)
theorem emph_lf (s : List UInt8) (i : Nat) (c : UInt8) : parseEmphM s i c = lfP (emphI s i c) := by
  unfold parseEmphM emphI
  dsimp only
  by_cases h : c.toNat = 126 ∧ 2 < emphEnd s i c - i
  · rw [if_pos h, if_pos h]; rfl
  · rw [if_neg h, if_neg h]; rfl

/-- Which signs are read as inlines: the options, and what an entity is. -/
structure IO where
  quotes : Bool
  del : Bool
  ent : Nat → Option (List UInt8 × Nat)
  tab : Nat → List UInt8
  tb : LTab
/-- Where the scan stands. -/
structure IS where
  i : Nat
  out : List In
  e : Nat
  ops : List Nat
  llo : Nat
  bs : Bool
  bt : BT
def bt00 : BT := ⟨List.replicate 80 0, false⟩
/-- The sign at i, read: what it is, and what the parser of code spans has seen behind it. -/
def parI (o : IO) (s : List UInt8) (i : Nat) (c : UInt8) (bs : Bool) (bt : BT) : PrsI × Bool × BT :=
  if c.toNat = 92 then (escI s i, bs, bt)
  else if c.toNat = 96 then (let r := codeI s i (if bs then bt else bt00); (some r.1, true, r.2))
  else if c.toNat = 60 then (angI s i, bs, bt)
  else if c.toNat = 91 then (linkOpenI s i, bs, bt)
  else if c.toNat = 33 then (imageOpenI s i, bs, bt)
  else if c.toNat = 95 ∨ c.toNat = 42 then (emphI s i c, bs, bt)
  else if c.toNat = 34 ∨ c.toNat = 39 then (if o.quotes then (emphI s i c, bs, bt) else (none, bs, bt))
  else if c.toNat = 126 then (if o.del then (emphI s i c, bs, bt) else (none, bs, bt))
  else if c.toNat = 10 then (breakI s i, bs, bt)
  else if c.toNat = 38 then ((o.ent i).map (fun r => (.plain r.1, i, r.2)), bs, bt)
  else (none, bs, bt)
def emitI (s : List UInt8) (e i : Nat) (out : List In) : List In := if e < i then out ++ [.plain ((s.take i).drop e)] else out
def isOp : In → Bool
  | .op _ _ => true
  | _ => false
def isImg (t : List UInt8) : Bool := t.headD 0 == 33
def nodeI (t : List UInt8) (d : LDat) (l : List In) : In := if isImg t then .image d l else .link d l
/-- One step of the scan, at a byte. -/
def stepI (o : IO) (s : List UInt8) (x : IS) : IS := match s[x.i]? with
  | none => x
  | some c => match parI o s x.i c x.bs x.bt with
    | (some (y, a, b), bs, bt) =>
      let out := emitI s x.e a x.out
      ⟨b, out ++ [y], b, if isOp y then x.ops ++ [out.length] else x.ops, x.llo, bs, bt⟩
    | (none, bs, bt) =>
      if c.toNat = 93 ∧ x.ops ≠ [] then
        let oi := x.ops.getD (x.ops.length - 1) 0
        let ops := x.ops.take (x.ops.length - 1)
        match x.out[oi]? with
        | some (.op t k) =>
          if isImg t = true ∨ x.llo ≤ k then
            match linkCloseM o.tab o.tb s x.i k with
            | some (d, j) =>
              let out := emitI s x.e x.i x.out
              ⟨j, out.take oi ++ [nodeI t d (emphM (out.drop (oi + 1)))], j, ops, if isImg t then x.llo else k, bs, bt⟩
            | none => { x with i := x.i + 1, ops := ops, bs := bs, bt := bt }
          else { x with i := x.i + 1, ops := ops, bs := bs, bt := bt }
        | _ => x
      else { x with i := x.i + 1, bs := bs, bt := bt }
def runI (o : IO) (s : List UInt8) : Nat → IS → IS
  | 0, x => x
  | f + 1, x => if x.i < s.length then runI o s f (stepI o s x) else x
def is0 : IS := ⟨0, [], 0, [], 0, false, bt00⟩
def textOf : In → Option (List UInt8)
  | .plain t => some t
  | .op t _ => some t
  | .em t _ _ _ => some t
  | _ => none
def flushM (acc : List (List UInt8)) : List In := if acc = [] then [] else [.plain acc.flatten]
def mergeF : List In → List (List UInt8) → List In
  | [], acc => flushM acc
  | x :: l, acc => match textOf x with
    | some t => mergeF l (acc ++ [t])
    | none => flushM acc ++ x :: mergeF l []
def mergeM (l : List In) : List In := mergeF l []
/-- What the scan puts out, ahead of the delimiters' pass. -/
def scanM (o : IO) (s : List UInt8) : List In :=
  let x := runI o s (s.length + 1) is0
  emitI s x.e s.length x.out
def inlineM (o : IO) (s : List UInt8) : List In := mergeM (emphM (scanM o s))
end Go.Proofs

namespace Go.Proofs
open Go Go.Eng
set_option maxRecDepth 20000
set_option maxHeartbeats 1000000

theorem scan_mem {p : UInt8 → Bool} {s : List UInt8} : ∀ (n i k : Nat), s.length ≤ i + n → i ≤ k → k < scan p s i → ∃ c, s[k]? = some c ∧ p c = true
  | 0, i, k, h, h1, h2 => by rw [scan_end (by omega)] at h2; omega
  | n + 1, i, k, h, h1, h2 => by
    by_cases hlt : i < s.length
    · obtain ⟨d, hd⟩ := get_some hlt
      cases hb : p d with
      | true =>
        rw [scan_step hd hb] at h2
        by_cases hk : k = i
        · subst hk; exact ⟨d, hd, hb⟩
        · exact scan_mem n (i + 1) k (by omega) (by omega) h2
      | false => rw [scan_stop hd hb] at h2; omega
    · rw [scan_end (by omega)] at h2; omega
theorem slice_rep {s : List UInt8} {i j : Nat} {c : UInt8} (hij : i ≤ j) (hj : j ≤ s.length) (h : ∀ k, i ≤ k → k < j → s[k]? = some c) : (s.take j).drop i = List.replicate (j - i) c := by
  apply List.ext_getElem?
  intro k
  rw [List.getElem?_drop, List.getElem?_take, List.getElem?_replicate]
  by_cases hk : k < j - i
  · rw [if_pos (by omega), if_pos hk]; exact h _ (by omega) (by omega)
  · rw [if_neg (by omega), if_neg hk]
theorem slice_ne {s : List UInt8} {i j : Nat} (hij : i < j) (hj : j ≤ s.length) : (s.take j).drop i ≠ [] := by
  intro h
  have := congrArg List.length h
  rw [List.length_drop, List.length_take] at this
  simp only [List.length_nil] at this
  omega

/-- What holds of all that is read at a sign. -/
structure ParOK (s : List UInt8) (i : Nat) (c : UInt8) (y : In) (a b : Nat) : Prop where
  le : a ≤ i
  lt : i < b
  len : b ≤ s.length
  leaf : isLeaf y = true
  wf : EmWF y
  run : runOf y ≠ 0 → a = i ∧ runOf y = c.toNat ∧ ∀ d, s[b]? = some d → d.toNat ≠ c.toNat
  op : ∀ t k, y = .op t k → k ≤ b ∧ t ≠ []
theorem ParOK.simple {s : List UInt8} {i : Nat} {c : UInt8} {y : In} {a b : Nat} (h1 : a ≤ i) (h2 : i < b) (h3 : b ≤ s.length) (h4 : isLeaf y = true) (h5 : ∀ t o c n, y ≠ .em t o c n) (h6 : ∀ t k, y ≠ .op t k) : ParOK s i c y a b := by
  have hr : runOf y = 0 := by
    cases y <;> first | rfl | exact absurd rfl (h5 _ _ _ _)
  refine ⟨h1, h2, h3, h4, ?_, fun h => absurd hr h, fun t k e => absurd e (h6 t k)⟩
  cases y <;> first | trivial | exact absurd rfl (h5 _ _ _ _)
theorem escI_ok {s : List UInt8} {i : Nat} {c : UInt8} {y : In} {a b : Nat} (h : escI s i = some (y, a, b)) : ParOK s i c y a b := by
  unfold escI at h
  cases hc : s[i + 1]? with
  | none => rw [hc] at h; cases h
  | some d =>
    have hlt := (List.getElem?_eq_some_iff.1 hc).1
    rw [hc] at h
    dsimp only at h
    by_cases h1 : isPunB d = true
    · rw [if_pos h1] at h
      cases h
      exact .simple (Nat.le_refl _) (by omega) (by omega) rfl (by intros; intro e; cases e) (by intros; intro e; cases e)
    · rw [if_neg h1] at h
      by_cases h2 : d.toNat = 10
      · rw [if_pos h2] at h
        have hge := scan_ge isBl s (i + 2)
        have hle := scan_le (p := isBl) (s := s) (i := i + 2) (by omega)
        cases h
        exact .simple (Nat.le_refl _) (by omega) hle rfl (by intros; intro e; cases e) (by intros; intro e; cases e)
      · rw [if_neg h2] at h; cases h
theorem breakI_ok {s : List UInt8} {i : Nat} {c : UInt8} {y : In} {a b : Nat} (hi : i < s.length) (h : breakI s i = some (y, a, b)) : ParOK s i c y a b := by
  unfold breakI at h
  have hge := scan_ge isBl s (i + 1)
  have hle := scan_le (p := isBl) (s := s) (i := i + 1) (by omega)
  have hb := bcan_le s i
  by_cases h1 : 2 ≤ i ∧ s[i - 1]? = some 32 ∧ s[i - 2]? = some 32
  · rw [if_pos h1] at h
    cases h
    exact .simple hb (by omega) hle rfl (by intros; intro e; cases e) (by intros; intro e; cases e)
  · rw [if_neg h1] at h
    cases h
    exact .simple hb (by omega) hle rfl (by intros; intro e; cases e) (by intros; intro e; cases e)
theorem linkOpenI_ok {s : List UInt8} {i : Nat} {c : UInt8} {y : In} {a b : Nat} (hi : i < s.length) (h : linkOpenI s i = some (y, a, b)) : ParOK s i c y a b := by
  unfold linkOpenI at h
  cases h
  exact ⟨Nat.le_refl _, by omega, by omega, rfl, trivial, fun h => absurd rfl h, fun t k e => by cases e; exact ⟨Nat.le_refl _, slice_ne (by omega) (by omega)⟩⟩
theorem imageOpenI_ok {s : List UInt8} {i : Nat} {c : UInt8} {y : In} {a b : Nat} (h : imageOpenI s i = some (y, a, b)) : ParOK s i c y a b := by
  unfold imageOpenI at h
  by_cases h1 : s[i + 1]? = some 91
  · have hlt := (List.getElem?_eq_some_iff.1 h1).1
    rw [if_pos h1] at h
    cases h
    exact ⟨Nat.le_refl _, by omega, by omega, rfl, trivial, fun h => absurd rfl h, fun t k e => by cases e; exact ⟨Nat.le_refl _, slice_ne (by omega) (by omega)⟩⟩
  · rw [if_neg h1] at h; cases h
theorem angI_ok {s : List UInt8} {i : Nat} {c : UInt8} {y : In} {a b : Nat} (h : angI s i = some (y, a, b)) : ParOK s i c y a b := by
  unfold angI at h
  cases h1 : autoURIM s i with
  | some j =>
    have := autoURIM_lt h1
    rw [h1] at h
    cases h
    exact .simple (Nat.le_refl _) (by omega) (by omega) rfl (by intros; intro e; cases e) (by intros; intro e; cases e)
  | none =>
    rw [h1] at h
    dsimp only at h
    cases h2 : emailM s i with
    | some j =>
      have := emailM_lt h2
      rw [h2] at h
      cases h
      exact .simple (Nat.le_refl _) (by omega) (by omega) rfl (by intros; intro e; cases e) (by intros; intro e; cases e)
    | none =>
      rw [h2] at h
      dsimp only at h
      cases h3 : htmlTagM s i with
      | some j =>
        have := htmlTagM_lt h3
        rw [h3] at h
        cases h
        exact .simple (Nat.le_refl _) (by omega) (by omega) rfl (by intros; intro e; cases e) (by intros; intro e; cases e)
      | none => rw [h3] at h; cases h
theorem runsM_some {s : List UInt8} {n : Nat} {sc : Bool} : ∀ {f e : Nat} {last l' : List Nat} {a b : Nat}, runsM s n sc f e last = (some (a, b), l') → e ≤ a ∧ a < b ∧ b ≤ s.length
  | 0, e, last, l', a, b, h => by cases h
  | f + 1, e, last, l', a, b, h => by
    unfold runsM at h
    cases hc : s[e]? with
    | none => rw [hc] at h; cases h
    | some c =>
      have hlt := (List.getElem?_eq_some_iff.1 hc).1
      rw [hc] at h
      dsimp only at h
      by_cases ht : tickB c = true
      · rw [if_pos ht] at h
        have hg1 : e + 1 ≤ scan tickB s e := by rw [scan_step hc ht]; exact scan_ge _ _ _
        have hg2 := scan_le (p := tickB) (s := s) (i := e) (by omega)
        by_cases hn : scan tickB s e - e = n
        · rw [if_pos hn] at h
          cases h
          exact ⟨Nat.le_refl _, by omega, hg2⟩
        · rw [if_neg hn] at h
          have := runsM_some h
          omega
      · rw [if_neg ht] at h
        have := runsM_some h
        omega
theorem codeI_ok {s : List UInt8} {i : Nat} {c : UInt8} {b : BT} (hi : i < s.length) (hb : b.last.length = 80) : ParOK s i c (codeI s i b).1.1 (codeI s i b).1.2.1 (codeI s i b).1.2.2 ∧ (codeI s i b).2.last.length = 80 := by
  have hj1 := scan_ge tickB s (i + 1)
  have hj2 := scan_le (p := tickB) (s := s) (i := i + 1) (by omega)
  unfold codeI
  dsimp only
  by_cases h : 80 < scan tickB s (i + 1) - i ∨ b.sc = true ∧ b.last.getD (scan tickB s (i + 1) - i - 1) 0 < scan tickB s (i + 1)
  · rw [if_pos h]
    exact ⟨.simple (Nat.le_refl _) (by dsimp only; omega) hj2 rfl (by intros; intro e; cases e) (by intros; intro e; cases e), hb⟩
  · rw [if_neg h]
    have hl := runsM_len (s := s) (n := scan tickB s (i + 1) - i) (sc := b.sc) (f := s.length + 1) (e := scan tickB s (i + 1)) (last := b.last)
    split
    · rename_i e e' l' he
      rw [he] at hl
      have := runsM_some he
      exact ⟨.simple (Nat.le_refl _) (by dsimp only; omega) this.2.2 rfl (by intros; intro e; cases e) (by intros; intro e; cases e), by dsimp only at hl ⊢; omega⟩
    · rename_i l' he
      rw [he] at hl
      exact ⟨.simple (Nat.le_refl _) (by dsimp only; omega) hj2 rfl (by intros; intro e; cases e) (by intros; intro e; cases e), by dsimp only at hl ⊢; omega⟩
theorem emphEnd_ok {s : List UInt8} {i : Nat} {c : UInt8} (hc : s[i]? = some c) : i < emphEnd s i c ∧ emphEnd s i c ≤ s.length ∧ (s.take (emphEnd s i c)).drop i = List.replicate (emphEnd s i c - i) c ∧ (isRunC c → ∀ d, s[emphEnd s i c]? = some d → d.toNat ≠ c.toNat) ∧ (¬ isRunC c → emphEnd s i c = i + 1) := by
  have hi := (List.getElem?_eq_some_iff.1 hc).1
  unfold emphEnd
  by_cases h : c.toNat = 42 ∨ c.toNat = 126 ∨ c.toNat = 95
  · rw [if_pos h]
    have h1 := scan_ge (fun d => d == c) s (i + 1)
    have h2 := scan_le (p := fun d => d == c) (s := s) (i := i + 1) (by omega)
    refine ⟨by omega, h2, slice_rep (by omega) h2 fun k hk1 hk2 => ?_, fun _ d hd he => ?_, fun hn => absurd (by unfold isRunC; omega) hn⟩
    · by_cases hk : k = i
      · subst hk; exact hc
      · obtain ⟨d, hd, he⟩ := scan_mem s.length (i + 1) k (by omega) (by omega) hk2
        rw [hd, show d = c by simpa using he]
    · have := scan_at (n := s.length) (by omega) hd
      rw [UInt8.toNat_inj.1 he] at this
      simp at this
  · rw [if_neg h]
    refine ⟨by omega, by omega, slice_rep (by omega) (by omega) fun k hk1 hk2 => by rw [show k = i by omega]; exact hc, fun hr => absurd (by unfold isRunC at hr; omega) h, fun _ => rfl⟩
theorem emphI_ok {s : List UInt8} {i : Nat} {c : UInt8} {y : In} {a b : Nat} (hl : s.length ≤ 1000000) (hc : s[i]? = some c) (hk : isRunC c ∨ isQ c = true) (h : emphI s i c = some (y, a, b)) : ParOK s i c y a b := by
  obtain ⟨h1, h2, h3, h4, h5⟩ := emphEnd_ok hc
  unfold emphI at h
  dsimp only at h
  by_cases hb : c.toNat = 126 ∧ 2 < emphEnd s i c - i
  · rw [if_pos hb] at h
    cases h
    exact .simple (Nat.le_refl _) h1 h2 rfl (by intros; intro e; cases e) (by intros; intro e; cases e)
  · rw [if_neg hb] at h
    cases h
    refine ⟨Nat.le_refl _, h1, h2, rfl, ⟨by omega, ?_⟩, fun hr => ?_, fun t k e => by cases e⟩
    · rcases hk with hk | hk
      · exact .inl ⟨c, _, hk, h3, by omega, by omega⟩
      · have hnr : ¬ isRunC c := fun hr => by rw [isQ_run hr] at hk; cases hk
        refine .inr ⟨⟨c, hk, by rw [h3, h5 hnr, show i + 1 - i = 1 by omega]; rfl⟩, ?_⟩
        have hq : c.toNat = 39 ∨ c.toNat = 34 := by simp [isQ] at hk; omega
        unfold canOpenM canCloseM
        rw [if_pos hq, if_neg (show ¬ c.toNat = 95 by omega)]
        cases flankR (beforeM s i) (afterM s (emphEnd s i c)) <;> simp
    · rcases hk with hk | hk
      · rw [h3, runOf_rep (by omega) hk]
        exact ⟨rfl, rfl, h4 hk⟩
      · exfalso
        apply hr
        have hnr : ¬ isRunC c := fun hr => by rw [isQ_run hr] at hk; cases hk
        rw [h3, h5 hnr, show i + 1 - i = 1 by omega]
        unfold runOf
        dsimp only
        exact if_neg (by intro h; exact hnr h)
/-- What an entity may be. -/
def EntWF (o : IO) (s : List UInt8) : Prop := ∀ i t b, o.ent i = some (t, b) → s[i]? = some 38 → i < b ∧ b ≤ s.length
theorem parI_ok {o : IO} {s : List UInt8} {i : Nat} {c : UInt8} {bs : Bool} {bt : BT} (hl : s.length ≤ 1000000) (hE : EntWF o s) (hc : s[i]? = some c) (hb : bt.last.length = 80) :
    (∀ y a b, (parI o s i c bs bt).1 = some (y, a, b) → ParOK s i c y a b) ∧ (parI o s i c bs bt).2.2.last.length = 80 := by
  have hi := (List.getElem?_eq_some_iff.1 hc).1
  unfold parI
  by_cases h1 : c.toNat = 92
  · rw [if_pos h1]; exact ⟨fun y a b h => escI_ok h, hb⟩
  rw [if_neg h1]
  by_cases h2 : c.toNat = 96
  · rw [if_pos h2]
    have hb' : (if bs = true then bt else bt00).last.length = 80 := by split; exact hb; rfl
    obtain ⟨q1, q2⟩ := codeI_ok (c := c) hi hb'
    exact ⟨fun y a b h => (by have h' := Option.some.inj h; rw [h'] at q1; exact q1), q2⟩
  rw [if_neg h2]
  by_cases h3 : c.toNat = 60
  · rw [if_pos h3]; exact ⟨fun y a b h => angI_ok h, hb⟩
  rw [if_neg h3]
  by_cases h4 : c.toNat = 91
  · rw [if_pos h4]; exact ⟨fun y a b h => linkOpenI_ok hi h, hb⟩
  rw [if_neg h4]
  by_cases h5 : c.toNat = 33
  · rw [if_pos h5]; exact ⟨fun y a b h => imageOpenI_ok h, hb⟩
  rw [if_neg h5]
  by_cases h6 : c.toNat = 95 ∨ c.toNat = 42
  · rw [if_pos h6]; exact ⟨fun y a b h => emphI_ok hl hc (.inl (by unfold isRunC; omega)) h, hb⟩
  rw [if_neg h6]
  by_cases h7 : c.toNat = 34 ∨ c.toNat = 39
  · rw [if_pos h7]
    cases o.quotes with
    | true => exact ⟨fun y a b h => emphI_ok hl hc (.inr (by simp [isQ]; omega)) h, hb⟩
    | false => exact ⟨fun y a b h => (by cases h), hb⟩
  rw [if_neg h7]
  by_cases h8 : c.toNat = 126
  · rw [if_pos h8]
    cases o.del with
    | true => exact ⟨fun y a b h => emphI_ok hl hc (.inl (by unfold isRunC; omega)) h, hb⟩
    | false => exact ⟨fun y a b h => (by cases h), hb⟩
  rw [if_neg h8]
  by_cases h9 : c.toNat = 10
  · rw [if_pos h9]; exact ⟨fun y a b h => breakI_ok hi h, hb⟩
  rw [if_neg h9]
  by_cases h10 : c.toNat = 38
  · rw [if_pos h10]
    refine ⟨fun y a b h => ?_, hb⟩
    cases he : o.ent i with
    | none => rw [he] at h; cases h
    | some r =>
      obtain ⟨t, e⟩ := r
      rw [he] at h
      cases h
      obtain ⟨k1, k2⟩ := hE i t _ he (by rw [hc, show c = 38 from UInt8.toNat_inj.1 h10])
      exact .simple (Nat.le_refl _) k1 k2 rfl (by intros; intro e; cases e) (by intros; intro e; cases e)
  rw [if_neg h10]
  exact ⟨fun y a b h => (by cases h), hb⟩

theorem Apart.snoc {l : List In} {x : In} (h : Apart l) (hx : ∀ y, l.getLast? = some y → runOf y ≠ 0 → runOf y ≠ runOf x) : Apart (l ++ [x]) := by
  intro j a b ha hb h0
  by_cases hj : j + 1 < l.length
  · rw [List.getElem?_append_left (by omega)] at ha
    rw [List.getElem?_append_left (by omega)] at hb
    exact h j a b ha hb h0
  · have hb1 := (List.getElem?_eq_some_iff.1 hb).1
    rw [List.length_append, List.length_singleton] at hb1
    have hj2 : j + 1 = l.length := by omega
    rw [List.getElem?_append_left (by omega)] at ha
    rw [hj2, List.getElem?_append_right (Nat.le_refl _), Nat.sub_self] at hb
    cases hb
    exact hx a (by rw [List.getLast?_eq_getElem?, ← hj2]; exact ha) h0
theorem Apart.take {l : List In} (h : Apart l) (n : Nat) : Apart (l.take n) := by
  intro j a b ha hb h0
  rw [List.getElem?_take] at ha hb
  split at ha
  · split at hb
    · exact h j a b ha hb h0
    · cases hb
  · cases ha
theorem Apart.drop {l : List In} (h : Apart l) (n : Nat) : Apart (l.drop n) := by
  intro j a b ha hb h0
  rw [List.getElem?_drop] at ha hb
  exact h (n + j) a b ha hb h0

/-- What holds of the scan all along. -/
structure IInv (s : List UInt8) (x : IS) : Prop where
  ie : x.e ≤ x.i
  il : x.i ≤ s.length
  wf : ∀ y ∈ x.out, EmWF y
  ap : Apart x.out
  last : ∀ y, x.out.getLast? = some y → runOf y ≠ 0 → ∀ c, s[x.e]? = some c → c.toNat ≠ runOf y
  len : x.out.length ≤ x.e
  ops : ∀ oi ∈ x.ops, ∃ t k, x.out[oi]? = some (.op t k) ∧ k ≤ x.i ∧ t ≠ []
  inc : x.ops.Pairwise (· < ·)
  bt : x.bt.last.length = 80
theorem emitI_len {s : List UInt8} {e i : Nat} {out : List In} (h : out.length ≤ e) : (emitI s e i out).length ≤ max e i ∧ out.length ≤ (emitI s e i out).length ∧ ((emitI s e i out).length ≤ e ∨ e < i ∧ (emitI s e i out).length ≤ e + 1) := by
  unfold emitI
  split
  · simp only [List.length_append, List.length_singleton]; omega
  · omega
theorem emitI_get {s : List UInt8} {e i : Nat} {out : List In} {j : Nat} {y : In} (h : out[j]? = some y) : (emitI s e i out)[j]? = some y := by
  unfold emitI
  split
  · rw [List.getElem?_append_left (List.getElem?_eq_some_iff.1 h).1]; exact h
  · exact h
theorem emitI_wf {s : List UInt8} {e i : Nat} {out : List In} (h : ∀ y ∈ out, EmWF y) : ∀ y ∈ emitI s e i out, EmWF y := by
  unfold emitI
  split
  · intro y hy
    rcases List.mem_append.1 hy with hy | hy
    · exact h y hy
    · simp at hy; subst hy; trivial
  · exact h
theorem emitI_last {s : List UInt8} {e i : Nat} {out : List In} {y : In} (h : (emitI s e i out).getLast? = some y) (hr : runOf y ≠ 0) : ¬ e < i ∧ out.getLast? = some y := by
  unfold emitI at h
  split at h
  · rw [getLast?_snoc] at h; cases h; exact absurd rfl hr
  · exact ⟨by assumption, h⟩
theorem emitI_ap {s : List UInt8} {e i : Nat} {out : List In} (h : Apart out) : Apart (emitI s e i out) := by
  unfold emitI
  split
  · exact h.snoc fun y _ h0 => h0
  · exact h
theorem mem_top {ps : List Nat} (h : ps ≠ []) : ps.getD (ps.length - 1) 0 ∈ ps := by
  have : 0 < ps.length := List.length_pos_iff.2 h
  rw [List.getD, List.getElem?_eq_getElem (show ps.length - 1 < ps.length by omega)]; exact List.getElem_mem _
theorem top_max {ps : List Nat} (hi : ps.Pairwise (· < ·)) : ∀ p ∈ ps.take (ps.length - 1), p < ps.getD (ps.length - 1) 0 := by
  intro p hp
  obtain ⟨j, hj, rfl⟩ := List.mem_iff_getElem.1 hp
  rw [List.length_take] at hj
  rw [List.getElem_take, List.getD, List.getElem?_eq_getElem (show ps.length - 1 < ps.length by omega)]
  exact List.pairwise_iff_getElem.1 hi j (ps.length - 1) (by omega) (by omega) (by omega)
theorem nodeI_run (t : List UInt8) (d : LDat) (l : List In) : runOf (nodeI t d l) = 0 ∧ EmWF (nodeI t d l) := by
  unfold nodeI
  split <;> exact ⟨rfl, trivial⟩
theorem linkCloseM_lt {tab : Nat → List UInt8} {tb : LTab} {s : List UInt8} {i o k : Nat} {d : LDat} (hi : i < s.length) (h : linkCloseM tab tb s i o = some (d, k)) : i < k ∧ k ≤ s.length := by
  unfold linkCloseM at h
  have hcl : ∀ {x : Nat} {dd : LDat} {r : LDat × Nat}, closeAt s x dd = some r → i < x → i < r.2 ∧ r.2 ≤ s.length := by
    intro x dd r hr hx
    unfold closeAt at hr
    by_cases hx2 : s[x]? = some 41
    · rw [if_pos hx2] at hr
      have := (List.getElem?_eq_some_iff.1 hx2).1
      cases hr
      dsimp only
      omega
    · rw [if_neg hx2] at hr; cases hr
  have hIn : ∀ {r : LDat × Nat}, inlineLinkM tab s i = some r → i < r.2 ∧ r.2 ≤ s.length := by
    intro r hr
    unfold inlineLinkM at hr
    have ha1 := scan_ge isSp s (i + 2)
    dsimp only at hr
    split at hr
    · split at hr
      · cases hr
      · rename_i dest b hd
        have hb := linkDestM_le hd
        have hc1 := scan_ge isSp s b
        split at hr
        · split at hr
          · cases hr
          · rename_i tt w d2 ht
            have h2 := titleM_lt ht
            exact hcl hr (by have := scan_ge isSp s d2; omega)
        · exact hcl hr (by omega)
    · exact hcl hr (by omega)
  split at h
  · exact shortM_lt hi h
  · split at h
    · split at h
      · rename_i r hr
        cases h
        exact hIn hr
      · exact shortM_lt hi h
    · split at h
      · split at h
        · exact shortM_lt hi h
        · rename_i lab j hlab
          have hlb := labelM_lt hlab
          split at h
          · cases h
          · cases h
            omega
      · exact shortM_lt hi h
/-- A step keeps it, and goes on. -/
theorem stepI_ok {o : IO} {s : List UInt8} {x : IS} (hl : s.length ≤ 1000000) (hE : EntWF o s) (h : IInv s x) (hlt : x.i < s.length) : IInv s (stepI o s x) ∧ x.i < (stepI o s x).i := by
  obtain ⟨c, hc⟩ := get_some hlt
  unfold stepI
  rw [hc]
  dsimp only
  obtain ⟨hp1, hp2⟩ := parI_ok (bs := x.bs) hl hE hc h.bt
  generalize hpr : parI o s x.i c x.bs x.bt = r at hp1 hp2 ⊢
  obtain ⟨r, bs, bt⟩ := r
  dsimp only at hp1 hp2
  cases r with
  | some r =>
    obtain ⟨y, a, b⟩ := r
    have hk := hp1 y a b rfl
    have ha := hk.le
    have hbl := hk.lt
    have hle := h.ie
    dsimp only
    refine ⟨⟨Nat.le_refl _, hk.len, ?_, ?_, ?_, ?_, ?_, ?_, hp2⟩, hk.lt⟩
    · intro z hz
      rcases List.mem_append.1 hz with hz | hz
      · exact emitI_wf h.wf z hz
      · simp at hz; subst hz; exact hk.wf
    · refine (emitI_ap h.ap).snoc fun z hz h0 hzy => ?_
      obtain ⟨q1, q2⟩ := emitI_last hz h0
      obtain ⟨k1, k2, k3⟩ := hk.run (by rw [← hzy]; exact h0)
      have := h.last z q2 h0 c (by rw [show x.e = x.i by omega]; exact hc)
      rw [hzy, k2] at this
      exact this rfl
    · intro z hz h0 d hd
      rw [getLast?_snoc] at hz
      cases hz
      obtain ⟨k1, k2, k3⟩ := hk.run h0
      rw [k2]
      exact k3 d hd
    · have := emitI_len (s := s) (i := a) h.len
      simp only [List.length_append, List.length_singleton]
      omega
    · intro oi hoi
      have hold : ∀ oi ∈ x.ops, ∃ t k, (emitI s x.e a x.out ++ [y])[oi]? = some (.op t k) ∧ k ≤ b ∧ t ≠ [] := by
        intro oi hoi
        obtain ⟨t, k, e1, e2, e3⟩ := h.ops oi hoi
        have := emitI_get (s := s) (e := x.e) (i := a) e1
        exact ⟨t, k, by rw [List.getElem?_append_left (List.getElem?_eq_some_iff.1 this).1]; exact this, by omega, e3⟩
      cases hy : isOp y with
      | false => rw [hy] at hoi; exact hold oi (by simpa using hoi)
      | true =>
        rw [hy, if_pos rfl] at hoi
        rcases List.mem_append.1 hoi with hoi | hoi
        · exact hold oi hoi
        · simp at hoi
          subst hoi
          cases y with
          | op t k =>
            obtain ⟨e1, e2⟩ := hk.op t k rfl
            exact ⟨t, k, by simp, e1, e2⟩
          | _ => cases hy
    · cases hy : isOp y with
      | false => simpa using h.inc
      | true =>
        rw [if_pos rfl]
        refine List.pairwise_append.2 ⟨h.inc, by simp, fun p hp q hq => ?_⟩
        simp at hq
        subst hq
        obtain ⟨t, k, e1, _⟩ := h.ops p hp
        exact (List.getElem?_eq_some_iff.1 (emitI_get (s := s) (e := x.e) (i := a) e1)).1
  | none =>
    dsimp only
    have hpass : ∀ ops : List Nat, (∀ oi ∈ ops, oi ∈ x.ops) → ops.Pairwise (· < ·) → IInv s { x with i := x.i + 1, ops := ops, bs := bs, bt := bt } := by
      intro ops h1 h2
      refine ⟨by have := h.ie; dsimp only; omega, by dsimp only; omega, h.wf, h.ap, h.last, h.len, fun oi hoi => ?_, h2, hp2⟩
      obtain ⟨t, k, e1, e2, e3⟩ := h.ops oi (h1 oi hoi)
      exact ⟨t, k, e1, by dsimp only; omega, e3⟩
    split
    · rename_i hcc
      obtain ⟨_, hne⟩ := hcc
      have hsub : ∀ oi ∈ x.ops.take (x.ops.length - 1), oi ∈ x.ops := fun oi hoi => List.mem_of_mem_take hoi
      have hinc : (x.ops.take (x.ops.length - 1)).Pairwise (· < ·) := h.inc.sublist (List.take_sublist _ _)
      obtain ⟨t, k, e1, e2, e3⟩ := h.ops _ (mem_top hne)
      have hmax := top_max h.inc
      generalize x.ops.getD (x.ops.length - 1) 0 = oi at e1 hmax ⊢
      rw [e1]
      dsimp only
      split
      · cases hcl : linkCloseM o.tab o.tb s x.i k with
        | none => exact ⟨hpass _ hsub hinc, by dsimp only; omega⟩
        | some r =>
          obtain ⟨d, j⟩ := r
          have hj := linkCloseM_lt hlt hcl
          dsimp only
          have hol := (List.getElem?_eq_some_iff.1 e1).1
          have hlen := emitI_len (s := s) (i := x.i) h.len
          have hie := h.ie
          refine ⟨⟨Nat.le_refl _, hj.2, ?_, ?_, ?_, ?_, ?_, hinc, hp2⟩, hj.1⟩
          · intro z hz
            rcases List.mem_append.1 hz with hz | hz
            · exact emitI_wf h.wf z (List.mem_of_mem_take hz)
            · simp at hz; subst hz; exact (nodeI_run _ _ _).2
          · refine ((emitI_ap h.ap).take _).snoc fun z _ h0 => ?_
            rw [(nodeI_run _ _ _).1]; exact h0
          · intro z hz h0
            rw [getLast?_snoc] at hz
            cases hz
            exact absurd (nodeI_run _ _ _).1 h0
          · simp only [List.length_append, List.length_singleton, List.length_take]
            omega
          · intro p hp
            obtain ⟨t', k', f1, f2, f3⟩ := h.ops p (hsub p hp)
            have hpo := hmax p hp
            have f4 := emitI_get (s := s) (e := x.e) (i := x.i) f1
            refine ⟨t', k', ?_, (by have := hj.1; dsimp only at this ⊢; omega), f3⟩
            rw [List.getElem?_append_left (by rw [List.length_take]; omega), List.getElem?_take, if_pos hpo]
            exact f4
      · exact ⟨hpass _ hsub hinc, by dsimp only; omega⟩
    · exact ⟨hpass _ (fun _ h => h) h.inc, by dsimp only; omega⟩
theorem is0_ok (s : List UInt8) : IInv s is0 :=
  ⟨Nat.le_refl _, Nat.zero_le _, fun y hy => (by cases hy), fun j a b ha => (by simp [is0] at ha), fun y hy => (by cases hy), Nat.le_refl _, fun oi h => (by cases h), List.Pairwise.nil, rfl⟩
theorem runI_ok {o : IO} {s : List UInt8} (hl : s.length ≤ 1000000) (hE : EntWF o s) : ∀ (f : Nat) (x : IS), IInv s x → s.length < x.i + f → IInv s (runI o s f x) ∧ ¬ (runI o s f x).i < s.length
  | 0, x, h, hf => ⟨h, by have := h.il; omega⟩
  | f + 1, x, h, hf => by
    unfold runI
    split
    · rename_i hlt
      obtain ⟨h1, h2⟩ := stepI_ok hl hE h hlt
      exact runI_ok hl hE f _ h1 (by omega)
    · exact ⟨h, by assumption⟩
theorem scanM_ok {o : IO} {s : List UInt8} (hl : s.length ≤ 1000000) (hE : EntWF o s) : (∀ y ∈ scanM o s, EmWF y) ∧ Apart (scanM o s) ∧ (scanM o s).length ≤ s.length := by
  unfold scanM
  obtain ⟨h, h2⟩ := runI_ok hl hE (s.length + 1) is0 (is0_ok s) (by show s.length < 0 + (s.length + 1); omega)
  dsimp only
  refine ⟨emitI_wf h.wf, emitI_ap h.ap, ?_⟩
  have := emitI_len (s := s) (i := s.length) h.len
  have := h.ie
  have := h.il
  omega
end Go.Proofs

/- Steps of the walk of the program and plain facts on what it computes. Conditions: as each theorem states them. -/
import Derived.Test.YtfnflaloojpckaaGreatDoorT13
namespace Go.Proofs
open Go Go.Eng
set_option maxRecDepth 40000
set_option maxHeartbeats 1000000

theorem delTG_tr (x b : Nat) (mk : List UInt8) (sv : Value) (outs : List (List UInt8)) (v : Value) (l : List UInt8) (R G : Blk) (lr : Int) (hx : (x, cellsOf [str mk, sv] 135) ∈ G) (hS : ShownG "PrintText" sv G outs) (hR : BRow v l R) (hne : l ≠ []) (hlim : l.length + outs.flatten.length ≤ 900000) :
    Tr Tryz.prog 276 [lp x, lp b] [G, bufb b v lr, R] fun u K => u = unit ∧ ∃ v' R' lr', BRow v' (l ++ outs.flatten) R' ∧ K = [G, bufb b v' lr', R'] := by
  have hm : ∀ H, HMem (G :: H) x (cellsOf [str mk, sv] 135) := fun H => HMem.of_chunk hx
  rcases hS.cases with ⟨rfl, rfl⟩ | ⟨gx, c, curx, rfl, hg, hol, hrow⟩
  · refine Tr.start (n := 19) (rs := []) rfl rfl rfl rfl fun B => ?_
    (repeat' (first | refine Ops.pure _ (zaa (by rfl) (by repeat (first | exact hm _ | apply HMem.there)) (by rfl)) (by rfl) ?_ | refine za ?_ | refine z8 ?_ | refine z6 ?_ | refine z7 ?_ | refine zg ?_ | refine zb ?_ | refine zp ?_ | refine zq ?_ | refine zac ?_))
    refine za7 (fun y : PW => [(1, lp b), (9, .slice none 0 0), (10, inat 0), (11, inat 0)]) (fun y => [G, bufb b v lr, R])
      (fun y => True) (fun y => 0) ⟨0, v, R, 0⟩ trivial kB sA fun y hy => ?_
    (repeat' (first | refine za ?_ | refine z8 ?_ | refine z6 ?_ | refine z7 ?_ | refine zd ?_ | refine zy ?_ | refine zz ?_ | refine za0 ?_ | refine za4 ?_))
    exact e_norm [G, bufb b v lr, R] ⟨rfl, v, R, lr, by simpa only [List.append_assoc, List.flatten_nil, List.nil_append, List.append_nil] using hR, rfl⟩ sA
  have hmg : ∀ H, HMem (G :: H) gx (cellsOf curx 85) := fun H => HMem.of_chunk hg
  refine Tr.start (n := 19) (rs := []) rfl rfl rfl rfl fun B => ?_
  (repeat' (first | refine Ops.pure _ (zaa (by rfl) (by repeat (first | exact hm _ | apply HMem.there)) (by rfl)) (by rfl) ?_ | refine za ?_ | refine z8 ?_ | refine z6 ?_ | refine z7 ?_ | refine zg ?_ | refine zb ?_ | refine zp ?_ | refine zq ?_ | refine zac ?_))
  refine za7 (fun y : PW => [(1, lp b), (9, .slice (some ⟨gx, 0, none⟩) outs.length c), (10, inat outs.length), (11, inat y.j)]) (fun y => [G, bufb b y.v y.lr, y.R])
    (fun y => y.j ≤ outs.length ∧ BRow y.v (l ++ (outs.take y.j).flatten) y.R) (fun y => outs.length - y.j) ⟨0, v, R, lr⟩ ⟨Nat.zero_le _, by simpa using hR⟩ kB sA fun y hy => ?_
  obtain ⟨j, v, R, lr⟩ := y
  obtain ⟨y1, y2⟩ := hy
  simp only at y1 y2 ⊢
  by_cases hj : j < outs.length
  · obtain ⟨ty, u, out, hc', ho, f, hf, hme, htr⟩ := hrow j hj
    have hfl := out_le ho
    (repeat' (first | refine Ops.pure _ (zaa (by rfl) (by repeat (first | exact hmg _ | apply HMem.there)) hc') (by rfl) ?_ | refine za ?_ | refine z8 ?_ | refine z6 ?_ | refine z7 ?_ | refine ze ?_ | refine zg ?_ | refine zf ?_ | refine zb ?_ | refine zc ?_ | refine zo ?_ | refine zaj ?_))
    refine Ops.invoke (f := f) (args := [lp b]) hf.out rfl hme rfl (htr b v _ R lr y2 (by simp [hne]) (by simp only [List.length_append]; omega)) (by repeat' (first | exact HTakes.nil | exact HTake.here | apply HTakes.cons | apply HTake.there)) rfl (fun u K hR => ?_)
    obtain ⟨rfl, v', R', lr', h9, rfl⟩ := hR
    (repeat' (first | refine z8 ?_ | refine z6 ?_ | refine z7 ?_ | refine zu ?_ | refine zb ?_ | refine zm ?_))
    exact ⟨⟨j + 1, v', R', lr'⟩, kB, sA, ⟨by simp only; omega, by simp only; rw [flat_snoc ho, ← List.append_assoc]; exact h9⟩, by simp only; omega⟩
  · have : j = outs.length := by omega
    subst this
    rw [List.take_of_length_le (by omega)] at y2
    (repeat' (first | refine za ?_ | refine z8 ?_ | refine z6 ?_ | refine z7 ?_ | refine zd ?_ | refine zy ?_ | refine zz ?_ | refine za0 ?_ | refine za4 ?_))
    exact e_norm [G, bufb b v lr, R] ⟨rfl, v, R, lr, y2, rfl⟩ sA

theorem strongTG_tr (x b : Nat) (mk : List UInt8) (sv : Value) (outs : List (List UInt8)) (v : Value) (l : List UInt8) (R G : Blk) (lr : Int) (hx : (x, cellsOf [str mk, sv] 135) ∈ G) (hS : ShownG "PrintText" sv G outs) (hR : BRow v l R) (hne : l ≠ []) (hlim : l.length + outs.flatten.length ≤ 900000) :
    Tr Tryz.prog 272 [lp x, lp b] [G, bufb b v lr, R] fun u K => u = unit ∧ ∃ v' R' lr', BRow v' (l ++ outs.flatten) R' ∧ K = [G, bufb b v' lr', R'] := by
  have hm : ∀ H, HMem (G :: H) x (cellsOf [str mk, sv] 135) := fun H => HMem.of_chunk hx
  rcases hS.cases with ⟨rfl, rfl⟩ | ⟨gx, c, curx, rfl, hg, hol, hrow⟩
  · refine Tr.start (n := 19) (rs := []) rfl rfl rfl rfl fun B => ?_
    (repeat' (first | refine Ops.pure _ (zaa (by rfl) (by repeat (first | exact hm _ | apply HMem.there)) (by rfl)) (by rfl) ?_ | refine za ?_ | refine z8 ?_ | refine z6 ?_ | refine z7 ?_ | refine zg ?_ | refine zb ?_ | refine zp ?_ | refine zq ?_ | refine zac ?_))
    refine za7 (fun y : PW => [(1, lp b), (9, .slice none 0 0), (10, inat 0), (11, inat 0)]) (fun y => [G, bufb b v lr, R])
      (fun y => True) (fun y => 0) ⟨0, v, R, 0⟩ trivial kB sA fun y hy => ?_
    (repeat' (first | refine za ?_ | refine z8 ?_ | refine z6 ?_ | refine z7 ?_ | refine zd ?_ | refine zy ?_ | refine zz ?_ | refine za0 ?_ | refine za4 ?_))
    exact e_norm [G, bufb b v lr, R] ⟨rfl, v, R, lr, by simpa only [List.append_assoc, List.flatten_nil, List.nil_append, List.append_nil] using hR, rfl⟩ sA
  have hmg : ∀ H, HMem (G :: H) gx (cellsOf curx 85) := fun H => HMem.of_chunk hg
  refine Tr.start (n := 19) (rs := []) rfl rfl rfl rfl fun B => ?_
  (repeat' (first | refine Ops.pure _ (zaa (by rfl) (by repeat (first | exact hm _ | apply HMem.there)) (by rfl)) (by rfl) ?_ | refine za ?_ | refine z8 ?_ | refine z6 ?_ | refine z7 ?_ | refine zg ?_ | refine zb ?_ | refine zp ?_ | refine zq ?_ | refine zac ?_))
  refine za7 (fun y : PW => [(1, lp b), (9, .slice (some ⟨gx, 0, none⟩) outs.length c), (10, inat outs.length), (11, inat y.j)]) (fun y => [G, bufb b y.v y.lr, y.R])
    (fun y => y.j ≤ outs.length ∧ BRow y.v (l ++ (outs.take y.j).flatten) y.R) (fun y => outs.length - y.j) ⟨0, v, R, lr⟩ ⟨Nat.zero_le _, by simpa using hR⟩ kB sA fun y hy => ?_
  obtain ⟨j, v, R, lr⟩ := y
  obtain ⟨y1, y2⟩ := hy
  simp only at y1 y2 ⊢
  by_cases hj : j < outs.length
  · obtain ⟨ty, u, out, hc', ho, f, hf, hme, htr⟩ := hrow j hj
    have hfl := out_le ho
    (repeat' (first | refine Ops.pure _ (zaa (by rfl) (by repeat (first | exact hmg _ | apply HMem.there)) hc') (by rfl) ?_ | refine za ?_ | refine z8 ?_ | refine z6 ?_ | refine z7 ?_ | refine ze ?_ | refine zg ?_ | refine zf ?_ | refine zb ?_ | refine zc ?_ | refine zo ?_ | refine zaj ?_))
    refine Ops.invoke (f := f) (args := [lp b]) hf.out rfl hme rfl (htr b v _ R lr y2 (by simp [hne]) (by simp only [List.length_append]; omega)) (by repeat' (first | exact HTakes.nil | exact HTake.here | apply HTakes.cons | apply HTake.there)) rfl (fun u K hR => ?_)
    obtain ⟨rfl, v', R', lr', h9, rfl⟩ := hR
    (repeat' (first | refine z8 ?_ | refine z6 ?_ | refine z7 ?_ | refine zu ?_ | refine zb ?_ | refine zm ?_))
    exact ⟨⟨j + 1, v', R', lr'⟩, kB, sA, ⟨by simp only; omega, by simp only; rw [flat_snoc ho, ← List.append_assoc]; exact h9⟩, by simp only; omega⟩
  · have : j = outs.length := by omega
    subst this
    rw [List.take_of_length_le (by omega)] at y2
    (repeat' (first | refine za ?_ | refine z8 ?_ | refine z6 ?_ | refine z7 ?_ | refine zd ?_ | refine zy ?_ | refine zz ?_ | refine za0 ?_ | refine za4 ?_))
    exact e_norm [G, bufb b v lr, R] ⟨rfl, v, R, lr, y2, rfl⟩ sA

theorem emphTG_tr (x b : Nat) (mk : List UInt8) (sv : Value) (outs : List (List UInt8)) (v : Value) (l : List UInt8) (R G : Blk) (lr : Int) (hx : (x, cellsOf [str mk, sv] 135) ∈ G) (hS : ShownG "PrintText" sv G outs) (hR : BRow v l R) (hne : l ≠ []) (hlim : l.length + outs.flatten.length ≤ 900000) :
    Tr Tryz.prog 268 [lp x, lp b] [G, bufb b v lr, R] fun u K => u = unit ∧ ∃ v' R' lr', BRow v' (l ++ outs.flatten) R' ∧ K = [G, bufb b v' lr', R'] := by
  have hm : ∀ H, HMem (G :: H) x (cellsOf [str mk, sv] 135) := fun H => HMem.of_chunk hx
  rcases hS.cases with ⟨rfl, rfl⟩ | ⟨gx, c, curx, rfl, hg, hol, hrow⟩
  · refine Tr.start (n := 19) (rs := []) rfl rfl rfl rfl fun B => ?_
    (repeat' (first | refine Ops.pure _ (zaa (by rfl) (by repeat (first | exact hm _ | apply HMem.there)) (by rfl)) (by rfl) ?_ | refine za ?_ | refine z8 ?_ | refine z6 ?_ | refine z7 ?_ | refine zg ?_ | refine zb ?_ | refine zp ?_ | refine zq ?_ | refine zac ?_))
    refine za7 (fun y : PW => [(1, lp b), (9, .slice none 0 0), (10, inat 0), (11, inat 0)]) (fun y => [G, bufb b v lr, R])
      (fun y => True) (fun y => 0) ⟨0, v, R, 0⟩ trivial kB sA fun y hy => ?_
    (repeat' (first | refine za ?_ | refine z8 ?_ | refine z6 ?_ | refine z7 ?_ | refine zd ?_ | refine zy ?_ | refine zz ?_ | refine za0 ?_ | refine za4 ?_))
    exact e_norm [G, bufb b v lr, R] ⟨rfl, v, R, lr, by simpa only [List.append_assoc, List.flatten_nil, List.nil_append, List.append_nil] using hR, rfl⟩ sA
  have hmg : ∀ H, HMem (G :: H) gx (cellsOf curx 85) := fun H => HMem.of_chunk hg
  refine Tr.start (n := 19) (rs := []) rfl rfl rfl rfl fun B => ?_
  (repeat' (first | refine Ops.pure _ (zaa (by rfl) (by repeat (first | exact hm _ | apply HMem.there)) (by rfl)) (by rfl) ?_ | refine za ?_ | refine z8 ?_ | refine z6 ?_ | refine z7 ?_ | refine zg ?_ | refine zb ?_ | refine zp ?_ | refine zq ?_ | refine zac ?_))
  refine za7 (fun y : PW => [(1, lp b), (9, .slice (some ⟨gx, 0, none⟩) outs.length c), (10, inat outs.length), (11, inat y.j)]) (fun y => [G, bufb b y.v y.lr, y.R])
    (fun y => y.j ≤ outs.length ∧ BRow y.v (l ++ (outs.take y.j).flatten) y.R) (fun y => outs.length - y.j) ⟨0, v, R, lr⟩ ⟨Nat.zero_le _, by simpa using hR⟩ kB sA fun y hy => ?_
  obtain ⟨j, v, R, lr⟩ := y
  obtain ⟨y1, y2⟩ := hy
  simp only at y1 y2 ⊢
  by_cases hj : j < outs.length
  · obtain ⟨ty, u, out, hc', ho, f, hf, hme, htr⟩ := hrow j hj
    have hfl := out_le ho
    (repeat' (first | refine Ops.pure _ (zaa (by rfl) (by repeat (first | exact hmg _ | apply HMem.there)) hc') (by rfl) ?_ | refine za ?_ | refine z8 ?_ | refine z6 ?_ | refine z7 ?_ | refine ze ?_ | refine zg ?_ | refine zf ?_ | refine zb ?_ | refine zc ?_ | refine zo ?_ | refine zaj ?_))
    refine Ops.invoke (f := f) (args := [lp b]) hf.out rfl hme rfl (htr b v _ R lr y2 (by simp [hne]) (by simp only [List.length_append]; omega)) (by repeat' (first | exact HTakes.nil | exact HTake.here | apply HTakes.cons | apply HTake.there)) rfl (fun u K hR => ?_)
    obtain ⟨rfl, v', R', lr', h9, rfl⟩ := hR
    (repeat' (first | refine z8 ?_ | refine z6 ?_ | refine z7 ?_ | refine zu ?_ | refine zb ?_ | refine zm ?_))
    exact ⟨⟨j + 1, v', R', lr'⟩, kB, sA, ⟨by simp only; omega, by simp only; rw [flat_snoc ho, ← List.append_assoc]; exact h9⟩, by simp only; omega⟩
  · have : j = outs.length := by omega
    subst this
    rw [List.take_of_length_le (by omega)] at y2
    (repeat' (first | refine za ?_ | refine z8 ?_ | refine z6 ?_ | refine z7 ?_ | refine zd ?_ | refine zy ?_ | refine zz ?_ | refine za0 ?_ | refine za4 ?_))
    exact e_norm [G, bufb b v lr, R] ⟨rfl, v, R, lr, y2, rfl⟩ sA

theorem linkTG_tr (x b : Nat) (rs : List Value) (sv : Value) (outs : List (List UInt8)) (v : Value) (l : List UInt8) (R G : Blk) (lr : Int) (hx : (x, cellsOf (sv :: rs) 106) ∈ G) (hS : ShownG "PrintText" sv G outs) (hR : BRow v l R) (hne : l ≠ []) (hlim : l.length + outs.flatten.length ≤ 900000) :
    Tr Tryz.prog 234 [lp x, lp b] [G, bufb b v lr, R] fun u K => u = unit ∧ ∃ v' R' lr', BRow v' (l ++ outs.flatten) R' ∧ K = [G, bufb b v' lr', R'] := by
  have hm : ∀ H, HMem (G :: H) x (cellsOf (sv :: rs) 106) := fun H => HMem.of_chunk hx
  rcases hS.cases with ⟨rfl, rfl⟩ | ⟨gx, c, curx, rfl, hg, hol, hrow⟩
  · refine Tr.start (n := 19) (rs := []) rfl rfl rfl rfl fun B => ?_
    (repeat' (first | refine Ops.pure _ (zaa (by rfl) (by repeat (first | exact hm _ | apply HMem.there)) (by rfl)) (by rfl) ?_ | refine za ?_ | refine z8 ?_ | refine z6 ?_ | refine z7 ?_ | refine zg ?_ | refine zb ?_ | refine zp ?_ | refine zq ?_ | refine zac ?_))
    refine za7 (fun y : PW => [(1, lp b), (9, .slice none 0 0), (10, inat 0), (11, inat 0)]) (fun y => [G, bufb b v lr, R])
      (fun y => True) (fun y => 0) ⟨0, v, R, 0⟩ trivial kB sA fun y hy => ?_
    (repeat' (first | refine za ?_ | refine z8 ?_ | refine z6 ?_ | refine z7 ?_ | refine zd ?_ | refine zy ?_ | refine zz ?_ | refine za0 ?_ | refine za4 ?_))
    exact e_norm [G, bufb b v lr, R] ⟨rfl, v, R, lr, by simpa only [List.append_assoc, List.flatten_nil, List.nil_append, List.append_nil] using hR, rfl⟩ sA
  have hmg : ∀ H, HMem (G :: H) gx (cellsOf curx 85) := fun H => HMem.of_chunk hg
  refine Tr.start (n := 19) (rs := []) rfl rfl rfl rfl fun B => ?_
  (repeat' (first | refine Ops.pure _ (zaa (by rfl) (by repeat (first | exact hm _ | apply HMem.there)) (by rfl)) (by rfl) ?_ | refine za ?_ | refine z8 ?_ | refine z6 ?_ | refine z7 ?_ | refine zg ?_ | refine zb ?_ | refine zp ?_ | refine zq ?_ | refine zac ?_))
  refine za7 (fun y : PW => [(1, lp b), (9, .slice (some ⟨gx, 0, none⟩) outs.length c), (10, inat outs.length), (11, inat y.j)]) (fun y => [G, bufb b y.v y.lr, y.R])
    (fun y => y.j ≤ outs.length ∧ BRow y.v (l ++ (outs.take y.j).flatten) y.R) (fun y => outs.length - y.j) ⟨0, v, R, lr⟩ ⟨Nat.zero_le _, by simpa using hR⟩ kB sA fun y hy => ?_
  obtain ⟨j, v, R, lr⟩ := y
  obtain ⟨y1, y2⟩ := hy
  simp only at y1 y2 ⊢
  by_cases hj : j < outs.length
  · obtain ⟨ty, u, out, hc', ho, f, hf, hme, htr⟩ := hrow j hj
    have hfl := out_le ho
    (repeat' (first | refine Ops.pure _ (zaa (by rfl) (by repeat (first | exact hmg _ | apply HMem.there)) hc') (by rfl) ?_ | refine za ?_ | refine z8 ?_ | refine z6 ?_ | refine z7 ?_ | refine ze ?_ | refine zg ?_ | refine zf ?_ | refine zb ?_ | refine zc ?_ | refine zo ?_ | refine zaj ?_))
    refine Ops.invoke (f := f) (args := [lp b]) hf.out rfl hme rfl (htr b v _ R lr y2 (by simp [hne]) (by simp only [List.length_append]; omega)) (by repeat' (first | exact HTakes.nil | exact HTake.here | apply HTakes.cons | apply HTake.there)) rfl (fun u K hR => ?_)
    obtain ⟨rfl, v', R', lr', h9, rfl⟩ := hR
    (repeat' (first | refine z8 ?_ | refine z6 ?_ | refine z7 ?_ | refine zu ?_ | refine zb ?_ | refine zm ?_))
    exact ⟨⟨j + 1, v', R', lr'⟩, kB, sA, ⟨by simp only; omega, by simp only; rw [flat_snoc ho, ← List.append_assoc]; exact h9⟩, by simp only; omega⟩
  · have : j = outs.length := by omega
    subst this
    rw [List.take_of_length_le (by omega)] at y2
    (repeat' (first | refine za ?_ | refine z8 ?_ | refine z6 ?_ | refine z7 ?_ | refine zd ?_ | refine zy ?_ | refine zz ?_ | refine za0 ?_ | refine za4 ?_))
    exact e_norm [G, bufb b v lr, R] ⟨rfl, v, R, lr, y2, rfl⟩ sA

theorem imageTG_tr (x b : Nat) (rs : List Value) (sv : Value) (outs : List (List UInt8)) (v : Value) (l : List UInt8) (R G : Blk) (lr : Int) (hx : (x, cellsOf (sv :: rs) 106) ∈ G) (hS : ShownG "PrintText" sv G outs) (hR : BRow v l R) (hne : l ≠ []) (hlim : l.length + outs.flatten.length ≤ 900000) :
    Tr Tryz.prog 284 [lp x, lp b] [G, bufb b v lr, R] fun u K => u = unit ∧ ∃ v' R' lr', BRow v' (l ++ outs.flatten) R' ∧ K = [G, bufb b v' lr', R'] := by
  have hm : ∀ H, HMem (G :: H) x (cellsOf (sv :: rs) 106) := fun H => HMem.of_chunk hx
  rcases hS.cases with ⟨rfl, rfl⟩ | ⟨gx, c, curx, rfl, hg, hol, hrow⟩
  · refine Tr.start (n := 19) (rs := []) rfl rfl rfl rfl fun B => ?_
    (repeat' (first | refine Ops.pure _ (zaa (by rfl) (by repeat (first | exact hm _ | apply HMem.there)) (by rfl)) (by rfl) ?_ | refine za ?_ | refine z8 ?_ | refine z6 ?_ | refine z7 ?_ | refine zg ?_ | refine zb ?_ | refine zp ?_ | refine zq ?_ | refine zac ?_))
    refine za7 (fun y : PW => [(1, lp b), (9, .slice none 0 0), (10, inat 0), (11, inat 0)]) (fun y => [G, bufb b v lr, R])
      (fun y => True) (fun y => 0) ⟨0, v, R, 0⟩ trivial kB sA fun y hy => ?_
    (repeat' (first | refine za ?_ | refine z8 ?_ | refine z6 ?_ | refine z7 ?_ | refine zd ?_ | refine zy ?_ | refine zz ?_ | refine za0 ?_ | refine za4 ?_))
    exact e_norm [G, bufb b v lr, R] ⟨rfl, v, R, lr, by simpa only [List.append_assoc, List.flatten_nil, List.nil_append, List.append_nil] using hR, rfl⟩ sA
  have hmg : ∀ H, HMem (G :: H) gx (cellsOf curx 85) := fun H => HMem.of_chunk hg
  refine Tr.start (n := 19) (rs := []) rfl rfl rfl rfl fun B => ?_
  (repeat' (first | refine Ops.pure _ (zaa (by rfl) (by repeat (first | exact hm _ | apply HMem.there)) (by rfl)) (by rfl) ?_ | refine za ?_ | refine z8 ?_ | refine z6 ?_ | refine z7 ?_ | refine zg ?_ | refine zb ?_ | refine zp ?_ | refine zq ?_ | refine zac ?_))
  refine za7 (fun y : PW => [(1, lp b), (9, .slice (some ⟨gx, 0, none⟩) outs.length c), (10, inat outs.length), (11, inat y.j)]) (fun y => [G, bufb b y.v y.lr, y.R])
    (fun y => y.j ≤ outs.length ∧ BRow y.v (l ++ (outs.take y.j).flatten) y.R) (fun y => outs.length - y.j) ⟨0, v, R, lr⟩ ⟨Nat.zero_le _, by simpa using hR⟩ kB sA fun y hy => ?_
  obtain ⟨j, v, R, lr⟩ := y
  obtain ⟨y1, y2⟩ := hy
  simp only at y1 y2 ⊢
  by_cases hj : j < outs.length
  · obtain ⟨ty, u, out, hc', ho, f, hf, hme, htr⟩ := hrow j hj
    have hfl := out_le ho
    (repeat' (first | refine Ops.pure _ (zaa (by rfl) (by repeat (first | exact hmg _ | apply HMem.there)) hc') (by rfl) ?_ | refine za ?_ | refine z8 ?_ | refine z6 ?_ | refine z7 ?_ | refine ze ?_ | refine zg ?_ | refine zf ?_ | refine zb ?_ | refine zc ?_ | refine zo ?_ | refine zaj ?_))
    refine Ops.invoke (f := f) (args := [lp b]) hf.out rfl hme rfl (htr b v _ R lr y2 (by simp [hne]) (by simp only [List.length_append]; omega)) (by repeat' (first | exact HTakes.nil | exact HTake.here | apply HTakes.cons | apply HTake.there)) rfl (fun u K hR => ?_)
    obtain ⟨rfl, v', R', lr', h9, rfl⟩ := hR
    (repeat' (first | refine z8 ?_ | refine z6 ?_ | refine z7 ?_ | refine zu ?_ | refine zb ?_ | refine zm ?_))
    exact ⟨⟨j + 1, v', R', lr'⟩, kB, sA, ⟨by simp only; omega, by simp only; rw [flat_snoc ho, ← List.append_assoc]; exact h9⟩, by simp only; omega⟩
  · have : j = outs.length := by omega
    subst this
    rw [List.take_of_length_le (by omega)] at y2
    (repeat' (first | refine za ?_ | refine z8 ?_ | refine z6 ?_ | refine z7 ?_ | refine zd ?_ | refine zy ?_ | refine zz ?_ | refine za0 ?_ | refine za4 ?_))
    exact e_norm [G, bufb b v lr, R] ⟨rfl, v, R, lr, y2, rfl⟩ sA

theorem textG_tr (t a b' b : Nat) (sv : Value) (raw : List UInt8) (outs : List (List UInt8)) (v : Value) (l : List UInt8) (R G : Blk) (lr : Int) (hS : ShownG "PrintHTML" sv G outs) (hR : BRow v l R) (hln : l ≠ []) (hlim : l.length + outs.flatten.length ≤ 900000) :
    Tr Tryz.prog 249 [lp t, lp b] [txb t a b' sv raw, G, bufb b v lr, R] fun u K => u = unit ∧ ∃ v' R' lr', BRow v' (l ++ outs.flatten) R' ∧ K = [txb t a b' sv raw, G, bufb b v' lr', R'] := by
  rcases hS.cases with ⟨rfl, rfl⟩ | ⟨gx, c, curx, rfl, hg, hol, hrow⟩
  · refine Tr.start (n := 19) (rs := []) rfl rfl rfl rfl fun B => ?_
    (repeat' (first | refine za ?_ | refine z8 ?_ | refine z6 ?_ | refine z7 ?_ | refine zg ?_ | refine zb ?_ | refine zr ?_ | refine zp ?_ | refine zq ?_ | refine zac ?_))
    refine za7 (fun y : PW => [(1, lp b), (9, .slice none 0 0), (10, inat 0), (11, inat 0)]) (fun y => [txb t a b' (.slice none 0 0) raw, G, bufb b v lr, R])
      (fun y => True) (fun y => 0) ⟨0, v, R, 0⟩ trivial kB sA fun y hy => ?_
    (repeat' (first | refine za ?_ | refine z8 ?_ | refine z6 ?_ | refine z7 ?_ | refine zd ?_ | refine zy ?_ | refine zz ?_ | refine za0 ?_ | refine za4 ?_))
    exact e_norm [txb t a b' (.slice none 0 0) raw, G, bufb b v lr, R] ⟨rfl, v, R, lr, by simpa only [List.append_assoc, List.flatten_nil, List.nil_append, List.append_nil] using hR, rfl⟩ sA
  have hmg : ∀ H, HMem (G :: H) gx (cellsOf curx 85) := fun H => HMem.of_chunk hg
  refine Tr.start (n := 19) (rs := []) rfl rfl rfl rfl fun B => ?_
  (repeat' (first | refine za ?_ | refine z8 ?_ | refine z6 ?_ | refine z7 ?_ | refine zg ?_ | refine zb ?_ | refine zr ?_ | refine zp ?_ | refine zq ?_ | refine zac ?_))
  refine za7 (fun y : PW => [(1, lp b), (9, .slice (some ⟨gx, 0, none⟩) outs.length c), (10, inat outs.length), (11, inat y.j)]) (fun y => [txb t a b' (.slice (some ⟨gx, 0, none⟩) outs.length c) raw, G, bufb b y.v y.lr, y.R])
    (fun y => y.j ≤ outs.length ∧ BRow y.v (l ++ (outs.take y.j).flatten) y.R) (fun y => outs.length - y.j) ⟨0, v, R, lr⟩ ⟨Nat.zero_le _, by simpa using hR⟩ kB sA fun y hy => ?_
  obtain ⟨j, v, R, lr⟩ := y
  obtain ⟨y1, y2⟩ := hy
  simp only at y1 y2 ⊢
  by_cases hj : j < outs.length
  · obtain ⟨ty, u, out, hc', ho, f, hf, hme, htr⟩ := hrow j hj
    have hfl := out_le ho
    (repeat' (first | refine Ops.pure _ (zaa (by rfl) (by repeat (first | exact hmg _ | apply HMem.there)) hc') (by rfl) ?_ | refine za ?_ | refine z8 ?_ | refine z6 ?_ | refine z7 ?_ | refine ze ?_ | refine zg ?_ | refine zf ?_ | refine zb ?_ | refine zc ?_ | refine zo ?_ | refine zaj ?_))
    refine Ops.invoke (f := f) (args := [lp b]) hf.out rfl hme rfl (htr b v _ R lr y2 (by simp [hln]) (by simp only [List.length_append]; omega)) (by repeat' (first | exact HTakes.nil | exact HTake.here | apply HTakes.cons | apply HTake.there)) rfl (fun u K hR => ?_)
    obtain ⟨rfl, v', R', lr', h9, rfl⟩ := hR
    (repeat' (first | refine z8 ?_ | refine z6 ?_ | refine z7 ?_ | refine zu ?_ | refine zb ?_ | refine zm ?_))
    exact ⟨⟨j + 1, v', R', lr'⟩, kB, sA, ⟨by simp only; omega, by simp only; rw [flat_snoc ho, ← List.append_assoc]; exact h9⟩, by simp only; omega⟩
  · have : j = outs.length := by omega
    subst this
    rw [List.take_of_length_le (by omega)] at y2
    (repeat' (first | refine za ?_ | refine z8 ?_ | refine z6 ?_ | refine z7 ?_ | refine zd ?_ | refine zy ?_ | refine zz ?_ | refine za0 ?_ | refine za4 ?_))
    exact e_norm [txb t a b' (.slice (some ⟨gx, 0, none⟩) outs.length c) raw, G, bufb b v lr, R] ⟨rfl, v, R, lr, y2, rfl⟩ sA
end Go.Proofs

namespace Go.Proofs
open Go Go.Eng
set_option maxRecDepth 40000
set_option maxHeartbeats 1000000

theorem htmlQuoteEscaper_tr : Tr Tryz.prog 239 [] [] fun u K => ∃ g, u = .slice (some ⟨g, 0, none⟩) 8 8 ∧ K = [escRow g] := by
  refine Tr.start (n := 2) (rs := [.tmp 0]) rfl rfl rfl rfl fun B => ?_
  (repeat' (first | refine za ?_ | refine z8 ?_ | refine z6 ?_ | refine z7 ?_ | refine zh ?_ | refine zc ?_ | refine zdk (fun _ => ?_)))
  rename_i g
  exact e_ret [escRow g] ⟨g, rfl, rfl⟩ sA

/-- The title of a link, as it is put out. -/
def titH (t : List UInt8) : List UInt8 := if t = [] then [] else [32, 116, 105, 116, 108, 101, 61, 34] ++ escH t ++ [34]
def linkH (u t : List UInt8) (o : List UInt8) : List UInt8 := [60, 97, 32, 104, 114, 101, 102, 61, 34] ++ pairH linkPairs u ++ [34] ++ titH t ++ [62] ++ o ++ [60, 47, 97, 62]

theorem linkHG_tr (x b : Nat) (rs : List Value) (url ti : List UInt8) (sv : Value) (outs : List (List UInt8)) (v : Value) (l : List UInt8) (R G : Blk) (lr : Int) (hx : (x, cellsOf (sv :: str url :: str ti :: rs) 106) ∈ G) (hS : ShownG "PrintHTML" sv G outs) (hR : BRow v l R) (hne : l ≠ []) (hu : url.length ≤ 10000) (ht : ti.length ≤ 10000) (hlim : l.length + (linkH url ti outs.flatten).length ≤ 900000) :
    Tr Tryz.prog 233 [lp x, lp b] [G, bufb b v lr, R] fun u K => u = unit ∧ ∃ v' R' lr', BRow v' (l ++ linkH url ti outs.flatten) R' ∧ K = [G, bufb b v' lr', R'] := by
  have hm : ∀ H, HMem (G :: H) x (cellsOf (sv :: str url :: str ti :: rs) 106) := fun H => HMem.of_chunk hx
  have hl1 := pairH_len linkOK url
  have hl2 := escH_len ti
  simp only [linkH, List.length_append, List.length_cons, List.length_nil] at hlim
  refine Tr.start (n := 48) (rs := []) rfl rfl rfl rfl fun B => ?_
  (repeat' (first | refine za ?_))
  refine Wp.draw_held (id := 0) [G] 10 Mixed.out sA rfl ?_
  refine hF 0 ?_
  refine hF 2 ?_
  refine hF 3 ?_
  refine hF 4 ?_
  refine hG 5 _ rfl (zaa rfl (hm _) rfl) ?_
  refine hO 1 ?_
  refine za1 htmlLinkEscaper_tr (fun u K hR => ?_)
  obtain ⟨g, rfl, rfl⟩ := hR
  (repeat' (first | refine z6 ?_ | refine z7 ?_))
  refine ⟨sA, ?_⟩
  refine hO 6 ?_
  refine za1 (replaceP_tr linkPairs linkOK g url (by omega)) (fun u K hR => ?_)
  obtain ⟨rfl, rfl⟩ := hR
  (repeat' (first | refine z6 ?_ | refine z7 ?_))
  refine ⟨sA, ?_⟩
  refine hG 7 _ rfl (zbv (a := [60, 97, 32, 104, 114, 101, 102, 61, 34]) (b := pairH linkPairs url) rfl rfl rfl (by simp only [List.length_cons, List.length_nil]; omega)) ?_
  refine hG 8 _ rfl (zbv (a := [60, 97, 32, 104, 114, 101, 102, 61, 34] ++ pairH linkPairs url) (b := [34]) rfl rfl rfl (by simp only [List.length_append, List.length_cons, List.length_nil]; omega)) ?_
  refine hO 9 ?_
  refine za1 (writeAny_tr b v l R lr (([60, 97, 32, 104, 114, 101, 102, 61, 34] ++ pairH linkPairs url) ++ [34]) hR hne (by simp only [List.length_append, List.length_cons, List.length_nil]; omega)) (fun u K hR => ?_)
  obtain ⟨rfl, v1, R1, h1, rfl⟩ := hR
  (repeat' (first | refine z6 ?_ | refine z7 ?_))
  refine ⟨sA, ?_⟩
  refine OpsH.nil (by kernel_rfl) ?_
  by_cases hti : ti = []
  · have h9 := h1
    simp only [titH, hti, if_true, List.length_nil] at hlim
    subst hti
    have hti : True := trivial
    (repeat' (first | refine Ops.pure _ (zaa (by rfl) (by repeat (first | exact hm _ | apply HMem.there)) (by rfl)) (by rfl) ?_ | refine za ?_ | refine z8 ?_ | refine z6 ?_ | refine z7 ?_ | refine zd ?_ | refine zf ?_ | refine zb ?_ | refine zp ?_ | refine zq ?_ | refine zck ?_))
    refine za1 (writeString_tr b v1 _ R1 0 [62] h9 (by simp) (by simp) (by simp only [List.length_append, List.length_cons, List.length_nil]; omega)) (fun u K hR => ?_)
    obtain ⟨rfl, v1, R1, h1, rfl⟩ := hR
    have hN : (l ++ (([60, 97, 32, 104, 114, 101, 102, 61, 34] ++ pairH linkPairs url) ++ [34])) ++ [62] ≠ [] := by simp
    have hL : ((l ++ (([60, 97, 32, 104, 114, 101, 102, 61, 34] ++ pairH linkPairs url) ++ [34])) ++ [62]).length + outs.flatten.length + 4 ≤ 900000 := by simp only [List.length_append, List.length_cons, List.length_nil]; omega
    have hE : l ++ linkH url [] outs.flatten = (l ++ (([60, 97, 32, 104, 114, 101, 102, 61, 34] ++ pairH linkPairs url) ++ [34])) ++ [62] ++ outs.flatten ++ [60, 47, 97, 62] := by simp [linkH, titH, hti]
    rw [hE]
    generalize (l ++ (([60, 97, 32, 104, 114, 101, 102, 61, 34] ++ pairH linkPairs url) ++ [34])) ++ [62] = Z at h1 hN hL ⊢
    rcases hS.cases with ⟨rfl, rfl⟩ | ⟨gx, c, curx, rfl, hg, hol, hrow⟩
    · simp only [List.flatten_nil, List.length_nil] at hL
      (repeat' (first | refine Ops.pure _ (zaa (by rfl) (by repeat (first | exact hm _ | apply HMem.there)) (by rfl)) (by rfl) ?_ | refine za ?_ | refine z8 ?_ | refine z6 ?_ | refine z7 ?_ | refine zg ?_ | refine zb ?_ | refine zp ?_ | refine zq ?_ | refine zac ?_))
      refine za7 (fun y : PW => [(1, lp b), (36, .slice none 0 0), (37, inat 0), (38, inat 0)]) (fun y => [G, bufb b v1 0, R1])
        (fun y => True) (fun y => 0) ⟨0, v1, R1, 0⟩ trivial kB sA fun y hy => ?_
      (repeat' (first | refine za ?_ | refine z8 ?_ | refine z6 ?_ | refine z7 ?_ | refine zd ?_ | refine zy ?_ | refine zz ?_ | refine za0 ?_ | refine zb ?_ | refine za4 ?_))
      refine za1 (writeString_tr b v1 _ R1 0 [60, 47, 97, 62] h1 (by simp) (by simp) (by simp only [List.length_append, List.length_cons, List.length_nil]; omega)) (fun u K hR => ?_)
      obtain ⟨rfl, v3, R3, h3, rfl⟩ := hR
      (repeat' (first | refine z6 ?_))
      exact e_norm [G, bufb b v3 0, R3] ⟨rfl, v3, R3, 0, by simpa only [List.append_assoc, List.flatten_nil, List.nil_append, List.append_nil] using h3, rfl⟩ sA
    have hmg : ∀ H, HMem (G :: H) gx (cellsOf curx 85) := fun H => HMem.of_chunk hg
    (repeat' (first | refine Ops.pure _ (zaa (by rfl) (by repeat (first | exact hm _ | apply HMem.there)) (by rfl)) (by rfl) ?_ | refine za ?_ | refine z8 ?_ | refine z6 ?_ | refine z7 ?_ | refine zg ?_ | refine zb ?_ | refine zp ?_ | refine zq ?_ | refine zac ?_))
    refine za7 (fun y : PW => [(1, lp b), (36, .slice (some ⟨gx, 0, none⟩) outs.length c), (37, inat outs.length), (38, inat y.j)]) (fun y => [G, bufb b y.v y.lr, y.R])
      (fun y => y.j ≤ outs.length ∧ BRow y.v (Z ++ (outs.take y.j).flatten) y.R) (fun y => outs.length - y.j) ⟨0, v1, R1, 0⟩ ⟨Nat.zero_le _, by simpa using h1⟩ kB sA fun y hy => ?_
    obtain ⟨j, v, R, lr⟩ := y
    obtain ⟨y1, y2⟩ := hy
    simp only at y1 y2 ⊢
    by_cases hj : j < outs.length
    · obtain ⟨ty, u, out, hc', ho, f, hf, hme, htr⟩ := hrow j hj
      have hfl := out_le ho
      (repeat' (first | refine Ops.pure _ (zaa (by rfl) (by repeat (first | exact hmg _ | apply HMem.there)) hc') (by rfl) ?_ | refine za ?_ | refine z8 ?_ | refine z6 ?_ | refine z7 ?_ | refine ze ?_ | refine zg ?_ | refine zf ?_ | refine zb ?_ | refine zc ?_ | refine zo ?_ | refine zaj ?_))
      refine Ops.invoke (f := f) (args := [lp b]) hf.out rfl hme rfl (htr b v _ R lr y2 (by simp [hN]) (by simp only [List.length_append, List.length_cons, List.length_nil]; omega)) (by repeat' (first | exact HTakes.nil | exact HTake.here | apply HTakes.cons | apply HTake.there)) rfl (fun u K hR => ?_)
      obtain ⟨rfl, v', R', lr', h9, rfl⟩ := hR
      (repeat' (first | refine z8 ?_ | refine z6 ?_ | refine z7 ?_ | refine zu ?_ | refine zb ?_ | refine zm ?_))
      exact ⟨⟨j + 1, v', R', lr'⟩, kB, sA, ⟨by simp only; omega, by simp only; rw [flat_snoc ho, ← List.append_assoc]; exact h9⟩, by simp only; omega⟩
    · have : j = outs.length := by omega
      subst this
      rw [List.take_of_length_le (by omega)] at y2
      (repeat' (first | refine za ?_ | refine z8 ?_ | refine z6 ?_ | refine z7 ?_ | refine zd ?_ | refine zy ?_ | refine zz ?_ | refine za0 ?_ | refine zb ?_ | refine za4 ?_))
      refine za1 (writeString_tr b v _ R lr [60, 47, 97, 62] y2 (by simp) (by simp) (by simp only [List.length_append, List.length_cons, List.length_nil]; omega)) (fun u K hR => ?_)
      obtain ⟨rfl, v3, R3, h3, rfl⟩ := hR
      (repeat' (first | refine z6 ?_))
      exact e_norm [G, bufb b v3 0, R3] ⟨rfl, v3, R3, 0, by simpa only [List.append_assoc] using h3, rfl⟩ sA
  · have hlim2 : (titH ti).length = 8 + (escH ti).length + 1 := by simp [titH, hti]; omega
    rw [hlim2] at hlim
    (repeat' (first | refine Ops.pure _ (zaa (by rfl) (by repeat (first | exact hm _ | apply HMem.there)) (by rfl)) (by rfl) ?_ | refine za ?_ | refine z8 ?_ | refine z6 ?_ | refine z7 ?_ | refine ze ?_ | refine zb ?_ | refine zp ?_ | refine zq ?_ | refine zc3 ?_))
    refine Wp.draw_held (id := 2) [G] 10 Mixed.out sA rfl ?_
    refine hF 0 ?_
    refine hF 2 ?_
    refine hF 3 ?_
    refine hF 4 ?_
    refine hG 5 _ rfl (zaa rfl (hm _) rfl) ?_
    refine hO 1 ?_
    refine za1 htmlQuoteEscaper_tr (fun u K hR => ?_)
    obtain ⟨g, rfl, rfl⟩ := hR
    (repeat' (first | refine z6 ?_ | refine z7 ?_))
    refine ⟨sA, ?_⟩
    refine hO 6 ?_
    refine za1 (replaceEsc_tr g ti (by omega)) (fun u K hR => ?_)
    obtain ⟨rfl, rfl⟩ := hR
    (repeat' (first | refine z6 ?_ | refine z7 ?_))
    refine ⟨sA, ?_⟩
    refine hG 7 _ rfl (zbv (a := [32, 116, 105, 116, 108, 101, 61, 34]) (b := escH ti) rfl rfl rfl (by simp only [List.length_cons, List.length_nil]; omega)) ?_
    refine hG 8 _ rfl (zbv (a := [32, 116, 105, 116, 108, 101, 61, 34] ++ escH ti) (b := [34]) rfl rfl rfl (by simp only [List.length_append, List.length_cons, List.length_nil]; omega)) ?_
    refine hO 9 ?_
    refine za1 (writeAny_tr b v1 _ R1 0 (([32, 116, 105, 116, 108, 101, 61, 34] ++ escH ti) ++ [34]) h1 (by simp) (by simp only [List.length_append, List.length_cons, List.length_nil]; omega)) (fun u K hR => ?_)
    obtain ⟨rfl, v2, R2, h9, rfl⟩ := hR
    (repeat' (first | refine z6 ?_ | refine z7 ?_))
    refine ⟨sA, ?_⟩
    refine OpsH.nil (by kernel_rfl) ?_
    (repeat' (first | refine za ?_ | refine z8 ?_ | refine zb ?_))
    refine za1 (writeString_tr b v2 _ R2 0 [62] h9 (by simp) (by simp) (by simp only [List.length_append, List.length_cons, List.length_nil]; omega)) (fun u K hR => ?_)
    obtain ⟨rfl, v1, R1, h1, rfl⟩ := hR
    have hN : (l ++ (([60, 97, 32, 104, 114, 101, 102, 61, 34] ++ pairH linkPairs url) ++ [34]) ++ (([32, 116, 105, 116, 108, 101, 61, 34] ++ escH ti) ++ [34])) ++ [62] ≠ [] := by simp
    have hL : ((l ++ (([60, 97, 32, 104, 114, 101, 102, 61, 34] ++ pairH linkPairs url) ++ [34]) ++ (([32, 116, 105, 116, 108, 101, 61, 34] ++ escH ti) ++ [34])) ++ [62]).length + outs.flatten.length + 4 ≤ 900000 := by simp only [List.length_append, List.length_cons, List.length_nil]; omega
    have hE : l ++ linkH url ti outs.flatten = (l ++ (([60, 97, 32, 104, 114, 101, 102, 61, 34] ++ pairH linkPairs url) ++ [34]) ++ (([32, 116, 105, 116, 108, 101, 61, 34] ++ escH ti) ++ [34])) ++ [62] ++ outs.flatten ++ [60, 47, 97, 62] := by simp [linkH, titH, hti]
    rw [hE]
    generalize (l ++ (([60, 97, 32, 104, 114, 101, 102, 61, 34] ++ pairH linkPairs url) ++ [34]) ++ (([32, 116, 105, 116, 108, 101, 61, 34] ++ escH ti) ++ [34])) ++ [62] = Z at h1 hN hL ⊢
    rcases hS.cases with ⟨rfl, rfl⟩ | ⟨gx, c, curx, rfl, hg, hol, hrow⟩
    · simp only [List.flatten_nil, List.length_nil] at hL
      (repeat' (first | refine Ops.pure _ (zaa (by rfl) (by repeat (first | exact hm _ | apply HMem.there)) (by rfl)) (by rfl) ?_ | refine za ?_ | refine z8 ?_ | refine z6 ?_ | refine z7 ?_ | refine zg ?_ | refine zb ?_ | refine zp ?_ | refine zq ?_ | refine zac ?_))
      refine za7 (fun y : PW => [(1, lp b), (36, .slice none 0 0), (37, inat 0), (38, inat 0)]) (fun y => [G, bufb b v1 0, R1])
        (fun y => True) (fun y => 0) ⟨0, v1, R1, 0⟩ trivial kB sA fun y hy => ?_
      (repeat' (first | refine za ?_ | refine z8 ?_ | refine z6 ?_ | refine z7 ?_ | refine zd ?_ | refine zy ?_ | refine zz ?_ | refine za0 ?_ | refine zb ?_ | refine za4 ?_))
      refine za1 (writeString_tr b v1 _ R1 0 [60, 47, 97, 62] h1 (by simp) (by simp) (by simp only [List.length_append, List.length_cons, List.length_nil]; omega)) (fun u K hR => ?_)
      obtain ⟨rfl, v3, R3, h3, rfl⟩ := hR
      (repeat' (first | refine z6 ?_))
      exact e_norm [G, bufb b v3 0, R3] ⟨rfl, v3, R3, 0, by simpa only [List.append_assoc, List.flatten_nil, List.nil_append, List.append_nil] using h3, rfl⟩ sA
    have hmg : ∀ H, HMem (G :: H) gx (cellsOf curx 85) := fun H => HMem.of_chunk hg
    (repeat' (first | refine Ops.pure _ (zaa (by rfl) (by repeat (first | exact hm _ | apply HMem.there)) (by rfl)) (by rfl) ?_ | refine za ?_ | refine z8 ?_ | refine z6 ?_ | refine z7 ?_ | refine zg ?_ | refine zb ?_ | refine zp ?_ | refine zq ?_ | refine zac ?_))
    refine za7 (fun y : PW => [(1, lp b), (36, .slice (some ⟨gx, 0, none⟩) outs.length c), (37, inat outs.length), (38, inat y.j)]) (fun y => [G, bufb b y.v y.lr, y.R])
      (fun y => y.j ≤ outs.length ∧ BRow y.v (Z ++ (outs.take y.j).flatten) y.R) (fun y => outs.length - y.j) ⟨0, v1, R1, 0⟩ ⟨Nat.zero_le _, by simpa using h1⟩ kB sA fun y hy => ?_
    obtain ⟨j, v, R, lr⟩ := y
    obtain ⟨y1, y2⟩ := hy
    simp only at y1 y2 ⊢
    by_cases hj : j < outs.length
    · obtain ⟨ty, u, out, hc', ho, f, hf, hme, htr⟩ := hrow j hj
      have hfl := out_le ho
      (repeat' (first | refine Ops.pure _ (zaa (by rfl) (by repeat (first | exact hmg _ | apply HMem.there)) hc') (by rfl) ?_ | refine za ?_ | refine z8 ?_ | refine z6 ?_ | refine z7 ?_ | refine ze ?_ | refine zg ?_ | refine zf ?_ | refine zb ?_ | refine zc ?_ | refine zo ?_ | refine zaj ?_))
      refine Ops.invoke (f := f) (args := [lp b]) hf.out rfl hme rfl (htr b v _ R lr y2 (by simp [hN]) (by simp only [List.length_append, List.length_cons, List.length_nil]; omega)) (by repeat' (first | exact HTakes.nil | exact HTake.here | apply HTakes.cons | apply HTake.there)) rfl (fun u K hR => ?_)
      obtain ⟨rfl, v', R', lr', h9, rfl⟩ := hR
      (repeat' (first | refine z8 ?_ | refine z6 ?_ | refine z7 ?_ | refine zu ?_ | refine zb ?_ | refine zm ?_))
      exact ⟨⟨j + 1, v', R', lr'⟩, kB, sA, ⟨by simp only; omega, by simp only; rw [flat_snoc ho, ← List.append_assoc]; exact h9⟩, by simp only; omega⟩
    · have : j = outs.length := by omega
      subst this
      rw [List.take_of_length_le (by omega)] at y2
      (repeat' (first | refine za ?_ | refine z8 ?_ | refine z6 ?_ | refine z7 ?_ | refine zd ?_ | refine zy ?_ | refine zz ?_ | refine za0 ?_ | refine zb ?_ | refine za4 ?_))
      refine za1 (writeString_tr b v _ R lr [60, 47, 97, 62] y2 (by simp) (by simp) (by simp only [List.length_append, List.length_cons, List.length_nil]; omega)) (fun u K hR => ?_)
      obtain ⟨rfl, v3, R3, h3, rfl⟩ := hR
      (repeat' (first | refine z6 ?_))
      exact e_norm [G, bufb b v3 0, R3] ⟨rfl, v3, R3, 0, by simpa only [List.append_assoc] using h3, rfl⟩ sA
end Go.Proofs

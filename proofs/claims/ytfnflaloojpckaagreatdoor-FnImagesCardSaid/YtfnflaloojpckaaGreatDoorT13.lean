/- inline of a text of literal bytes and runs. Conditions: TkOK, and contracts of emph and mergePlain for its items. laws.FnSeven returns true whatever the arguments. Condition: the text's length is that of a Go string. -/
import Derived.Test.YtfnflaloojpckaaGreatDoorT12
import Derived.Test.YtfnflaloojpckaaGreatDoorT04
import Derived.Test.YtfnflaloojpckaaGreatDoorT05
import Derived.Test.YtfnflaloojpckaaGreatDoorT08
import Derived.Test.YtfnflaloojpckaaGreatDoorEngB
import Derived.Test.YtfnflaloojpckaaGreatDoorT07
namespace Go.Proofs
open Go Go.Eng
set_option maxRecDepth 20000
set_option maxHeartbeats 8000000

/-- A byte by a table of pairs. -/
abbrev Pairs := List (UInt8 × List UInt8)
def pairB : Pairs → UInt8 → List UInt8
  | [], c => [c]
  | x :: r, c => if x.1 = c then x.2 else pairB r c
abbrev pairH (ps : Pairs) (l : List UInt8) : List UInt8 := l.flatMap (pairB ps)
def pairCells (ps : Pairs) : List Value := ps.flatMap fun x => [str [x.1], str x.2]
abbrev pairRow (g : Nat) (ps : Pairs) : Blk := [(g, cellsOf (pairCells ps) 9)]
structure PairsOK (ps : Pairs) : Prop where
  all : ∀ x ∈ ps, x.2 ≠ [] ∧ x.2.length ≤ 6
  len : ps.length ≤ 1000
theorem pairCells_len (ps : Pairs) : (pairCells ps).length = 2 * ps.length := by
  induction ps with
  | nil => rfl
  | cons x r ih => simp only [pairCells, List.flatMap_cons, List.length_append, List.length_cons, List.length_nil] at ih ⊢; omega
theorem pairCells_at : ∀ {ps : Pairs} {m : Nat} {x : UInt8 × List UInt8}, ps[m]? = some x → (pairCells ps)[2 * m]? = some (str [x.1]) ∧ (pairCells ps)[2 * m + 1]? = some (str x.2)
  | [], m, x, h => by simp at h
  | y :: r, 0, x, h => by
    simp only [List.getElem?_cons_zero, Option.some.injEq] at h
    subst h
    exact ⟨rfl, rfl⟩
  | y :: r, m + 1, x, h => by
    have ih := pairCells_at (ps := r) (m := m) (x := x) (by simpa using h)
    have e : pairCells (y :: r) = str [y.1] :: str y.2 :: pairCells r := by simp [pairCells]
    rw [e, show 2 * (m + 1) = 2 * m + 1 + 1 by omega, show 2 * m + 1 + 1 + 1 = (2 * m + 1) + 1 + 1 by omega]
    simpa using ih
theorem pairB_hit : ∀ {ps : Pairs} {c : UInt8} {m : Nat} {x : UInt8 × List UInt8}, ps[m]? = some x → x.1 = c → (∀ k y, k < m → ps[k]? = some y → y.1 ≠ c) → pairB ps c = x.2
  | [], c, m, x, h, _, _ => by simp at h
  | y :: r, c, 0, x, h, e, _ => by
    simp only [List.getElem?_cons_zero, Option.some.injEq] at h
    subst h
    simp [pairB, e]
  | y :: r, c, m + 1, x, h, e, hn => by
    have h0 : ¬ y.1 = c := hn 0 y (by omega) rfl
    simp only [pairB, if_neg h0]
    exact pairB_hit (m := m) (by simpa using h) e (fun k z hk hz => hn (k + 1) z (by omega) (by simpa using hz))
theorem pairB_none : ∀ {ps : Pairs} {c : UInt8}, (∀ k y, k < ps.length → ps[k]? = some y → y.1 ≠ c) → pairB ps c = [c]
  | [], c, _ => rfl
  | y :: r, c, hn => by
    have h0 : ¬ y.1 = c := hn 0 y (by simp) rfl
    simp only [pairB, if_neg h0]
    exact pairB_none fun k z hk hz => hn (k + 1) z (by simp; omega) (by simpa using hz)
theorem pairB_len : ∀ {ps : Pairs} (_ : ∀ x ∈ ps, x.2 ≠ [] ∧ x.2.length ≤ 6) (c : UInt8), (pairB ps c).length ≤ 6
  | [], _, c => by simp [pairB]
  | y :: r, h, c => by
    simp only [pairB]
    split
    · exact (h y (by simp)).2
    · exact pairB_len (fun x hx => h x (by simp [hx])) c
theorem pairH_len {ps : Pairs} (h : PairsOK ps) (l : List UInt8) : (pairH ps l).length ≤ 6 * l.length := by
  induction l with
  | nil => simp
  | cons c l ih => have := pairB_len h.all c; simp only [pairH, List.flatMap_cons, List.length_append, List.length_cons] at ih ⊢; omega
theorem pairH_snoc {ps : Pairs} {s : List UInt8} {j : Nat} {c : UInt8} (h : s[j]? = some c) : pairH ps (s.take (j + 1)) = pairH ps (s.take j) ++ pairB ps c := by
  obtain ⟨h1, h2⟩ := List.getElem?_eq_some_iff.1 h
  rw [List.take_succ_eq_append_getElem h1, h2]; simp [pairH]

theorem pairsW_tr (ps : Pairs) (hps : PairsOK ps) (g b : Nat) (v : Value) (l : List UInt8) (R : Blk) (lr : Int) (s : List UInt8) (hR : BRow v l R) (hlim : l.length + 6 * s.length ≤ 1000000) :
    Tr Tryz.prog 242 [.slice (some ⟨g, 0, none⟩) (2 * ps.length) (2 * ps.length), lp b, str s] [pairRow g ps, bufb b v lr, R] fun u K => u = unit ∧ ∃ v' R' lr', BRow v' (l ++ pairH ps s) R' ∧ K = [pairRow g ps, bufb b v' lr', R'] := by
  have hpl := pairCells_len ps
  have hp1000 := hps.len
  refine Tr.start (n := 41) (rs := []) rfl rfl rfl rfl fun B => ?_
  (repeat' (first | refine za ?_ | refine z8 ?_ | refine z6 ?_ | refine z7 ?_ | refine zg ?_ | refine zcd ?_ | refine zcg ?_ | refine zc ?_))
  refine za7 (fun x : PW => [(0, .slice (some ⟨g, 0, none⟩) (2 * ps.length) (2 * ps.length)), (1, lp b), (2, str s), (6, inat x.j)]) (fun x => [pairRow g ps, bufb b x.v x.lr, x.R])
    (fun x => x.j ≤ s.length ∧ BRow x.v (l ++ pairH ps (s.take x.j)) x.R) (fun x => s.length - x.j) ⟨0, v, R, lr⟩ ⟨Nat.zero_le _, by simpa using hR⟩ kB sA fun x hx => ?_
  obtain ⟨j, v, R, lr⟩ := x
  obtain ⟨x1, x2⟩ := hx
  simp only at x1 x2 ⊢
  have hb : (l ++ pairH ps (s.take j)).length ≤ l.length + 6 * j := by
    have := pairH_len hps (s.take j)
    rw [List.length_append]; rw [List.length_take] at this; omega
  by_cases hj : j < s.length
  · obtain ⟨c, hc⟩ : ∃ c, s[j]? = some c := ⟨_, List.getElem?_eq_getElem hj⟩
    have hsn := pairH_snoc (ps := ps) hc
    (repeat' (first | refine za ?_ | refine z8 ?_ | refine z6 ?_ | refine z7 ?_ | refine ze ?_ | refine zg ?_ | refine zf ?_ | refine zb ?_ | refine zc ?_ | refine zo ?_ | refine zi ?_))
    refine za7 (fun k : Nat => [(0, .slice (some ⟨g, 0, none⟩) (2 * ps.length) (2 * ps.length)), (1, lp b), (2, str s), (6, inat j), (7, inat (2 * k))]) (fun _ => [pairRow g ps, bufb b v lr, R])
      (fun k => k ≤ ps.length ∧ ∀ k' y, k' < k → ps[k']? = some y → y.1 ≠ c) (fun k => ps.length - k) 0 ⟨by omega, fun k' y h => by omega⟩ kB sA fun k hk => ?_
    obtain ⟨hk1, hk2⟩ := hk
    by_cases hkl : k < ps.length
    · obtain ⟨x, hx⟩ : ∃ x, ps[k]? = some x := ⟨_, List.getElem?_eq_getElem hkl⟩
      obtain ⟨c1, c2⟩ := pairCells_at hx
      have c1' : (pairCells ps)[0 + 2 * k * 1]? = some (str [x.1]) := by rw [show 0 + 2 * k * 1 = 2 * k by omega]; exact c1
      have c2' : (pairCells ps)[0 + (2 * k + 1) * 1]? = some (str x.2) := by rw [show 0 + (2 * k + 1) * 1 = 2 * k + 1 by omega]; exact c2
      have z1 : ([x.1] : List UInt8)[0]? = some x.1 := rfl
      obtain ⟨hx1, hx2⟩ := hps.all x (List.mem_of_getElem? hx)
      by_cases hxc : x.1 = c
      · have e1 := pairB_hit hx hxc hk2
        have hcn : c.toNat = x.1.toNat := by rw [hxc]
        (repeat' (first | refine Wp.draw_all (id := 6) Mixed.out (by kernel_rfl) ?_ | refine za5 (hc := c1') ?_ | refine zr (hc := c2') ?_ | refine za ?_ | refine z8 ?_ | refine z6 ?_ | refine z7 ?_ | refine ze ?_ | refine zg ?_ | refine zf ?_ | refine zb ?_ | refine zm ?_ | refine zo ?_ | refine zac ?_ | refine zaj ?_ | refine zab ?_ | refine za9 ?_ | refine zbe ?_ | refine zbd ?_ | refine zb9 ?_))
        refine za1 (writeString_tr b v (l ++ pairH ps (s.take j)) R lr x.2 x2 hx1 (by omega) (by omega)) (fun u K hR => ?_)
        obtain ⟨rfl, v', R', h9, rfl⟩ := hR
        (repeat' (first | refine z8 ?_ | refine z6 ?_ | refine z7 ?_ | refine zy ?_ | refine zz ?_ | refine za0 ?_ | refine zaz ?_ | refine zb ?_ | refine zc ?_ | refine zm ?_))
        exact ⟨⟨j + 1, v', R', 0⟩, kB, sA, ⟨by simp only; omega, by simp only; rw [hsn, e1, ← List.append_assoc]; exact h9⟩, by simp only; omega⟩
      · have hcn : ¬ c.toNat = x.1.toNat := fun h => hxc (UInt8.toNat_inj.1 h.symm)
        (repeat' (first | refine Wp.draw_all (id := 6) Mixed.out (by kernel_rfl) ?_ | refine za5 (hc := c1') ?_ | refine za ?_ | refine z8 ?_ | refine z6 ?_ | refine z7 ?_ | refine ze ?_ | refine zd ?_ | refine zg ?_ | refine zf ?_ | refine zu ?_ | refine zb ?_ | refine zc ?_ | refine zb4 ?_ | refine zo ?_ | refine zac ?_ | refine zab ?_ | refine za9 ?_ | refine zc2 ?_ | refine zbd ?_ | refine zb9 ?_))
        exact ⟨k + 1, kB, sA, ⟨by omega, fun k' y hk' hy => by
          by_cases hkk : k' < k
          · exact hk2 k' y hkk hy
          · have : k' = k := by omega
            subst this
            rw [hx] at hy
            injection hy with hy
            subst hy
            exact hxc⟩, by omega⟩
    · have hkk : k = ps.length := by omega
      subst hkk
      have e1 := pairB_none hk2
      (repeat' (first | refine za ?_ | refine z8 ?_ | refine z6 ?_ | refine z7 ?_ | refine zd ?_ | refine zy ?_ | refine zz ?_ | refine za0 ?_ | refine zb ?_ | refine za4 ?_ | refine zac ?_ | refine zl ?_))
      refine za1 (writeByte_tr b v (l ++ pairH ps (s.take j)) R lr c x2 (by omega)) (fun u K hR => ?_)
      obtain ⟨rfl, v', R', h9, rfl⟩ := hR
      (repeat' (first | refine z8 ?_ | refine z6 ?_ | refine z7 ?_ | refine zu ?_ | refine zb ?_ | refine zc ?_ | refine zm ?_))
      exact ⟨⟨j + 1, v', R', 0⟩, kB, sA, ⟨by simp only; omega, by simp only; rw [hsn, e1, ← List.append_assoc]; exact h9⟩, by simp only; omega⟩
  · have : j = s.length := by omega
    subst this
    rw [List.take_length] at x2
    (repeat' (first | refine za ?_ | refine z8 ?_ | refine z6 ?_ | refine z7 ?_ | refine zd ?_ | refine zy ?_ | refine zz ?_ | refine za0 ?_ | refine zcv ?_ | refine zb ?_ | refine za4 ?_ | refine zi ?_))
    exact e_norm _ ⟨rfl, v, R, lr, x2, rfl⟩ sA

theorem replaceP_tr (ps : Pairs) (hps : PairsOK ps) (g : Nat) (s : List UInt8) (hlim : 6 * s.length ≤ 1000000) :
    Tr Tryz.prog 238 [.slice (some ⟨g, 0, none⟩) (2 * ps.length) (2 * ps.length), str s] [pairRow g ps] fun u K => u = str (pairH ps s) ∧ K = [] := by
  refine Tr.start (n := 10) (rs := [.tmp 4]) rfl rfl rfl rfl fun B => ?_
  (repeat' (first | refine za ?_ | refine z8 ?_ | refine z6 ?_ | refine z7 ?_ | refine zb ?_ | refine zc ?_ | refine zal (fun _ => ?_)))
  rename_i b
  refine zcu ?_
  refine za1 (pairsW_tr ps hps g b (.slice none 0 0) [] [] 0 s BRow.nil (by simp; omega)) (fun u K hR => ?_)
  obtain ⟨rfl, v', R', lr', h9, rfl⟩ := hR
  rw [List.nil_append] at h9
  by_cases hn : pairH ps s = []
  · rw [hn] at h9 ⊢
    rcases h9 with ⟨_, rfl, rfl⟩ | ⟨h, _⟩
    · (repeat' (first | refine zad (bufString_nil b lr') ?_ | refine za ?_ | refine z8 ?_ | refine z6 ?_ | refine z7 ?_ | refine zh ?_ | refine zc ?_))
      exact e_ret [] ⟨rfl, rfl⟩ sA
    · exact absurd rfl h
  · (repeat' (first | refine zad (bufString_tr b v' (pairH ps s) R' lr' h9 hn) ?_ | refine za ?_ | refine z8 ?_ | refine z6 ?_ | refine z7 ?_ | refine zh ?_ | refine zc ?_))
    exact e_ret [] ⟨rfl, rfl⟩ sA
end Go.Proofs

namespace Go.Proofs
open Go Go.Eng
set_option maxRecDepth 40000
set_option maxHeartbeats 8000000

def linkPairs : Pairs := [(34, [37, 50, 50]), (38, [38, 97, 109, 112, 59]), (60, [37, 51, 67]), (62, [37, 51, 69]), (92, [37, 53, 67]), (32, [37, 50, 48]), (96, [37, 54, 48]), (91, [37, 53, 66]), (93, [37, 53, 68]), (94, [37, 53, 69]), (123, [37, 55, 66]), (125, [37, 55, 68]), (0, [37, 48, 48]), (1, [37, 48, 49]), (2, [37, 48, 50]), (3, [37, 48, 51]), (4, [37, 48, 52]), (5, [37, 48, 53]), (6, [37, 48, 54]), (7, [37, 48, 55]), (8, [37, 48, 56]), (11, [37, 48, 66]), (12, [37, 48, 67]), (14, [37, 48, 69]), (15, [37, 48, 70]), (16, [37, 49, 48]), (17, [37, 49, 49]), (18, [37, 49, 50]), (19, [37, 49, 51]), (20, [37, 49, 52]), (21, [37, 49, 53]), (22, [37, 49, 54]), (23, [37, 49, 55]), (24, [37, 49, 56]), (25, [37, 49, 57]), (26, [37, 49, 65]), (27, [37, 49, 66]), (28, [37, 49, 67]), (29, [37, 49, 68]), (30, [37, 49, 69]), (31, [37, 49, 70]), (127, [37, 55, 70]), (128, [37, 56, 48]), (129, [37, 56, 49]), (130, [37, 56, 50]), (131, [37, 56, 51]), (132, [37, 56, 52]), (133, [37, 56, 53]), (134, [37, 56, 54]), (135, [37, 56, 55]), (136, [37, 56, 56]), (137, [37, 56, 57]), (138, [37, 56, 65]), (139, [37, 56, 66]), (140, [37, 56, 67]), (141, [37, 56, 68]), (142, [37, 56, 69]), (143, [37, 56, 70]), (144, [37, 57, 48]), (145, [37, 57, 49]), (146, [37, 57, 50]), (147, [37, 57, 51]), (148, [37, 57, 52]), (149, [37, 57, 53]), (150, [37, 57, 54]), (151, [37, 57, 55]), (152, [37, 57, 56]), (153, [37, 57, 57]), (154, [37, 57, 65]), (155, [37, 57, 66]), (156, [37, 57, 67]), (157, [37, 57, 68]), (158, [37, 57, 69]), (159, [37, 57, 70]), (160, [37, 65, 48]), (161, [37, 65, 49]), (162, [37, 65, 50]), (163, [37, 65, 51]), (164, [37, 65, 52]), (165, [37, 65, 53]), (166, [37, 65, 54]), (167, [37, 65, 55]), (168, [37, 65, 56]), (169, [37, 65, 57]), (170, [37, 65, 65]), (171, [37, 65, 66]), (172, [37, 65, 67]), (173, [37, 65, 68]), (174, [37, 65, 69]), (175, [37, 65, 70]), (176, [37, 66, 48]), (177, [37, 66, 49]), (178, [37, 66, 50]), (179, [37, 66, 51]), (180, [37, 66, 52]), (181, [37, 66, 53]), (182, [37, 66, 54]), (183, [37, 66, 55]), (184, [37, 66, 56]), (185, [37, 66, 57]), (186, [37, 66, 65]), (187, [37, 66, 66]), (188, [37, 66, 67]), (189, [37, 66, 68]), (190, [37, 66, 69]), (191, [37, 66, 70]), (192, [37, 67, 48]), (193, [37, 67, 49]), (194, [37, 67, 50]), (195, [37, 67, 51]), (196, [37, 67, 52]), (197, [37, 67, 53]), (198, [37, 67, 54]), (199, [37, 67, 55]), (200, [37, 67, 56]), (201, [37, 67, 57]), (202, [37, 67, 65]), (203, [37, 67, 66]), (204, [37, 67, 67]), (205, [37, 67, 68]), (206, [37, 67, 69]), (207, [37, 67, 70]), (208, [37, 68, 48]), (209, [37, 68, 49]), (210, [37, 68, 50]), (211, [37, 68, 51]), (212, [37, 68, 52]), (213, [37, 68, 53]), (214, [37, 68, 54]), (215, [37, 68, 55]), (216, [37, 68, 56]), (217, [37, 68, 57]), (218, [37, 68, 65]), (219, [37, 68, 66]), (220, [37, 68, 67]), (221, [37, 68, 68]), (222, [37, 68, 69]), (223, [37, 68, 70]), (224, [37, 69, 48]), (225, [37, 69, 49]), (226, [37, 69, 50]), (227, [37, 69, 51]), (228, [37, 69, 52]), (229, [37, 69, 53]), (230, [37, 69, 54]), (231, [37, 69, 55]), (232, [37, 69, 56]), (233, [37, 69, 57]), (234, [37, 69, 65]), (235, [37, 69, 66]), (236, [37, 69, 67]), (237, [37, 69, 68]), (238, [37, 69, 69]), (239, [37, 69, 70]), (240, [37, 70, 48]), (241, [37, 70, 49]), (242, [37, 70, 50]), (243, [37, 70, 51]), (244, [37, 70, 52]), (245, [37, 70, 53]), (246, [37, 70, 54]), (247, [37, 70, 55]), (248, [37, 70, 56]), (249, [37, 70, 57]), (250, [37, 70, 65]), (251, [37, 70, 66]), (252, [37, 70, 67]), (253, [37, 70, 68]), (254, [37, 70, 69]), (255, [37, 70, 70])]

def linkPV : List (Nat × Value) := (pairCells linkPairs).zipIdx.map fun x => (x.2, x.1)
theorem linkOK : PairsOK linkPairs := by
  refine ⟨?_, by decide⟩
  have h : (linkPairs.all fun x => !x.2.isEmpty && Nat.ble x.2.length 6) = true := by kernel_rfl
  intro x hx
  have h1 := List.all_eq_true.1 h x hx
  simp only [Bool.and_eq_true, Bool.not_eq_true', List.isEmpty_eq_false_iff, Nat.ble_eq] at h1
  exact h1

theorem htmlLinkEscaper_tr : Tr Tryz.prog 237 [] [] fun u K => ∃ g, u = .slice (some ⟨g, 0, none⟩) (2 * linkPairs.length) (2 * linkPairs.length) ∧ K = [pairRow g linkPairs] := by
  refine Tr.start (n := 2) (rs := [.tmp 0]) rfl rfl rfl rfl fun B => ?_
  (repeat' (first | refine za ?_ | refine z8 ?_ | refine z6 ?_ | refine z7 ?_ | refine zc ?_))
  refine zdk (pv := linkPV) (cs := pairCells linkPairs) (fun g => ?_) (by kernel_rfl) (by kernel_rfl) (by kernel_rfl)
  (repeat' (first | refine z6 ?_ | refine z7 ?_ | refine zh ?_ | refine zc ?_))
  exact e_ret [pairRow g linkPairs] ⟨g, by kernel_rfl, rfl⟩ sA

theorem autoP_tr (q b : Nat) (t : List UInt8) (v : Value) (l : List UInt8) (R G : Blk) (lr : Int) (hx : (q, cellsOf [str t, str t] 142) ∈ G) (ht : t.length ≤ 1000) (hR : BRow v l R) (hln : l ≠ []) (hlim : l.length ≤ 900000) :
    Tr Tryz.prog 279 [lp q, lp b] [G, bufb b v lr, R] fun u K => u = unit ∧ ∃ v' R' lr', BRow v' (l ++ ([60, 97, 32, 104, 114, 101, 102, 61, 34] ++ pairH linkPairs t ++ [34, 62] ++ escH t ++ [60, 47, 97, 62])) R' ∧ K = [G, bufb b v' lr', R'] := by
  have hm : ∀ H, HMem (G :: H) q (cellsOf [str t, str t] 142) := fun H => HMem.of_chunk hx
  have hl1 := pairH_len linkOK t
  have hl2 := escH_len t
  refine Tr.start (n := 22) (rs := []) rfl rfl rfl rfl fun B => ?_
  refine Wp.draw_held (id := 0) [G] 18 Mixed.out sA rfl ?_
  refine hF 0 ?_
  refine hF 2 ?_
  refine hF 3 ?_
  refine hF 4 ?_
  refine hG 5 _ rfl (zaa rfl (hm _) rfl) ?_
  refine hF 10 ?_
  refine hF 11 ?_
  refine hF 12 ?_
  refine hG 13 _ rfl (zaa rfl (hm _) rfl) ?_
  refine hO 1 ?_
  refine za1 htmlLinkEscaper_tr (fun u K hR => ?_)
  obtain ⟨g, rfl, rfl⟩ := hR
  (repeat' (first | refine z6 ?_ | refine z7 ?_))
  refine ⟨sA, ?_⟩
  refine hO 6 ?_
  refine za1 (replaceP_tr linkPairs linkOK g t (by omega)) (fun u K hR => ?_)
  obtain ⟨rfl, rfl⟩ := hR
  (repeat' (first | refine z6 ?_ | refine z7 ?_))
  refine ⟨sA, ?_⟩
  refine hG 7 _ rfl (zbv (a := [60, 97, 32, 104, 114, 101, 102, 61, 34]) (b := pairH linkPairs t) rfl rfl rfl (by simp only [List.length_cons, List.length_nil]; omega)) ?_
  refine hG 8 _ rfl (zbv (a := [60, 97, 32, 104, 114, 101, 102, 61, 34] ++ pairH linkPairs t) (b := [34, 62]) rfl rfl rfl (by simp only [List.length_append, List.length_cons, List.length_nil]; omega)) ?_
  refine hO 9 ?_
  refine za1 htmlEscaper_tr (fun u K hR => ?_)
  obtain ⟨g2, rfl, rfl⟩ := hR
  (repeat' (first | refine z6 ?_ | refine z7 ?_))
  refine ⟨sA, ?_⟩
  refine hO 14 ?_
  refine za1 (replaceEsc_tr g2 t (by omega)) (fun u K hR => ?_)
  obtain ⟨rfl, rfl⟩ := hR
  (repeat' (first | refine z6 ?_ | refine z7 ?_))
  refine ⟨sA, ?_⟩
  refine hG 15 _ rfl (zbv (a := ([60, 97, 32, 104, 114, 101, 102, 61, 34] ++ pairH linkPairs t) ++ [34, 62]) (b := escH t) rfl rfl rfl (by simp only [List.length_append, List.length_cons, List.length_nil]; omega)) ?_
  refine hG 16 _ rfl (zbv (a := (([60, 97, 32, 104, 114, 101, 102, 61, 34] ++ pairH linkPairs t) ++ [34, 62]) ++ escH t) (b := [60, 47, 97, 62]) rfl rfl rfl (by simp only [List.length_append, List.length_cons, List.length_nil]; omega)) ?_
  refine hO 17 ?_
  refine za1 (writeAny_tr b v l R lr (((([60, 97, 32, 104, 114, 101, 102, 61, 34] ++ pairH linkPairs t) ++ [34, 62]) ++ escH t) ++ [60, 47, 97, 62]) hR hln (by simp only [List.length_append, List.length_cons, List.length_nil]; omega)) (fun u K hR => ?_)
  obtain ⟨rfl, v', R', h9, rfl⟩ := hR
  (repeat' (first | refine z6 ?_ | refine z7 ?_))
  refine ⟨sA, ?_⟩
  refine OpsH.nil (by kernel_rfl) ?_
  refine Fin.out (e_norm [G, bufb b v' 0, R'] ⟨rfl, v', R', 0, by simpa only [List.append_assoc, List.cons_append, List.nil_append] using h9, rfl⟩ sA)

end Go.Proofs

namespace Go.Proofs
open Go Go.Eng
set_option maxRecDepth 20000
set_option maxHeartbeats 4000000

/-- An attribute of the law: white space, its number, and the form of its value. -/
structure Att where
  sep : Nat
  i : Nat
  form : Nat
def Att.ok (x : Att) : Prop := x.sep < 3 ∧ x.i < 10 ∧ x.form < 4
def sepB : Nat → List UInt8
  | 0 => [32]
  | 1 => [10]
  | _ => [32, 32]
def digB (i : Nat) : UInt8 := UInt8.ofNat (48 + i)
def valB : Nat → List UInt8
  | 0 => [61, 34, 118, 32, 62, 32, 119, 34]
  | 1 => [61, 39, 118, 32, 34, 119, 39]
  | 2 => [32, 61, 32, 118]
  | _ => []
def Att.bytes (x : Att) : List UInt8 := sepB x.sep ++ ([107, digB x.i] ++ valB x.form)
end Go.Proofs

namespace Go.Proofs
open Go Go.Eng
set_option maxRecDepth 20000
set_option maxHeartbeats 4000000

end Go.Proofs

namespace Go.Proofs
open Go Go.Eng
set_option maxRecDepth 20000
set_option maxHeartbeats 8000000

/-- What the scan of a tag's name leaves. -/
structure SB where
  k : Nat
  v : Value
  xs : List Value
  B : Blk

end Go.Proofs

namespace Go.Proofs
open Go Go.Eng
set_option maxRecDepth 20000
set_option maxHeartbeats 8000000

end Go.Proofs

namespace Go.Proofs
open Go Go.Eng
set_option maxRecDepth 20000
set_option maxHeartbeats 8000000

end Go.Proofs

namespace Go.Proofs
open Go Go.Eng
set_option maxRecDepth 20000
set_option maxHeartbeats 8000000

theorem w_sub {B : Base} {n : Nat} {L : Eng.Loc} {H H' : Heap} {Q : Eng.Post} {c : Code} (hs : SubH H H') (h : Wp Tryz.prog B n c L H' Q) : Wp Tryz.prog B n c L H Q :=
  ⟨fun a w ha hw => h.run a w ha (hw.sub hs)⟩

end Go.Proofs

namespace Go.Proofs
open Go Go.Eng
set_option maxRecDepth 20000
set_option maxHeartbeats 4000000

abbrev optO (d q : Bool) : Value := .agg #[.bool d, .bool false, .bool false, .bool false, .bool false, .bool false, .bool false, .bool q, .bool false, .bool false]
abbrev poO (d q : Bool) : PO := ⟨false, d, false, false, false, false, false, false, false, q⟩
theorem parserO_tr (d q : Bool) : Tr Tryz.prog 17 [optO d q] [] fun u K => ∃ pr, u = lp pr ∧ K = [(poO d q).blk pr] := by
  refine Tr.start (n := 25) (rs := [.tmp 2]) rfl rfl rfl rfl fun B => ?_
  (repeat' (first | refine za ?_ | refine z8 ?_ | refine z6 ?_ | refine z7 ?_ | refine zh ?_ | refine zc ?_ | refine zr ?_ | refine zp ?_ | refine zaw ?_ | refine zam (fun _ => ?_)))
  rename_i r1 r2
  exact e_ret [(poO d q).blk r2] ⟨r2, rfl, rfl⟩ sA

end Go.Proofs

namespace Go.Proofs
open Go Go.Eng
set_option maxRecDepth 20000
set_option maxHeartbeats 4000000

end Go.Proofs

namespace Go.Proofs
open Go Go.Eng
set_option maxRecDepth 20000
set_option maxHeartbeats 4000000

end Go.Proofs

namespace Go.Proofs
open Go Go.Eng
set_option maxRecDepth 20000
set_option maxHeartbeats 4000000

end Go.Proofs

namespace Go.Proofs
open Go Go.Eng
set_option maxRecDepth 40000
set_option maxHeartbeats 2000000

theorem plainH_tr (q b : Nat) (t : List UInt8) (r : List Value) (T : Nat) (v : Value) (l : List UInt8) (R G : Blk) (lr : Int) (hx : (q, cellsOf (str t :: r) T) ∈ G) (ht : t.length ≤ 10000) (hR : BRow v l R) (hlim : l.length ≤ 900000) :
    Tr Tryz.prog 300 [lp q, lp b] [G, bufb b v lr, R] fun u K => u = unit ∧ ∃ v' R' lr', BRow v' (l ++ escH t) R' ∧ K = [G, bufb b v' lr', R'] := by
  have hm : ∀ H, HMem (G :: H) q (cellsOf (str t :: r) T) := fun H => HMem.of_chunk hx
  refine Tr.start (n := 11) (rs := []) rfl rfl rfl rfl fun B => ?_
  refine Wp.draw_held (id := 0) [G] 7 Mixed.out sA rfl ?_
  refine hF 1 ?_
  refine hF 2 ?_
  refine hF 3 ?_
  refine hF 4 ?_
  refine hG 5 _ rfl (zaa rfl (hm _) rfl) ?_
  refine hO 0 ?_
  refine za1 htmlEscaper_tr (fun u K hR => ?_)
  obtain ⟨g, rfl, rfl⟩ := hR
  (repeat' (first | refine z6 ?_ | refine z7 ?_))
  refine ⟨sA, ?_⟩
  refine hO 6 ?_
  refine za1 (pairsWrite_tr g b v l R lr t hR (by omega)) (fun u K hR => ?_)
  obtain ⟨rfl, v', R', lr', h9, rfl⟩ := hR
  (repeat' (first | refine z6 ?_ | refine z7 ?_))
  refine ⟨sA, ?_⟩
  refine OpsH.nil (by kernel_rfl) ?_
  refine Fin.out (e_norm [G, bufb b v' lr', R'] ⟨rfl, v', R', lr', h9, rfl⟩ sA)
theorem plainT_tr (q b : Nat) (t : List UInt8) (r : List Value) (T : Nat) (v : Value) (l : List UInt8) (R G : Blk) (lr : Int) (hx : (q, cellsOf (str t :: r) T) ∈ G) (ht : t.length ≤ 10000) (hR : BRow v l R) (hlim : l.length ≤ 900000) :
    Tr Tryz.prog 301 [lp q, lp b] [G, bufb b v lr, R] fun u K => u = unit ∧ ∃ v' R' lr', BRow v' (l ++ escH t) R' ∧ K = [G, bufb b v' lr', R'] := by
  have hm : ∀ H, HMem (G :: H) q (cellsOf (str t :: r) T) := fun H => HMem.of_chunk hx
  refine Tr.start (n := 11) (rs := []) rfl rfl rfl rfl fun B => ?_
  refine Wp.draw_held (id := 0) [G] 7 Mixed.out sA rfl ?_
  refine hF 1 ?_
  refine hF 2 ?_
  refine hF 3 ?_
  refine hF 4 ?_
  refine hG 5 _ rfl (zaa rfl (hm _) rfl) ?_
  refine hO 0 ?_
  refine za1 htmlEscaper_tr (fun u K hR => ?_)
  obtain ⟨g, rfl, rfl⟩ := hR
  (repeat' (first | refine z6 ?_ | refine z7 ?_))
  refine ⟨sA, ?_⟩
  refine hO 6 ?_
  refine za1 (pairsWrite_tr g b v l R lr t hR (by omega)) (fun u K hR => ?_)
  obtain ⟨rfl, v', R', lr', h9, rfl⟩ := hR
  (repeat' (first | refine z6 ?_ | refine z7 ?_))
  refine ⟨sA, ?_⟩
  refine OpsH.nil (by kernel_rfl) ?_
  refine Fin.out (e_norm [G, bufb b v' lr', R'] ⟨rfl, v', R', lr', h9, rfl⟩ sA)
theorem codeT_tr (q b : Nat) (t : List UInt8) (r : List Value) (T : Nat) (v : Value) (l : List UInt8) (R G : Blk) (lr : Int) (hx : (q, cellsOf (str t :: r) T) ∈ G) (ht : t.length ≤ 10000) (hR : BRow v l R) (hlim : l.length ≤ 900000) :
    Tr Tryz.prog 263 [lp q, lp b] [G, bufb b v lr, R] fun u K => u = unit ∧ ∃ v' R' lr', BRow v' (l ++ escH t) R' ∧ K = [G, bufb b v' lr', R'] := by
  have hm : ∀ H, HMem (G :: H) q (cellsOf (str t :: r) T) := fun H => HMem.of_chunk hx
  refine Tr.start (n := 11) (rs := []) rfl rfl rfl rfl fun B => ?_
  refine Wp.draw_held (id := 0) [G] 7 Mixed.out sA rfl ?_
  refine hF 1 ?_
  refine hF 2 ?_
  refine hF 3 ?_
  refine hF 4 ?_
  refine hG 5 _ rfl (zaa rfl (hm _) rfl) ?_
  refine hO 0 ?_
  refine za1 htmlEscaper_tr (fun u K hR => ?_)
  obtain ⟨g, rfl, rfl⟩ := hR
  (repeat' (first | refine z6 ?_ | refine z7 ?_))
  refine ⟨sA, ?_⟩
  refine hO 6 ?_
  refine za1 (pairsWrite_tr g b v l R lr t hR (by omega)) (fun u K hR => ?_)
  obtain ⟨rfl, v', R', lr', h9, rfl⟩ := hR
  (repeat' (first | refine z6 ?_ | refine z7 ?_))
  refine ⟨sA, ?_⟩
  refine OpsH.nil (by kernel_rfl) ?_
  refine Fin.out (e_norm [G, bufb b v' lr', R'] ⟨rfl, v', R', lr', h9, rfl⟩ sA)

theorem codeH_tr (q b : Nat) (t : List UInt8) (v : Value) (l : List UInt8) (R G : Blk) (lr : Int) (hx : (q, cellsOf [str t] 132) ∈ G) (ht : t.length ≤ 10000) (hR : BRow v l R) (hne : l ≠ []) (hlim : l.length ≤ 900000) :
    Tr Tryz.prog 262 [lp q, lp b] [G, bufb b v lr, R] fun u K => u = unit ∧ ∃ v' R' lr', BRow v' (l ++ ([60, 99, 111, 100, 101, 62] ++ escH t ++ [60, 47, 99, 111, 100, 101, 62])) R' ∧ K = [G, bufb b v' lr', R'] := by
  have hm : ∀ H, HMem (G :: H) q (cellsOf [str t] 132) := fun H => HMem.of_chunk hx
  have hl2 := escH_len t
  refine Tr.start (n := 14) (rs := []) rfl rfl rfl rfl fun B => ?_
  refine Wp.draw_held (id := 0) [G] 10 Mixed.out sA rfl ?_
  refine hF 0 ?_
  refine hF 2 ?_
  refine hF 3 ?_
  refine hF 4 ?_
  refine hG 5 _ rfl (zaa rfl (hm _) rfl) ?_
  refine hO 1 ?_
  refine za1 htmlEscaper_tr (fun u K hR => ?_)
  obtain ⟨g2, rfl, rfl⟩ := hR
  (repeat' (first | refine z6 ?_ | refine z7 ?_))
  refine ⟨sA, ?_⟩
  refine hO 6 ?_
  refine za1 (replaceEsc_tr g2 t (by omega)) (fun u K hR => ?_)
  obtain ⟨rfl, rfl⟩ := hR
  (repeat' (first | refine z6 ?_ | refine z7 ?_))
  refine ⟨sA, ?_⟩
  refine hG 7 _ rfl (zbv (a := [60, 99, 111, 100, 101, 62]) (b := escH t) rfl rfl rfl (by simp only [List.length_cons, List.length_nil]; omega)) ?_
  refine hG 8 _ rfl (zbv (a := [60, 99, 111, 100, 101, 62] ++ escH t) (b := [60, 47, 99, 111, 100, 101, 62]) rfl rfl rfl (by simp only [List.length_append, List.length_cons, List.length_nil]; omega)) ?_
  refine hO 9 ?_
  refine za1 (writeAny_tr b v l R lr (([60, 99, 111, 100, 101, 62] ++ escH t) ++ [60, 47, 99, 111, 100, 101, 62]) hR hne (by simp only [List.length_append, List.length_cons, List.length_nil]; omega)) (fun u K hR => ?_)
  obtain ⟨rfl, v', R', h9, rfl⟩ := hR
  (repeat' (first | refine z6 ?_ | refine z7 ?_))
  refine ⟨sA, ?_⟩
  refine OpsH.nil (by kernel_rfl) ?_
  refine Fin.out (e_norm [G, bufb b v' 0, R'] ⟨rfl, v', R', 0, h9, rfl⟩ sA)
theorem autoT_tr (q b : Nat) (t u0 : List UInt8) (v : Value) (l : List UInt8) (R G : Blk) (lr : Int) (hx : (q, cellsOf [str t, str u0] 142) ∈ G) (ht : t.length ≤ 10000) (hR : BRow v l R) (hne : l ≠ []) (hlim : l.length ≤ 900000) :
    Tr Tryz.prog 280 [lp q, lp b] [G, bufb b v lr, R] fun u K => u = unit ∧ ∃ v' R' lr', BRow v' (l ++ escH t) R' ∧ K = [G, bufb b v' lr', R'] := by
  have hm : ∀ H, HMem (G :: H) q (cellsOf [str t, str u0] 142) := fun H => HMem.of_chunk hx
  have hl2 := escH_len t
  refine Tr.start (n := 12) (rs := []) rfl rfl rfl rfl fun B => ?_
  refine Wp.draw_held (id := 0) [G] 8 Mixed.out sA rfl ?_
  refine hF 0 ?_
  refine hF 2 ?_
  refine hF 3 ?_
  refine hF 4 ?_
  refine hG 5 _ rfl (zaa rfl (hm _) rfl) ?_
  refine hO 1 ?_
  refine za1 htmlEscaper_tr (fun u K hR => ?_)
  obtain ⟨g2, rfl, rfl⟩ := hR
  (repeat' (first | refine z6 ?_ | refine z7 ?_))
  refine ⟨sA, ?_⟩
  refine hO 6 ?_
  refine za1 (replaceEsc_tr g2 t (by omega)) (fun u K hR => ?_)
  obtain ⟨rfl, rfl⟩ := hR
  (repeat' (first | refine z6 ?_ | refine z7 ?_))
  refine ⟨sA, ?_⟩
  refine hO 7 ?_
  refine za1 (writeAny_tr b v l R lr (escH t) hR hne (by omega)) (fun u K hR => ?_)
  obtain ⟨rfl, v', R', h9, rfl⟩ := hR
  (repeat' (first | refine z6 ?_ | refine z7 ?_))
  refine ⟨sA, ?_⟩
  refine OpsH.nil (by kernel_rfl) ?_
  refine Fin.out (e_norm [G, bufb b v' 0, R'] ⟨rfl, v', R', 0, h9, rfl⟩ sA)
theorem softH_tr (x : Value) (b : Nat) (v : Value) (l : List UInt8) (R G : Blk) (lr : Int) (hR : BRow v l R) (hne : l ≠ []) (hlim : l.length ≤ 900000) :
    Tr Tryz.prog 254 [x, lp b] [G, bufb b v lr, R] fun u K => u = unit ∧ ∃ v' R' lr', BRow v' (l ++ [10]) R' ∧ K = [G, bufb b v' lr', R'] := by
  refine Tr.start (n := 6) (rs := []) rfl rfl rfl rfl fun B => ?_
  (repeat' (first | refine z8 ?_ | refine zb ?_))
  refine za1 (writeAny_tr b v l R lr [10] hR hne (by simp only [List.length_cons, List.length_nil]; omega)) (fun u K hR => ?_)
  obtain ⟨rfl, v', R', h9, rfl⟩ := hR
  (repeat' (first | refine z6 ?_))
  exact e_norm [G, bufb b v' 0, R'] ⟨rfl, v', R', 0, h9, rfl⟩ sA
theorem softT_tr (x : Value) (b : Nat) (v : Value) (l : List UInt8) (R G : Blk) (lr : Int) (hR : BRow v l R) (hne : l ≠ []) (hlim : l.length ≤ 900000) :
    Tr Tryz.prog 255 [x, lp b] [G, bufb b v lr, R] fun u K => u = unit ∧ ∃ v' R' lr', BRow v' (l ++ [10]) R' ∧ K = [G, bufb b v' lr', R'] := by
  refine Tr.start (n := 6) (rs := []) rfl rfl rfl rfl fun B => ?_
  (repeat' (first | refine z8 ?_ | refine zb ?_))
  refine za1 (writeAny_tr b v l R lr [10] hR hne (by simp only [List.length_cons, List.length_nil]; omega)) (fun u K hR => ?_)
  obtain ⟨rfl, v', R', h9, rfl⟩ := hR
  (repeat' (first | refine z6 ?_))
  exact e_norm [G, bufb b v' 0, R'] ⟨rfl, v', R', 0, h9, rfl⟩ sA
theorem hardH_tr (x : Value) (b : Nat) (v : Value) (l : List UInt8) (R G : Blk) (lr : Int) (hR : BRow v l R) (hne : l ≠ []) (hlim : l.length ≤ 900000) :
    Tr Tryz.prog 258 [x, lp b] [G, bufb b v lr, R] fun u K => u = unit ∧ ∃ v' R' lr', BRow v' (l ++ [60, 98, 114, 32, 47, 62, 10]) R' ∧ K = [G, bufb b v' lr', R'] := by
  refine Tr.start (n := 6) (rs := []) rfl rfl rfl rfl fun B => ?_
  (repeat' (first | refine z8 ?_ | refine zb ?_))
  refine za1 (writeAny_tr b v l R lr [60, 98, 114, 32, 47, 62, 10] hR hne (by simp only [List.length_cons, List.length_nil]; omega)) (fun u K hR => ?_)
  obtain ⟨rfl, v', R', h9, rfl⟩ := hR
  (repeat' (first | refine z6 ?_))
  exact e_norm [G, bufb b v' 0, R'] ⟨rfl, v', R', 0, h9, rfl⟩ sA
theorem hardT_tr (x : Value) (b : Nat) (v : Value) (l : List UInt8) (R G : Blk) (lr : Int) (hR : BRow v l R) (hne : l ≠ []) (hlim : l.length ≤ 900000) :
    Tr Tryz.prog 259 [x, lp b] [G, bufb b v lr, R] fun u K => u = unit ∧ ∃ v' R' lr', BRow v' (l ++ [10]) R' ∧ K = [G, bufb b v' lr', R'] := by
  refine Tr.start (n := 6) (rs := []) rfl rfl rfl rfl fun B => ?_
  (repeat' (first | refine z8 ?_ | refine zb ?_))
  refine za1 (writeAny_tr b v l R lr [10] hR hne (by simp only [List.length_cons, List.length_nil]; omega)) (fun u K hR => ?_)
  obtain ⟨rfl, v', R', h9, rfl⟩ := hR
  (repeat' (first | refine z6 ?_))
  exact e_norm [G, bufb b v' 0, R'] ⟨rfl, v', R', 0, h9, rfl⟩ sA
theorem tagT_tr (x : Value) (b : Nat) (v : Value) (l : List UInt8) (R G : Blk) (lr : Int) (hR : BRow v l R) :
    Tr Tryz.prog 289 [x, lp b] [G, bufb b v lr, R] fun u K => u = unit ∧ ∃ v' R' lr', BRow v' (l ++ []) R' ∧ K = [G, bufb b v' lr', R'] := by
  refine Tr.start (n := 4) (rs := []) rfl rfl rfl rfl fun B => ?_
  (repeat' (first | refine zf ?_))
  exact e_norm [G, bufb b v lr, R] ⟨rfl, v, R, lr, by simpa using hR, rfl⟩ sA
end Go.Proofs

namespace Go.Proofs
open Go Go.Eng
set_option maxRecDepth 40000
set_option maxHeartbeats 2000000

/-- An inline one of whose printers puts a text into the buffer. -/
def PrnG (nm : String) (x : Value) (G : Blk) (out : List UInt8) : Prop :=
  ∃ t u, x = .iface t u ∧ ∃ f, Cal Tryz.prog f ∧ MethodIs Tryz.prog t u nm f u ∧ ∀ (b : Nat) (v : Value) (l : List UInt8) (R : Blk) (lr : Int), BRow v l R → l ≠ [] → l.length + out.length ≤ 900000 →
    Tr Tryz.prog f [u, lp b] [G, bufb b v lr, R] fun w K => w = unit ∧ ∃ v' R' lr', BRow v' (l ++ out) R' ∧ K = [G, bufb b v' lr', R']

/-- A slice of inlines, and the texts that they put into the buffer. -/
structure ShownG (nm : String) (sv : Value) (G : Blk) (outs : List (List UInt8)) : Prop where
  row : ∃ vals : List Value, (∃ LB, Own 85 1 sv vals.length vals LB ∧ ∀ y ∈ LB, y ∈ G) ∧ outs.length = vals.length ∧ ∀ (j : Nat) (v : Value), vals[j]? = some v → ∃ out, outs[j]? = some out ∧ PrnG nm v G out

theorem ShownG.cases {nm : String} {sv : Value} {G : Blk} {outs : List (List UInt8)} (h : ShownG nm sv G outs) :
    (sv = .slice none 0 0 ∧ outs = []) ∨ ∃ g c cur, sv = .slice (some ⟨g, 0, none⟩) outs.length c ∧ (g, cellsOf cur 85) ∈ G ∧ outs.length ≤ 9223372036854775807 ∧ ∀ j, j < outs.length → ∃ t u out, cur[0 + j * 1]? = some (.iface t u) ∧ outs[j]? = some out ∧
      ∃ f, Cal Tryz.prog f ∧ MethodIs Tryz.prog t u nm f u ∧ ∀ (b : Nat) (v : Value) (l : List UInt8) (R : Blk) (lr : Int), BRow v l R → l ≠ [] → l.length + out.length ≤ 900000 →
    Tr Tryz.prog f [u, lp b] [G, bufb b v lr, R] fun w K => w = unit ∧ ∃ v' R' lr', BRow v' (l ++ out) R' ∧ K = [G, bufb b v' lr', R'] := by
  obtain ⟨vals, ⟨LB, hO, hG⟩, hl, hr⟩ := h.row
  rcases hO.2 with ⟨rfl, h0, rfl⟩ | ⟨g, cap, cur, rfl, rfl, h1, h2, h3, h4⟩
  · exact .inl ⟨rfl, List.length_eq_zero_iff.1 (by omega)⟩
  · refine .inr ⟨g, cap, cur, by rw [hl], hG _ (by simp), by omega, fun j hj => ?_⟩
    have hv : vals[j]? = some (vals[j]'(by omega)) := List.getElem?_eq_getElem _
    obtain ⟨out, ho, t, u, hx, hp⟩ := hr j _ hv
    refine ⟨t, u, out, ?_, ho, hp⟩
    rw [hx] at hv
    rw [← h4] at hv
    rw [show 0 + j * 1 = j by omega]
    rw [List.getElem?_take] at hv
    split at hv
    · exact hv
    · cases hv

theorem out_le {outs : List (List UInt8)} {j : Nat} {x : List UInt8} (h : outs[j]? = some x) : (outs.take j).flatten.length + x.length ≤ outs.flatten.length := by
  have := flat_le outs (j + 1)
  rw [flat_snoc h, List.length_append] at this
  omega

theorem delHG_tr (x b : Nat) (mk : List UInt8) (sv : Value) (outs : List (List UInt8)) (v : Value) (l : List UInt8) (R G : Blk) (lr : Int) (hx : (x, cellsOf [str mk, sv] 135) ∈ G) (hS : ShownG "PrintHTML" sv G outs) (hR : BRow v l R) (hlim : l.length + (outs.flatten.length + 11) ≤ 900000) :
    Tr Tryz.prog 275 [lp x, lp b] [G, bufb b v lr, R] fun u K => u = unit ∧ ∃ v' R' lr', BRow v' (l ++ ([60, 100, 101, 108, 62] ++ outs.flatten ++ [60, 47, 100, 101, 108, 62])) R' ∧ K = [G, bufb b v' lr', R'] := by
  have hm : ∀ H, HMem (G :: H) x (cellsOf [str mk, sv] 135) := fun H => HMem.of_chunk hx
  rcases hS.cases with ⟨rfl, rfl⟩ | ⟨gx, c, curx, rfl, hg, hol, hrow⟩
  · simp only [List.flatten_nil, List.length_nil] at hlim
    refine Tr.start (n := 23) (rs := []) rfl rfl rfl rfl fun B => ?_
    (repeat' (first | refine za ?_ | refine z8 ?_ | refine zb ?_))
    refine za1 (writeString_tr b v l R lr [60, 100, 101, 108, 62] hR (by simp) (by simp) (by simp only [List.length_cons, List.length_nil]; omega)) (fun u K hR => ?_)
    obtain ⟨rfl, v1, R1, h1, rfl⟩ := hR
    (repeat' (first | refine Ops.pure _ (zaa (by rfl) (by repeat (first | exact hm _ | apply HMem.there)) (by rfl)) (by rfl) ?_ | refine za ?_ | refine z8 ?_ | refine z6 ?_ | refine z7 ?_ | refine zg ?_ | refine zb ?_ | refine zp ?_ | refine zq ?_ | refine zac ?_))
    refine za7 (fun y : PW => [(0, lp x), (1, lp b), (11, .slice none 0 0), (12, inat 0), (13, inat 0)]) (fun y => [G, bufb b v1 0, R1])
      (fun y => True) (fun y => 0) ⟨0, v1, R1, 0⟩ trivial kB sA fun y hy => ?_
    (repeat' (first | refine za ?_ | refine z8 ?_ | refine z6 ?_ | refine z7 ?_ | refine zd ?_ | refine zy ?_ | refine zz ?_ | refine za0 ?_ | refine zb ?_ | refine za4 ?_))
    refine za1 (writeString_tr b v1 _ R1 0 [60, 47, 100, 101, 108, 62] h1 (by simp) (by simp) (by simp only [List.length_append, List.length_cons, List.length_nil]; omega)) (fun u K hR => ?_)
    obtain ⟨rfl, v3, R3, h3, rfl⟩ := hR
    (repeat' (first | refine z6 ?_))
    exact e_norm [G, bufb b v3 0, R3] ⟨rfl, v3, R3, 0, by simpa only [List.append_assoc, List.flatten_nil, List.nil_append, List.append_nil] using h3, rfl⟩ sA
  have hmg : ∀ H, HMem (G :: H) gx (cellsOf curx 85) := fun H => HMem.of_chunk hg
  refine Tr.start (n := 23) (rs := []) rfl rfl rfl rfl fun B => ?_
  (repeat' (first | refine za ?_ | refine z8 ?_ | refine zb ?_))
  refine za1 (writeString_tr b v l R lr [60, 100, 101, 108, 62] hR (by simp) (by simp) (by simp only [List.length_cons, List.length_nil]; omega)) (fun u K hR => ?_)
  obtain ⟨rfl, v1, R1, h1, rfl⟩ := hR
  (repeat' (first | refine Ops.pure _ (zaa (by rfl) (by repeat (first | exact hm _ | apply HMem.there)) (by rfl)) (by rfl) ?_ | refine za ?_ | refine z8 ?_ | refine z6 ?_ | refine z7 ?_ | refine zg ?_ | refine zb ?_ | refine zp ?_ | refine zq ?_ | refine zac ?_))
  refine za7 (fun y : PW => [(0, lp x), (1, lp b), (11, .slice (some ⟨gx, 0, none⟩) outs.length c), (12, inat outs.length), (13, inat y.j)]) (fun y => [G, bufb b y.v y.lr, y.R])
    (fun y => y.j ≤ outs.length ∧ BRow y.v (l ++ [60, 100, 101, 108, 62] ++ (outs.take y.j).flatten) y.R) (fun y => outs.length - y.j) ⟨0, v1, R1, 0⟩ ⟨Nat.zero_le _, by simpa using h1⟩ kB sA fun y hy => ?_
  obtain ⟨j, v, R, lr⟩ := y
  obtain ⟨y1, y2⟩ := hy
  simp only at y1 y2 ⊢
  by_cases hj : j < outs.length
  · obtain ⟨ty, u, out, hc', ho, f, hf, hme, htr⟩ := hrow j hj
    have hfl := out_le ho
    (repeat' (first | refine Ops.pure _ (zaa (by rfl) (by repeat (first | exact hmg _ | apply HMem.there)) hc') (by rfl) ?_ | refine za ?_ | refine z8 ?_ | refine z6 ?_ | refine z7 ?_ | refine ze ?_ | refine zg ?_ | refine zf ?_ | refine zb ?_ | refine zc ?_ | refine zo ?_ | refine zaj ?_))
    refine Ops.invoke (f := f) (args := [lp b]) hf.out rfl hme rfl (htr b v _ R lr y2 (by simp) (by simp only [List.length_append, List.length_cons, List.length_nil]; omega)) (by repeat' (first | exact HTakes.nil | exact HTake.here | apply HTakes.cons | apply HTake.there)) rfl (fun u K hR => ?_)
    obtain ⟨rfl, v', R', lr', h9, rfl⟩ := hR
    (repeat' (first | refine z8 ?_ | refine z6 ?_ | refine z7 ?_ | refine zu ?_ | refine zb ?_ | refine zm ?_))
    exact ⟨⟨j + 1, v', R', lr'⟩, kB, sA, ⟨by simp only; omega, by simp only; rw [flat_snoc ho, ← List.append_assoc]; exact h9⟩, by simp only; omega⟩
  · have : j = outs.length := by omega
    subst this
    rw [List.take_of_length_le (by omega)] at y2
    (repeat' (first | refine za ?_ | refine z8 ?_ | refine z6 ?_ | refine z7 ?_ | refine zd ?_ | refine zy ?_ | refine zz ?_ | refine za0 ?_ | refine zb ?_ | refine za4 ?_))
    refine za1 (writeString_tr b v _ R lr [60, 47, 100, 101, 108, 62] y2 (by simp) (by simp) (by simp only [List.length_append, List.length_cons, List.length_nil]; omega)) (fun u K hR => ?_)
    obtain ⟨rfl, v3, R3, h3, rfl⟩ := hR
    (repeat' (first | refine z6 ?_))
    exact e_norm [G, bufb b v3 0, R3] ⟨rfl, v3, R3, 0, by simpa only [List.append_assoc] using h3, rfl⟩ sA

theorem strongHG_tr (x b : Nat) (mk : List UInt8) (sv : Value) (outs : List (List UInt8)) (v : Value) (l : List UInt8) (R G : Blk) (lr : Int) (hx : (x, cellsOf [str mk, sv] 135) ∈ G) (hS : ShownG "PrintHTML" sv G outs) (hR : BRow v l R) (hlim : l.length + (outs.flatten.length + 17) ≤ 900000) :
    Tr Tryz.prog 271 [lp x, lp b] [G, bufb b v lr, R] fun u K => u = unit ∧ ∃ v' R' lr', BRow v' (l ++ ([60, 115, 116, 114, 111, 110, 103, 62] ++ outs.flatten ++ [60, 47, 115, 116, 114, 111, 110, 103, 62])) R' ∧ K = [G, bufb b v' lr', R'] := by
  have hm : ∀ H, HMem (G :: H) x (cellsOf [str mk, sv] 135) := fun H => HMem.of_chunk hx
  rcases hS.cases with ⟨rfl, rfl⟩ | ⟨gx, c, curx, rfl, hg, hol, hrow⟩
  · simp only [List.flatten_nil, List.length_nil] at hlim
    refine Tr.start (n := 23) (rs := []) rfl rfl rfl rfl fun B => ?_
    (repeat' (first | refine za ?_ | refine z8 ?_ | refine zb ?_))
    refine za1 (writeString_tr b v l R lr [60, 115, 116, 114, 111, 110, 103, 62] hR (by simp) (by simp) (by simp only [List.length_cons, List.length_nil]; omega)) (fun u K hR => ?_)
    obtain ⟨rfl, v1, R1, h1, rfl⟩ := hR
    (repeat' (first | refine Ops.pure _ (zaa (by rfl) (by repeat (first | exact hm _ | apply HMem.there)) (by rfl)) (by rfl) ?_ | refine za ?_ | refine z8 ?_ | refine z6 ?_ | refine z7 ?_ | refine zg ?_ | refine zb ?_ | refine zp ?_ | refine zq ?_ | refine zac ?_))
    refine za7 (fun y : PW => [(0, lp x), (1, lp b), (11, .slice none 0 0), (12, inat 0), (13, inat 0)]) (fun y => [G, bufb b v1 0, R1])
      (fun y => True) (fun y => 0) ⟨0, v1, R1, 0⟩ trivial kB sA fun y hy => ?_
    (repeat' (first | refine za ?_ | refine z8 ?_ | refine z6 ?_ | refine z7 ?_ | refine zd ?_ | refine zy ?_ | refine zz ?_ | refine za0 ?_ | refine zb ?_ | refine za4 ?_))
    refine za1 (writeString_tr b v1 _ R1 0 [60, 47, 115, 116, 114, 111, 110, 103, 62] h1 (by simp) (by simp) (by simp only [List.length_append, List.length_cons, List.length_nil]; omega)) (fun u K hR => ?_)
    obtain ⟨rfl, v3, R3, h3, rfl⟩ := hR
    (repeat' (first | refine z6 ?_))
    exact e_norm [G, bufb b v3 0, R3] ⟨rfl, v3, R3, 0, by simpa only [List.append_assoc, List.flatten_nil, List.nil_append, List.append_nil] using h3, rfl⟩ sA
  have hmg : ∀ H, HMem (G :: H) gx (cellsOf curx 85) := fun H => HMem.of_chunk hg
  refine Tr.start (n := 23) (rs := []) rfl rfl rfl rfl fun B => ?_
  (repeat' (first | refine za ?_ | refine z8 ?_ | refine zb ?_))
  refine za1 (writeString_tr b v l R lr [60, 115, 116, 114, 111, 110, 103, 62] hR (by simp) (by simp) (by simp only [List.length_cons, List.length_nil]; omega)) (fun u K hR => ?_)
  obtain ⟨rfl, v1, R1, h1, rfl⟩ := hR
  (repeat' (first | refine Ops.pure _ (zaa (by rfl) (by repeat (first | exact hm _ | apply HMem.there)) (by rfl)) (by rfl) ?_ | refine za ?_ | refine z8 ?_ | refine z6 ?_ | refine z7 ?_ | refine zg ?_ | refine zb ?_ | refine zp ?_ | refine zq ?_ | refine zac ?_))
  refine za7 (fun y : PW => [(0, lp x), (1, lp b), (11, .slice (some ⟨gx, 0, none⟩) outs.length c), (12, inat outs.length), (13, inat y.j)]) (fun y => [G, bufb b y.v y.lr, y.R])
    (fun y => y.j ≤ outs.length ∧ BRow y.v (l ++ [60, 115, 116, 114, 111, 110, 103, 62] ++ (outs.take y.j).flatten) y.R) (fun y => outs.length - y.j) ⟨0, v1, R1, 0⟩ ⟨Nat.zero_le _, by simpa using h1⟩ kB sA fun y hy => ?_
  obtain ⟨j, v, R, lr⟩ := y
  obtain ⟨y1, y2⟩ := hy
  simp only at y1 y2 ⊢
  by_cases hj : j < outs.length
  · obtain ⟨ty, u, out, hc', ho, f, hf, hme, htr⟩ := hrow j hj
    have hfl := out_le ho
    (repeat' (first | refine Ops.pure _ (zaa (by rfl) (by repeat (first | exact hmg _ | apply HMem.there)) hc') (by rfl) ?_ | refine za ?_ | refine z8 ?_ | refine z6 ?_ | refine z7 ?_ | refine ze ?_ | refine zg ?_ | refine zf ?_ | refine zb ?_ | refine zc ?_ | refine zo ?_ | refine zaj ?_))
    refine Ops.invoke (f := f) (args := [lp b]) hf.out rfl hme rfl (htr b v _ R lr y2 (by simp) (by simp only [List.length_append, List.length_cons, List.length_nil]; omega)) (by repeat' (first | exact HTakes.nil | exact HTake.here | apply HTakes.cons | apply HTake.there)) rfl (fun u K hR => ?_)
    obtain ⟨rfl, v', R', lr', h9, rfl⟩ := hR
    (repeat' (first | refine z8 ?_ | refine z6 ?_ | refine z7 ?_ | refine zu ?_ | refine zb ?_ | refine zm ?_))
    exact ⟨⟨j + 1, v', R', lr'⟩, kB, sA, ⟨by simp only; omega, by simp only; rw [flat_snoc ho, ← List.append_assoc]; exact h9⟩, by simp only; omega⟩
  · have : j = outs.length := by omega
    subst this
    rw [List.take_of_length_le (by omega)] at y2
    (repeat' (first | refine za ?_ | refine z8 ?_ | refine z6 ?_ | refine z7 ?_ | refine zd ?_ | refine zy ?_ | refine zz ?_ | refine za0 ?_ | refine zb ?_ | refine za4 ?_))
    refine za1 (writeString_tr b v _ R lr [60, 47, 115, 116, 114, 111, 110, 103, 62] y2 (by simp) (by simp) (by simp only [List.length_append, List.length_cons, List.length_nil]; omega)) (fun u K hR => ?_)
    obtain ⟨rfl, v3, R3, h3, rfl⟩ := hR
    (repeat' (first | refine z6 ?_))
    exact e_norm [G, bufb b v3 0, R3] ⟨rfl, v3, R3, 0, by simpa only [List.append_assoc] using h3, rfl⟩ sA

theorem emphHG_tr (x b : Nat) (mk : List UInt8) (sv : Value) (outs : List (List UInt8)) (v : Value) (l : List UInt8) (R G : Blk) (lr : Int) (hx : (x, cellsOf [str mk, sv] 135) ∈ G) (hS : ShownG "PrintHTML" sv G outs) (hR : BRow v l R) (hlim : l.length + (outs.flatten.length + 9) ≤ 900000) :
    Tr Tryz.prog 267 [lp x, lp b] [G, bufb b v lr, R] fun u K => u = unit ∧ ∃ v' R' lr', BRow v' (l ++ ([60, 101, 109, 62] ++ outs.flatten ++ [60, 47, 101, 109, 62])) R' ∧ K = [G, bufb b v' lr', R'] := by
  have hm : ∀ H, HMem (G :: H) x (cellsOf [str mk, sv] 135) := fun H => HMem.of_chunk hx
  rcases hS.cases with ⟨rfl, rfl⟩ | ⟨gx, c, curx, rfl, hg, hol, hrow⟩
  · simp only [List.flatten_nil, List.length_nil] at hlim
    refine Tr.start (n := 23) (rs := []) rfl rfl rfl rfl fun B => ?_
    (repeat' (first | refine za ?_ | refine z8 ?_ | refine zb ?_))
    refine za1 (writeString_tr b v l R lr [60, 101, 109, 62] hR (by simp) (by simp) (by simp only [List.length_cons, List.length_nil]; omega)) (fun u K hR => ?_)
    obtain ⟨rfl, v1, R1, h1, rfl⟩ := hR
    (repeat' (first | refine Ops.pure _ (zaa (by rfl) (by repeat (first | exact hm _ | apply HMem.there)) (by rfl)) (by rfl) ?_ | refine za ?_ | refine z8 ?_ | refine z6 ?_ | refine z7 ?_ | refine zg ?_ | refine zb ?_ | refine zp ?_ | refine zq ?_ | refine zac ?_))
    refine za7 (fun y : PW => [(0, lp x), (1, lp b), (11, .slice none 0 0), (12, inat 0), (13, inat 0)]) (fun y => [G, bufb b v1 0, R1])
      (fun y => True) (fun y => 0) ⟨0, v1, R1, 0⟩ trivial kB sA fun y hy => ?_
    (repeat' (first | refine za ?_ | refine z8 ?_ | refine z6 ?_ | refine z7 ?_ | refine zd ?_ | refine zy ?_ | refine zz ?_ | refine za0 ?_ | refine zb ?_ | refine za4 ?_))
    refine za1 (writeString_tr b v1 _ R1 0 [60, 47, 101, 109, 62] h1 (by simp) (by simp) (by simp only [List.length_append, List.length_cons, List.length_nil]; omega)) (fun u K hR => ?_)
    obtain ⟨rfl, v3, R3, h3, rfl⟩ := hR
    (repeat' (first | refine z6 ?_))
    exact e_norm [G, bufb b v3 0, R3] ⟨rfl, v3, R3, 0, by simpa only [List.append_assoc, List.flatten_nil, List.nil_append, List.append_nil] using h3, rfl⟩ sA
  have hmg : ∀ H, HMem (G :: H) gx (cellsOf curx 85) := fun H => HMem.of_chunk hg
  refine Tr.start (n := 23) (rs := []) rfl rfl rfl rfl fun B => ?_
  (repeat' (first | refine za ?_ | refine z8 ?_ | refine zb ?_))
  refine za1 (writeString_tr b v l R lr [60, 101, 109, 62] hR (by simp) (by simp) (by simp only [List.length_cons, List.length_nil]; omega)) (fun u K hR => ?_)
  obtain ⟨rfl, v1, R1, h1, rfl⟩ := hR
  (repeat' (first | refine Ops.pure _ (zaa (by rfl) (by repeat (first | exact hm _ | apply HMem.there)) (by rfl)) (by rfl) ?_ | refine za ?_ | refine z8 ?_ | refine z6 ?_ | refine z7 ?_ | refine zg ?_ | refine zb ?_ | refine zp ?_ | refine zq ?_ | refine zac ?_))
  refine za7 (fun y : PW => [(0, lp x), (1, lp b), (11, .slice (some ⟨gx, 0, none⟩) outs.length c), (12, inat outs.length), (13, inat y.j)]) (fun y => [G, bufb b y.v y.lr, y.R])
    (fun y => y.j ≤ outs.length ∧ BRow y.v (l ++ [60, 101, 109, 62] ++ (outs.take y.j).flatten) y.R) (fun y => outs.length - y.j) ⟨0, v1, R1, 0⟩ ⟨Nat.zero_le _, by simpa using h1⟩ kB sA fun y hy => ?_
  obtain ⟨j, v, R, lr⟩ := y
  obtain ⟨y1, y2⟩ := hy
  simp only at y1 y2 ⊢
  by_cases hj : j < outs.length
  · obtain ⟨ty, u, out, hc', ho, f, hf, hme, htr⟩ := hrow j hj
    have hfl := out_le ho
    (repeat' (first | refine Ops.pure _ (zaa (by rfl) (by repeat (first | exact hmg _ | apply HMem.there)) hc') (by rfl) ?_ | refine za ?_ | refine z8 ?_ | refine z6 ?_ | refine z7 ?_ | refine ze ?_ | refine zg ?_ | refine zf ?_ | refine zb ?_ | refine zc ?_ | refine zo ?_ | refine zaj ?_))
    refine Ops.invoke (f := f) (args := [lp b]) hf.out rfl hme rfl (htr b v _ R lr y2 (by simp) (by simp only [List.length_append, List.length_cons, List.length_nil]; omega)) (by repeat' (first | exact HTakes.nil | exact HTake.here | apply HTakes.cons | apply HTake.there)) rfl (fun u K hR => ?_)
    obtain ⟨rfl, v', R', lr', h9, rfl⟩ := hR
    (repeat' (first | refine z8 ?_ | refine z6 ?_ | refine z7 ?_ | refine zu ?_ | refine zb ?_ | refine zm ?_))
    exact ⟨⟨j + 1, v', R', lr'⟩, kB, sA, ⟨by simp only; omega, by simp only; rw [flat_snoc ho, ← List.append_assoc]; exact h9⟩, by simp only; omega⟩
  · have : j = outs.length := by omega
    subst this
    rw [List.take_of_length_le (by omega)] at y2
    (repeat' (first | refine za ?_ | refine z8 ?_ | refine z6 ?_ | refine z7 ?_ | refine zd ?_ | refine zy ?_ | refine zz ?_ | refine za0 ?_ | refine zb ?_ | refine za4 ?_))
    refine za1 (writeString_tr b v _ R lr [60, 47, 101, 109, 62] y2 (by simp) (by simp) (by simp only [List.length_append, List.length_cons, List.length_nil]; omega)) (fun u K hR => ?_)
    obtain ⟨rfl, v3, R3, h3, rfl⟩ := hR
    (repeat' (first | refine z6 ?_))
    exact e_norm [G, bufb b v3 0, R3] ⟨rfl, v3, R3, 0, by simpa only [List.append_assoc] using h3, rfl⟩ sA
end Go.Proofs

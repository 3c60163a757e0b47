/- inline of a text of literal bytes and runs. Conditions: TkOK, and contracts of emph and mergePlain for its items. laws.FnSeven returns true whatever the arguments. Condition: the text's length is that of a Go string. -/
import Derived.Test.YtjbpohkcmgelkaaGreatDoorT12
import Derived.Test.YtjbpohkcmgelkaaGreatDoorT05
import Derived.Test.YtjbpohkcmgelkaaGreatDoorT08
import Derived.Test.YtjbpohkcmgelkaaGreatDoorEngB
import Derived.Test.YtjbpohkcmgelkaaGreatDoorT07
namespace Go.Proofs
open Go Go.Eng
set_option maxRecDepth 40000
set_option maxHeartbeats 8000000

def linkPairs : Pairs := [(34, [37, 50, 50]), (38, [38, 97, 109, 112, 59]), (60, [37, 51, 67]), (62, [37, 51, 69]), (92, [37, 53, 67]), (32, [37, 50, 48]), (96, [37, 54, 48]), (91, [37, 53, 66]), (93, [37, 53, 68]), (94, [37, 53, 69]), (123, [37, 55, 66]), (125, [37, 55, 68]), (0, [37, 48, 48]), (1, [37, 48, 49]), (2, [37, 48, 50]), (3, [37, 48, 51]), (4, [37, 48, 52]), (5, [37, 48, 53]), (6, [37, 48, 54]), (7, [37, 48, 55]), (8, [37, 48, 56]), (11, [37, 48, 66]), (12, [37, 48, 67]), (14, [37, 48, 69]), (15, [37, 48, 70]), (16, [37, 49, 48]), (17, [37, 49, 49]), (18, [37, 49, 50]), (19, [37, 49, 51]), (20, [37, 49, 52]), (21, [37, 49, 53]), (22, [37, 49, 54]), (23, [37, 49, 55]), (24, [37, 49, 56]), (25, [37, 49, 57]), (26, [37, 49, 65]), (27, [37, 49, 66]), (28, [37, 49, 67]), (29, [37, 49, 68]), (30, [37, 49, 69]), (31, [37, 49, 70]), (127, [37, 55, 70]), (128, [37, 56, 48]), (129, [37, 56, 49]), (130, [37, 56, 50]), (131, [37, 56, 51]), (132, [37, 56, 52]), (133, [37, 56, 53]), (134, [37, 56, 54]), (135, [37, 56, 55]), (136, [37, 56, 56]), (137, [37, 56, 57]), (138, [37, 56, 65]), (139, [37, 56, 66]), (140, [37, 56, 67]), (141, [37, 56, 68]), (142, [37, 56, 69]), (143, [37, 56, 70]), (144, [37, 57, 48]), (145, [37, 57, 49]), (146, [37, 57, 50]), (147, [37, 57, 51]), (148, [37, 57, 52]), (149, [37, 57, 53]), (150, [37, 57, 54]), (151, [37, 57, 55]), (152, [37, 57, 56]), (153, [37, 57, 57]), (154, [37, 57, 65]), (155, [37, 57, 66]), (156, [37, 57, 67]), (157, [37, 57, 68]), (158, [37, 57, 69]), (159, [37, 57, 70]), (160, [37, 65, 48]), (161, [37, 65, 49]), (162, [37, 65, 50]), (163, [37, 65, 51]), (164, [37, 65, 52]), (165, [37, 65, 53]), (166, [37, 65, 54]), (167, [37, 65, 55]), (168, [37, 65, 56]), (169, [37, 65, 57]), (170, [37, 65, 65]), (171, [37, 65, 66]), (172, [37, 65, 67]), (173, [37, 65, 68]), (174, [37, 65, 69]), (175, [37, 65, 70]), (176, [37, 66, 48]), (177, [37, 66, 49]), (178, [37, 66, 50]), (179, [37, 66, 51]), (180, [37, 66, 52]), (181, [37, 66, 53]), (182, [37, 66, 54]), (183, [37, 66, 55]), (184, [37, 66, 56]), (185, [37, 66, 57]), (186, [37, 66, 65]), (187, [37, 66, 66]), (188, [37, 66, 67]), (189, [37, 66, 68]), (190, [37, 66, 69]), (191, [37, 66, 70]), (192, [37, 67, 48]), (193, [37, 67, 49]), (194, [37, 67, 50]), (195, [37, 67, 51]), (196, [37, 67, 52]), (197, [37, 67, 53]), (198, [37, 67, 54]), (199, [37, 67, 55]), (200, [37, 67, 56]), (201, [37, 67, 57]), (202, [37, 67, 65]), (203, [37, 67, 66]), (204, [37, 67, 67]), (205, [37, 67, 68]), (206, [37, 67, 69]), (207, [37, 67, 70]), (208, [37, 68, 48]), (209, [37, 68, 49]), (210, [37, 68, 50]), (211, [37, 68, 51]), (212, [37, 68, 52]), (213, [37, 68, 53]), (214, [37, 68, 54]), (215, [37, 68, 55]), (216, [37, 68, 56]), (217, [37, 68, 57]), (218, [37, 68, 65]), (219, [37, 68, 66]), (220, [37, 68, 67]), (221, [37, 68, 68]), (222, [37, 68, 69]), (223, [37, 68, 70]), (224, [37, 69, 48]), (225, [37, 69, 49]), (226, [37, 69, 50]), (227, [37, 69, 51]), (228, [37, 69, 52]), (229, [37, 69, 53]), (230, [37, 69, 54]), (231, [37, 69, 55]), (232, [37, 69, 56]), (233, [37, 69, 57]), (234, [37, 69, 65]), (235, [37, 69, 66]), (236, [37, 69, 67]), (237, [37, 69, 68]), (238, [37, 69, 69]), (239, [37, 69, 70]), (240, [37, 70, 48]), (241, [37, 70, 49]), (242, [37, 70, 50]), (243, [37, 70, 51]), (244, [37, 70, 52]), (245, [37, 70, 53]), (246, [37, 70, 54]), (247, [37, 70, 55]), (248, [37, 70, 56]), (249, [37, 70, 57]), (250, [37, 70, 65]), (251, [37, 70, 66]), (252, [37, 70, 67]), (253, [37, 70, 68]), (254, [37, 70, 69]), (255, [37, 70, 70])]

end Go.Proofs

namespace Go.Proofs
open Go Go.Eng
set_option maxRecDepth 20000
set_option maxHeartbeats 4000000

/-- An attribute of the law: white space, its number, and the form of its value. -/
structure Att where
  sep : Nat
  i : Nat
  form : Nat
def Att.ok (x : Att) : Prop := x.sep < 3 ∧ x.i < 10 ∧ x.form < 4
def sepB : Nat → List UInt8
  | 0 => [32]
  | 1 => [10]
  | _ => [32, 32]
def digB (i : Nat) : UInt8 := UInt8.ofNat (48 + i)
def valB : Nat → List UInt8
  | 0 => [61, 34, 118, 32, 62, 32, 119, 34]
  | 1 => [61, 39, 118, 32, 34, 119, 39]
  | 2 => [32, 61, 32, 118]
  | _ => []
def Att.bytes (x : Att) : List UInt8 := sepB x.sep ++ ([107, digB x.i] ++ valB x.form)
end Go.Proofs

namespace Go.Proofs
open Go Go.Eng
set_option maxRecDepth 20000
set_option maxHeartbeats 4000000

end Go.Proofs

namespace Go.Proofs
open Go Go.Eng
set_option maxRecDepth 20000
set_option maxHeartbeats 8000000

/-- What the scan of a tag's name leaves. -/
structure SB where
  k : Nat
  v : Value
  xs : List Value
  B : Blk

end Go.Proofs

namespace Go.Proofs
open Go Go.Eng
set_option maxRecDepth 20000
set_option maxHeartbeats 8000000

end Go.Proofs

namespace Go.Proofs
open Go Go.Eng
set_option maxRecDepth 20000
set_option maxHeartbeats 8000000

end Go.Proofs

namespace Go.Proofs
open Go Go.Eng
set_option maxRecDepth 20000
set_option maxHeartbeats 8000000

theorem w_sub {B : Base} {n : Nat} {L : Eng.Loc} {H H' : Heap} {Q : Eng.Post} {c : Code} (hs : SubH H H') (h : Wp Tryz.prog B n c L H' Q) : Wp Tryz.prog B n c L H Q :=
  ⟨fun a w ha hw => h.run a w ha (hw.sub hs)⟩

end Go.Proofs

namespace Go.Proofs
open Go Go.Eng
set_option maxRecDepth 20000
set_option maxHeartbeats 4000000

abbrev optO (d q : Bool) : Value := .agg #[.bool d, .bool false, .bool false, .bool false, .bool false, .bool false, .bool false, .bool q, .bool false, .bool false]
abbrev poO (d q : Bool) : PO := ⟨false, d, false, false, false, false, false, false, false, q⟩
theorem parserO_tr (d q : Bool) : Tr Tryz.prog 29 [optO d q] [] fun u K => ∃ pr, u = lp pr ∧ K = [(poO d q).blk pr] := by
  refine Tr.start (n := 25) (rs := [.tmp 2]) rfl rfl rfl rfl fun B => ?_
  (repeat' (first | refine z7 ?_ | refine z6 ?_ | refine z2 ?_ | refine z1 ?_ | refine ze ?_ | refine za ?_ | refine zn ?_ | refine zp ?_ | refine zao ?_ | refine zaf (fun _ => ?_)))
  rename_i r1 r2
  exact e_ret [(poO d q).blk r2] ⟨r2, rfl, rfl⟩ sA

end Go.Proofs

namespace Go.Proofs
open Go Go.Eng
set_option maxRecDepth 20000
set_option maxHeartbeats 4000000

end Go.Proofs

namespace Go.Proofs
open Go Go.Eng
set_option maxRecDepth 20000
set_option maxHeartbeats 4000000

end Go.Proofs

namespace Go.Proofs
open Go Go.Eng
set_option maxRecDepth 20000
set_option maxHeartbeats 4000000

end Go.Proofs

namespace Go.Proofs
open Go Go.Eng
set_option maxRecDepth 40000
set_option maxHeartbeats 2000000

theorem plainH_tr (q b : Nat) (t : List UInt8) (r : List Value) (T : Nat) (v : Value) (l : List UInt8) (R G : Blk) (lr : Int) (hx : (q, cellsOf (str t :: r) T) ∈ G) (ht : t.length ≤ 10000) (hR : BRow v l R) (hlim : l.length ≤ 900000) :
    Tr Tryz.prog 306 [lp q, lp b] [G, bufb b v lr, R] fun u K => u = unit ∧ ∃ v' R' lr', BRow v' (l ++ escH t) R' ∧ K = [G, bufb b v' lr', R'] := by
  have hm : ∀ H, HMem (G :: H) q (cellsOf (str t :: r) T) := fun H => HMem.of_chunk hx
  refine Tr.start (n := 11) (rs := []) rfl rfl rfl rfl fun B => ?_
  refine Wp.draw_held (id := 0) [G] 7 Mixed.out sA rfl ?_
  refine hF 1 ?_
  refine hF 2 ?_
  refine hF 3 ?_
  refine hF 4 ?_
  refine hG 5 _ rfl (zar rfl (hm _) rfl) ?_
  refine hO 0 ?_
  refine za1 htmlEscaper_tr (fun u K hR => ?_)
  obtain ⟨g, rfl, rfl⟩ := hR
  (repeat' (first | refine z2 ?_ | refine z1 ?_))
  refine ⟨sA, ?_⟩
  refine hO 6 ?_
  refine za1 (pairsWrite_tr g b v l R lr t hR (by omega)) (fun u K hR => ?_)
  obtain ⟨rfl, v', R', lr', h9, rfl⟩ := hR
  (repeat' (first | refine z2 ?_ | refine z1 ?_))
  refine ⟨sA, ?_⟩
  refine OpsH.nil (by kernel_rfl) ?_
  refine Fin.out (e_norm [G, bufb b v' lr', R'] ⟨rfl, v', R', lr', h9, rfl⟩ sA)
theorem codeH_tr (q b : Nat) (t : List UInt8) (v : Value) (l : List UInt8) (R G : Blk) (lr : Int) (hx : (q, cellsOf [str t] 136) ∈ G) (ht : t.length ≤ 10000) (hR : BRow v l R) (hne : l ≠ []) (hlim : l.length ≤ 900000) :
    Tr Tryz.prog 268 [lp q, lp b] [G, bufb b v lr, R] fun u K => u = unit ∧ ∃ v' R' lr', BRow v' (l ++ ([60, 99, 111, 100, 101, 62] ++ escH t ++ [60, 47, 99, 111, 100, 101, 62])) R' ∧ K = [G, bufb b v' lr', R'] := by
  have hm : ∀ H, HMem (G :: H) q (cellsOf [str t] 136) := fun H => HMem.of_chunk hx
  have hl2 := escH_len t
  refine Tr.start (n := 14) (rs := []) rfl rfl rfl rfl fun B => ?_
  refine Wp.draw_held (id := 0) [G] 10 Mixed.out sA rfl ?_
  refine hF 0 ?_
  refine hF 2 ?_
  refine hF 3 ?_
  refine hF 4 ?_
  refine hG 5 _ rfl (zar rfl (hm _) rfl) ?_
  refine hO 1 ?_
  refine za1 htmlEscaper_tr (fun u K hR => ?_)
  obtain ⟨g2, rfl, rfl⟩ := hR
  (repeat' (first | refine z2 ?_ | refine z1 ?_))
  refine ⟨sA, ?_⟩
  refine hO 6 ?_
  refine za1 (replaceEsc_tr g2 t (by omega)) (fun u K hR => ?_)
  obtain ⟨rfl, rfl⟩ := hR
  (repeat' (first | refine z2 ?_ | refine z1 ?_))
  refine ⟨sA, ?_⟩
  refine hG 7 _ rfl (zdq (a := [60, 99, 111, 100, 101, 62]) (b := escH t) rfl rfl rfl (by simp only [List.length_cons, List.length_nil]; omega)) ?_
  refine hG 8 _ rfl (zdq (a := [60, 99, 111, 100, 101, 62] ++ escH t) (b := [60, 47, 99, 111, 100, 101, 62]) rfl rfl rfl (by simp only [List.length_append, List.length_cons, List.length_nil]; omega)) ?_
  refine hO 9 ?_
  refine za1 (writeAny_tr b v l R lr (([60, 99, 111, 100, 101, 62] ++ escH t) ++ [60, 47, 99, 111, 100, 101, 62]) hR hne (by simp only [List.length_append, List.length_cons, List.length_nil]; omega)) (fun u K hR => ?_)
  obtain ⟨rfl, v', R', h9, rfl⟩ := hR
  (repeat' (first | refine z2 ?_ | refine z1 ?_))
  refine ⟨sA, ?_⟩
  refine OpsH.nil (by kernel_rfl) ?_
  refine Fin.out (e_norm [G, bufb b v' 0, R'] ⟨rfl, v', R', 0, h9, rfl⟩ sA)
end Go.Proofs

namespace Go.Proofs
open Go Go.Eng
set_option maxRecDepth 40000
set_option maxHeartbeats 2000000

/-- An inline one of whose printers puts a text into the buffer. -/
def PrnG (nm : String) (x : Value) (G : Blk) (out : List UInt8) : Prop :=
  ∃ t u, x = .iface t u ∧ ∃ f, Cal Tryz.prog f ∧ MethodIs Tryz.prog t u nm f u ∧ ∀ (b : Nat) (v : Value) (l : List UInt8) (R : Blk) (lr : Int), BRow v l R → l ≠ [] → l.length + out.length ≤ 900000 →
    Tr Tryz.prog f [u, lp b] [G, bufb b v lr, R] fun w K => w = unit ∧ ∃ v' R' lr', BRow v' (l ++ out) R' ∧ K = [G, bufb b v' lr', R']

/-- A slice of inlines, and the texts that they put into the buffer. -/
structure ShownG (nm : String) (sv : Value) (G : Blk) (outs : List (List UInt8)) : Prop where
  row : ∃ vals : List Value, (∃ LB, Own 89 1 sv vals.length vals LB ∧ ∀ y ∈ LB, y ∈ G) ∧ outs.length = vals.length ∧ ∀ (j : Nat) (v : Value), vals[j]? = some v → ∃ out, outs[j]? = some out ∧ PrnG nm v G out

theorem ShownG.cases {nm : String} {sv : Value} {G : Blk} {outs : List (List UInt8)} (h : ShownG nm sv G outs) :
    (sv = .slice none 0 0 ∧ outs = []) ∨ ∃ g c cur, sv = .slice (some ⟨g, 0, none⟩) outs.length c ∧ (g, cellsOf cur 89) ∈ G ∧ outs.length ≤ 9223372036854775807 ∧ ∀ j, j < outs.length → ∃ t u out, cur[0 + j * 1]? = some (.iface t u) ∧ outs[j]? = some out ∧
      ∃ f, Cal Tryz.prog f ∧ MethodIs Tryz.prog t u nm f u ∧ ∀ (b : Nat) (v : Value) (l : List UInt8) (R : Blk) (lr : Int), BRow v l R → l ≠ [] → l.length + out.length ≤ 900000 →
    Tr Tryz.prog f [u, lp b] [G, bufb b v lr, R] fun w K => w = unit ∧ ∃ v' R' lr', BRow v' (l ++ out) R' ∧ K = [G, bufb b v' lr', R'] := by
  obtain ⟨vals, ⟨LB, hO, hG⟩, hl, hr⟩ := h.row
  rcases hO.2 with ⟨rfl, h0, rfl⟩ | ⟨g, cap, cur, rfl, rfl, h1, h2, h3, h4⟩
  · exact .inl ⟨rfl, List.length_eq_zero_iff.1 (by omega)⟩
  · refine .inr ⟨g, cap, cur, by rw [hl], hG _ (by simp), by omega, fun j hj => ?_⟩
    have hv : vals[j]? = some (vals[j]'(by omega)) := List.getElem?_eq_getElem _
    obtain ⟨out, ho, t, u, hx, hp⟩ := hr j _ hv
    refine ⟨t, u, out, ?_, ho, hp⟩
    rw [hx] at hv
    rw [← h4] at hv
    rw [show 0 + j * 1 = j by omega]
    rw [List.getElem?_take] at hv
    split at hv
    · exact hv
    · cases hv

theorem out_le {outs : List (List UInt8)} {j : Nat} {x : List UInt8} (h : outs[j]? = some x) : (outs.take j).flatten.length + x.length ≤ outs.flatten.length := by
  have := flat_le outs (j + 1)
  rw [flat_snoc h, List.length_append] at this
  omega

theorem delHG_tr {T : Nat} (x b : Nat) (mk : List UInt8) (sv : Value) (outs : List (List UInt8)) (v : Value) (l : List UInt8) (R G : Blk) (lr : Int) (hx : (x, cellsOf [str mk, sv] T) ∈ G) (hS : ShownG "PrintHTML" sv G outs) (hR : BRow v l R) (hlim : l.length + (outs.flatten.length + 11) ≤ 900000) :
    Tr Tryz.prog 281 [lp x, lp b] [G, bufb b v lr, R] fun u K => u = unit ∧ ∃ v' R' lr', BRow v' (l ++ ([60, 100, 101, 108, 62] ++ outs.flatten ++ [60, 47, 100, 101, 108, 62])) R' ∧ K = [G, bufb b v' lr', R'] := by
  have hm : ∀ H, HMem (G :: H) x (cellsOf [str mk, sv] T) := fun H => HMem.of_chunk hx
  rcases hS.cases with ⟨rfl, rfl⟩ | ⟨gx, c, curx, rfl, hg, hol, hrow⟩
  · simp only [List.flatten_nil, List.length_nil] at hlim
    refine Tr.start (n := 23) (rs := []) rfl rfl rfl rfl fun B => ?_
    (repeat' (first | refine z7 ?_ | refine z6 ?_ | refine z8 ?_))
    refine za1 (writeString_tr b v l R lr [60, 100, 101, 108, 62] hR (by simp) (by simp) (by simp only [List.length_cons, List.length_nil]; omega)) (fun u K hR => ?_)
    obtain ⟨rfl, v1, R1, h1, rfl⟩ := hR
    (repeat' (first | refine Ops.pure _ (zar (by rfl) (by repeat (first | exact hm _ | apply HMem.there)) (by rfl)) (by rfl) ?_ | refine z7 ?_ | refine z6 ?_ | refine z2 ?_ | refine z1 ?_ | refine zf ?_ | refine z8 ?_ | refine zp ?_ | refine zq ?_ | refine zah ?_))
    refine za6 (fun y : PW => [(0, lp x), (1, lp b), (11, .slice none 0 0), (12, inat 0), (13, inat 0)]) (fun y => [G, bufb b v1 0, R1])
      (fun y => True) (fun y => 0) ⟨0, v1, R1, 0⟩ trivial kB sA fun y hy => ?_
    (repeat' (first | refine z7 ?_ | refine z6 ?_ | refine z2 ?_ | refine z1 ?_ | refine zb ?_ | refine zw ?_ | refine zy ?_ | refine zz ?_ | refine z8 ?_ | refine za4 ?_))
    refine za1 (writeString_tr b v1 _ R1 0 [60, 47, 100, 101, 108, 62] h1 (by simp) (by simp) (by simp only [List.length_append, List.length_cons, List.length_nil]; omega)) (fun u K hR => ?_)
    obtain ⟨rfl, v3, R3, h3, rfl⟩ := hR
    (repeat' (first | refine z2 ?_))
    exact e_norm [G, bufb b v3 0, R3] ⟨rfl, v3, R3, 0, by simpa only [List.append_assoc, List.flatten_nil, List.nil_append, List.append_nil] using h3, rfl⟩ sA
  have hmg : ∀ H, HMem (G :: H) gx (cellsOf curx 89) := fun H => HMem.of_chunk hg
  refine Tr.start (n := 23) (rs := []) rfl rfl rfl rfl fun B => ?_
  (repeat' (first | refine z7 ?_ | refine z6 ?_ | refine z8 ?_))
  refine za1 (writeString_tr b v l R lr [60, 100, 101, 108, 62] hR (by simp) (by simp) (by simp only [List.length_cons, List.length_nil]; omega)) (fun u K hR => ?_)
  obtain ⟨rfl, v1, R1, h1, rfl⟩ := hR
  (repeat' (first | refine Ops.pure _ (zar (by rfl) (by repeat (first | exact hm _ | apply HMem.there)) (by rfl)) (by rfl) ?_ | refine z7 ?_ | refine z6 ?_ | refine z2 ?_ | refine z1 ?_ | refine zf ?_ | refine z8 ?_ | refine zp ?_ | refine zq ?_ | refine zah ?_))
  refine za6 (fun y : PW => [(0, lp x), (1, lp b), (11, .slice (some ⟨gx, 0, none⟩) outs.length c), (12, inat outs.length), (13, inat y.j)]) (fun y => [G, bufb b y.v y.lr, y.R])
    (fun y => y.j ≤ outs.length ∧ BRow y.v (l ++ [60, 100, 101, 108, 62] ++ (outs.take y.j).flatten) y.R) (fun y => outs.length - y.j) ⟨0, v1, R1, 0⟩ ⟨Nat.zero_le _, by simpa using h1⟩ kB sA fun y hy => ?_
  obtain ⟨j, v, R, lr⟩ := y
  obtain ⟨y1, y2⟩ := hy
  simp only at y1 y2 ⊢
  by_cases hj : j < outs.length
  · obtain ⟨ty, u, out, hc', ho, f, hf, hme, htr⟩ := hrow j hj
    have hfl := out_le ho
    (repeat' (first | refine Ops.pure _ (zar (by rfl) (by repeat (first | exact hmg _ | apply HMem.there)) hc') (by rfl) ?_ | refine z7 ?_ | refine z6 ?_ | refine z2 ?_ | refine z1 ?_ | refine zc ?_ | refine zf ?_ | refine zd ?_ | refine z8 ?_ | refine za ?_ | refine zm ?_ | refine zal ?_))
    refine Ops.invoke (f := f) (args := [lp b]) hf.out rfl hme rfl (htr b v _ R lr y2 (by simp) (by simp only [List.length_append, List.length_cons, List.length_nil]; omega)) (by repeat' (first | exact HTakes.nil | exact HTake.here | apply HTakes.cons | apply HTake.there)) rfl (fun u K hR => ?_)
    obtain ⟨rfl, v', R', lr', h9, rfl⟩ := hR
    (repeat' (first | refine z6 ?_ | refine z2 ?_ | refine z1 ?_ | refine zu ?_ | refine z8 ?_ | refine zl ?_))
    exact ⟨⟨j + 1, v', R', lr'⟩, kB, sA, ⟨by simp only; omega, by simp only; rw [flat_snoc ho, ← List.append_assoc]; exact h9⟩, by simp only; omega⟩
  · have : j = outs.length := by omega
    subst this
    rw [List.take_of_length_le (by omega)] at y2
    (repeat' (first | refine z7 ?_ | refine z6 ?_ | refine z2 ?_ | refine z1 ?_ | refine zb ?_ | refine zw ?_ | refine zy ?_ | refine zz ?_ | refine z8 ?_ | refine za4 ?_))
    refine za1 (writeString_tr b v _ R lr [60, 47, 100, 101, 108, 62] y2 (by simp) (by simp) (by simp only [List.length_append, List.length_cons, List.length_nil]; omega)) (fun u K hR => ?_)
    obtain ⟨rfl, v3, R3, h3, rfl⟩ := hR
    (repeat' (first | refine z2 ?_))
    exact e_norm [G, bufb b v3 0, R3] ⟨rfl, v3, R3, 0, by simpa only [List.append_assoc] using h3, rfl⟩ sA

theorem strongHG_tr {T : Nat} (x b : Nat) (mk : List UInt8) (sv : Value) (outs : List (List UInt8)) (v : Value) (l : List UInt8) (R G : Blk) (lr : Int) (hx : (x, cellsOf [str mk, sv] T) ∈ G) (hS : ShownG "PrintHTML" sv G outs) (hR : BRow v l R) (hlim : l.length + (outs.flatten.length + 17) ≤ 900000) :
    Tr Tryz.prog 277 [lp x, lp b] [G, bufb b v lr, R] fun u K => u = unit ∧ ∃ v' R' lr', BRow v' (l ++ ([60, 115, 116, 114, 111, 110, 103, 62] ++ outs.flatten ++ [60, 47, 115, 116, 114, 111, 110, 103, 62])) R' ∧ K = [G, bufb b v' lr', R'] := by
  have hm : ∀ H, HMem (G :: H) x (cellsOf [str mk, sv] T) := fun H => HMem.of_chunk hx
  rcases hS.cases with ⟨rfl, rfl⟩ | ⟨gx, c, curx, rfl, hg, hol, hrow⟩
  · simp only [List.flatten_nil, List.length_nil] at hlim
    refine Tr.start (n := 23) (rs := []) rfl rfl rfl rfl fun B => ?_
    (repeat' (first | refine z7 ?_ | refine z6 ?_ | refine z8 ?_))
    refine za1 (writeString_tr b v l R lr [60, 115, 116, 114, 111, 110, 103, 62] hR (by simp) (by simp) (by simp only [List.length_cons, List.length_nil]; omega)) (fun u K hR => ?_)
    obtain ⟨rfl, v1, R1, h1, rfl⟩ := hR
    (repeat' (first | refine Ops.pure _ (zar (by rfl) (by repeat (first | exact hm _ | apply HMem.there)) (by rfl)) (by rfl) ?_ | refine z7 ?_ | refine z6 ?_ | refine z2 ?_ | refine z1 ?_ | refine zf ?_ | refine z8 ?_ | refine zp ?_ | refine zq ?_ | refine zah ?_))
    refine za6 (fun y : PW => [(0, lp x), (1, lp b), (11, .slice none 0 0), (12, inat 0), (13, inat 0)]) (fun y => [G, bufb b v1 0, R1])
      (fun y => True) (fun y => 0) ⟨0, v1, R1, 0⟩ trivial kB sA fun y hy => ?_
    (repeat' (first | refine z7 ?_ | refine z6 ?_ | refine z2 ?_ | refine z1 ?_ | refine zb ?_ | refine zw ?_ | refine zy ?_ | refine zz ?_ | refine z8 ?_ | refine za4 ?_))
    refine za1 (writeString_tr b v1 _ R1 0 [60, 47, 115, 116, 114, 111, 110, 103, 62] h1 (by simp) (by simp) (by simp only [List.length_append, List.length_cons, List.length_nil]; omega)) (fun u K hR => ?_)
    obtain ⟨rfl, v3, R3, h3, rfl⟩ := hR
    (repeat' (first | refine z2 ?_))
    exact e_norm [G, bufb b v3 0, R3] ⟨rfl, v3, R3, 0, by simpa only [List.append_assoc, List.flatten_nil, List.nil_append, List.append_nil] using h3, rfl⟩ sA
  have hmg : ∀ H, HMem (G :: H) gx (cellsOf curx 89) := fun H => HMem.of_chunk hg
  refine Tr.start (n := 23) (rs := []) rfl rfl rfl rfl fun B => ?_
  (repeat' (first | refine z7 ?_ | refine z6 ?_ | refine z8 ?_))
  refine za1 (writeString_tr b v l R lr [60, 115, 116, 114, 111, 110, 103, 62] hR (by simp) (by simp) (by simp only [List.length_cons, List.length_nil]; omega)) (fun u K hR => ?_)
  obtain ⟨rfl, v1, R1, h1, rfl⟩ := hR
  (repeat' (first | refine Ops.pure _ (zar (by rfl) (by repeat (first | exact hm _ | apply HMem.there)) (by rfl)) (by rfl) ?_ | refine z7 ?_ | refine z6 ?_ | refine z2 ?_ | refine z1 ?_ | refine zf ?_ | refine z8 ?_ | refine zp ?_ | refine zq ?_ | refine zah ?_))
  refine za6 (fun y : PW => [(0, lp x), (1, lp b), (11, .slice (some ⟨gx, 0, none⟩) outs.length c), (12, inat outs.length), (13, inat y.j)]) (fun y => [G, bufb b y.v y.lr, y.R])
    (fun y => y.j ≤ outs.length ∧ BRow y.v (l ++ [60, 115, 116, 114, 111, 110, 103, 62] ++ (outs.take y.j).flatten) y.R) (fun y => outs.length - y.j) ⟨0, v1, R1, 0⟩ ⟨Nat.zero_le _, by simpa using h1⟩ kB sA fun y hy => ?_
  obtain ⟨j, v, R, lr⟩ := y
  obtain ⟨y1, y2⟩ := hy
  simp only at y1 y2 ⊢
  by_cases hj : j < outs.length
  · obtain ⟨ty, u, out, hc', ho, f, hf, hme, htr⟩ := hrow j hj
    have hfl := out_le ho
    (repeat' (first | refine Ops.pure _ (zar (by rfl) (by repeat (first | exact hmg _ | apply HMem.there)) hc') (by rfl) ?_ | refine z7 ?_ | refine z6 ?_ | refine z2 ?_ | refine z1 ?_ | refine zc ?_ | refine zf ?_ | refine zd ?_ | refine z8 ?_ | refine za ?_ | refine zm ?_ | refine zal ?_))
    refine Ops.invoke (f := f) (args := [lp b]) hf.out rfl hme rfl (htr b v _ R lr y2 (by simp) (by simp only [List.length_append, List.length_cons, List.length_nil]; omega)) (by repeat' (first | exact HTakes.nil | exact HTake.here | apply HTakes.cons | apply HTake.there)) rfl (fun u K hR => ?_)
    obtain ⟨rfl, v', R', lr', h9, rfl⟩ := hR
    (repeat' (first | refine z6 ?_ | refine z2 ?_ | refine z1 ?_ | refine zu ?_ | refine z8 ?_ | refine zl ?_))
    exact ⟨⟨j + 1, v', R', lr'⟩, kB, sA, ⟨by simp only; omega, by simp only; rw [flat_snoc ho, ← List.append_assoc]; exact h9⟩, by simp only; omega⟩
  · have : j = outs.length := by omega
    subst this
    rw [List.take_of_length_le (by omega)] at y2
    (repeat' (first | refine z7 ?_ | refine z6 ?_ | refine z2 ?_ | refine z1 ?_ | refine zb ?_ | refine zw ?_ | refine zy ?_ | refine zz ?_ | refine z8 ?_ | refine za4 ?_))
    refine za1 (writeString_tr b v _ R lr [60, 47, 115, 116, 114, 111, 110, 103, 62] y2 (by simp) (by simp) (by simp only [List.length_append, List.length_cons, List.length_nil]; omega)) (fun u K hR => ?_)
    obtain ⟨rfl, v3, R3, h3, rfl⟩ := hR
    (repeat' (first | refine z2 ?_))
    exact e_norm [G, bufb b v3 0, R3] ⟨rfl, v3, R3, 0, by simpa only [List.append_assoc] using h3, rfl⟩ sA

theorem emphHG_tr {T : Nat} (x b : Nat) (mk : List UInt8) (sv : Value) (outs : List (List UInt8)) (v : Value) (l : List UInt8) (R G : Blk) (lr : Int) (hx : (x, cellsOf [str mk, sv] T) ∈ G) (hS : ShownG "PrintHTML" sv G outs) (hR : BRow v l R) (hlim : l.length + (outs.flatten.length + 9) ≤ 900000) :
    Tr Tryz.prog 273 [lp x, lp b] [G, bufb b v lr, R] fun u K => u = unit ∧ ∃ v' R' lr', BRow v' (l ++ ([60, 101, 109, 62] ++ outs.flatten ++ [60, 47, 101, 109, 62])) R' ∧ K = [G, bufb b v' lr', R'] := by
  have hm : ∀ H, HMem (G :: H) x (cellsOf [str mk, sv] T) := fun H => HMem.of_chunk hx
  rcases hS.cases with ⟨rfl, rfl⟩ | ⟨gx, c, curx, rfl, hg, hol, hrow⟩
  · simp only [List.flatten_nil, List.length_nil] at hlim
    refine Tr.start (n := 23) (rs := []) rfl rfl rfl rfl fun B => ?_
    (repeat' (first | refine z7 ?_ | refine z6 ?_ | refine z8 ?_))
    refine za1 (writeString_tr b v l R lr [60, 101, 109, 62] hR (by simp) (by simp) (by simp only [List.length_cons, List.length_nil]; omega)) (fun u K hR => ?_)
    obtain ⟨rfl, v1, R1, h1, rfl⟩ := hR
    (repeat' (first | refine Ops.pure _ (zar (by rfl) (by repeat (first | exact hm _ | apply HMem.there)) (by rfl)) (by rfl) ?_ | refine z7 ?_ | refine z6 ?_ | refine z2 ?_ | refine z1 ?_ | refine zf ?_ | refine z8 ?_ | refine zp ?_ | refine zq ?_ | refine zah ?_))
    refine za6 (fun y : PW => [(0, lp x), (1, lp b), (11, .slice none 0 0), (12, inat 0), (13, inat 0)]) (fun y => [G, bufb b v1 0, R1])
      (fun y => True) (fun y => 0) ⟨0, v1, R1, 0⟩ trivial kB sA fun y hy => ?_
    (repeat' (first | refine z7 ?_ | refine z6 ?_ | refine z2 ?_ | refine z1 ?_ | refine zb ?_ | refine zw ?_ | refine zy ?_ | refine zz ?_ | refine z8 ?_ | refine za4 ?_))
    refine za1 (writeString_tr b v1 _ R1 0 [60, 47, 101, 109, 62] h1 (by simp) (by simp) (by simp only [List.length_append, List.length_cons, List.length_nil]; omega)) (fun u K hR => ?_)
    obtain ⟨rfl, v3, R3, h3, rfl⟩ := hR
    (repeat' (first | refine z2 ?_))
    exact e_norm [G, bufb b v3 0, R3] ⟨rfl, v3, R3, 0, by simpa only [List.append_assoc, List.flatten_nil, List.nil_append, List.append_nil] using h3, rfl⟩ sA
  have hmg : ∀ H, HMem (G :: H) gx (cellsOf curx 89) := fun H => HMem.of_chunk hg
  refine Tr.start (n := 23) (rs := []) rfl rfl rfl rfl fun B => ?_
  (repeat' (first | refine z7 ?_ | refine z6 ?_ | refine z8 ?_))
  refine za1 (writeString_tr b v l R lr [60, 101, 109, 62] hR (by simp) (by simp) (by simp only [List.length_cons, List.length_nil]; omega)) (fun u K hR => ?_)
  obtain ⟨rfl, v1, R1, h1, rfl⟩ := hR
  (repeat' (first | refine Ops.pure _ (zar (by rfl) (by repeat (first | exact hm _ | apply HMem.there)) (by rfl)) (by rfl) ?_ | refine z7 ?_ | refine z6 ?_ | refine z2 ?_ | refine z1 ?_ | refine zf ?_ | refine z8 ?_ | refine zp ?_ | refine zq ?_ | refine zah ?_))
  refine za6 (fun y : PW => [(0, lp x), (1, lp b), (11, .slice (some ⟨gx, 0, none⟩) outs.length c), (12, inat outs.length), (13, inat y.j)]) (fun y => [G, bufb b y.v y.lr, y.R])
    (fun y => y.j ≤ outs.length ∧ BRow y.v (l ++ [60, 101, 109, 62] ++ (outs.take y.j).flatten) y.R) (fun y => outs.length - y.j) ⟨0, v1, R1, 0⟩ ⟨Nat.zero_le _, by simpa using h1⟩ kB sA fun y hy => ?_
  obtain ⟨j, v, R, lr⟩ := y
  obtain ⟨y1, y2⟩ := hy
  simp only at y1 y2 ⊢
  by_cases hj : j < outs.length
  · obtain ⟨ty, u, out, hc', ho, f, hf, hme, htr⟩ := hrow j hj
    have hfl := out_le ho
    (repeat' (first | refine Ops.pure _ (zar (by rfl) (by repeat (first | exact hmg _ | apply HMem.there)) hc') (by rfl) ?_ | refine z7 ?_ | refine z6 ?_ | refine z2 ?_ | refine z1 ?_ | refine zc ?_ | refine zf ?_ | refine zd ?_ | refine z8 ?_ | refine za ?_ | refine zm ?_ | refine zal ?_))
    refine Ops.invoke (f := f) (args := [lp b]) hf.out rfl hme rfl (htr b v _ R lr y2 (by simp) (by simp only [List.length_append, List.length_cons, List.length_nil]; omega)) (by repeat' (first | exact HTakes.nil | exact HTake.here | apply HTakes.cons | apply HTake.there)) rfl (fun u K hR => ?_)
    obtain ⟨rfl, v', R', lr', h9, rfl⟩ := hR
    (repeat' (first | refine z6 ?_ | refine z2 ?_ | refine z1 ?_ | refine zu ?_ | refine z8 ?_ | refine zl ?_))
    exact ⟨⟨j + 1, v', R', lr'⟩, kB, sA, ⟨by simp only; omega, by simp only; rw [flat_snoc ho, ← List.append_assoc]; exact h9⟩, by simp only; omega⟩
  · have : j = outs.length := by omega
    subst this
    rw [List.take_of_length_le (by omega)] at y2
    (repeat' (first | refine z7 ?_ | refine z6 ?_ | refine z2 ?_ | refine z1 ?_ | refine zb ?_ | refine zw ?_ | refine zy ?_ | refine zz ?_ | refine z8 ?_ | refine za4 ?_))
    refine za1 (writeString_tr b v _ R lr [60, 47, 101, 109, 62] y2 (by simp) (by simp) (by simp only [List.length_append, List.length_cons, List.length_nil]; omega)) (fun u K hR => ?_)
    obtain ⟨rfl, v3, R3, h3, rfl⟩ := hR
    (repeat' (first | refine z2 ?_))
    exact e_norm [G, bufb b v3 0, R3] ⟨rfl, v3, R3, 0, by simpa only [List.append_assoc] using h3, rfl⟩ sA
end Go.Proofs

namespace Go.Proofs
open Go Go.Eng
set_option maxRecDepth 40000
set_option maxHeartbeats 1000000

theorem textG_tr (t a b' b : Nat) (sv : Value) (raw : List UInt8) (outs : List (List UInt8)) (v : Value) (l : List UInt8) (R G : Blk) (lr : Int) (hS : ShownG "PrintHTML" sv G outs) (hR : BRow v l R) (hln : l ≠ []) (hlim : l.length + outs.flatten.length ≤ 900000) :
    Tr Tryz.prog 255 [lp t, lp b] [txb t a b' sv raw, G, bufb b v lr, R] fun u K => u = unit ∧ ∃ v' R' lr', BRow v' (l ++ outs.flatten) R' ∧ K = [txb t a b' sv raw, G, bufb b v' lr', R'] := by
  rcases hS.cases with ⟨rfl, rfl⟩ | ⟨gx, c, curx, rfl, hg, hol, hrow⟩
  · refine Tr.start (n := 19) (rs := []) rfl rfl rfl rfl fun B => ?_
    (repeat' (first | refine z7 ?_ | refine z6 ?_ | refine z2 ?_ | refine z1 ?_ | refine zf ?_ | refine z8 ?_ | refine zn ?_ | refine zp ?_ | refine zq ?_ | refine zah ?_))
    refine za6 (fun y : PW => [(1, lp b), (9, .slice none 0 0), (10, inat 0), (11, inat 0)]) (fun y => [txb t a b' (.slice none 0 0) raw, G, bufb b v lr, R])
      (fun y => True) (fun y => 0) ⟨0, v, R, 0⟩ trivial kB sA fun y hy => ?_
    (repeat' (first | refine z7 ?_ | refine z6 ?_ | refine z2 ?_ | refine z1 ?_ | refine zb ?_ | refine zw ?_ | refine zy ?_ | refine zz ?_ | refine za4 ?_))
    exact e_norm [txb t a b' (.slice none 0 0) raw, G, bufb b v lr, R] ⟨rfl, v, R, lr, by simpa only [List.append_assoc, List.flatten_nil, List.nil_append, List.append_nil] using hR, rfl⟩ sA
  have hmg : ∀ H, HMem (G :: H) gx (cellsOf curx 89) := fun H => HMem.of_chunk hg
  refine Tr.start (n := 19) (rs := []) rfl rfl rfl rfl fun B => ?_
  (repeat' (first | refine z7 ?_ | refine z6 ?_ | refine z2 ?_ | refine z1 ?_ | refine zf ?_ | refine z8 ?_ | refine zn ?_ | refine zp ?_ | refine zq ?_ | refine zah ?_))
  refine za6 (fun y : PW => [(1, lp b), (9, .slice (some ⟨gx, 0, none⟩) outs.length c), (10, inat outs.length), (11, inat y.j)]) (fun y => [txb t a b' (.slice (some ⟨gx, 0, none⟩) outs.length c) raw, G, bufb b y.v y.lr, y.R])
    (fun y => y.j ≤ outs.length ∧ BRow y.v (l ++ (outs.take y.j).flatten) y.R) (fun y => outs.length - y.j) ⟨0, v, R, lr⟩ ⟨Nat.zero_le _, by simpa using hR⟩ kB sA fun y hy => ?_
  obtain ⟨j, v, R, lr⟩ := y
  obtain ⟨y1, y2⟩ := hy
  simp only at y1 y2 ⊢
  by_cases hj : j < outs.length
  · obtain ⟨ty, u, out, hc', ho, f, hf, hme, htr⟩ := hrow j hj
    have hfl := out_le ho
    (repeat' (first | refine Ops.pure _ (zar (by rfl) (by repeat (first | exact hmg _ | apply HMem.there)) hc') (by rfl) ?_ | refine z7 ?_ | refine z6 ?_ | refine z2 ?_ | refine z1 ?_ | refine zc ?_ | refine zf ?_ | refine zd ?_ | refine z8 ?_ | refine za ?_ | refine zm ?_ | refine zal ?_))
    refine Ops.invoke (f := f) (args := [lp b]) hf.out rfl hme rfl (htr b v _ R lr y2 (by simp [hln]) (by simp only [List.length_append]; omega)) (by repeat' (first | exact HTakes.nil | exact HTake.here | apply HTakes.cons | apply HTake.there)) rfl (fun u K hR => ?_)
    obtain ⟨rfl, v', R', lr', h9, rfl⟩ := hR
    (repeat' (first | refine z6 ?_ | refine z2 ?_ | refine z1 ?_ | refine zu ?_ | refine z8 ?_ | refine zl ?_))
    exact ⟨⟨j + 1, v', R', lr'⟩, kB, sA, ⟨by simp only; omega, by simp only; rw [flat_snoc ho, ← List.append_assoc]; exact h9⟩, by simp only; omega⟩
  · have : j = outs.length := by omega
    subst this
    rw [List.take_of_length_le (by omega)] at y2
    (repeat' (first | refine z7 ?_ | refine z6 ?_ | refine z2 ?_ | refine z1 ?_ | refine zb ?_ | refine zw ?_ | refine zy ?_ | refine zz ?_ | refine za4 ?_))
    exact e_norm [txb t a b' (.slice (some ⟨gx, 0, none⟩) outs.length c) raw, G, bufb b v lr, R] ⟨rfl, v, R, lr, y2, rfl⟩ sA
end Go.Proofs

namespace Go.Proofs
open Go Go.Eng
set_option maxRecDepth 40000
set_option maxHeartbeats 1000000

/-- The title of a link, as it is put out. -/
def titH (t : List UInt8) : List UInt8 := if t = [] then [] else [32, 116, 105, 116, 108, 101, 61, 34] ++ escH t ++ [34]
def linkH (u t : List UInt8) (o : List UInt8) : List UInt8 := [60, 97, 32, 104, 114, 101, 102, 61, 34] ++ pairH linkPairs u ++ [34] ++ titH t ++ [62] ++ o ++ [60, 47, 97, 62]

end Go.Proofs

namespace Go.Proofs
open Go Go.Eng
set_option maxRecDepth 40000
set_option maxHeartbeats 1000000

/-- Line feeds in the alternative text become spaces. -/
def nlB (c : UInt8) : UInt8 := if c = 10 then 32 else c
def imageH (u t : List UInt8) (o : List UInt8) : List UInt8 := [60, 105, 109, 103, 32, 115, 114, 99, 61, 34] ++ pairH linkPairs u ++ [34] ++ [32, 97, 108, 116, 61, 34] ++ o.map nlB ++ [34] ++ titH t ++ [32, 47, 62]

end Go.Proofs

namespace Go.Proofs
open Go Go.Eng
set_option maxRecDepth 20000
set_option maxHeartbeats 1000000

/-! The delimiters' pass: what is put out, and five stacks of places of openers in it. -/
structure EmS where
  dst : List In
  st : List (List Nat)

/-- The number of a sign's stack. -/
def emIdx (c : UInt8) : Nat := if c.toNat = 95 then 0 else if c.toNat = 42 then 1 else if c.toNat = 126 then 2 else if c.toNat = 34 then 3 else 4
def isQ (c : UInt8) : Bool := c.toNat == 34 || c.toNat == 39
/-- How many places of a stack are below n, from the top. -/
def tlen (n : Nat) (ps : List Nat) : Nat → Nat
  | 0 => 0
  | k + 1 => if n ≤ ps.getD k 0 then tlen n ps k else k + 1
def trimTop (n : Nat) (ps : List Nat) : List Nat := ps.take (tlen n ps ps.length)
/-- The highest of the first k places that are good. -/
def findTop (ok : Nat → Bool) (ps : List Nat) : Nat → Option Nat
  | 0 => none
  | k + 1 => if ok (ps.getD k 0) then some k else findTop ok ps k
def ruleM (c : UInt8) (po pc : Bool) (pn : Nat) (so sc : Bool) (sn : Nat) : Bool :=
  (c.toNat == 42 || c.toNat == 95) && ((po && pc) || (so && sc)) && ((pn + sn) % 3 == 0) && (pn % 3 != 0 || sn % 3 != 0)
/-- May the run p end at the opener at this place? -/
def okM (dst : List In) (c : UInt8) (m : Nat) (po pc : Bool) (pn : Nat) (k : Nat) : Bool := match dst[k]? with
  | some (.em t so sc sn) => !(ruleM c po pc pn so sc sn) && !(c.toNat == 126 && m != t.length)
  | _ => true
def mkNode (c : UInt8) (d : Nat) (l : List In) : In := if c.toNat = 126 then .del (List.replicate d c) l else if d = 2 then .strong (List.replicate d c) l else .emph (List.replicate d c) l
def dOf (m m2 : Nat) : Nat := if 2 ≤ m ∧ 2 ≤ m2 then 2 else 1
def baseOf (dst : List In) (k d : Nat) (t : List UInt8) (so sc : Bool) (sn : Nat) : List In := if t.length ≤ d then dst.take k else dst.take k ++ [.em (t.take (t.length - d)) so sc sn]
def closeStep (c : UInt8) (d k : Nat) (t : List UInt8) (so sc : Bool) (sn : Nat) (S : EmS) : EmS :=
  let base := baseOf S.dst k d t so sc sn
  ⟨base ++ [mkNode c d (S.dst.drop (k + 1))], S.st.map (trimTop base.length)⟩
/-- Ends of the run (m signs left) are matched with openers. -/
def closeF (c : UInt8) (po pc : Bool) (pn : Nat) : Nat → Nat → EmS → Nat × EmS
  | 0, m, S => (m, S)
  | f + 1, m, S => if m = 0 then (0, S) else
    let ps := S.st.getD (emIdx c) []
    match findTop (okM S.dst c m po pc pn) ps ps.length with
    | none => (m, S)
    | some j => match S.dst[ps.getD j 0]? with
      | some (.em t so sc sn) => closeF c po pc pn f (m - dOf m t.length) (closeStep c (dOf m t.length) (ps.getD j 0) t so sc sn S)
      | _ => (m, S)
def openQ (c : UInt8) : List UInt8 := if c.toNat = 39 then [226, 128, 152] else [226, 128, 156]
def closeQ (c : UInt8) : List UInt8 := if c.toNat = 39 then [226, 128, 153] else [226, 128, 157]
def restQ (c : UInt8) (cl : Bool) : List UInt8 := if c.toNat = 39 then [226, 128, 153] else if cl then [226, 128, 157] else [226, 128, 156]
/-- What is left of a run is put out, as an opener or as text. -/
def restM (k : Nat) (t : List UInt8) (o c : Bool) (n : Nat) (S : EmS) : EmS :=
  if o then ⟨S.dst ++ [.em t o c n], S.st.set k (S.st.getD k [] ++ [S.dst.length])⟩ else ⟨S.dst ++ [.plain t], S.st⟩
def quoteM (ch : UInt8) (o c : Bool) (n : Nat) (S : EmS) : EmS :=
  let ps := S.st.getD (emIdx ch) []
  if c = true ∧ ps ≠ [] then
    let k := ps.getD (ps.length - 1) 0
    match S.dst[k]? with
    | some (.em _ so sc sn) => ⟨S.dst.set k (.em (openQ ch) so sc sn) ++ [.em (closeQ ch) o c n], S.st.set (emIdx ch) (ps.take (ps.length - 1))⟩
    | _ => S
  else restM (emIdx ch) (restQ ch c) o c n S
def emStep (S : EmS) : In → EmS
  | .op t _ => ⟨S.dst ++ [.plain t], S.st⟩
  | .em t o c n =>
    let ch := t.headD 0
    if isQ ch then quoteM ch o c n S
    else
      let r := if c then closeF ch o c n t.length t.length S else (t.length, S)
      if r.1 = 0 then r.2 else restM (emIdx ch) (List.replicate r.1 ch) o c n r.2
  | x => ⟨S.dst ++ [x], S.st⟩
def emS0 : EmS := ⟨[], [[], [], [], [], []]⟩
def emphM (src : List In) : List In := (src.foldl emStep emS0).dst

/-! What holds all along. -/
def isRunC (c : UInt8) : Prop := c.toNat = 95 ∨ c.toNat = 42 ∨ c.toNat = 126
/-- A run as the scan makes it. -/
def EmWF : In → Prop
  | .em t o c n => n ≤ 1000000 ∧ ((∃ ch m, isRunC ch ∧ t = List.replicate m ch ∧ 1 ≤ m ∧ m ≤ 1000000) ∨ ((∃ ch, isQ ch = true ∧ t = [ch]) ∧ (o && c) = false))
  | _ => True
/-- The sign of a run (95, 42 or 126), 0 for all else. -/
def runOf : In → Nat
  | .em t _ _ _ => let ch := (t.headD 0).toNat; if ch = 95 ∨ ch = 42 ∨ ch = 126 then ch else 0
  | _ => 0
/-- No two runs of one sign stand side by side. -/
def Apart (src : List In) : Prop := ∀ (j : Nat) (x y : In), src[j]? = some x → src[j + 1]? = some y → runOf x ≠ 0 → runOf x ≠ runOf y
def chrK (k : Nat) : Nat := if k = 0 then 95 else if k = 1 then 42 else 126
/-- An opener in the stack k. -/
def OpenAt (dst : List In) (k p : Nat) : Prop := ∃ t c n, dst[p]? = some (.em t true c n) ∧ n ≤ 1000000 ∧ (k < 3 → ∃ ch m, ch.toNat = chrK k ∧ t = List.replicate m ch ∧ 1 ≤ m ∧ m ≤ 1000000) ∧ (3 ≤ k → t.length = 3 ∧ runOf (.em t true c n) = 0)
structure EInv (S : EmS) : Prop where
  five : S.st.length = 5
  open_ : ∀ (k : Nat) (ps : List Nat), S.st[k]? = some ps → ∀ p ∈ ps, OpenAt S.dst k p
  inc : ∀ (k : Nat) (ps : List Nat), S.st[k]? = some ps → ps.Pairwise (· < ·)
/-- The last one put out is no opener of this sign. -/
def LastNot (S : EmS) (x : In) : Prop := ∀ y, S.dst.getLast? = some y → runOf y ≠ 0 → runOf y ≠ runOf x

theorem tlen_lt {n : Nat} {ps : List Nat} (hi : ps.Pairwise (· < ·)) : ∀ k, k ≤ ps.length → ∀ p ∈ ps.take (tlen n ps k), p < n
  | 0, _, p, hp => by simp [tlen] at hp
  | k + 1, hk, p, hp => by
    unfold tlen at hp
    split at hp
    · exact tlen_lt hi k (by omega) p hp
    · rename_i hn
      obtain ⟨j, hj, rfl⟩ := List.mem_iff_getElem.1 hp
      rw [List.length_take] at hj
      rw [List.getElem_take]
      have hkl : k < ps.length := by omega
      have h1 : ps.getD k 0 = ps[k] := by simp [List.getD, hkl]
      rw [h1] at hn
      by_cases hjk : j = k
      · subst hjk; omega
      · have := List.pairwise_iff_getElem.1 hi j k (by omega) hkl (by omega)
        omega
theorem trimTop_sub {n : Nat} {ps : List Nat} {p : Nat} (h : p ∈ trimTop n ps) : p ∈ ps := List.mem_of_mem_take h
theorem findTop_lt {ok : Nat → Bool} {ps : List Nat} : ∀ {k j : Nat}, findTop ok ps k = some j → j < k ∧ ok (ps.getD j 0) = true
  | 0, j, h => by cases h
  | k + 1, j, h => by
    unfold findTop at h
    split at h
    · cases h; exact ⟨by omega, by assumption⟩
    · have := findTop_lt h; exact ⟨by omega, this.2⟩
end Go.Proofs

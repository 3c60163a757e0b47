/- inline of a text of literal bytes and runs. Conditions: TkOK, and contracts of emph and mergePlain for its items. laws.FnSeven returns true whatever the arguments. Condition: the text's length is that of a Go string. -/
import Derived.Test.YthmgajolaekpdaaGreatDoorT16
import Derived.Test.YthmgajolaekpdaaGreatDoorT09
import Derived.Test.YthmgajolaekpdaaGreatDoorT14
import Derived.Test.YthmgajolaekpdaaGreatDoorT10
namespace Go.Proofs
open Go Go.Eng
set_option maxRecDepth 40000
set_option maxHeartbeats 8000000

def linkPairs : Pairs := [(34, [37, 50, 50]), (38, [38, 97, 109, 112, 59]), (60, [37, 51, 67]), (62, [37, 51, 69]), (92, [37, 53, 67]), (32, [37, 50, 48]), (96, [37, 54, 48]), (91, [37, 53, 66]), (93, [37, 53, 68]), (94, [37, 53, 69]), (123, [37, 55, 66]), (125, [37, 55, 68]), (0, [37, 48, 48]), (1, [37, 48, 49]), (2, [37, 48, 50]), (3, [37, 48, 51]), (4, [37, 48, 52]), (5, [37, 48, 53]), (6, [37, 48, 54]), (7, [37, 48, 55]), (8, [37, 48, 56]), (11, [37, 48, 66]), (12, [37, 48, 67]), (14, [37, 48, 69]), (15, [37, 48, 70]), (16, [37, 49, 48]), (17, [37, 49, 49]), (18, [37, 49, 50]), (19, [37, 49, 51]), (20, [37, 49, 52]), (21, [37, 49, 53]), (22, [37, 49, 54]), (23, [37, 49, 55]), (24, [37, 49, 56]), (25, [37, 49, 57]), (26, [37, 49, 65]), (27, [37, 49, 66]), (28, [37, 49, 67]), (29, [37, 49, 68]), (30, [37, 49, 69]), (31, [37, 49, 70]), (127, [37, 55, 70]), (128, [37, 56, 48]), (129, [37, 56, 49]), (130, [37, 56, 50]), (131, [37, 56, 51]), (132, [37, 56, 52]), (133, [37, 56, 53]), (134, [37, 56, 54]), (135, [37, 56, 55]), (136, [37, 56, 56]), (137, [37, 56, 57]), (138, [37, 56, 65]), (139, [37, 56, 66]), (140, [37, 56, 67]), (141, [37, 56, 68]), (142, [37, 56, 69]), (143, [37, 56, 70]), (144, [37, 57, 48]), (145, [37, 57, 49]), (146, [37, 57, 50]), (147, [37, 57, 51]), (148, [37, 57, 52]), (149, [37, 57, 53]), (150, [37, 57, 54]), (151, [37, 57, 55]), (152, [37, 57, 56]), (153, [37, 57, 57]), (154, [37, 57, 65]), (155, [37, 57, 66]), (156, [37, 57, 67]), (157, [37, 57, 68]), (158, [37, 57, 69]), (159, [37, 57, 70]), (160, [37, 65, 48]), (161, [37, 65, 49]), (162, [37, 65, 50]), (163, [37, 65, 51]), (164, [37, 65, 52]), (165, [37, 65, 53]), (166, [37, 65, 54]), (167, [37, 65, 55]), (168, [37, 65, 56]), (169, [37, 65, 57]), (170, [37, 65, 65]), (171, [37, 65, 66]), (172, [37, 65, 67]), (173, [37, 65, 68]), (174, [37, 65, 69]), (175, [37, 65, 70]), (176, [37, 66, 48]), (177, [37, 66, 49]), (178, [37, 66, 50]), (179, [37, 66, 51]), (180, [37, 66, 52]), (181, [37, 66, 53]), (182, [37, 66, 54]), (183, [37, 66, 55]), (184, [37, 66, 56]), (185, [37, 66, 57]), (186, [37, 66, 65]), (187, [37, 66, 66]), (188, [37, 66, 67]), (189, [37, 66, 68]), (190, [37, 66, 69]), (191, [37, 66, 70]), (192, [37, 67, 48]), (193, [37, 67, 49]), (194, [37, 67, 50]), (195, [37, 67, 51]), (196, [37, 67, 52]), (197, [37, 67, 53]), (198, [37, 67, 54]), (199, [37, 67, 55]), (200, [37, 67, 56]), (201, [37, 67, 57]), (202, [37, 67, 65]), (203, [37, 67, 66]), (204, [37, 67, 67]), (205, [37, 67, 68]), (206, [37, 67, 69]), (207, [37, 67, 70]), (208, [37, 68, 48]), (209, [37, 68, 49]), (210, [37, 68, 50]), (211, [37, 68, 51]), (212, [37, 68, 52]), (213, [37, 68, 53]), (214, [37, 68, 54]), (215, [37, 68, 55]), (216, [37, 68, 56]), (217, [37, 68, 57]), (218, [37, 68, 65]), (219, [37, 68, 66]), (220, [37, 68, 67]), (221, [37, 68, 68]), (222, [37, 68, 69]), (223, [37, 68, 70]), (224, [37, 69, 48]), (225, [37, 69, 49]), (226, [37, 69, 50]), (227, [37, 69, 51]), (228, [37, 69, 52]), (229, [37, 69, 53]), (230, [37, 69, 54]), (231, [37, 69, 55]), (232, [37, 69, 56]), (233, [37, 69, 57]), (234, [37, 69, 65]), (235, [37, 69, 66]), (236, [37, 69, 67]), (237, [37, 69, 68]), (238, [37, 69, 69]), (239, [37, 69, 70]), (240, [37, 70, 48]), (241, [37, 70, 49]), (242, [37, 70, 50]), (243, [37, 70, 51]), (244, [37, 70, 52]), (245, [37, 70, 53]), (246, [37, 70, 54]), (247, [37, 70, 55]), (248, [37, 70, 56]), (249, [37, 70, 57]), (250, [37, 70, 65]), (251, [37, 70, 66]), (252, [37, 70, 67]), (253, [37, 70, 68]), (254, [37, 70, 69]), (255, [37, 70, 70])]

def linkPV : List (Nat × Value) := (pairCells linkPairs).zipIdx.map fun x => (x.2, x.1)
theorem linkOK : PairsOK linkPairs := by
  refine ⟨?_, by decide⟩
  have h : (linkPairs.all fun x => !x.2.isEmpty && Nat.ble x.2.length 6) = true := by kernel_rfl
  intro x hx
  have h1 := List.all_eq_true.1 h x hx
  simp only [Bool.and_eq_true, Bool.not_eq_true', List.isEmpty_eq_false_iff, Nat.ble_eq] at h1
  exact h1

theorem htmlLinkEscaper_tr : Tr Tryz.prog 257 [] [] fun u K => ∃ g, u = .slice (some ⟨g, 0, none⟩) (2 * linkPairs.length) (2 * linkPairs.length) ∧ K = [pairRow g linkPairs] := by
  refine Tr.start (n := 2) (rs := [.tmp 0]) rfl rfl rfl rfl fun B => ?_
  (repeat' (first | refine k_seq ?_ | refine k_region ?_ | refine k_nil ?_ | refine k_then ?_ | refine s_assign ?_))
  refine s_bsln (pv := linkPV) (cs := pairCells linkPairs) (fun g => ?_) (by kernel_rfl) (by kernel_rfl) (by kernel_rfl)
  (repeat' (first | refine k_nil ?_ | refine k_then ?_ | refine k_ret ?_ | refine s_assign ?_))
  exact e_ret [pairRow g linkPairs] ⟨g, by kernel_rfl, rfl⟩ (by repeat (first | exact SubH.nilR _ | refine SubH.pick (by repeat (first | exact HTake.here | apply HTake.there)) ?_))

theorem autoP_tr (q b : Nat) (t : List UInt8) (v : Value) (l : List UInt8) (R G : Blk) (lr : Int) (hx : (q, cellsOf [str t, str t] 257) ∈ G) (ht : t.length ≤ 1000) (hR : BRow v l R) (hln : l ≠ []) (hlim : l.length ≤ 600000) :
    Tr Tryz.prog 331 [lp q, lp b] [G, bufb b v lr, R] fun u K => u = unit ∧ ∃ v' R' lr', BRow v' (l ++ ([60, 97, 32, 104, 114, 101, 102, 61, 34] ++ pairH linkPairs t ++ [34, 62] ++ escH t ++ [60, 47, 97, 62])) R' ∧ K = [G, bufb b v' lr', R'] := by
  have hm : ∀ H, HMem (G :: H) q (cellsOf [str t, str t] 257) := fun H => HMem.of_chunk hx
  have hl1 := pairH_len linkOK t
  have hl2 := escH_len t
  refine Tr.start (n := 22) (rs := []) rfl rfl rfl rfl fun B => ?_
  refine Wp.draw_held (id := 0) [G] 18 Mixed.out (by repeat (first | exact SubH.nilR _ | refine SubH.pick (by repeat (first | exact HTake.here | apply HTake.there)) ?_)) rfl ?_
  refine OpsH.first 0 _ (by kernel_rfl) rfl (by kernel_rfl) (by kernel_rfl) rfl (by first | exact p_move rfl | exact p_assign rfl | exact p_extract rfl rfl | exact q_fieldAddr rfl | exact p_nilCheck rfl | exact q_load rfl (by repeat (first | exact HMem.here | apply HMem.skip | apply HMem.there)) rfl | exact q_load_agg rfl (by repeat (first | exact HMem.here | apply HMem.skip | apply HMem.there)) (by repeat constructor) | exact q_len_slice rfl | exact q_len_str rfl | exact q_indexAddr rfl rfl (by omega) | exact q_slice_str rfl rfl rfl (by omega) (by omega) | exact q_makeInterface rfl | exact q_assert rfl | exact p_build rfl (by repeat' (first | exact BFill.nil | refine' BFill.one (by rfl) (by rfl) (by repeat constructor) ?_ | refine' BFill.agg (by rfl) (by rfl) (by repeat constructor) ?_))) ?_
  refine OpsH.first 2 _ (by kernel_rfl) rfl (by kernel_rfl) (by kernel_rfl) rfl (by first | exact p_move rfl | exact p_assign rfl | exact p_extract rfl rfl | exact q_fieldAddr rfl | exact p_nilCheck rfl | exact q_load rfl (by repeat (first | exact HMem.here | apply HMem.skip | apply HMem.there)) rfl | exact q_load_agg rfl (by repeat (first | exact HMem.here | apply HMem.skip | apply HMem.there)) (by repeat constructor) | exact q_len_slice rfl | exact q_len_str rfl | exact q_indexAddr rfl rfl (by omega) | exact q_slice_str rfl rfl rfl (by omega) (by omega) | exact q_makeInterface rfl | exact q_assert rfl | exact p_build rfl (by repeat' (first | exact BFill.nil | refine' BFill.one (by rfl) (by rfl) (by repeat constructor) ?_ | refine' BFill.agg (by rfl) (by rfl) (by repeat constructor) ?_))) ?_
  refine OpsH.first 3 _ (by kernel_rfl) rfl (by kernel_rfl) (by kernel_rfl) rfl (by first | exact p_move rfl | exact p_assign rfl | exact p_extract rfl rfl | exact q_fieldAddr rfl | exact p_nilCheck rfl | exact q_load rfl (by repeat (first | exact HMem.here | apply HMem.skip | apply HMem.there)) rfl | exact q_load_agg rfl (by repeat (first | exact HMem.here | apply HMem.skip | apply HMem.there)) (by repeat constructor) | exact q_len_slice rfl | exact q_len_str rfl | exact q_indexAddr rfl rfl (by omega) | exact q_slice_str rfl rfl rfl (by omega) (by omega) | exact q_makeInterface rfl | exact q_assert rfl | exact p_build rfl (by repeat' (first | exact BFill.nil | refine' BFill.one (by rfl) (by rfl) (by repeat constructor) ?_ | refine' BFill.agg (by rfl) (by rfl) (by repeat constructor) ?_))) ?_
  refine OpsH.first 4 _ (by kernel_rfl) rfl (by kernel_rfl) (by kernel_rfl) rfl (by first | exact p_move rfl | exact p_assign rfl | exact p_extract rfl rfl | exact q_fieldAddr rfl | exact p_nilCheck rfl | exact q_load rfl (by repeat (first | exact HMem.here | apply HMem.skip | apply HMem.there)) rfl | exact q_load_agg rfl (by repeat (first | exact HMem.here | apply HMem.skip | apply HMem.there)) (by repeat constructor) | exact q_len_slice rfl | exact q_len_str rfl | exact q_indexAddr rfl rfl (by omega) | exact q_slice_str rfl rfl rfl (by omega) (by omega) | exact q_makeInterface rfl | exact q_assert rfl | exact p_build rfl (by repeat' (first | exact BFill.nil | refine' BFill.one (by rfl) (by rfl) (by repeat constructor) ?_ | refine' BFill.agg (by rfl) (by rfl) (by repeat constructor) ?_))) ?_
  refine OpsH.first 5 _ (by kernel_rfl) rfl (by kernel_rfl) (by kernel_rfl) rfl (q_load rfl (hm _) rfl) ?_
  refine OpsH.first 10 _ (by kernel_rfl) rfl (by kernel_rfl) (by kernel_rfl) rfl (by first | exact p_move rfl | exact p_assign rfl | exact p_extract rfl rfl | exact q_fieldAddr rfl | exact p_nilCheck rfl | exact q_load rfl (by repeat (first | exact HMem.here | apply HMem.skip | apply HMem.there)) rfl | exact q_load_agg rfl (by repeat (first | exact HMem.here | apply HMem.skip | apply HMem.there)) (by repeat constructor) | exact q_len_slice rfl | exact q_len_str rfl | exact q_indexAddr rfl rfl (by omega) | exact q_slice_str rfl rfl rfl (by omega) (by omega) | exact q_makeInterface rfl | exact q_assert rfl | exact p_build rfl (by repeat' (first | exact BFill.nil | refine' BFill.one (by rfl) (by rfl) (by repeat constructor) ?_ | refine' BFill.agg (by rfl) (by rfl) (by repeat constructor) ?_))) ?_
  refine OpsH.first 11 _ (by kernel_rfl) rfl (by kernel_rfl) (by kernel_rfl) rfl (by first | exact p_move rfl | exact p_assign rfl | exact p_extract rfl rfl | exact q_fieldAddr rfl | exact p_nilCheck rfl | exact q_load rfl (by repeat (first | exact HMem.here | apply HMem.skip | apply HMem.there)) rfl | exact q_load_agg rfl (by repeat (first | exact HMem.here | apply HMem.skip | apply HMem.there)) (by repeat constructor) | exact q_len_slice rfl | exact q_len_str rfl | exact q_indexAddr rfl rfl (by omega) | exact q_slice_str rfl rfl rfl (by omega) (by omega) | exact q_makeInterface rfl | exact q_assert rfl | exact p_build rfl (by repeat' (first | exact BFill.nil | refine' BFill.one (by rfl) (by rfl) (by repeat constructor) ?_ | refine' BFill.agg (by rfl) (by rfl) (by repeat constructor) ?_))) ?_
  refine OpsH.first 12 _ (by kernel_rfl) rfl (by kernel_rfl) (by kernel_rfl) rfl (by first | exact p_move rfl | exact p_assign rfl | exact p_extract rfl rfl | exact q_fieldAddr rfl | exact p_nilCheck rfl | exact q_load rfl (by repeat (first | exact HMem.here | apply HMem.skip | apply HMem.there)) rfl | exact q_load_agg rfl (by repeat (first | exact HMem.here | apply HMem.skip | apply HMem.there)) (by repeat constructor) | exact q_len_slice rfl | exact q_len_str rfl | exact q_indexAddr rfl rfl (by omega) | exact q_slice_str rfl rfl rfl (by omega) (by omega) | exact q_makeInterface rfl | exact q_assert rfl | exact p_build rfl (by repeat' (first | exact BFill.nil | refine' BFill.one (by rfl) (by rfl) (by repeat constructor) ?_ | refine' BFill.agg (by rfl) (by rfl) (by repeat constructor) ?_))) ?_
  refine OpsH.first 13 _ (by kernel_rfl) rfl (by kernel_rfl) (by kernel_rfl) rfl (q_load rfl (hm _) rfl) ?_
  refine OpsH.only 1 _ (by kernel_rfl) rfl ?_
  refine s_call htmlLinkEscaper_tr (fun u K hR => ?_)
  obtain ⟨g, rfl, rfl⟩ := hR
  (repeat' (first | refine k_nil ?_ | refine k_then ?_))
  refine ⟨(by repeat (first | exact SubH.nilR _ | refine SubH.pick (by repeat (first | exact HTake.here | apply HTake.there)) ?_)), ?_⟩
  refine OpsH.only 6 _ (by kernel_rfl) rfl ?_
  refine s_call (replaceP_tr linkPairs linkOK g t (by omega)) (fun u K hR => ?_)
  obtain ⟨rfl, rfl⟩ := hR
  (repeat' (first | refine k_nil ?_ | refine k_then ?_))
  refine ⟨(by repeat (first | exact SubH.nilR _ | refine SubH.pick (by repeat (first | exact HTake.here | apply HTake.there)) ?_)), ?_⟩
  refine OpsH.first 7 _ (by kernel_rfl) rfl (by kernel_rfl) (by kernel_rfl) rfl (p_add_str (a := [60, 97, 32, 104, 114, 101, 102, 61, 34]) (b := pairH linkPairs t) rfl rfl rfl (by simp only [List.length_cons, List.length_nil]; omega)) ?_
  refine OpsH.first 8 _ (by kernel_rfl) rfl (by kernel_rfl) (by kernel_rfl) rfl (p_add_str (a := [60, 97, 32, 104, 114, 101, 102, 61, 34] ++ pairH linkPairs t) (b := [34, 62]) rfl rfl rfl (by simp only [List.length_append, List.length_cons, List.length_nil]; omega)) ?_
  refine OpsH.only 9 _ (by kernel_rfl) rfl ?_
  refine s_call htmlEscaper_tr (fun u K hR => ?_)
  obtain ⟨g2, rfl, rfl⟩ := hR
  (repeat' (first | refine k_nil ?_ | refine k_then ?_))
  refine ⟨(by repeat (first | exact SubH.nilR _ | refine SubH.pick (by repeat (first | exact HTake.here | apply HTake.there)) ?_)), ?_⟩
  refine OpsH.only 14 _ (by kernel_rfl) rfl ?_
  refine s_call (replaceEsc_tr g2 t (by omega)) (fun u K hR => ?_)
  obtain ⟨rfl, rfl⟩ := hR
  (repeat' (first | refine k_nil ?_ | refine k_then ?_))
  refine ⟨(by repeat (first | exact SubH.nilR _ | refine SubH.pick (by repeat (first | exact HTake.here | apply HTake.there)) ?_)), ?_⟩
  refine OpsH.first 15 _ (by kernel_rfl) rfl (by kernel_rfl) (by kernel_rfl) rfl (p_add_str (a := ([60, 97, 32, 104, 114, 101, 102, 61, 34] ++ pairH linkPairs t) ++ [34, 62]) (b := escH t) rfl rfl rfl (by simp only [List.length_append, List.length_cons, List.length_nil]; omega)) ?_
  refine OpsH.first 16 _ (by kernel_rfl) rfl (by kernel_rfl) (by kernel_rfl) rfl (p_add_str (a := (([60, 97, 32, 104, 114, 101, 102, 61, 34] ++ pairH linkPairs t) ++ [34, 62]) ++ escH t) (b := [60, 47, 97, 62]) rfl rfl rfl (by simp only [List.length_append, List.length_cons, List.length_nil]; omega)) ?_
  refine OpsH.only 17 _ (by kernel_rfl) rfl ?_
  refine s_call (writeAny_tr b v l R lr (((([60, 97, 32, 104, 114, 101, 102, 61, 34] ++ pairH linkPairs t) ++ [34, 62]) ++ escH t) ++ [60, 47, 97, 62]) hR hln (by simp only [List.length_append, List.length_cons, List.length_nil]; omega)) (fun u K hR => ?_)
  obtain ⟨rfl, v', R', h9, rfl⟩ := hR
  (repeat' (first | refine k_nil ?_ | refine k_then ?_))
  refine ⟨(by repeat (first | exact SubH.nilR _ | refine SubH.pick (by repeat (first | exact HTake.here | apply HTake.there)) ?_)), ?_⟩
  refine OpsH.nil (by kernel_rfl) ?_
  refine Fin.out (e_norm [G, bufb b v' 0, R'] ⟨rfl, v', R', 0, by simpa only [List.append_assoc, List.cons_append, List.nil_append] using h9, rfl⟩ (by repeat (first | exact SubH.nilR _ | refine SubH.pick (by repeat (first | exact HTake.here | apply HTake.there)) ?_)))

theorem prnAuto (q : Nat) (t : List UInt8) (G : Blk) (hx : (q, cellsOf [str t, str t] 257) ∈ G) (ht : t.length ≤ 1000) :
    Prn 255 (lp q) G ([60, 97, 32, 104, 114, 101, 102, 61, 34] ++ pairH linkPairs t ++ [34, 62] ++ escH t ++ [60, 47, 97, 62]) :=
  ⟨by have := pairH_len linkOK t; have := escH_len t; simp only [List.length_append, List.length_cons, List.length_nil]; omega, 331, inferInstance, fun w => by kernel_rfl, fun b v l R lr hR hn hl => autoP_tr q b t v l R G lr hx ht hR hn (by omega)⟩
end Go.Proofs

namespace Go.Proofs
open Go Go.Eng
set_option maxRecDepth 20000
set_option maxHeartbeats 8000000

theorem run_text {tx : List UInt8} {i n : Nat} {r b a : UInt8} (h : Run tx i n r b a) : (tx.take (i + n)).drop i = List.replicate n r := by
  have hlen := (List.getElem?_eq_some_iff.1 h.aft).1
  apply List.ext_getElem?
  intro k
  rw [List.getElem?_drop, List.getElem?_take, List.getElem?_replicate]
  by_cases hk : k < n
  · rw [if_pos (by omega), if_pos hk]; exact h.run k hk
  · rw [if_neg (by omega), if_neg hk]

theorem w_sub {B : Base} {n : Nat} {L : Eng.Loc} {H H' : Heap} {Q : Eng.Post} {c : Code} (hs : SubH H H') (h : Wp Tryz.prog B n c L H' Q) : Wp Tryz.prog B n c L H Q :=
  ⟨fun a w ha hw => h.run a w ha (hw.sub hs)⟩

theorem inlineT_tr (p pr : Nat) (o : PO) (s : PS) (toks : List Tk) (hok : TkOK o toks) (cn0 : Bool) (hcn : s.corner = .bool cn0)
    (hq1 : o.dots = false) (hq2 : o.dashes = false) (hq5 : o.emoji = false) (hq6 : o.auto = false) (hpar : s.par = lp pr)
    (M : Nat → List Value → Blk → Prop) (IL : Option Addr → Nat → Nat → Blk → Prop)
    (hE : ∀ (g cap : Nat) (cur vals : List Value) (IB : Blk), ItsT (itemsT toks) vals IB → (itemsT toks).length ≤ cap → cur.length = cap → cur.take (itemsT toks).length = vals →
      Tr Tryz.prog 75 [lp p, .slice (some ⟨g, 0, none⟩) 0 cap, .slice (some ⟨g, 0, none⟩) (itemsT toks).length cap] [[(g, cellsOf cur 125)], IB] fun u K => ∃ im cur' G, u = .slice (some ⟨g, 0, none⟩) im cap ∧ cur'.length = cap ∧ im ≤ cap ∧ M im cur' G ∧ K = [[(g, cellsOf cur' 125)], G])
    (hM : ∀ (g cap im : Nat) (cur : List Value) (G : Blk), cur.length = cap → im ≤ cap → M im cur G → Tr Tryz.prog 76 [lp p, .slice (some ⟨g, 0, none⟩) im cap] [[(g, cellsOf cur 125)], G] fun u K => ∃ ja jm jc G', u = .slice ja jm jc ∧ IL ja jm jc G' ∧ K = [G']) :
    Tr Tryz.prog 50 [lp p, str (bytesT toks)] [s.blk p, o.blk pr] fun u K => ∃ (s' : PS) (ia : Option Addr) (im ic : Nat) (G : Blk), u = .slice ia im ic ∧ IL ia im ic G ∧ s'.par = s.par ∧ s'.root = s.root ∧ K = [s'.blk p, o.blk pr, G] := by
  obtain ⟨par, root, links, lineno, stack, depth, corner, sv, em, list, lists, texts, bt⟩ := s
  obtain ⟨o1, o2, o3, o4, o5, o6, o7, o8, o9, o10⟩ := o
  subst hq1; subst hq2; subst hq5; subst hq6; subst hpar; subst hcn
  have hlen0 := hok.len
  have hl' : (bytesT toks).length ≤ 140737488355328 := by omega
  have hbt := btrim_tr (bytesT toks) hl'
  rw [hok.trim] at hbt
  refine Tr.start (n := 335) (rs := [.tmp 4]) rfl rfl rfl rfl fun B => ?_
  (repeat' (first | refine s_pure (hbt) ?_ | refine k_seq ?_ | refine k_region ?_ | refine k_nil ?_ | refine k_then ?_ | refine s_move ?_ | refine s_assign ?_ | refine s_field ?_ | refine s_nilp ?_ | refine s_store ?_))
  refine k_midx (fun x : LT => [(0, lp p), (1, str (bytesT toks))]) (fun x => [(⟨lp pr, root, links, lineno, stack, depth, .bool x.cn, str (bytesT toks), inat x.e, x.v, lists, texts, bt⟩ : PS).blk p, (⟨o1, o2, o3, false, o5, o6, false, false, false, o10⟩ : PO).blk pr, x.LB, x.IB]) (fun x => x.r = [] ∧ toks = x.d ++ x.r ∧ x.e ≤ (bytesT x.d).length ∧ ((bytesT toks).take (bytesT x.d).length).drop x.e = (stT x.d).2 ∧ ItsT (stT x.d).1 x.vals x.IB ∧ Inls x.v x.vals x.LB ∧ x.vals.length ≤ x.e) ?_ ?_
  · (repeat' (first | refine k_blk ?_))
    refine k_loop (fun x : LT => [(0, lp p), (1, str (bytesT toks)), (5, .slice none 0 0), (6, .int .i64 0), (7, .bool false), (8, inat (bytesT x.d).length)]) (fun x => [(⟨lp pr, root, links, lineno, stack, depth, .bool x.cn, str (bytesT toks), inat x.e, x.v, lists, texts, bt⟩ : PS).blk p, (⟨o1, o2, o3, false, o5, o6, false, false, false, o10⟩ : PO).blk pr, x.LB, x.IB])
      (fun x => toks = x.d ++ x.r ∧ x.e ≤ (bytesT x.d).length ∧ ((bytesT toks).take (bytesT x.d).length).drop x.e = (stT x.d).2 ∧ ItsT (stT x.d).1 x.vals x.IB ∧ Inls x.v x.vals x.LB ∧ x.vals.length ≤ x.e) (fun x => x.r.length) ⟨[], toks, 0, cn0, [], .slice none 0 0, [], []⟩ ⟨rfl, Nat.le_refl _, by simp [bytesT], .nil, Own.nil _ _, Nat.le_refl _⟩ (Knows.spec (by repeat (first | exact trivial | refine ⟨rfl, ?_⟩))) (SubH.trans (H' := [_, _]) (by repeat (first | exact SubH.nilR _ | refine SubH.pick (by repeat (first | exact HTake.here | apply HTake.there)) ?_)) SubH.nil2) fun x hx => ?_
    obtain ⟨d, r, e, cn, vals, v, LB, IB⟩ := x
    obtain ⟨i1, i2, i3, i4, i5, i6⟩ := hx
    simp only at i1 i2 i3 i4 i5 i6 ⊢
    cases r with
    | nil =>
      have hd : d = toks := by simpa using i1.symm
      subst hd
      (repeat' (first | refine k_seq ?_ | refine k_region ?_ | refine k_nil ?_ | refine k_then ?_ | refine k_false ?_ | refine k_exit ?_ | refine k_exit_then ?_ | refine k_hit ?_ | refine s_move ?_ | refine s_lss_f ?_ | refine s_lens ?_))
      exact ⟨⟨d, [], e, cn, vals, v, LB, IB⟩, (by repeat (first | exact trivial | refine ⟨rfl, ?_⟩)), (by repeat (first | exact SubH.nilR _ | refine SubH.pick (by repeat (first | exact HTake.here | apply HTake.there)) ?_)), rfl, (by simp), i2, i3, i4, i5, i6⟩
    | cons t r =>
      have hlen : (bytesT toks).length = (bytesT d).length + t.bytes.length + (bytesT r).length := by rw [i1]; simp [bytesT]; omega
      cases t with
      | lit c =>
        have hc : (bytesT toks)[(bytesT d).length]? = some c := by rw [i1]; exact at_litT d r c
        obtain ⟨hq, hdel⟩ := hok.lit c (by rw [i1]; simp)
        simp only [Tk.bytes, List.length_cons, List.length_nil] at hlen
        have e1 : (bytesT (d ++ [.lit c])).length = (bytesT d).length + 1 := by simp [bytesT, Tk.bytes]
        have fin : toks = (d ++ [.lit c]) ++ r ∧ e ≤ (bytesT (d ++ [.lit c])).length ∧ ((bytesT toks).take (bytesT (d ++ [.lit c])).length).drop e = (stT (d ++ [.lit c])).2 ∧ ItsT (stT (d ++ [.lit c])).1 vals IB ∧ Inls v vals LB ∧ vals.length ≤ e := by
          refine ⟨by simp [i1], by omega, ?_, by rw [stT_snoc]; exact i4, i5, i6⟩
          rw [e1, stT_snoc, take_snoc hc, List.drop_append_of_le_length (by rw [List.length_take]; omega), i3]; rfl
        by_cases h126 : c.toNat = 126
        · have ho2 : o2 = false := hdel h126
          subst ho2
          (repeat' (first | refine k_seq ?_ | refine k_region ?_ | refine k_nil ?_ | refine k_then ?_ | refine k_true ?_ | refine k_false ?_ | refine k_blk ?_ | refine k_skip ?_ | refine k_block ?_ | refine s_gskipt ?_ | refine s_move ?_ | refine s_assign ?_ | refine s_load ?_ | refine s_field ?_ | refine s_nilp ?_ | refine s_add1 ?_ | refine s_lss_t ?_ | refine s_eql_t ?_ | refine s_eql_f ?_ | refine s_pickf ?_ | refine s_lens ?_ | refine s_index ?_ | refine s_nenf ?_))
          exact ⟨⟨d ++ [.lit c], r, e, cn, vals, v, LB, IB⟩, (by simp only [e1]; exact (Knows.spec (by repeat (first | exact trivial | refine ⟨rfl, ?_⟩)))), (by repeat (first | exact SubH.nilR _ | refine SubH.pick (by repeat (first | exact HTake.here | apply HTake.there)) ?_)), fin, (by simp)⟩
        · (repeat' (first | refine k_seq ?_ | refine k_region ?_ | refine k_nil ?_ | refine k_then ?_ | refine k_true ?_ | refine k_false ?_ | refine k_blk ?_ | refine k_skip ?_ | refine k_block ?_ | refine s_gskipt ?_ | refine s_move ?_ | refine s_assign ?_ | refine s_add1 ?_ | refine s_lss_t ?_ | refine s_eql_f ?_ | refine s_pickf ?_ | refine s_lens ?_ | refine s_index ?_ | refine s_nenf ?_))
          exact ⟨⟨d ++ [.lit c], r, e, cn, vals, v, LB, IB⟩, (by simp only [e1]; exact (Knows.spec (by repeat (first | exact trivial | refine ⟨rfl, ?_⟩)))), (by repeat (first | exact SubH.nilR _ | refine SubH.pick (by repeat (first | exact HTake.here | apply HTake.there)) ?_)), fin, (by simp)⟩
      | run c n ob =>
        obtain ⟨hp0, ⟨b, a, hR, hob⟩, hdel, hquo⟩ := hok.run d r c n ob i1
        have hc : (bytesT toks)[(bytesT d).length]? = some c := by
          have := hR.run 0 (by rcases hR.kind with h | h | h | h <;> omega)
          simpa using this
        simp only [Tk.bytes, List.length_replicate] at hlen
        have e1 : (bytesT (d ++ [.run c n ob])).length = (bytesT d).length + n := by simp [bytesT, Tk.bytes]
        have hei : e < (bytesT d).length := by
          refine Classical.byContradiction fun hge => hp0 ?_
          rw [← i3]
          exact List.drop_eq_nil_of_le (by rw [List.length_take]; omega)
        have hob2 : decide (b.toNat ≠ 32) = !ob := by rw [← hob]; simp
        have hP := fun s' hs' => parseEmph_tr p s' (bytesT toks) (bytesT d).length n c b a cn hs' (by omega) hR
        simp only [run_text hR, hob, hob2] at hP
        have hkk : c.toNat = 126 ∨ c.toNat = 34 ∨ c.toNat = 39 := by rcases hR.kind with h | h | h | h <;> omega
        have hn12 : 1 ≤ n ∧ n ≤ 2 := by rcases hR.kind with h | h | h | h <;> omega
        rcases hkk with hk | hk | hk
        · have ho := hdel hk
          simp only at ho
          subst ho
          (repeat' (first | refine k_seq ?_ | refine k_region ?_ | refine k_nil ?_ | refine k_then ?_ | refine k_true ?_ | refine k_false ?_ | refine k_blk ?_ | refine k_skip ?_ | refine k_block ?_ | refine s_move ?_ | refine s_assign ?_ | refine s_load ?_ | refine s_field ?_ | refine s_nilp ?_ | refine s_lss_t ?_ | refine s_eql_t ?_ | refine s_eql_f ?_ | refine s_lens ?_ | refine s_index ?_ | refine s_nefn ?_))
          refine s_valR (hP _ rfl) (fun u K hR => ?_)
          obtain ⟨q, cn', rfl, rfl⟩ := hR
          (repeat' (first | refine k_seq ?_ | refine k_region ?_ | refine k_nil ?_ | refine k_then ?_ | refine k_true ?_ | refine s_move ?_ | refine s_assign ?_ | refine s_ext ?_))
          refine s_call (emitP p (bytesT d).length e _ (bytesT toks) vals LB rfl rfl hei (by omega) hl' i5 (by omega)) (fun u K hR => ?_)
          obtain ⟨rfl, q2, v', LB', hL', rfl⟩ := hR
          (repeat' (first | refine k_seq ?_ | refine k_region ?_ | refine k_nil ?_ | refine k_then ?_ | refine k_false ?_ | refine k_skip ?_ | refine s_move ?_ | refine s_assign ?_ | refine s_load ?_ | refine s_field ?_ | refine s_nilp ?_ | refine s_ext ?_ | refine s_asno ?_ | refine s_bsl1 (fun _ => ?_)))
          refine s_app hL' (by simp only [List.length_append, List.length_cons, List.length_nil]; omega) (fun v2 LB2 hL2 => ?_)
          obtain ⟨g2, cap2, cur2, rfl, rfl, k1, k2, k3, k4⟩ := hL2.pos
          (repeat' (first | refine s_callD (skip_tr p ((bytesT d).length + n) (⟨lp pr, root, links, lineno, stack, depth, .bool cn', str (bytesT toks), inat (bytesT d).length, .slice (some ⟨g2, 0, none⟩) ((vals ++ [Value.iface 149 (lp q2)]).length + 1) cap2, lists, texts, bt⟩ : PS)) ?_ | refine k_seq ?_ | refine k_region ?_ | refine k_nil ?_ | refine k_then ?_ | refine k_exit ?_ | refine k_exit_then ?_ | refine k_hit ?_ | refine s_move ?_ | refine s_assign ?_ | refine s_field ?_ | refine s_nilp ?_ | refine s_store ?_))
          have hL3 : Inls (.slice (some ⟨g2, 0, none⟩) ((vals ++ [Value.iface 149 (lp q2)]).length + 1) cap2) ((vals ++ [Value.iface 149 (lp q2)]) ++ [.iface 183 (lp q)]) [(g2, cellsOf cur2 125)] := by simpa [Inls] using hL2
          refine ⟨⟨d ++ [.run c n ob], r, (bytesT d).length + n, cn', (vals ++ [Value.iface 149 (lp q2)]) ++ [.iface 183 (lp q)], _, _, It.cell (.emph (List.replicate n c) ob (!ob) n) q :: It.cell (.plain (((bytesT toks).take (bytesT d).length).drop e)) q2 :: IB⟩, (by simp only [e1]; exact (Knows.spec (by repeat (first | exact trivial | refine ⟨rfl, ?_⟩)))), SubH.trans (H' := [_, _, _, [It.cell (.emph (List.replicate n c) ob (!ob) n) q], [It.cell (.plain (((bytesT toks).take (bytesT d).length).drop e)) q2], IB]) (by repeat (first | exact SubH.nilR _ | refine SubH.pick (by repeat (first | exact HTake.here | apply HTake.there)) ?_)) (SubH.keep (SubH.keep (SubH.keep (SubH.trans (SubH.keep SubH.join) SubH.join)))), ⟨by simp [i1], by simp only [e1]; exact Nat.le_refl _, ?_, ?_, hL3, ?_⟩, by simp⟩
          · simp only [e1]
            rw [stT_snoc]
            exact List.drop_eq_nil_of_le (by rw [List.length_take]; omega)
          · simp only []
            rw [stT_snoc]
            simp only [Tk.step, if_neg hp0]
            rw [i3]
            exact .snoc (.emph (List.replicate n c) ob (!ob) n) q (.snoc (.plain (stT d).2) q2 i4)
          · simp only [List.length_append, List.length_cons, List.length_nil]; omega
        · have ho := hquo (by omega)
          simp only at ho
          subst ho
          (repeat' (first | refine k_seq ?_ | refine k_region ?_ | refine k_nil ?_ | refine k_then ?_ | refine k_true ?_ | refine k_false ?_ | refine k_blk ?_ | refine k_skip ?_ | refine k_block ?_ | refine s_move ?_ | refine s_assign ?_ | refine s_load ?_ | refine s_field ?_ | refine s_nilp ?_ | refine s_lss_t ?_ | refine s_eql_t ?_ | refine s_eql_f ?_ | refine s_lens ?_ | refine s_index ?_ | refine s_nefn ?_))
          refine s_valR (hP _ rfl) (fun u K hR => ?_)
          obtain ⟨q, cn', rfl, rfl⟩ := hR
          (repeat' (first | refine k_seq ?_ | refine k_region ?_ | refine k_nil ?_ | refine k_then ?_ | refine k_true ?_ | refine s_move ?_ | refine s_assign ?_ | refine s_ext ?_))
          refine s_call (emitP p (bytesT d).length e _ (bytesT toks) vals LB rfl rfl hei (by omega) hl' i5 (by omega)) (fun u K hR => ?_)
          obtain ⟨rfl, q2, v', LB', hL', rfl⟩ := hR
          (repeat' (first | refine k_seq ?_ | refine k_region ?_ | refine k_nil ?_ | refine k_then ?_ | refine k_false ?_ | refine k_skip ?_ | refine s_move ?_ | refine s_assign ?_ | refine s_load ?_ | refine s_field ?_ | refine s_nilp ?_ | refine s_ext ?_ | refine s_asno ?_ | refine s_bsl1 (fun _ => ?_)))
          refine s_app hL' (by simp only [List.length_append, List.length_cons, List.length_nil]; omega) (fun v2 LB2 hL2 => ?_)
          obtain ⟨g2, cap2, cur2, rfl, rfl, k1, k2, k3, k4⟩ := hL2.pos
          (repeat' (first | refine s_callD (skip_tr p ((bytesT d).length + n) (⟨lp pr, root, links, lineno, stack, depth, .bool cn', str (bytesT toks), inat (bytesT d).length, .slice (some ⟨g2, 0, none⟩) ((vals ++ [Value.iface 149 (lp q2)]).length + 1) cap2, lists, texts, bt⟩ : PS)) ?_ | refine k_seq ?_ | refine k_region ?_ | refine k_nil ?_ | refine k_then ?_ | refine k_exit ?_ | refine k_exit_then ?_ | refine k_hit ?_ | refine s_move ?_ | refine s_assign ?_ | refine s_field ?_ | refine s_nilp ?_ | refine s_store ?_))
          have hL3 : Inls (.slice (some ⟨g2, 0, none⟩) ((vals ++ [Value.iface 149 (lp q2)]).length + 1) cap2) ((vals ++ [Value.iface 149 (lp q2)]) ++ [.iface 183 (lp q)]) [(g2, cellsOf cur2 125)] := by simpa [Inls] using hL2
          refine ⟨⟨d ++ [.run c n ob], r, (bytesT d).length + n, cn', (vals ++ [Value.iface 149 (lp q2)]) ++ [.iface 183 (lp q)], _, _, It.cell (.emph (List.replicate n c) ob (!ob) n) q :: It.cell (.plain (((bytesT toks).take (bytesT d).length).drop e)) q2 :: IB⟩, (by simp only [e1]; exact (Knows.spec (by repeat (first | exact trivial | refine ⟨rfl, ?_⟩)))), SubH.trans (H' := [_, _, _, [It.cell (.emph (List.replicate n c) ob (!ob) n) q], [It.cell (.plain (((bytesT toks).take (bytesT d).length).drop e)) q2], IB]) (by repeat (first | exact SubH.nilR _ | refine SubH.pick (by repeat (first | exact HTake.here | apply HTake.there)) ?_)) (SubH.keep (SubH.keep (SubH.keep (SubH.trans (SubH.keep SubH.join) SubH.join)))), ⟨by simp [i1], by simp only [e1]; exact Nat.le_refl _, ?_, ?_, hL3, ?_⟩, by simp⟩
          · simp only [e1]
            rw [stT_snoc]
            exact List.drop_eq_nil_of_le (by rw [List.length_take]; omega)
          · simp only []
            rw [stT_snoc]
            simp only [Tk.step, if_neg hp0]
            rw [i3]
            exact .snoc (.emph (List.replicate n c) ob (!ob) n) q (.snoc (.plain (stT d).2) q2 i4)
          · simp only [List.length_append, List.length_cons, List.length_nil]; omega
        · have ho := hquo (by omega)
          simp only at ho
          subst ho
          (repeat' (first | refine k_seq ?_ | refine k_region ?_ | refine k_nil ?_ | refine k_then ?_ | refine k_true ?_ | refine k_false ?_ | refine k_blk ?_ | refine k_skip ?_ | refine k_block ?_ | refine s_move ?_ | refine s_assign ?_ | refine s_load ?_ | refine s_field ?_ | refine s_nilp ?_ | refine s_lss_t ?_ | refine s_eql_t ?_ | refine s_eql_f ?_ | refine s_lens ?_ | refine s_index ?_ | refine s_nefn ?_))
          refine s_valR (hP _ rfl) (fun u K hR => ?_)
          obtain ⟨q, cn', rfl, rfl⟩ := hR
          (repeat' (first | refine k_seq ?_ | refine k_region ?_ | refine k_nil ?_ | refine k_then ?_ | refine k_true ?_ | refine s_move ?_ | refine s_assign ?_ | refine s_ext ?_))
          refine s_call (emitP p (bytesT d).length e _ (bytesT toks) vals LB rfl rfl hei (by omega) hl' i5 (by omega)) (fun u K hR => ?_)
          obtain ⟨rfl, q2, v', LB', hL', rfl⟩ := hR
          (repeat' (first | refine k_seq ?_ | refine k_region ?_ | refine k_nil ?_ | refine k_then ?_ | refine k_false ?_ | refine k_skip ?_ | refine s_move ?_ | refine s_assign ?_ | refine s_load ?_ | refine s_field ?_ | refine s_nilp ?_ | refine s_ext ?_ | refine s_asno ?_ | refine s_bsl1 (fun _ => ?_)))
          refine s_app hL' (by simp only [List.length_append, List.length_cons, List.length_nil]; omega) (fun v2 LB2 hL2 => ?_)
          obtain ⟨g2, cap2, cur2, rfl, rfl, k1, k2, k3, k4⟩ := hL2.pos
          (repeat' (first | refine s_callD (skip_tr p ((bytesT d).length + n) (⟨lp pr, root, links, lineno, stack, depth, .bool cn', str (bytesT toks), inat (bytesT d).length, .slice (some ⟨g2, 0, none⟩) ((vals ++ [Value.iface 149 (lp q2)]).length + 1) cap2, lists, texts, bt⟩ : PS)) ?_ | refine k_seq ?_ | refine k_region ?_ | refine k_nil ?_ | refine k_then ?_ | refine k_exit ?_ | refine k_exit_then ?_ | refine k_hit ?_ | refine s_move ?_ | refine s_assign ?_ | refine s_field ?_ | refine s_nilp ?_ | refine s_store ?_))
          have hL3 : Inls (.slice (some ⟨g2, 0, none⟩) ((vals ++ [Value.iface 149 (lp q2)]).length + 1) cap2) ((vals ++ [Value.iface 149 (lp q2)]) ++ [.iface 183 (lp q)]) [(g2, cellsOf cur2 125)] := by simpa [Inls] using hL2
          refine ⟨⟨d ++ [.run c n ob], r, (bytesT d).length + n, cn', (vals ++ [Value.iface 149 (lp q2)]) ++ [.iface 183 (lp q)], _, _, It.cell (.emph (List.replicate n c) ob (!ob) n) q :: It.cell (.plain (((bytesT toks).take (bytesT d).length).drop e)) q2 :: IB⟩, (by simp only [e1]; exact (Knows.spec (by repeat (first | exact trivial | refine ⟨rfl, ?_⟩)))), SubH.trans (H' := [_, _, _, [It.cell (.emph (List.replicate n c) ob (!ob) n) q], [It.cell (.plain (((bytesT toks).take (bytesT d).length).drop e)) q2], IB]) (by repeat (first | exact SubH.nilR _ | refine SubH.pick (by repeat (first | exact HTake.here | apply HTake.there)) ?_)) (SubH.keep (SubH.keep (SubH.keep (SubH.trans (SubH.keep SubH.join) SubH.join)))), ⟨by simp [i1], by simp only [e1]; exact Nat.le_refl _, ?_, ?_, hL3, ?_⟩, by simp⟩
          · simp only [e1]
            rw [stT_snoc]
            exact List.drop_eq_nil_of_le (by rw [List.length_take]; omega)
          · simp only []
            rw [stT_snoc]
            simp only [Tk.step, if_neg hp0]
            rw [i3]
            exact .snoc (.emph (List.replicate n c) ob (!ob) n) q (.snoc (.plain (stT d).2) q2 i4)
          · simp only [List.length_append, List.length_cons, List.length_nil]; omega
  · rintro ⟨d, r, e, cn, vals, v, LB, IB⟩ ⟨hr, i1, i2, i3, i4, i5, i6⟩
    simp only at hr i1 i2 i3 i4 i5 i6 ⊢
    subst hr
    have hd : d = toks := by simpa using i1.symm
    subst hd
    rw [List.take_length] at i3
    obtain ⟨d0, c0, hlast⟩ := hok.last
    have hp0 := itemsT_end hlast
    have hei : e < (bytesT d).length := by
      refine Classical.byContradiction fun hge => hp0 ?_
      rw [← i3]
      exact List.drop_eq_nil_of_le (by omega)
    (repeat' (first | refine k_seq ?_ | refine k_region ?_ | refine s_move ?_ | refine s_lens ?_))
    refine s_call (emitP p (bytesT d).length e _ (bytesT d) vals LB rfl rfl hei (Nat.le_refl _) hl' i5 (by omega)) (fun u K hR => ?_)
    obtain ⟨rfl, q2, v', LB', hL', rfl⟩ := hR
    have j1 : ItsT (itemsT d) (vals ++ [.iface 149 (lp q2)]) (It.cell (.plain (((bytesT d).take (bytesT d).length).drop e)) q2 :: IB) := by
      rw [List.take_length, i3]
      exact .snoc (.plain (stT d).2) q2 i4
    have hlenv : (itemsT d).length = vals.length + 1 := by rw [← j1.length, List.length_append]; rfl
    have j2' : Own 125 1 v' (vals.length + 1) (vals ++ [.iface 149 (lp q2)]) LB' := by simpa [Inls] using hL'
    obtain ⟨g, cap, cur, rfl, rfl, k1, k2, k3, k4⟩ := j2'.pos
    have he := hE g cap cur _ _ j1 (by omega) (by omega) (by rw [hlenv, ← k4, Nat.mul_one])
    rw [hlenv] at he
    (repeat' (first | refine k_seq ?_ | refine k_nil ?_ | refine k_then ?_))
    refine w_sub (H' := [(⟨lp pr, root, links, lineno, stack, depth, .bool cn, str (bytesT d), inat (bytesT d).length, .slice (some ⟨g, 0, none⟩) (vals.length + 1) cap, lists, texts, bt⟩ : PS).blk p, (⟨o1, o2, o3, false, o5, o6, false, false, false, o10⟩ : PO).blk pr, [(g, cellsOf cur 125)], It.cell (.plain (((bytesT d).take (bytesT d).length).drop e)) q2 :: IB]) (SubH.trans (H' := [_, _, _, [It.cell (.plain (((bytesT d).take (bytesT d).length).drop e)) q2], IB]) (by repeat (first | exact SubH.nilR _ | refine SubH.pick (by repeat (first | exact HTake.here | apply HTake.there)) ?_)) (SubH.keep (SubH.keep (SubH.keep SubH.join)))) ?_
    refine Wp.draw_till (id := 78) [(⟨lp pr, root, links, lineno, stack, depth, .bool cn, str (bytesT d), inat (bytesT d).length, .slice (some ⟨g, 0, none⟩) (vals.length + 1) cap, lists, texts, bt⟩ : PS).blk p] 14 15 Mixed.out (by repeat (first | exact SubH.nilR _ | refine SubH.pick (by repeat (first | exact HTake.here | apply HTake.there)) ?_)) rfl ?_
    refine OpsK.first 0 _ (by rfl) (by kernel_rfl) rfl (by kernel_rfl) (by kernel_rfl) rfl (by first | exact p_move rfl | exact p_assign rfl | exact p_extract rfl rfl | exact q_fieldAddr rfl | exact p_nilCheck rfl | exact q_load rfl (by repeat (first | exact HMem.here | apply HMem.skip | apply HMem.there)) rfl | exact q_load_agg rfl (by repeat (first | exact HMem.here | apply HMem.skip | apply HMem.there)) (by repeat constructor) | exact q_len_slice rfl | exact q_len_str rfl | exact q_indexAddr rfl rfl (by omega) | exact q_slice_str rfl rfl rfl (by omega) (by omega) | exact q_makeInterface rfl | exact q_assert rfl | exact p_build rfl (by repeat' (first | exact BFill.nil | refine' BFill.one (by rfl) (by rfl) (by repeat constructor) ?_ | refine' BFill.agg (by rfl) (by rfl) (by repeat constructor) ?_))) ?_
    refine OpsK.first 1 _ (by rfl) (by kernel_rfl) rfl (by kernel_rfl) (by kernel_rfl) rfl (by first | exact p_move rfl | exact p_assign rfl | exact p_extract rfl rfl | exact q_fieldAddr rfl | exact p_nilCheck rfl | exact q_load rfl (by repeat (first | exact HMem.here | apply HMem.skip | apply HMem.there)) rfl | exact q_load_agg rfl (by repeat (first | exact HMem.here | apply HMem.skip | apply HMem.there)) (by repeat constructor) | exact q_len_slice rfl | exact q_len_str rfl | exact q_indexAddr rfl rfl (by omega) | exact q_slice_str rfl rfl rfl (by omega) (by omega) | exact q_makeInterface rfl | exact q_assert rfl | exact p_build rfl (by repeat' (first | exact BFill.nil | refine' BFill.one (by rfl) (by rfl) (by repeat constructor) ?_ | refine' BFill.agg (by rfl) (by rfl) (by repeat constructor) ?_))) ?_
    refine OpsK.first 2 _ (by rfl) (by kernel_rfl) rfl (by kernel_rfl) (by kernel_rfl) rfl (by first | exact p_move rfl | exact p_assign rfl | exact p_extract rfl rfl | exact q_fieldAddr rfl | exact p_nilCheck rfl | exact q_load rfl (by repeat (first | exact HMem.here | apply HMem.skip | apply HMem.there)) rfl | exact q_load_agg rfl (by repeat (first | exact HMem.here | apply HMem.skip | apply HMem.there)) (by repeat constructor) | exact q_len_slice rfl | exact q_len_str rfl | exact q_indexAddr rfl rfl (by omega) | exact q_slice_str rfl rfl rfl (by omega) (by omega) | exact q_makeInterface rfl | exact q_assert rfl | exact p_build rfl (by repeat' (first | exact BFill.nil | refine' BFill.one (by rfl) (by rfl) (by repeat constructor) ?_ | refine' BFill.agg (by rfl) (by rfl) (by repeat constructor) ?_))) ?_
    refine OpsK.first 3 _ (by rfl) (by kernel_rfl) rfl (by kernel_rfl) (by kernel_rfl) rfl (by first | exact p_move rfl | exact p_assign rfl | exact p_extract rfl rfl | exact q_fieldAddr rfl | exact p_nilCheck rfl | exact q_load rfl (by repeat (first | exact HMem.here | apply HMem.skip | apply HMem.there)) rfl | exact q_load_agg rfl (by repeat (first | exact HMem.here | apply HMem.skip | apply HMem.there)) (by repeat constructor) | exact q_len_slice rfl | exact q_len_str rfl | exact q_indexAddr rfl rfl (by omega) | exact q_slice_str rfl rfl rfl (by omega) (by omega) | exact q_makeInterface rfl | exact q_assert rfl | exact p_build rfl (by repeat' (first | exact BFill.nil | refine' BFill.one (by rfl) (by rfl) (by repeat constructor) ?_ | refine' BFill.agg (by rfl) (by rfl) (by repeat constructor) ?_))) ?_
    refine OpsK.first 4 _ (by rfl) (by kernel_rfl) rfl (by kernel_rfl) (by kernel_rfl) rfl (by first | exact p_move rfl | exact p_assign rfl | exact p_extract rfl rfl | exact q_fieldAddr rfl | exact p_nilCheck rfl | exact q_load rfl (by repeat (first | exact HMem.here | apply HMem.skip | apply HMem.there)) rfl | exact q_load_agg rfl (by repeat (first | exact HMem.here | apply HMem.skip | apply HMem.there)) (by repeat constructor) | exact q_len_slice rfl | exact q_len_str rfl | exact q_indexAddr rfl rfl (by omega) | exact q_slice_str rfl rfl rfl (by omega) (by omega) | exact q_makeInterface rfl | exact q_assert rfl | exact p_build rfl (by repeat' (first | exact BFill.nil | refine' BFill.one (by rfl) (by rfl) (by repeat constructor) ?_ | refine' BFill.agg (by rfl) (by rfl) (by repeat constructor) ?_))) ?_
    refine OpsK.firstL 5 [] _ (by rfl) (by kernel_rfl) (by kernel_rfl) rfl (by kernel_rfl) (by kernel_rfl) rfl (by first | exact p_move rfl | exact p_assign rfl | exact p_extract rfl rfl | exact q_fieldAddr rfl | exact p_nilCheck rfl | exact q_load rfl (by repeat (first | exact HMem.here | apply HMem.skip | apply HMem.there)) rfl | exact q_load_agg rfl (by repeat (first | exact HMem.here | apply HMem.skip | apply HMem.there)) (by repeat constructor) | exact q_len_slice rfl | exact q_len_str rfl | exact q_indexAddr rfl rfl (by omega) | exact q_slice_str rfl rfl rfl (by omega) (by omega) | exact q_makeInterface rfl | exact q_assert rfl | exact p_build rfl (by repeat' (first | exact BFill.nil | refine' BFill.one (by rfl) (by rfl) (by repeat constructor) ?_ | refine' BFill.agg (by rfl) (by rfl) (by repeat constructor) ?_))) ?_
    refine OpsK.first 6 _ (by rfl) (by kernel_rfl) rfl (by kernel_rfl) (by kernel_rfl) rfl (p_slice_hi (b := 0) USlice.out Siz.out rfl rfl (Nat.zero_le _)) ?_
    refine OpsK.first 7 _ (by rfl) (by kernel_rfl) rfl (by kernel_rfl) (by kernel_rfl) rfl (by first | exact p_move rfl | exact p_assign rfl | exact p_extract rfl rfl | exact q_fieldAddr rfl | exact p_nilCheck rfl | exact q_load rfl (by repeat (first | exact HMem.here | apply HMem.skip | apply HMem.there)) rfl | exact q_load_agg rfl (by repeat (first | exact HMem.here | apply HMem.skip | apply HMem.there)) (by repeat constructor) | exact q_len_slice rfl | exact q_len_str rfl | exact q_indexAddr rfl rfl (by omega) | exact q_slice_str rfl rfl rfl (by omega) (by omega) | exact q_makeInterface rfl | exact q_assert rfl | exact p_build rfl (by repeat' (first | exact BFill.nil | refine' BFill.one (by rfl) (by rfl) (by repeat constructor) ?_ | refine' BFill.agg (by rfl) (by rfl) (by repeat constructor) ?_))) ?_
    refine OpsK.first 8 _ (by rfl) (by kernel_rfl) rfl (by kernel_rfl) (by kernel_rfl) rfl (by first | exact p_move rfl | exact p_assign rfl | exact p_extract rfl rfl | exact q_fieldAddr rfl | exact p_nilCheck rfl | exact q_load rfl (by repeat (first | exact HMem.here | apply HMem.skip | apply HMem.there)) rfl | exact q_load_agg rfl (by repeat (first | exact HMem.here | apply HMem.skip | apply HMem.there)) (by repeat constructor) | exact q_len_slice rfl | exact q_len_str rfl | exact q_indexAddr rfl rfl (by omega) | exact q_slice_str rfl rfl rfl (by omega) (by omega) | exact q_makeInterface rfl | exact q_assert rfl | exact p_build rfl (by repeat' (first | exact BFill.nil | refine' BFill.one (by rfl) (by rfl) (by repeat constructor) ?_ | refine' BFill.agg (by rfl) (by rfl) (by repeat constructor) ?_))) ?_
    refine OpsK.first 9 _ (by rfl) (by kernel_rfl) rfl (by kernel_rfl) (by kernel_rfl) rfl (by first | exact p_move rfl | exact p_assign rfl | exact p_extract rfl rfl | exact q_fieldAddr rfl | exact p_nilCheck rfl | exact q_load rfl (by repeat (first | exact HMem.here | apply HMem.skip | apply HMem.there)) rfl | exact q_load_agg rfl (by repeat (first | exact HMem.here | apply HMem.skip | apply HMem.there)) (by repeat constructor) | exact q_len_slice rfl | exact q_len_str rfl | exact q_indexAddr rfl rfl (by omega) | exact q_slice_str rfl rfl rfl (by omega) (by omega) | exact q_makeInterface rfl | exact q_assert rfl | exact p_build rfl (by repeat' (first | exact BFill.nil | refine' BFill.one (by rfl) (by rfl) (by repeat constructor) ?_ | refine' BFill.agg (by rfl) (by rfl) (by repeat constructor) ?_))) ?_
    refine OpsK.firstL 10 [] _ (by rfl) (by kernel_rfl) (by kernel_rfl) rfl (by kernel_rfl) (by kernel_rfl) rfl (by first | exact p_move rfl | exact p_assign rfl | exact p_extract rfl rfl | exact q_fieldAddr rfl | exact p_nilCheck rfl | exact q_load rfl (by repeat (first | exact HMem.here | apply HMem.skip | apply HMem.there)) rfl | exact q_load_agg rfl (by repeat (first | exact HMem.here | apply HMem.skip | apply HMem.there)) (by repeat constructor) | exact q_len_slice rfl | exact q_len_str rfl | exact q_indexAddr rfl rfl (by omega) | exact q_slice_str rfl rfl rfl (by omega) (by omega) | exact q_makeInterface rfl | exact q_assert rfl | exact p_build rfl (by repeat' (first | exact BFill.nil | refine' BFill.one (by rfl) (by rfl) (by repeat constructor) ?_ | refine' BFill.agg (by rfl) (by rfl) (by repeat constructor) ?_))) ?_
    refine OpsK.only 11 _ (by kernel_rfl) rfl ?_
    refine s_call he (fun u K hR => ?_)
    obtain ⟨im, cur', G, rfl, hcl, him, hMm, rfl⟩ := hR
    (repeat' (first | refine k_nil ?_ | refine k_then ?_))
    refine ⟨fun _ => (by repeat (first | exact SubH.nilR _ | refine SubH.pick (by repeat (first | exact HTake.here | apply HTake.there)) ?_)), ?_⟩
    refine OpsK.first 12 _ (by rfl) (by kernel_rfl) rfl (by kernel_rfl) (by kernel_rfl) rfl (by first | exact p_move rfl | exact p_assign rfl | exact p_extract rfl rfl | exact q_fieldAddr rfl | exact p_nilCheck rfl | exact q_load rfl (by repeat (first | exact HMem.here | apply HMem.skip | apply HMem.there)) rfl | exact q_load_agg rfl (by repeat (first | exact HMem.here | apply HMem.skip | apply HMem.there)) (by repeat constructor) | exact q_len_slice rfl | exact q_len_str rfl | exact q_indexAddr rfl rfl (by omega) | exact q_slice_str rfl rfl rfl (by omega) (by omega) | exact q_makeInterface rfl | exact q_assert rfl | exact p_build rfl (by repeat' (first | exact BFill.nil | refine' BFill.one (by rfl) (by rfl) (by repeat constructor) ?_ | refine' BFill.agg (by rfl) (by rfl) (by repeat constructor) ?_))) ?_
    refine OpsK.first 13 _ (by rfl) (by kernel_rfl) rfl (by kernel_rfl) (by kernel_rfl) rfl (by first | exact p_move rfl | exact p_assign rfl | exact p_extract rfl rfl | exact q_fieldAddr rfl | exact p_nilCheck rfl | exact q_load rfl (by repeat (first | exact HMem.here | apply HMem.skip | apply HMem.there)) rfl | exact q_load_agg rfl (by repeat (first | exact HMem.here | apply HMem.skip | apply HMem.there)) (by repeat constructor) | exact q_len_slice rfl | exact q_len_str rfl | exact q_indexAddr rfl rfl (by omega) | exact q_slice_str rfl rfl rfl (by omega) (by omega) | exact q_makeInterface rfl | exact q_assert rfl | exact p_build rfl (by repeat' (first | exact BFill.nil | refine' BFill.one (by rfl) (by rfl) (by repeat constructor) ?_ | refine' BFill.agg (by rfl) (by rfl) (by repeat constructor) ?_))) ?_
    refine OpsK.only 14 _ (by kernel_rfl) rfl ?_
    (repeat' (first | refine k_nil ?_ | refine k_then ?_ | refine s_store ?_))
    refine ⟨(fun h0 => Bool.noConfusion (show true = false from h0)), ?_⟩
    refine OpsK.nil (by kernel_rfl) ?_
    (repeat' (first | refine k_seq ?_ | refine k_region ?_ | refine s_move ?_ | refine s_load ?_ | refine s_field ?_ | refine s_nilp ?_))
    refine s_call (hM g cap im cur' G hcl him hMm) (fun u K hR => ?_)
    obtain ⟨ja, jm, jc, G', rfl, hIL, rfl⟩ := hR
    (repeat' (first | refine s_callD (autoLinkText_no p pr (⟨o1, o2, o3, false, o5, o6, false, false, false, o10⟩ : PO) (⟨lp pr, root, links, lineno, stack, depth, .bool cn, str (bytesT d), inat (bytesT d).length, .slice ja jm jc, lists, texts, bt⟩ : PS) (.slice ja jm jc) rfl rfl) ?_ | refine k_seq ?_ | refine k_region ?_ | refine k_nil ?_ | refine k_then ?_ | refine k_ret ?_ | refine s_move ?_ | refine s_assign ?_ | refine s_load ?_ | refine s_field ?_ | refine s_nilp ?_ | refine s_store ?_))
    exact e_ret _ ⟨(⟨lp pr, root, links, lineno, stack, depth, .bool cn, str (bytesT d), inat (bytesT d).length, .slice ja jm jc, lists, texts, bt⟩ : PS), ja, jm, jc, G', rfl, hIL, rfl, rfl, rfl⟩ (by repeat (first | exact SubH.nilR _ | refine SubH.pick (by repeat (first | exact HTake.here | apply HTake.there)) ?_))
end Go.Proofs

namespace Go.Proofs
open Go Go.Eng
set_option maxRecDepth 20000
set_option maxHeartbeats 4000000

abbrev optO (d q : Bool) : Value := .agg #[.bool d, .bool false, .bool false, .bool false, .bool false, .bool false, .bool false, .bool q, .bool false, .bool false]
abbrev poO (d q : Bool) : PO := ⟨false, d, false, false, false, false, false, false, false, q⟩
theorem parserO_tr (d q : Bool) : Tr Tryz.prog 23 [optO d q] [] fun u K => ∃ pr, u = lp pr ∧ K = [(poO d q).blk pr] := by
  refine Tr.start (n := 25) (rs := [.tmp 2]) rfl rfl rfl rfl fun B => ?_
  (repeat' (first | refine k_seq ?_ | refine k_region ?_ | refine k_nil ?_ | refine k_then ?_ | refine k_ret ?_ | refine s_assign ?_ | refine s_load ?_ | refine s_field ?_ | refine s_buildx ?_ | refine s_box (fun _ => ?_)))
  rename_i r1 r2
  exact e_ret [(poO d q).blk r2] ⟨r2, rfl, rfl⟩ (by repeat (first | exact SubH.nilR _ | refine SubH.pick (by repeat (first | exact HTake.here | apply HTake.there)) ?_))

/-- Bytes of words, spaces, tildes and quotation marks. -/
abbrev sch (c : Nat) : Prop := wch c ∨ c = 32 ∨ c = 126 ∨ c = 34 ∨ c = 39
theorem plW {tx : List UInt8} {c : UInt8} {r : List UInt8} (e : tx = c :: r) (hc : wch c.toNat) (hall : ∀ d ∈ tx, sch d.toNat) (hl : tx.length ≤ 10000) : PL tx := by
  have h0 : at0 tx 0 = c.toNat := by rw [e]; rfl
  have hns : nsp tx = 0 := by rw [e]; simp [nsp]; omega
  have hsp : sp3 0 tx = 0 := by unfold sp3; rw [List.drop_zero, hns, Nat.zero_min]
  have hlt : ltrim tx = tx := by
    rw [e]; unfold ltrim
    rw [List.dropWhile_cons_of_neg]
    simp [isBl]; omega
  have hat : ∀ j, at0 tx j = 0 ∨ sch (at0 tx j) := fun j => by
    unfold at0
    split
    · rename_i d hd; exact .inr (hall d (List.mem_of_getElem? hd))
    · exact .inl rfl
  have hnt : NoTab tx := fun d hd => by have := hall d hd; omega
  have hq : ∀ k, k ≠ c.toNat → at0 tx (sp3 0 tx) ≠ k := fun k hk => by rw [hsp, h0]; exact fun h => hk h.symm
  refine ⟨⟨hnt, by omega, Nat.zero_le _, by rw [List.drop_zero, hlt, e]; simp, by rw [List.drop_zero, hns]; omega, hq _ (by omega), fun nl q nq nv => trimHeading_no q nq 0 nv tx nl hnt (by omega) (Nat.zero_le _) (hq 35 (by omega)), hq _ (by omega), hq _ (by omega), hq _ (by omega), hq _ (by omega), hq _ (by omega), hq _ (by omega), hq _ (by omega), ?_⟩, hlt, fun d hd => ?_⟩
  · rw [hsp, List.drop_zero]
    refine ⟨by omega, by omega, by omega, fun j hj hj0 => ?_⟩
    have := hat j
    omega
  · have := hall d hd
    refine ⟨fun h => ?_, fun h => ?_, fun h => ?_⟩ <;> (subst h; exact absurd this (by decide))

theorem docO_tr (pr : Nat) (d q : Bool) (toks : List Tk) (out : List UInt8) (hok : TkOK (poO d q) toks) (hp : PL (bytesT toks)) (m32 : at0 (bytesT toks) 0 ≠ 32) (m9 : at0 (bytesT toks) 0 ≠ 9) (m10 : at0 (bytesT toks) 0 ≠ 10) (m91 : at0 (bytesT toks) 0 ≠ 91)
    (M : Nat → List Value → Blk → Prop)
    (hE : ∀ (p g cap : Nat) (cur vals : List Value) (IB : Blk), ItsT (itemsT toks) vals IB → (itemsT toks).length ≤ cap → cur.length = cap → cur.take (itemsT toks).length = vals →
      Tr Tryz.prog 75 [lp p, .slice (some ⟨g, 0, none⟩) 0 cap, .slice (some ⟨g, 0, none⟩) (itemsT toks).length cap] [[(g, cellsOf cur 125)], IB] fun u K => ∃ im cur' G, u = .slice (some ⟨g, 0, none⟩) im cap ∧ cur'.length = cap ∧ im ≤ cap ∧ M im cur' G ∧ K = [[(g, cellsOf cur' 125)], G])
    (hM : ∀ (p g cap im : Nat) (cur : List Value) (G : Blk), cur.length = cap → im ≤ cap → M im cur G → Tr Tryz.prog 76 [lp p, .slice (some ⟨g, 0, none⟩) im cap] [[(g, cellsOf cur 125)], G] fun u K => ∃ ja jm jc G', u = .slice ja jm jc ∧ (∃ g' outs, ja = some ⟨g', 0, none⟩ ∧ jm ≤ 100000 ∧ Shown g' jm G' outs ∧ outs.flatten = out) ∧ K = [G']) :
    Tr Tryz.prog 24 [lp pr, str (bytesT toks)] [(poO d q).blk pr] fun u K => ∃ dd e qq t ia im ic KB g m c outs G, u = lp dd ∧ Blks (.slice ia im ic) [.iface 146 (lp qq)] KB ∧ Shown g m G outs ∧ outs.flatten = out ∧ m ≤ 100000 ∧
      K = [docb dd 0 e (.slice ia im ic) (.map none), pgb qq 1 (1 + 1 - 1) t, txb t 1 (1 + 1 - 1) (.slice (some ⟨g, 0, none⟩) m c) (bytesT toks), KB, G] := by
  have hlen := hok.len
  have hpt := parse_tr pr (poO d q) [bytesT toks] (bytesT toks) (jn_one _) (by simp) (by simp) (by omega) (fun l hl => by simp at hl; subst hl; exact hp) (fun ia im ic G => ∃ g' outs, ia = some ⟨g', 0, none⟩ ∧ im ≤ 100000 ∧ Shown g' im G outs ∧ outs.flatten = out) rfl rfl m32 m9 m10 m91
    (fun p s hs hcn => inlineT_tr p pr (poO d q) s toks hok false hcn rfl rfl rfl rfl hs M _ (fun g cap => hE p g cap) (fun g cap => hM p g cap))
  refine Tr.start (n := 14) (rs := [.tmp 4]) rfl rfl rfl rfl fun B => ?_
  (repeat' (first | refine k_seq ?_ | refine k_region ?_ | refine k_nil ?_ | refine k_then ?_ | refine s_move ?_ | refine s_assign ?_))
  refine s_call hpt (fun u K hR => ?_)
  obtain ⟨dd, qq, t, cv, e, ia, im, ic, KB, ja, jm, jc, G, rfl, hB, ⟨g, outs, rfl, hjm, hS, ho⟩, rfl⟩ := hR
  (repeat' (first | refine k_seq ?_ | refine k_region ?_ | refine k_nil ?_ | refine k_then ?_ | refine k_ret ?_ | refine s_move ?_ | refine s_assign ?_ | refine s_ext ?_))
  exact e_ret [docb dd 0 e (.slice ia im ic) (.map none), pgb qq 1 (1 + 1 - 1) t, txb t 1 (1 + 1 - 1) (.slice (some ⟨g, 0, none⟩) jm jc) (bytesT toks), KB, G] ⟨dd, e, qq, t, ia, im, ic, KB, g, jm, jc, outs, G, rfl, hB, hS, ho, hjm, rfl⟩ (by repeat (first | exact SubH.nilR _ | refine SubH.pick (by repeat (first | exact HTake.here | apply HTake.there)) ?_))

theorem htmlO_tr (d q : Bool) (toks : List Tk) (out : List UInt8) (hok : TkOK (poO d q) toks) (hp : PL (bytesT toks)) (m32 : at0 (bytesT toks) 0 ≠ 32) (m9 : at0 (bytesT toks) 0 ≠ 9) (m10 : at0 (bytesT toks) 0 ≠ 10) (m91 : at0 (bytesT toks) 0 ≠ 91)
    (M : Nat → List Value → Blk → Prop)
    (hE : ∀ (p g cap : Nat) (cur vals : List Value) (IB : Blk), ItsT (itemsT toks) vals IB → (itemsT toks).length ≤ cap → cur.length = cap → cur.take (itemsT toks).length = vals →
      Tr Tryz.prog 75 [lp p, .slice (some ⟨g, 0, none⟩) 0 cap, .slice (some ⟨g, 0, none⟩) (itemsT toks).length cap] [[(g, cellsOf cur 125)], IB] fun u K => ∃ im cur' G, u = .slice (some ⟨g, 0, none⟩) im cap ∧ cur'.length = cap ∧ im ≤ cap ∧ M im cur' G ∧ K = [[(g, cellsOf cur' 125)], G])
    (hM : ∀ (p g cap im : Nat) (cur : List Value) (G : Blk), cur.length = cap → im ≤ cap → M im cur G → Tr Tryz.prog 76 [lp p, .slice (some ⟨g, 0, none⟩) im cap] [[(g, cellsOf cur 125)], G] fun u K => ∃ ja jm jc G', u = .slice ja jm jc ∧ (∃ g' outs, ja = some ⟨g', 0, none⟩ ∧ jm ≤ 100000 ∧ Shown g' jm G' outs ∧ outs.flatten = out) ∧ K = [G']) :
    TrD Tryz.prog 10 [optO d q, str (bytesT toks)] [] (str (paraO out)) [] := by
  refine Tr.start (n := 11) (rs := [.tmp 4]) rfl rfl rfl rfl fun B => ?_
  (repeat' (first | refine k_seq ?_ | refine k_region ?_ | refine k_nil ?_ | refine k_then ?_ | refine s_assign ?_ | refine s_loada ?_ | refine s_box (fun _ => ?_)))
  rename_i r
  refine s_call (parserO_tr d q) (fun u K hR => ?_)
  obtain ⟨pr, rfl, rfl⟩ := hR
  (repeat' (first | refine s_move ?_))
  refine s_call (docO_tr pr d q toks out hok hp m32 m9 m10 m91 M hE hM) (fun u K hR => ?_)
  obtain ⟨dd, e, qq, t, ia, im, ic, KB, g, m, c, outs, G, rfl, hB, hS, ho, hjm, rfl⟩ := hR
  (repeat' (first | refine s_mki ?_))
  refine s_call (toP_tr dd 0 e qq t 1 (1 + 1 - 1) (.map none) ia im ic KB g m c (bytesT toks) outs G hB hS hjm) (fun u K hR => ?_)
  obtain ⟨rfl, rfl⟩ := hR
  rw [ho]
  (repeat' (first | refine k_nil ?_ | refine k_then ?_ | refine k_ret ?_ | refine s_assign ?_))
  exact e_ret [] ⟨rfl, rfl⟩ (by repeat (first | exact SubH.nilR _ | refine SubH.pick (by repeat (first | exact HTake.here | apply HTake.there)) ?_))
end Go.Proofs

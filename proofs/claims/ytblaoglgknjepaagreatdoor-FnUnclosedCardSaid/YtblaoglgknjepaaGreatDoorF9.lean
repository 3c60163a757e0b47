/- HTML of a text that begins with a fence. Conditions: Body. -/
import Derived.Test.YtblaoglgknjepaaGreatDoorF7
import Derived.Test.YtblaoglgknjepaaGreatDoorF8
namespace Go.Proofs
open Go Go.Eng
set_option maxRecDepth 20000
set_option maxHeartbeats 4000000

/-- What the HTML of lines of code asks of them. -/
structure CodeOK (ls : List (List UInt8)) : Prop where
  n : ls.length ≤ 1000000
  s : ∀ l ∈ ls, l.length ≤ 10000
  lim : (ls.flatMap (fun l => escH l ++ [10])).length ≤ 100000000

theorem docFHTML_tr (d a b' q c e K b : Nat) (lk : Value) (ja : Option Addr) (jm jc : Nat) (KB : Blk) (ia : Option Addr) (im ic : Nat) (ls : List (List UInt8)) (Bt : Blk) (hK : 1 ≤ K) (hK2 : K ≤ 10000)
    (hB : Blks (.slice ja jm jc) [.iface 234 (lp q)] KB) (hT : Strs (.slice ia im ic) ls Bt) (hL : CodeOK ls) :
    Tr Tryz.prog 223 [lp d, lp b] [docb d a b' (.slice ja jm jc) lk, cdb q c e K (.slice ia im ic), KB, Bt, bufb b (.slice none 0 0) 0, []] fun u K' => u = unit ∧ ∃ v' R' lr', BRow v' (codeOut ls) R' ∧ K' = [bufb b v' lr', R'] := by
  obtain ⟨g, cap, cur, e1, rfl, k1, k2, k3, k4⟩ := (show Own 42 1 (.slice ja jm jc) (0 + 1) _ KB from hB).pos
  injection e1 with e1 e2 e3
  subst e1 e2 e3
  obtain ⟨ia', ic', e4⟩ := Own.isSlice hT
  injection e4 with e4 e5 e6
  subst e4 e5 e6
  have hc : cur[0]? = some (.iface 234 (lp q)) := by
    have h : (cur.take ((0 + 1) * 1))[0]? = cur[0]? := by rw [List.getElem?_take, if_pos (by omega)]
    rw [← h, k4]; rfl
  refine Tr.start (n := 19) (rs := []) rfl rfl rfl rfl fun B => ?_
  (repeat' (first | refine k_seq ?_ | refine k_region ?_ | refine k_nil ?_ | refine k_then ?_ | refine k_blk ?_ | refine s_move ?_ | refine s_load ?_ | refine s_field ?_ | refine s_nilp ?_ | refine s_len ?_))
  refine k_loop (fun x : PW => [(1, lp b), (9, .slice (some ⟨g, 0, none⟩) 1 jc), (10, inat 1), (11, inat x.j)]) (fun x => if x.j = 0 then [cdb q c e K (.slice ia ls.length ic), [(g, cellsOf cur 42)], Bt, bufb b (.slice none 0 0) 0, []] else [bufb b x.v x.lr, x.R])
    (fun x => x.j = 0 ∨ (x.j = 1 ∧ BRow x.v (codeOut ls) x.R)) (fun x => 1 - x.j) ⟨0, .slice none 0 0, [], 0⟩ (.inl rfl) (Knows.spec (by repeat (first | exact trivial | refine ⟨rfl, ?_⟩))) (by repeat (first | exact SubH.nilR _ | refine SubH.pick (by repeat (first | exact HTake.here | apply HTake.there)) ?_)) fun x hx => ?_
  obtain ⟨j, v, R, lr⟩ := x
  simp only at hx ⊢
  rcases hx with rfl | ⟨rfl, hx⟩
  · have hc' : cur[0 + 0 * 1]? = some (.iface 234 (lp q)) := hc
    simp only [if_pos]
    (repeat' (first | refine s_load (hc := hc') ?_ | refine k_seq ?_ | refine k_region ?_ | refine k_nil ?_ | refine k_then ?_ | refine k_true ?_ | refine k_blk ?_ | refine k_skip ?_ | refine s_move ?_ | refine s_assign ?_ | refine s_lss_t ?_ | refine s_idxa ?_))
    refine s_inv (codeHTML_tr q c e K b ia ic ls Bt hT hK hK2 hL.n hL.s hL.lim) (fun u K' hR => ?_)
    obtain ⟨rfl, v3, R3, lr3, h3, rfl⟩ := hR
    (repeat' (first | refine k_region ?_ | refine k_nil ?_ | refine k_then ?_ | refine k_block ?_ | refine s_move ?_ | refine s_add1 ?_))
    exact ⟨⟨1, v3, R3, lr3⟩, (Knows.spec (by repeat (first | exact trivial | refine ⟨rfl, ?_⟩))), (by repeat (first | exact SubH.nilR _ | refine SubH.pick (by repeat (first | exact HTake.here | apply HTake.there)) ?_)), .inr ⟨rfl, h3⟩, by simp only; omega⟩
  · rw [if_neg (by omega)]
    (repeat' (first | refine k_seq ?_ | refine k_region ?_ | refine k_nil ?_ | refine k_then ?_ | refine k_false ?_ | refine k_exit ?_ | refine k_exit_then ?_ | refine k_hit ?_ | refine s_lss_f ?_))
    exact e_norm _ ⟨rfl, v, R, lr, hx, rfl⟩ (by repeat (first | exact SubH.nilR _ | refine SubH.pick (by repeat (first | exact HTake.here | apply HTake.there)) ?_))

theorem toFHTML_tr (T : Nat) (es : List Value) (d a b' q c e K : Nat) (lk : Value) (ja : Option Addr) (jm jc : Nat) (KB : Blk) (ia : Option Addr) (im ic : Nat) (ls : List (List UInt8)) (Bt : Blk) (hK : 1 ≤ K) (hK2 : K ≤ 10000)
    (hB : Blks (.slice ja jm jc) [.iface 234 (lp q)] KB) (hT : Strs (.slice ia im ic) ls Bt) (hL : CodeOK ls) :
    Tr Tryz.prog 17 [.iface 36 (lp d)] [ent T es, docb d a b' (.slice ja jm jc) lk, cdb q c e K (.slice ia im ic), KB, Bt] fun u K' => u = str (codeOut ls) ∧ K' = [ent T es] := by
  refine Tr.start (n := 7) (rs := [.tmp 2]) rfl rfl rfl rfl fun B => ?_
  (repeat' (first | refine k_seq ?_ | refine k_region ?_ | refine k_nil ?_ | refine k_then ?_ | refine s_move ?_ | refine s_assign ?_ | refine s_alloc (fun _ => ?_)))
  rename_i b
  refine s_nilblk ?_
  refine s_inv (docFHTML_tr d a b' q c e K b lk ja jm jc KB ia im ic ls Bt hK hK2 hB hT hL) (fun u K' hR => ?_)
  obtain ⟨rfl, v3, R3, lr3, h3, rfl⟩ := hR
  (repeat' (first | refine s_callD (bufString_tr b v3 (codeOut ls) R3 lr3 h3 (by simp [codeOut])) ?_ | refine k_seq ?_ | refine k_region ?_ | refine k_nil ?_ | refine k_then ?_ | refine k_ret ?_ | refine s_assign ?_))
  exact e_ret [ent T es] ⟨rfl, rfl⟩ (by repeat (first | exact SubH.nilR _ | refine SubH.pick (by repeat (first | exact HTake.here | apply HTake.there)) ?_))

abbrev noOpt : Value := .agg #[.bool false, .bool false, .bool false, .bool false, .bool false, .bool false, .bool false, .bool false, .bool false, .bool false]
abbrev noPO : PO := ⟨false, false, false, false, false, false, false, false, false, false⟩
theorem parser_tr : Tr Tryz.prog 18 [noOpt] [] fun u K => ∃ pr, u = lp pr ∧ K = [noPO.blk pr] := by
  refine Tr.start (n := 25) (rs := [.tmp 2]) rfl rfl rfl rfl fun B => ?_
  (repeat' (first | refine k_seq ?_ | refine k_region ?_ | refine k_nil ?_ | refine k_then ?_ | refine k_ret ?_ | refine s_assign ?_ | refine s_load ?_ | refine s_field ?_ | refine s_buildx ?_ | refine s_box (fun _ => ?_)))
  rename_i r1 r2
  exact e_ret [noPO.blk r2] ⟨r2, rfl, rfl⟩ (by repeat (first | exact SubH.nilR _ | refine SubH.pick (by repeat (first | exact HTake.here | apply HTake.there)) ?_))

theorem Body.lnd_len {K : Nat} {t : List UInt8} {ls : List (List UInt8)} (h : Body K t ls) : (lnd ls).length ≤ t.length + 1 := by
  induction h with
  | nil => simp
  | close => simp
  | last l _ _ => simp [lnd]
  | cons l t ls _ _ ih => simp only [lnd, List.flatMap_cons, List.length_append, List.length_cons, List.length_nil] at ih ⊢; omega
theorem lnd_ge : ∀ ls : List (List UInt8), ls.length ≤ (lnd ls).length
  | [] => by simp
  | l :: ls => by have := lnd_ge ls; simp only [lnd, List.flatMap_cons, List.length_append, List.length_cons, List.length_nil] at this ⊢; omega
theorem Body.lines {K : Nat} {t : List UInt8} {ls : List (List UInt8)} (h : Body K t ls) : ∀ l ∈ ls, FLine K l := by
  induction h with
  | nil => simp
  | close => simp
  | last l hl _ => intro x hx; simp at hx; subst hx; exact hl
  | cons l t ls hl _ ih => intro x hx; rcases List.mem_cons.1 hx with rfl | hx
                           · exact hl
                           · exact ih x hx
theorem Body.ok {K : Nat} {t : List UInt8} {ls : List (List UInt8)} (h : Body K t ls) (ht : t.length ≤ 900000) : CodeOK ls := by
  have h1 := h.lnd_len
  have h2 := lnd_ge ls
  refine ⟨by omega, fun l hl => (h.lines l hl).len, ?_⟩
  rw [esc_lnd]
  have := escH_len (lnd ls)
  omega

theorem parseFDoc_tr (T : Nat) (es : List Value) (hE : EntOK es) (pr : Nat) (K : Nat) (t0 : List UInt8) (ls : List (List UInt8)) (tx : List UInt8) (htx : tx = tildes K ++ 10 :: t0) (hB : Body K t0 ls) (hK : 3 ≤ K) (hK2 : K ≤ 10000) (htl : t0.length ≤ 900000) :
    Tr Tryz.prog 19 [lp pr, str tx] [noPO.blk pr, ent T es] fun u K' => ∃ d e q fe ja jm jc IB ia im ic Bt, u = lp d ∧ Blks (.slice ja jm jc) [.iface 234 (lp q)] IB ∧ Strs (.slice ia im ic) ls Bt ∧
      K' = [ent T es, docb d 0 e (.slice ja jm jc) (.map none), cdb q 1 fe K (.slice ia im ic), IB, Bt] := by
  have hok := hB.ok htl
  refine Tr.start (n := 14) (rs := [.tmp 4]) rfl rfl rfl rfl fun B => ?_
  (repeat' (first | refine k_seq ?_ | refine k_region ?_ | refine k_nil ?_ | refine k_then ?_ | refine s_move ?_ | refine s_assign ?_))
  refine s_call (parse_fence T es hE pr noPO K t0 ls tx htx hB hK hK2 (by omega) hok.n rfl) (fun u K' hR => ?_)
  obtain ⟨d, e, q, fe, cv, ja, jm, jc, IB, ia, im, ic, Bt, rfl, k1, k2, rfl⟩ := hR
  (repeat' (first | refine k_seq ?_ | refine k_region ?_ | refine k_nil ?_ | refine k_then ?_ | refine k_ret ?_ | refine s_move ?_ | refine s_assign ?_ | refine s_ext ?_))
  exact e_ret [ent T es, docb d 0 e (.slice ja jm jc) (.map none), cdb q 1 fe K (.slice ia im ic), IB, Bt] ⟨d, e, q, fe, ja, jm, jc, IB, ia, im, ic, Bt, rfl, k1, k2, rfl⟩ (by repeat (first | exact SubH.nilR _ | refine SubH.pick (by repeat (first | exact HTake.here | apply HTake.there)) ?_))

/-- The HTML of a text that begins with a fence. -/
theorem htmlF_tr (T : Nat) (es : List Value) (hE : EntOK es) (K : Nat) (t0 : List UInt8) (ls : List (List UInt8)) (tx : List UInt8) (htx : tx = tildes K ++ 10 :: t0) (hB : Body K t0 ls) (hK : 3 ≤ K) (hK2 : K ≤ 10000) (htl : t0.length ≤ 900000) :
    TrD Tryz.prog 11 [noOpt, str tx] [ent T es] (str (codeOut ls)) [ent T es] := by
  have hok := hB.ok htl
  refine Tr.start (n := 11) (rs := [.tmp 4]) rfl rfl rfl rfl fun B => ?_
  (repeat' (first | refine k_seq ?_ | refine k_region ?_ | refine k_nil ?_ | refine k_then ?_ | refine s_assign ?_ | refine s_loada ?_ | refine s_box (fun _ => ?_)))
  rename_i r
  refine s_call parser_tr (fun u K' hR => ?_)
  obtain ⟨pr, rfl, rfl⟩ := hR
  (repeat' (first | refine s_move ?_))
  refine s_call (parseFDoc_tr T es hE pr K t0 ls tx htx hB hK hK2 htl) (fun u K' hR => ?_)
  obtain ⟨d, e, q, fe, ja, jm, jc, IB, ia, im, ic, Bt, rfl, k1, k2, rfl⟩ := hR
  (repeat' (first | refine s_mki ?_))
  refine s_call (toFHTML_tr T es d 0 e q 1 fe K (.map none) ja jm jc IB ia im ic ls Bt (by omega) hK2 k1 k2 hok) (fun u K' hR => ?_)
  obtain ⟨rfl, rfl⟩ := hR
  (repeat' (first | refine k_nil ?_ | refine k_then ?_ | refine k_ret ?_ | refine s_assign ?_))
  exact e_ret _ ⟨rfl, rfl⟩ (by repeat (first | exact SubH.nilR _ | refine SubH.pick (by repeat (first | exact HTake.here | apply HTake.there)) ?_))
end Go.Proofs

/- WriteString of any text, Replace of the escaper, and PrintHTML of a block of code. Conditions: bounds on the length. -/
import Derived.Test.YtblaoglgknjepaaGreatDoorF4
namespace Go.Proofs
open Go Go.Eng
set_option maxRecDepth 20000
set_option maxHeartbeats 4000000

theorem BRow.wroteA {g cap : Nat} {cur : List Value} {l s : List UInt8} (hs : l ≠ []) (h1 : l.length + s.length ≤ cap) (h2 : cap ≤ 9223372036854775807) (h3 : cur.length = cap) (h4 : cur.take l.length = Lib.byteCells l) :
    BRow (.slice (some ⟨g, 0, none⟩) (l.length + s.length) cap) (l ++ s) [(g, cellsOf (cur.take l.length ++ Lib.byteCells s ++ cur.drop (l.length + s.length)) 5)] := by
  refine .inr ⟨by simp [hs], g, cap, _, by rw [List.length_append], rfl, by rw [List.length_append]; exact h1, h2, ?_, ?_⟩
  · simp only [List.length_append, List.length_take, List.length_drop, Lib.byteCells_length]; omega
  · rw [h4]
    have e1 : Lib.byteCells (l ++ s) = Lib.byteCells l ++ Lib.byteCells s := by simp [Lib.byteCells]
    rw [e1, List.take_left' (by simp [Lib.byteCells_length])]

theorem p_slice_lo_end {L : Eng.Loc} {H : Heap} {x : Operand} {t ty e : TypeId} {r off a sz : Nat} {lo : Operand} (ht : Tryz.prog.underlying t = some (.slice e)) (hs : ∀ w, (sizeOf e).run Tryz.prog w = .ok sz w)
    (hx : ev L x = some (.slice (some ⟨r, off, none⟩) (a + 0) a)) (hlo : ev L lo = some (.int .i64 a)) :
    Pure1 Tryz.prog L H (.slice t x (some lo) none none) ty (.slice (some ⟨r, off, none⟩) 0 0) := by
  intro ρ w o hρ _ ho _
  simp [execOp, ho, hρ _ _ hx, hρ _ _ hlo, Instr.sliceAt, Instr.slice, underlying, ht, Instr.sliceBounds, Instr.sliceBound, asIntOf, hs]

/-- WriteString of any text behind some bytes. -/
theorem writeAny_tr (b : Nat) (v : Value) (l : List UInt8) (R : Blk) (lr : Int) (s : List UInt8) (hR : BRow v l R) (hl : l ≠ []) (hlim : l.length + s.length ≤ 1000000000) :
    Tr Tryz.prog 231 [lp b, str s] [bufb b v lr, R] fun u K => u = .tuple #[inat s.length, .nilIface] ∧ ∃ v' R', BRow v' (l ++ s) R' ∧ K = [bufb b v' 0, R'] := by
  rcases hR with ⟨rfl, rfl, rfl⟩ | ⟨_, g, cap, cur, rfl, rfl, k1, k2, k3, k4⟩
  · exact absurd rfl hl
  · have hl1 : 1 ≤ l.length := by cases l with | nil => exact absurd rfl hl | cons _ _ => simp
    by_cases hs0 : s = []
    · subst hs0
      have hb : BRow (.slice (some ⟨g, 0, none⟩) (l.length + 0) cap) (l ++ []) [(g, cellsOf cur 5)] := by rw [List.append_nil]; exact .inr ⟨hl, g, cap, cur, rfl, rfl, k1, k2, k3, k4⟩
      by_cases hc : l.length < cap
      · have e : cur.take (0 + l.length * 1) ++ Lib.byteCells [] ++ cur.drop (0 + l.length * 1 + ([] : List UInt8).length) = cur := by simp [Lib.byteCells]
        refine Tr.start (n := 32) (rs := [.tmp 4, .tmp 5]) rfl rfl rfl rfl fun B => ?_
        (repeat' (first | refine s_callD (tryGrow_yes b 0 l.length cap (some ⟨g, 0, none⟩) 0 (by omega) k2) ?_ | refine k_seq ?_ | refine k_region ?_ | refine k_nil ?_ | refine k_then ?_ | refine k_false ?_ | refine k_skip ?_ | refine s_move ?_ | refine s_assign ?_ | refine s_load ?_ | refine s_field ?_ | refine s_nilp ?_ | refine s_lens ?_ | refine s_ext ?_ | refine s_slicelo ?_ | refine s_nott ?_ | refine s_store ?_))
        refine s_copystr (g := g) (off := 0 + l.length * 1) (m := l.length + 0 - l.length) (l := []) (cur := cur) (by kernel_rfl) (Nat.zero_le _) (by simp only [List.length_nil]; omega) ?_
        rw [e]
        (repeat' (first | refine k_nil ?_ | refine k_then ?_ | refine k_ret ?_ | refine s_assign ?_))
        exact e_ret _ ⟨rfl, _, _, hb, rfl⟩ (by repeat (first | exact SubH.nilR _ | refine SubH.pick (by repeat (first | exact HTake.here | apply HTake.there)) ?_))
      · have e : cur.take 0 ++ Lib.byteCells [] ++ cur.drop (0 + ([] : List UInt8).length) = cur := by simp [Lib.byteCells]
        have hcap : cap = l.length := by omega
        subst hcap
        refine Tr.start (n := 32) (rs := [.tmp 4, .tmp 5]) rfl rfl rfl rfl fun B => ?_
        (repeat' (first | refine s_callD (tryGrow_yes b 0 l.length l.length (some ⟨g, 0, none⟩) 0 (by omega) k2) ?_ | refine k_seq ?_ | refine k_region ?_ | refine k_nil ?_ | refine k_then ?_ | refine k_false ?_ | refine k_skip ?_ | refine s_move ?_ | refine s_assign ?_ | refine s_load ?_ | refine s_field ?_ | refine s_nilp ?_ | refine s_lens ?_ | refine s_ext ?_ | refine s_nott ?_ | refine s_store ?_))
        refine Ops.pure _ (p_slice_lo_end (a := l.length) USlice.out Siz.out (by rfl) (by rfl)) (by rfl) ?_
        (repeat' (first | refine s_move ?_))
        refine s_copystr (g := g) (off := 0) (m := 0) (l := []) (cur := cur) (by kernel_rfl) (Nat.zero_le _) (by simp only [List.length_nil]; omega) ?_
        rw [e]
        (repeat' (first | refine k_nil ?_ | refine k_then ?_ | refine k_ret ?_ | refine s_assign ?_))
        exact e_ret _ ⟨rfl, _, _, hb, rfl⟩ (by repeat (first | exact SubH.nilR _ | refine SubH.pick (by repeat (first | exact HTake.here | apply HTake.there)) ?_))
    have hsl : 1 ≤ s.length := List.length_pos_iff.2 hs0
    by_cases hroom : l.length + s.length ≤ cap
    · have hw := BRow.wroteA (g := g) (s := s) hl hroom k2 k3 k4
      refine Tr.start (n := 32) (rs := [.tmp 4, .tmp 5]) rfl rfl rfl rfl fun B => ?_
      (repeat' (first | refine s_callD (tryGrow_yes b s.length l.length cap (some ⟨g, 0, none⟩) 0 hroom k2) ?_ | refine k_seq ?_ | refine k_region ?_ | refine k_nil ?_ | refine k_then ?_ | refine k_false ?_ | refine k_skip ?_ | refine s_move ?_ | refine s_assign ?_ | refine s_load ?_ | refine s_field ?_ | refine s_nilp ?_ | refine s_lens ?_ | refine s_ext ?_ | refine s_slicelo ?_ | refine s_nott ?_ | refine s_store ?_))
      refine s_copystr (g := g) (off := 0 + l.length * 1) (m := l.length + s.length - l.length) (l := s) (cur := cur) (by kernel_rfl) (by omega) (by omega) ?_
      (repeat' (first | refine k_nil ?_ | refine k_then ?_ | refine k_ret ?_ | refine s_assign ?_))
      refine e_ret _ ⟨rfl, _, _, hw, rfl⟩ ?_
      simp only [Nat.zero_add, Nat.mul_one]
      exact (by repeat (first | exact SubH.nilR _ | refine SubH.pick (by repeat (first | exact HTake.here | apply HTake.there)) ?_))
    · have hs1 : 1 ≤ s.length := by omega
      refine Tr.start (n := 32) (rs := [.tmp 4, .tmp 5]) rfl rfl rfl rfl fun B => ?_
      (repeat' (first | refine s_callD (tryGrow_no b s.length l.length cap (some ⟨g, 0, none⟩) 0 k1 hroom k2) ?_ | refine k_seq ?_ | refine k_region ?_ | refine k_nil ?_ | refine k_then ?_ | refine k_true ?_ | refine s_move ?_ | refine s_assign ?_ | refine s_field ?_ | refine s_nilp ?_ | refine s_lens ?_ | refine s_ext ?_ | refine s_notf ?_ | refine s_store ?_))
      refine s_call (grow_row b g l.length cap s.length cur 0 k3 hl1 k1 hs1 hroom (by omega) (by rw [k4]; exact byte_ones l)) (fun u K hR => ?_)
      obtain ⟨rfl, g2, cap2, cur2, e1, e2, e3, e4, rfl⟩ := hR
      have hw := BRow.wroteA (g := g2) (s := s) hl e3 e4 e1 (e2.trans k4)
      (repeat' (first | refine k_seq ?_ | refine k_region ?_ | refine k_nil ?_ | refine k_then ?_ | refine s_move ?_ | refine s_assign ?_ | refine s_load ?_ | refine s_field ?_ | refine s_nilp ?_ | refine s_slicelo ?_))
      refine s_copystr (g := g2) (off := 0 + l.length * 1) (m := l.length + s.length - l.length) (l := s) (cur := cur2) (by kernel_rfl) (by omega) (by omega) ?_
      (repeat' (first | refine k_nil ?_ | refine k_then ?_ | refine k_ret ?_ | refine s_assign ?_))
      refine e_ret _ ⟨rfl, _, _, hw, rfl⟩ ?_
      simp only [Nat.zero_add, Nat.mul_one]
      exact (by repeat (first | exact SubH.nilR _ | refine SubH.pick (by repeat (first | exact HTake.here | apply HTake.there)) ?_))

theorem bufString_nil (b : Nat) (lr : Int) : TrD Tryz.prog 21 [lp b] [bufb b (.slice none 0 0) lr] (str []) [bufb b (.slice none 0 0) lr] := by
  refine Tr.start (n := 15) (rs := [.tmp 2]) rfl rfl rfl rfl fun B => ?_
  (repeat' (first | refine Wp.draw_all (id := 3) Mixed.out (by kernel_rfl) ?_ | refine k_seq ?_ | refine k_region ?_ | refine k_nil ?_ | refine k_then ?_ | refine k_false ?_ | refine k_skip ?_ | refine s_move ?_ | refine s_assign ?_ | refine s_eqp1 ?_ | refine u_move ?_ | refine u_load ?_ | refine u_field ?_ | refine u_nilp ?_))
  refine OpsS.pure _ (p_slice_lo_nil USlice.out Siz.out (by rfl) (by rfl)) (by rfl) ?_
  refine OpsS.pure _ (p_nil_str Tryz.underlying40 Tryz.underlying5 Tryz.underlying9 (by rfl)) (by rfl) ?_
  (repeat' (first | refine k_nil ?_ | refine k_then ?_ | refine k_ret ?_ | refine u_nil ?_ | refine u_assign ?_))
  exact e_ret _ ⟨rfl, rfl⟩ (by repeat (first | exact SubH.nilR _ | refine SubH.pick (by repeat (first | exact HTake.here | apply HTake.there)) ?_))

theorem replaceEsc_tr (g : Nat) (s : List UInt8) (hlim : 6 * s.length ≤ 1000000) :
    Tr Tryz.prog 251 [.slice (some ⟨g, 0, none⟩) 8 8, str s] [escRow g] fun u K => u = str (escH s) ∧ K = [] := by
  refine Tr.start (n := 10) (rs := [.tmp 4]) rfl rfl rfl rfl fun B => ?_
  (repeat' (first | refine k_seq ?_ | refine k_region ?_ | refine k_nil ?_ | refine k_then ?_ | refine s_move ?_ | refine s_assign ?_ | refine s_alloc (fun _ => ?_)))
  rename_i b
  refine s_nilblk ?_
  refine s_call (pairsWrite_tr g b (.slice none 0 0) [] [] 0 s BRow.nil (by simp; omega)) (fun u K hR => ?_)
  obtain ⟨rfl, v', R', lr', h9, rfl⟩ := hR
  rw [List.nil_append] at h9
  by_cases hn : escH s = []
  · rw [hn] at h9 ⊢
    rcases h9 with ⟨_, rfl, rfl⟩ | ⟨h, _⟩
    · (repeat' (first | refine s_callD (bufString_nil b lr') ?_ | refine k_seq ?_ | refine k_region ?_ | refine k_nil ?_ | refine k_then ?_ | refine k_ret ?_ | refine s_assign ?_))
      exact e_ret [] ⟨rfl, rfl⟩ (by repeat (first | exact SubH.nilR _ | refine SubH.pick (by repeat (first | exact HTake.here | apply HTake.there)) ?_))
    · exact absurd rfl h
  · (repeat' (first | refine s_callD (bufString_tr b v' (escH s) R' lr' h9 hn) ?_ | refine k_seq ?_ | refine k_region ?_ | refine k_nil ?_ | refine k_then ?_ | refine k_ret ?_ | refine s_assign ?_))
    exact e_ret [] ⟨rfl, rfl⟩ (by repeat (first | exact SubH.nilR _ | refine SubH.pick (by repeat (first | exact HTake.here | apply HTake.there)) ?_))

theorem flat_take (ls : List (List UInt8)) (j : Nat) : ((ls.take j).flatMap (fun l => escH l ++ [10])).length ≤ (ls.flatMap (fun l => escH l ++ [10])).length := by
  conv => rhs; rw [← List.take_append_drop j ls]
  rw [List.flatMap_append, List.length_append]; omega

/-- The HTML of a block of code. -/
theorem codeHTML_tr (q a e K b : Nat) (ia : Option Addr) (ic : Nat) (ls : List (List UInt8)) (Bt : Blk) (hT : Strs (.slice ia ls.length ic) ls Bt) (hK : 1 ≤ K) (hK2 : K ≤ 10000) (hll : ls.length ≤ 1000000) (hs : ∀ l ∈ ls, l.length ≤ 10000) (hlim : (ls.flatMap (fun l => escH l ++ [10])).length ≤ 100000000) :
    Tr Tryz.prog 321 [lp q, lp b] [cdb q a e K (.slice ia ls.length ic), Bt, bufb b (.slice none 0 0) 0, []] fun u K' => u = unit ∧ ∃ v' R' lr', BRow v' (codeOut ls) R' ∧ K' = [bufb b v' lr', R'] := by
  have hne : ¬ tildes K = [] := by intro h; have := congrArg List.length h; rw [tildes_len] at this; simp at this; omega
  refine Tr.start (n := 115) (rs := []) rfl rfl rfl rfl fun B => ?_
  (repeat' (first | refine s_callD (bufLen_tr b 0 0 none 0 (by omega)) ?_ | refine k_seq ?_ | refine k_region ?_ | refine k_nil ?_ | refine k_then ?_ | refine k_false ?_ | refine k_skip ?_ | refine s_gskipt ?_ | refine s_move ?_ | refine s_gtr_f ?_ | refine s_pickf ?_))
  refine s_call (writeString_tr b (.slice none 0 0) [] [] 0 [60, 112, 114, 101, 62, 60, 99, 111, 100, 101] BRow.nil (by simp) (by simp) (by simp)) (fun u K' hR => ?_)
  obtain ⟨rfl, v1, R1, h1, rfl⟩ := hR
  (repeat' (first | refine k_seq ?_ | refine k_region ?_ | refine k_nil ?_ | refine k_then ?_ | refine k_false ?_ | refine k_skip ?_ | refine s_move ?_ | refine s_load ?_ | refine s_field ?_ | refine s_nilp ?_ | refine s_nes_f ?_))
  refine s_call (writeString_tr b v1 _ R1 0 [62] h1 (by simp) (by simp) (by simp)) (fun u K' hR => ?_)
  obtain ⟨rfl, v2, R2, h2, rfl⟩ := hR
  (repeat' (first | refine k_seq ?_ | refine k_region ?_ | refine k_nil ?_ | refine k_then ?_ | refine k_false ?_ | refine k_blk ?_ | refine k_skip ?_ | refine s_move ?_ | refine s_load ?_ | refine s_field ?_ | refine s_nilp ?_ | refine s_len ?_ | refine s_eqs_f ?_))
  refine k_loop (fun x : PW => [(1, lp b), (99, .slice ia ls.length ic), (100, inat ls.length), (101, inat x.j)]) (fun x => [Bt, bufb b x.v x.lr, x.R])
    (fun x => x.j ≤ ls.length ∧ BRow x.v ([60, 112, 114, 101, 62, 60, 99, 111, 100, 101, 62] ++ (ls.take x.j).flatMap (fun l => escH l ++ [10])) x.R) (fun x => ls.length - x.j) ⟨0, v2, R2, 0⟩ ⟨Nat.zero_le _, by simpa using h2⟩ (Knows.spec (by repeat (first | exact trivial | refine ⟨rfl, ?_⟩))) (by repeat (first | exact SubH.nilR _ | refine SubH.pick (by repeat (first | exact HTake.here | apply HTake.there)) ?_)) fun x hx => ?_
  obtain ⟨j, v, R, lr⟩ := x
  obtain ⟨x1, x2⟩ := hx
  simp only at x1 x2 ⊢
  by_cases hj : j < ls.length
  · have hxj : ls[j]? = some ls[j] := List.getElem?_eq_getElem hj
    generalize ls[j] = s at hxj
    have hsl := hs s (List.mem_of_getElem? hxj)
    have htk : (ls.take (j + 1)).flatMap (fun l => escH l ++ [10]) = (ls.take j).flatMap (fun l => escH l ++ [10]) ++ escH s ++ [10] := by
      rw [List.take_add_one, hxj]; simp
    have hfl := flat_take ls j
    have hel := escH_len s
    have hT' : Own 9 1 (.slice ia ls.length ic) (ls.length - 1 + 1) (ls.map str) Bt := by rw [show ls.length - 1 + 1 = ls.length by omega]; exact hT
    obtain ⟨g, cap, cur, e1, rfl, k1, k2, k3, k4⟩ := hT'.pos
    injection e1 with e1 e2 e3
    subst e1 e3
    have hc : cur[0 + j * 1]? = some (str s) := by
      have h0 : (ls.map str)[j]? = some (str s) := by rw [List.getElem?_map, hxj]; rfl
      rw [show 0 + j * 1 = j by omega, ← h0, ← k4, List.getElem?_take, if_pos (by omega)]
    (repeat' (first | refine s_load (hc := hc) ?_ | refine k_seq ?_ | refine k_region ?_ | refine k_nil ?_ | refine k_then ?_ | refine k_true ?_ | refine k_blk ?_ | refine k_skip ?_ | refine s_move ?_ | refine s_assign ?_ | refine s_lss_t ?_ | refine s_idxa ?_))
    refine s_call htmlEscaper_tr (fun u K' hR => ?_)
    obtain ⟨ge, rfl, rfl⟩ := hR
    (repeat' (first | refine s_move ?_))
    refine s_call (replaceEsc_tr ge s (by omega)) (fun u K' hR => ?_)
    obtain ⟨rfl, rfl⟩ := hR
    skip
    refine s_call (writeAny_tr b v _ R lr (escH s) x2 (by simp) (by simp only [List.length_append, List.length_cons, List.length_nil]; omega)) (fun u K' hR => ?_)
    obtain ⟨rfl, v3, R3, h3, rfl⟩ := hR
    (repeat' (first | refine k_region ?_ | refine k_nil ?_ | refine k_then ?_ | refine s_move ?_))
    refine s_call (writeAny_tr b v3 _ R3 0 [10] h3 (by simp) (by simp only [List.length_append, List.length_cons, List.length_nil]; omega)) (fun u K' hR => ?_)
    obtain ⟨rfl, v4, R4, h4, rfl⟩ := hR
    (repeat' (first | refine k_region ?_ | refine k_nil ?_ | refine k_then ?_ | refine k_block ?_ | refine s_move ?_ | refine s_add1 ?_))
    exact ⟨⟨j + 1, v4, R4, 0⟩, (Knows.spec (by repeat (first | exact trivial | refine ⟨rfl, ?_⟩))), (by repeat (first | exact SubH.nilR _ | refine SubH.pick (by repeat (first | exact HTake.here | apply HTake.there)) ?_)), ⟨by simp only; omega, by simp only; rw [htk]; simpa only [List.append_assoc] using h4⟩, by simp only; omega⟩
  · have : j = ls.length := by omega
    subst this
    rw [List.take_length] at x2
    (repeat' (first | refine k_seq ?_ | refine k_region ?_ | refine k_nil ?_ | refine k_then ?_ | refine k_false ?_ | refine k_exit ?_ | refine k_exit_then ?_ | refine k_hit ?_ | refine s_move ?_ | refine s_lss_f ?_))
    refine s_call (writeString_tr b v _ R lr [60, 47, 99, 111, 100, 101, 62, 60, 47, 112, 114, 101, 62, 10] x2 (by simp) (by simp) (by simp only [List.length_append, List.length_cons, List.length_nil]; omega)) (fun u K' hR => ?_)
    obtain ⟨rfl, v3, R3, h3, rfl⟩ := hR
    (repeat' (first | refine k_nil ?_))
    exact e_norm _ ⟨rfl, v3, R3, 0, h3, rfl⟩ (by repeat (first | exact SubH.nilR _ | refine SubH.pick (by repeat (first | exact HTake.here | apply HTake.there)) ?_))
end Go.Proofs

/- WriteString of any text, Replace of the escaper, and PrintHTML of a block of code. Conditions: bounds on the length. parse of a text of lines. Conditions: a contract of inline for this text, and how the line begins. -/
import Derived.Test.YthmgajolaekpdaaGreatDoorT07
import Derived.Test.YthmgajolaekpdaaGreatDoorT04
import Derived.Test.YthmgajolaekpdaaGreatDoorEngB
namespace Go.Proofs
open Go Go.Eng
set_option maxRecDepth 20000
set_option maxHeartbeats 4000000

theorem BRow.wroteA {g cap : Nat} {cur : List Value} {l s : List UInt8} (hs : l ≠ []) (h1 : l.length + s.length ≤ cap) (h2 : cap ≤ 9223372036854775807) (h3 : cur.length = cap) (h4 : cur.take l.length = Lib.byteCells l) :
    BRow (.slice (some ⟨g, 0, none⟩) (l.length + s.length) cap) (l ++ s) [(g, cellsOf (cur.take l.length ++ Lib.byteCells s ++ cur.drop (l.length + s.length)) 5)] := by
  refine .inr ⟨by simp [hs], g, cap, _, by rw [List.length_append], rfl, by rw [List.length_append]; exact h1, h2, ?_, ?_⟩
  · simp only [List.length_append, List.length_take, List.length_drop, Lib.byteCells_length]; omega
  · rw [h4]
    have e1 : Lib.byteCells (l ++ s) = Lib.byteCells l ++ Lib.byteCells s := by simp [Lib.byteCells]
    rw [e1, List.take_left' (by simp [Lib.byteCells_length])]

theorem p_slice_lo_end {L : Eng.Loc} {H : Heap} {x : Operand} {t ty e : TypeId} {r off a sz : Nat} {lo : Operand} (ht : Tryz.prog.underlying t = some (.slice e)) (hs : ∀ w, (sizeOf e).run Tryz.prog w = .ok sz w)
    (hx : ev L x = some (.slice (some ⟨r, off, none⟩) (a + 0) a)) (hlo : ev L lo = some (.int .i64 a)) :
    Pure1 Tryz.prog L H (.slice t x (some lo) none none) ty (.slice (some ⟨r, off, none⟩) 0 0) := by
  intro ρ w o hρ _ ho _
  simp [execOp, ho, hρ _ _ hx, hρ _ _ hlo, Instr.sliceAt, Instr.slice, underlying, ht, Instr.sliceBounds, Instr.sliceBound, asIntOf, hs]

/-- WriteString of any text behind some bytes. -/
theorem writeAny_tr (b : Nat) (v : Value) (l : List UInt8) (R : Blk) (lr : Int) (s : List UInt8) (hR : BRow v l R) (hl : l ≠ []) (hlim : l.length + s.length ≤ 1000000000) :
    Tr Tryz.prog 238 [lp b, str s] [bufb b v lr, R] fun u K => u = .tuple #[inat s.length, .nilIface] ∧ ∃ v' R', BRow v' (l ++ s) R' ∧ K = [bufb b v' 0, R'] := by
  rcases hR with ⟨rfl, rfl, rfl⟩ | ⟨_, g, cap, cur, rfl, rfl, k1, k2, k3, k4⟩
  · exact absurd rfl hl
  · have hl1 : 1 ≤ l.length := by cases l with | nil => exact absurd rfl hl | cons _ _ => simp
    by_cases hs0 : s = []
    · subst hs0
      have hb : BRow (.slice (some ⟨g, 0, none⟩) (l.length + 0) cap) (l ++ []) [(g, cellsOf cur 5)] := by rw [List.append_nil]; exact .inr ⟨hl, g, cap, cur, rfl, rfl, k1, k2, k3, k4⟩
      by_cases hc : l.length < cap
      · have e : cur.take (0 + l.length * 1) ++ Lib.byteCells [] ++ cur.drop (0 + l.length * 1 + ([] : List UInt8).length) = cur := by simp [Lib.byteCells]
        refine Tr.start (n := 32) (rs := [.tmp 4, .tmp 5]) rfl rfl rfl rfl fun B => ?_
        (repeat' (first | refine s_callD (tryGrow_yes b 0 l.length cap (some ⟨g, 0, none⟩) 0 (by omega) k2) ?_ | refine k_seq ?_ | refine k_region ?_ | refine k_nil ?_ | refine k_then ?_ | refine k_false ?_ | refine k_skip ?_ | refine s_move ?_ | refine s_assign ?_ | refine s_load ?_ | refine s_field ?_ | refine s_nilp ?_ | refine s_lens ?_ | refine s_ext ?_ | refine s_slicelo ?_ | refine s_nott ?_ | refine s_store ?_))
        refine s_copystr (g := g) (off := 0 + l.length * 1) (m := l.length + 0 - l.length) (l := []) (cur := cur) (by kernel_rfl) (Nat.zero_le _) (by simp only [List.length_nil]; omega) ?_
        rw [e]
        (repeat' (first | refine k_nil ?_ | refine k_then ?_ | refine k_ret ?_ | refine s_assign ?_))
        exact e_ret _ ⟨rfl, _, _, hb, rfl⟩ (by repeat (first | exact SubH.nilR _ | refine SubH.pick (by repeat (first | exact HTake.here | apply HTake.there)) ?_))
      · have e : cur.take 0 ++ Lib.byteCells [] ++ cur.drop (0 + ([] : List UInt8).length) = cur := by simp [Lib.byteCells]
        have hcap : cap = l.length := by omega
        subst hcap
        refine Tr.start (n := 32) (rs := [.tmp 4, .tmp 5]) rfl rfl rfl rfl fun B => ?_
        (repeat' (first | refine s_callD (tryGrow_yes b 0 l.length l.length (some ⟨g, 0, none⟩) 0 (by omega) k2) ?_ | refine k_seq ?_ | refine k_region ?_ | refine k_nil ?_ | refine k_then ?_ | refine k_false ?_ | refine k_skip ?_ | refine s_move ?_ | refine s_assign ?_ | refine s_load ?_ | refine s_field ?_ | refine s_nilp ?_ | refine s_lens ?_ | refine s_ext ?_ | refine s_nott ?_ | refine s_store ?_))
        refine Ops.pure _ (p_slice_lo_end (a := l.length) USlice.out Siz.out (by rfl) (by rfl)) (by rfl) ?_
        (repeat' (first | refine s_move ?_))
        refine s_copystr (g := g) (off := 0) (m := 0) (l := []) (cur := cur) (by kernel_rfl) (Nat.zero_le _) (by simp only [List.length_nil]; omega) ?_
        rw [e]
        (repeat' (first | refine k_nil ?_ | refine k_then ?_ | refine k_ret ?_ | refine s_assign ?_))
        exact e_ret _ ⟨rfl, _, _, hb, rfl⟩ (by repeat (first | exact SubH.nilR _ | refine SubH.pick (by repeat (first | exact HTake.here | apply HTake.there)) ?_))
    have hsl : 1 ≤ s.length := List.length_pos_iff.2 hs0
    by_cases hroom : l.length + s.length ≤ cap
    · have hw := BRow.wroteA (g := g) (s := s) hl hroom k2 k3 k4
      refine Tr.start (n := 32) (rs := [.tmp 4, .tmp 5]) rfl rfl rfl rfl fun B => ?_
      (repeat' (first | refine s_callD (tryGrow_yes b s.length l.length cap (some ⟨g, 0, none⟩) 0 hroom k2) ?_ | refine k_seq ?_ | refine k_region ?_ | refine k_nil ?_ | refine k_then ?_ | refine k_false ?_ | refine k_skip ?_ | refine s_move ?_ | refine s_assign ?_ | refine s_load ?_ | refine s_field ?_ | refine s_nilp ?_ | refine s_lens ?_ | refine s_ext ?_ | refine s_slicelo ?_ | refine s_nott ?_ | refine s_store ?_))
      refine s_copystr (g := g) (off := 0 + l.length * 1) (m := l.length + s.length - l.length) (l := s) (cur := cur) (by kernel_rfl) (by omega) (by omega) ?_
      (repeat' (first | refine k_nil ?_ | refine k_then ?_ | refine k_ret ?_ | refine s_assign ?_))
      refine e_ret _ ⟨rfl, _, _, hw, rfl⟩ ?_
      simp only [Nat.zero_add, Nat.mul_one]
      exact (by repeat (first | exact SubH.nilR _ | refine SubH.pick (by repeat (first | exact HTake.here | apply HTake.there)) ?_))
    · have hs1 : 1 ≤ s.length := by omega
      refine Tr.start (n := 32) (rs := [.tmp 4, .tmp 5]) rfl rfl rfl rfl fun B => ?_
      (repeat' (first | refine s_callD (tryGrow_no b s.length l.length cap (some ⟨g, 0, none⟩) 0 k1 hroom k2) ?_ | refine k_seq ?_ | refine k_region ?_ | refine k_nil ?_ | refine k_then ?_ | refine k_true ?_ | refine s_move ?_ | refine s_assign ?_ | refine s_field ?_ | refine s_nilp ?_ | refine s_lens ?_ | refine s_ext ?_ | refine s_notf ?_ | refine s_store ?_))
      refine s_call (grow_row b g l.length cap s.length cur 0 k3 hl1 k1 hs1 hroom (by omega) (by rw [k4]; exact byte_ones l)) (fun u K hR => ?_)
      obtain ⟨rfl, g2, cap2, cur2, e1, e2, e3, e4, rfl⟩ := hR
      have hw := BRow.wroteA (g := g2) (s := s) hl e3 e4 e1 (e2.trans k4)
      (repeat' (first | refine k_seq ?_ | refine k_region ?_ | refine k_nil ?_ | refine k_then ?_ | refine s_move ?_ | refine s_assign ?_ | refine s_load ?_ | refine s_field ?_ | refine s_nilp ?_ | refine s_slicelo ?_))
      refine s_copystr (g := g2) (off := 0 + l.length * 1) (m := l.length + s.length - l.length) (l := s) (cur := cur2) (by kernel_rfl) (by omega) (by omega) ?_
      (repeat' (first | refine k_nil ?_ | refine k_then ?_ | refine k_ret ?_ | refine s_assign ?_))
      refine e_ret _ ⟨rfl, _, _, hw, rfl⟩ ?_
      simp only [Nat.zero_add, Nat.mul_one]
      exact (by repeat (first | exact SubH.nilR _ | refine SubH.pick (by repeat (first | exact HTake.here | apply HTake.there)) ?_))

theorem bufString_nil (b : Nat) (lr : Int) : TrD Tryz.prog 34 [lp b] [bufb b (.slice none 0 0) lr] (str []) [bufb b (.slice none 0 0) lr] := by
  refine Tr.start (n := 15) (rs := [.tmp 2]) rfl rfl rfl rfl fun B => ?_
  (repeat' (first | refine Wp.draw_all (id := 3) Mixed.out (by kernel_rfl) ?_ | refine k_seq ?_ | refine k_region ?_ | refine k_nil ?_ | refine k_then ?_ | refine k_false ?_ | refine k_skip ?_ | refine s_move ?_ | refine s_assign ?_ | refine s_eqp1 ?_ | refine u_move ?_ | refine u_load ?_ | refine u_field ?_ | refine u_nilp ?_))
  refine OpsS.pure _ (p_slice_lo_nil USlice.out Siz.out (by rfl) (by rfl)) (by rfl) ?_
  refine OpsS.pure _ (p_nil_str Tryz.underlying30 Tryz.underlying5 Tryz.underlying9 (by rfl)) (by rfl) ?_
  (repeat' (first | refine k_nil ?_ | refine k_then ?_ | refine k_ret ?_ | refine u_nil ?_ | refine u_assign ?_))
  exact e_ret _ ⟨rfl, rfl⟩ (by repeat (first | exact SubH.nilR _ | refine SubH.pick (by repeat (first | exact HTake.here | apply HTake.there)) ?_))

theorem replaceEsc_tr (g : Nat) (s : List UInt8) (hlim : 6 * s.length ≤ 1000000) :
    Tr Tryz.prog 258 [.slice (some ⟨g, 0, none⟩) 8 8, str s] [escRow g] fun u K => u = str (escH s) ∧ K = [] := by
  refine Tr.start (n := 10) (rs := [.tmp 4]) rfl rfl rfl rfl fun B => ?_
  (repeat' (first | refine k_seq ?_ | refine k_region ?_ | refine k_nil ?_ | refine k_then ?_ | refine s_move ?_ | refine s_assign ?_ | refine s_alloc (fun _ => ?_)))
  rename_i b
  refine s_nilblk ?_
  refine s_call (pairsWrite_tr g b (.slice none 0 0) [] [] 0 s BRow.nil (by simp; omega)) (fun u K hR => ?_)
  obtain ⟨rfl, v', R', lr', h9, rfl⟩ := hR
  rw [List.nil_append] at h9
  by_cases hn : escH s = []
  · rw [hn] at h9 ⊢
    rcases h9 with ⟨_, rfl, rfl⟩ | ⟨h, _⟩
    · (repeat' (first | refine s_callD (bufString_nil b lr') ?_ | refine k_seq ?_ | refine k_region ?_ | refine k_nil ?_ | refine k_then ?_ | refine k_ret ?_ | refine s_assign ?_))
      exact e_ret [] ⟨rfl, rfl⟩ (by repeat (first | exact SubH.nilR _ | refine SubH.pick (by repeat (first | exact HTake.here | apply HTake.there)) ?_))
    · exact absurd rfl h
  · (repeat' (first | refine s_callD (bufString_tr b v' (escH s) R' lr' h9 hn) ?_ | refine k_seq ?_ | refine k_region ?_ | refine k_nil ?_ | refine k_then ?_ | refine k_ret ?_ | refine s_assign ?_))
    exact e_ret [] ⟨rfl, rfl⟩ (by repeat (first | exact SubH.nilR _ | refine SubH.pick (by repeat (first | exact HTake.here | apply HTake.there)) ?_))

theorem flat_take (ls : List (List UInt8)) (j : Nat) : ((ls.take j).flatMap (fun l => escH l ++ [10])).length ≤ (ls.flatMap (fun l => escH l ++ [10])).length := by
  conv => rhs; rw [← List.take_append_drop j ls]
  rw [List.flatMap_append, List.length_append]; omega

/-- The HTML of a block of code. -/
theorem codeHTML_tr (q a e K b : Nat) (ia : Option Addr) (ic : Nat) (ls : List (List UInt8)) (Bt : Blk) (hT : Strs (.slice ia ls.length ic) ls Bt) (hK : 1 ≤ K) (hK2 : K ≤ 10000) (hll : ls.length ≤ 1000000) (hs : ∀ l ∈ ls, l.length ≤ 10000) (hlim : (ls.flatMap (fun l => escH l ++ [10])).length ≤ 100000000) :
    Tr Tryz.prog 328 [lp q, lp b] [cdb q a e K (.slice ia ls.length ic), Bt, bufb b (.slice none 0 0) 0, []] fun u K' => u = unit ∧ ∃ v' R' lr', BRow v' (codeOut ls) R' ∧ K' = [bufb b v' lr', R'] := by
  have hne : ¬ tildes K = [] := by intro h; have := congrArg List.length h; rw [tildes_len] at this; simp at this; omega
  refine Tr.start (n := 115) (rs := []) rfl rfl rfl rfl fun B => ?_
  (repeat' (first | refine s_callD (bufLen_tr b 0 0 none 0 (by omega)) ?_ | refine k_seq ?_ | refine k_region ?_ | refine k_nil ?_ | refine k_then ?_ | refine k_false ?_ | refine k_skip ?_ | refine s_gskipt ?_ | refine s_move ?_ | refine s_gtr_f ?_ | refine s_pickf ?_))
  refine s_call (writeString_tr b (.slice none 0 0) [] [] 0 [60, 112, 114, 101, 62, 60, 99, 111, 100, 101] BRow.nil (by simp) (by simp) (by simp)) (fun u K' hR => ?_)
  obtain ⟨rfl, v1, R1, h1, rfl⟩ := hR
  (repeat' (first | refine k_seq ?_ | refine k_region ?_ | refine k_nil ?_ | refine k_then ?_ | refine k_false ?_ | refine k_skip ?_ | refine s_move ?_ | refine s_load ?_ | refine s_field ?_ | refine s_nilp ?_ | refine s_nes_f ?_))
  refine s_call (writeString_tr b v1 _ R1 0 [62] h1 (by simp) (by simp) (by simp)) (fun u K' hR => ?_)
  obtain ⟨rfl, v2, R2, h2, rfl⟩ := hR
  (repeat' (first | refine k_seq ?_ | refine k_region ?_ | refine k_nil ?_ | refine k_then ?_ | refine k_false ?_ | refine k_blk ?_ | refine k_skip ?_ | refine s_move ?_ | refine s_load ?_ | refine s_field ?_ | refine s_nilp ?_ | refine s_len ?_ | refine s_eqs_f ?_))
  refine k_loop (fun x : PW => [(1, lp b), (99, .slice ia ls.length ic), (100, inat ls.length), (101, inat x.j)]) (fun x => [Bt, bufb b x.v x.lr, x.R])
    (fun x => x.j ≤ ls.length ∧ BRow x.v ([60, 112, 114, 101, 62, 60, 99, 111, 100, 101, 62] ++ (ls.take x.j).flatMap (fun l => escH l ++ [10])) x.R) (fun x => ls.length - x.j) ⟨0, v2, R2, 0⟩ ⟨Nat.zero_le _, by simpa using h2⟩ (Knows.spec (by repeat (first | exact trivial | refine ⟨rfl, ?_⟩))) (by repeat (first | exact SubH.nilR _ | refine SubH.pick (by repeat (first | exact HTake.here | apply HTake.there)) ?_)) fun x hx => ?_
  obtain ⟨j, v, R, lr⟩ := x
  obtain ⟨x1, x2⟩ := hx
  simp only at x1 x2 ⊢
  by_cases hj : j < ls.length
  · have hxj : ls[j]? = some ls[j] := List.getElem?_eq_getElem hj
    generalize ls[j] = s at hxj
    have hsl := hs s (List.mem_of_getElem? hxj)
    have htk : (ls.take (j + 1)).flatMap (fun l => escH l ++ [10]) = (ls.take j).flatMap (fun l => escH l ++ [10]) ++ escH s ++ [10] := by
      rw [List.take_add_one, hxj]; simp
    have hfl := flat_take ls j
    have hel := escH_len s
    have hT' : Own 9 1 (.slice ia ls.length ic) (ls.length - 1 + 1) (ls.map str) Bt := by rw [show ls.length - 1 + 1 = ls.length by omega]; exact hT
    obtain ⟨g, cap, cur, e1, rfl, k1, k2, k3, k4⟩ := hT'.pos
    injection e1 with e1 e2 e3
    subst e1 e3
    have hc : cur[0 + j * 1]? = some (str s) := by
      have h0 : (ls.map str)[j]? = some (str s) := by rw [List.getElem?_map, hxj]; rfl
      rw [show 0 + j * 1 = j by omega, ← h0, ← k4, List.getElem?_take, if_pos (by omega)]
    (repeat' (first | refine s_load (hc := hc) ?_ | refine k_seq ?_ | refine k_region ?_ | refine k_nil ?_ | refine k_then ?_ | refine k_true ?_ | refine k_blk ?_ | refine k_skip ?_ | refine s_move ?_ | refine s_assign ?_ | refine s_lss_t ?_ | refine s_idxa ?_))
    refine s_call htmlEscaper_tr (fun u K' hR => ?_)
    obtain ⟨ge, rfl, rfl⟩ := hR
    (repeat' (first | refine s_move ?_))
    refine s_call (replaceEsc_tr ge s (by omega)) (fun u K' hR => ?_)
    obtain ⟨rfl, rfl⟩ := hR
    skip
    refine s_call (writeAny_tr b v _ R lr (escH s) x2 (by simp) (by simp only [List.length_append, List.length_cons, List.length_nil]; omega)) (fun u K' hR => ?_)
    obtain ⟨rfl, v3, R3, h3, rfl⟩ := hR
    (repeat' (first | refine k_region ?_ | refine k_nil ?_ | refine k_then ?_ | refine s_move ?_))
    refine s_call (writeAny_tr b v3 _ R3 0 [10] h3 (by simp) (by simp only [List.length_append, List.length_cons, List.length_nil]; omega)) (fun u K' hR => ?_)
    obtain ⟨rfl, v4, R4, h4, rfl⟩ := hR
    (repeat' (first | refine k_region ?_ | refine k_nil ?_ | refine k_then ?_ | refine k_block ?_ | refine s_move ?_ | refine s_add1 ?_))
    exact ⟨⟨j + 1, v4, R4, 0⟩, (Knows.spec (by repeat (first | exact trivial | refine ⟨rfl, ?_⟩))), (by repeat (first | exact SubH.nilR _ | refine SubH.pick (by repeat (first | exact HTake.here | apply HTake.there)) ?_)), ⟨by simp only; omega, by simp only; rw [htk]; simpa only [List.append_assoc] using h4⟩, by simp only; omega⟩
  · have : j = ls.length := by omega
    subst this
    rw [List.take_length] at x2
    (repeat' (first | refine k_seq ?_ | refine k_region ?_ | refine k_nil ?_ | refine k_then ?_ | refine k_false ?_ | refine k_exit ?_ | refine k_exit_then ?_ | refine k_hit ?_ | refine s_move ?_ | refine s_lss_f ?_))
    refine s_call (writeString_tr b v _ R lr [60, 47, 99, 111, 100, 101, 62, 60, 47, 112, 114, 101, 62, 10] x2 (by simp) (by simp) (by simp only [List.length_append, List.length_cons, List.length_nil]; omega)) (fun u K' hR => ?_)
    obtain ⟨rfl, v3, R3, h3, rfl⟩ := hR
    (repeat' (first | refine k_nil ?_))
    exact e_norm _ ⟨rfl, v3, R3, 0, h3, rfl⟩ (by repeat (first | exact SubH.nilR _ | refine SubH.pick (by repeat (first | exact HTake.here | apply HTake.there)) ?_))
end Go.Proofs

namespace Go.Proofs
open Go Go.Eng
set_option maxRecDepth 20000
set_option maxHeartbeats 4000000

def bt0 : List Value := List.replicate 80 (.int .i64 0) ++ [.bool false]
abbrev ps0 : PS := ⟨.pointer none, .pointer none, .map none, .int .i64 0, .slice none 0 0, .int .i64 0, .bool false, str [], .int .i64 0, .slice none 0 0, .slice none 0 0, .slice none 0 0, bt0⟩
instance zerPS : Zer Tryz.prog 88 (.agg ps0.cells.toArray) := ⟨fun w => Tryz.zeroValue88 w⟩

inductive PLoop where
  | a
  | b (k : Nat) (t : List UInt8) (e : Nat) (g' cap' : Nat) (cur' : List Value) (pb : Nat) (tv : Value) (Bt : Blk)
inductive ILoop where
  | a
  | b (s : PS) (ia : Option Addr) (im ic : Nat) (G : Blk)

/-! Lines with line feeds between them. -/
abbrev jn (ls : List (List UInt8)) : List UInt8 := Lib.join ls [10]
theorem jn_one (a : List UInt8) : jn [a] = a := Lib.join_one a [10]
theorem jn_cons (a b : List UInt8) (r : List (List UInt8)) : jn (a :: b :: r) = a ++ 10 :: jn (b :: r) := by
  unfold jn
  rw [Lib.join_cons, Lib.join_cons]; simp [Lib.joinTail]
theorem jn_mem : ∀ (ls : List (List UInt8)) (c : UInt8), c ∈ jn ls → c = 10 ∨ ∃ l ∈ ls, c ∈ l
  | [], c, h => by simp [jn, Lib.join_nil] at h
  | [a], c, h => by rw [jn_one] at h; exact .inr ⟨a, by simp, h⟩
  | a :: b :: r, c, h => by
    rw [jn_cons] at h
    rcases List.mem_append.1 h with h | h
    · exact .inr ⟨a, by simp, h⟩
    · rcases List.mem_cons.1 h with h | h
      · exact .inl h
      · rcases jn_mem (b :: r) c h with h | ⟨l, h1, h2⟩
        · exact .inl h
        · exact .inr ⟨l, List.mem_cons_of_mem _ h1, h2⟩
theorem jn_tail (a : List UInt8) (r : List (List UInt8)) : (jn r).length ≤ (jn (a :: r)).length := by
  cases r with
  | nil => simp [jn, Lib.join_nil]
  | cons b r => rw [jn_cons]; simp; omega
theorem jn_drop : ∀ (ls : List (List UInt8)) (k : Nat), (jn (ls.drop k)).length ≤ (jn ls).length
  | ls, 0 => by simp
  | [], k + 1 => by simp
  | a :: r, k + 1 => by simpa using Nat.le_trans (jn_drop r k) (jn_tail a r)
theorem fst1_mid : ∀ (a t : List UInt8), (∀ d ∈ a, d ≠ 10) → fst1 10 (a ++ 10 :: t) = a.length
  | [], t, _ => by simp [fst1]
  | d :: a, t, h => by
    have hd : d ≠ 10 := h d (by simp)
    have := fst1_mid a t (fun e he => h e (by simp [he]))
    simp only [List.cons_append, fst1, if_neg hd, this, List.length_cons]
theorem fst1_no {c : UInt8} {l : List UInt8} (h : ∀ d ∈ l, d ≠ c) : ¬ fst1 c l < l.length := fun hlt =>
  h c (List.mem_of_getElem? (fst1_at hlt)) rfl

/-- A line that begins nothing but a paragraph, without white space ahead of it. -/
structure PL (l : List UInt8) : Prop where
  p : PLine 0 l
  t : ltrim l = l
  c : ∀ d ∈ l, d ≠ 10 ∧ d ≠ 13 ∧ d ≠ 0
theorem PL.ne {l : List UInt8} (h : PL l) : l ≠ [] := by intro e; subst e; exact h.p.ink rfl

theorem parse_tr (pr : Nat) (o : PO) (ls : List (List UInt8)) (tx : List UInt8) (htx : jn ls = tx) (hls : ls ≠ []) (hll : ls.length ≤ 1000) (htl : tx.length ≤ 1000000) (hL : ∀ l ∈ ls, PL l) (IL : Option Addr → Nat → Nat → Blk → Prop) (htab : o.table = false) (htask : o.tasks = false) (h1 : at0 tx 0 ≠ 32) (h2 : at0 tx 0 ≠ 9) (h3 : at0 tx 0 ≠ 10) (h4 : at0 tx 0 ≠ 91)
    (hI : ∀ (p : Nat) (s : PS), s.par = lp pr → s.corner = .bool false → Tr Tryz.prog 50 [lp p, str tx] [s.blk p, o.blk pr] fun u K => ∃ s' : PS, ∃ ia im ic G, u = .slice ia im ic ∧ IL ia im ic G ∧ s'.par = s.par ∧ s'.root = s.root ∧ K = [s'.blk p, o.blk pr, G]) :
    Tr Tryz.prog 35 [lp pr, str tx] [o.blk pr] fun u K => ∃ d q t cv e ia im ic IB ja jm jc G, u = .tuple #[lp d, cv] ∧ Blks (.slice ia im ic) [.iface 146 (lp q)] IB ∧ IL ja jm jc G ∧
      K = [o.blk pr, docb d 0 e (.slice ia im ic) (.map none), pgb q 1 (1 + ls.length - 1) t, txb t 1 (1 + ls.length - 1) (.slice ja jm jc) tx, IB, G] := by
  obtain ⟨l0, r0, rfl⟩ : ∃ l0 r0, ls = l0 :: r0 := by cases ls with | nil => exact absurd rfl hls | cons a b => exact ⟨a, b, rfl⟩
  have hl0 := hL l0 (by simp)
  have hno : ∀ c : UInt8, c = 0 ∨ c = 13 → ∀ d ∈ tx, d ≠ c := by
    intro c hc d hd e
    subst e
    rw [← htx] at hd
    rcases jn_mem _ _ hd with h | ⟨l, hl, h⟩
    · rcases hc with hc | hc <;> (rw [hc] at h; exact absurd h (by decide))
    · have := (hL l hl).c d h
      rcases hc with hc | hc
      · exact this.2.2 hc
      · exact this.2.1 hc
  have n0 := fst1_no (hno 0 (.inl rfl))
  have htl' : tx.length ≤ 140737488355328 := by omega
  have hne : ¬ tx = [] := by
    intro h; rw [h] at htx
    cases r0 with
    | nil => rw [jn_one] at htx; exact hl0.ne htx
    | cons b r => rw [jn_cons] at htx; simp at htx
  have hpos : 0 < tx.length := by cases tx with | nil => exact absurd rfl hne | cons _ _ => simp
  obtain ⟨o1, o2, o3, o4, o5, o6, o7, o8, o9, o10⟩ := o
  subst htab; subst htask
  refine Tr.start (n := 114) (rs := [.tmp 4, .tmp 5]) rfl rfl rfl rfl fun B => ?_
  (repeat' (first | refine s_pure (zzContains_tr tx 0 htl' n0) ?_ | refine k_seq ?_ | refine k_region ?_ | refine k_nil ?_ | refine k_then ?_ | refine k_false ?_ | refine k_skip ?_ | refine s_move ?_ | refine s_assign ?_ | refine s_field ?_ | refine s_mki ?_ | refine s_store ?_ | refine s_buildx ?_ | refine s_alloc (fun _ => ?_) | refine s_box (fun _ => ?_)))
  rename_i p rb
  refine s_call (addBlock_root p (⟨lp pr, .pointer none, .map none, inat 0, .slice none 0 0, .int .i64 (-1), .bool false, str [], .int .i64 0, .slice none 0 0, .slice none 0 0, .slice none 0 0, bt0⟩ : PS) _ (lp rb) 0 rfl rfl rfl) (fun u K hR => ?_)
  obtain ⟨rfl, g, cap, cur, hO, rfl⟩ := hR
  (repeat' (first | refine k_seq ?_ | refine k_nil ?_ | refine k_then ?_))
  refine k_midx (fun x : PLoop => [(0, lp pr), (6, lp p)])
    (fun x => match x with
      | .a => []
      | .b k t e g' cap' cur' pb tv Bt => [(⟨lp pr, .pointer none, .map none, inat k, stk g' 2 cap', inat 0, .bool false, str [], .int .i64 0, .slice none 0 0, .slice none 0 0, .slice none 0 0, bt0⟩ : PS).blk p, stb g' cur', (⟨o1, o2, false, o4, o5, false, o7, o8, o9, o10⟩ : PO).blk pr, pbb pb tv, Bt])
    (fun x => match x with
      | .a => False
      | .b k t e g' cap' cur' pb tv Bt => k = (l0 :: r0).length ∧ Stk (stk g' 2 cap') 2 ([.iface 91 (lp rb), .slice none 0 0, inat 0, inat e] ++ [.iface 155 (lp pb), .slice none 0 0, inat 1, inat k]) (stb g' cur') ∧ Strs tv (l0 :: r0) Bt) ?_ ?_
  · (repeat' (first | refine k_blk ?_))
    refine k_loop (fun x : PLoop => match x with
      | .a => [(0, lp pr), (1, str tx), (6, lp p)]
      | .b k t .. => [(0, lp pr), (1, str t), (6, lp p)])
      (fun x => match x with
      | .a => [(⟨lp pr, .pointer none, .map none, inat 0, stk g 1 cap, .int .i64 (-1), .bool false, str [], .int .i64 0, .slice none 0 0, .slice none 0 0, .slice none 0 0, bt0⟩ : PS).blk p, stb g cur, (⟨o1, o2, false, o4, o5, false, o7, o8, o9, o10⟩ : PO).blk pr]
      | .b k t e g' cap' cur' pb tv Bt => [(⟨lp pr, .pointer none, .map none, inat k, stk g' 2 cap', inat 0, .bool false, str [], .int .i64 0, .slice none 0 0, .slice none 0 0, .slice none 0 0, bt0⟩ : PS).blk p, stb g' cur', (⟨o1, o2, false, o4, o5, false, o7, o8, o9, o10⟩ : PO).blk pr, pbb pb tv, Bt])
      (fun x => match x with
      | .a => True
      | .b k t e g' cap' cur' pb tv Bt => (1 ≤ k ∧ k ≤ (l0 :: r0).length ∧ t = jn ((l0 :: r0).drop k)) ∧ Stk (stk g' 2 cap') 2 ([.iface 91 (lp rb), .slice none 0 0, inat 0, inat e] ++ [.iface 155 (lp pb), .slice none 0 0, inat 1, inat k]) (stb g' cur') ∧ Strs tv ((l0 :: r0).take k) Bt)
      (fun x => match x with
      | .a => (l0 :: r0).length + 1
      | .b k .. => (l0 :: r0).length - k) .a trivial (Knows.spec (by repeat (first | exact trivial | refine ⟨rfl, ?_⟩))) (by repeat (first | exact SubH.nilR _ | refine SubH.pick (by repeat (first | exact HTake.here | apply HTake.there)) ?_)) fun x hx => ?_
    cases x with
    | a =>
      have n13 := fst1_no (hno 13 (.inr rfl))
      cases r0 with
      | nil =>
        have e1 : l0 = tx := by rw [← htx, jn_one]
        subst e1
        have n10 := fst1_no (c := 10) (l := l0) (fun d hd => (hl0.c d hd).1)
        (repeat' (first | refine s_pure (zzIndex_tr l0 10 htl' (-1) (by rw [if_neg n10])) ?_ | refine s_pure (zzIndex_tr l0 13 htl' (-1) (by rw [if_neg n13])) ?_ | refine k_seq ?_ | refine k_region ?_ | refine k_nil ?_ | refine k_then ?_ | refine k_true ?_ | refine k_false ?_ | refine k_blk ?_ | refine k_skip ?_ | refine k_block ?_ | refine s_gskipt ?_ | refine s_gskipu ?_ | refine s_move ?_ | refine s_assign ?_ | refine s_load ?_ | refine s_field ?_ | refine s_add1 ?_ | refine s_geq_f ?_ | refine s_pickf ?_ | refine s_nes_t ?_ | refine s_store ?_ | refine s_buildx ?_))
        refine s_call (addLine_first p g cap pr (⟨o1, o2, false, o4, o5, false, o7, o8, o9, o10⟩ : PO) (⟨lp pr, .pointer none, .map none, inat 1, stk g 1 cap, .int .i64 (-1), .bool false, str [], .int .i64 0, .slice none 0 0, .slice none 0 0, .slice none 0 0, bt0⟩ : PS) cur _ (lp rb) _ _ _ 1 l0 0 hl0.p hO rfl rfl rfl rfl rfl rfl) (fun u K hR => ?_)
        obtain ⟨rfl, g', cap', cur', pb, tv, Bt, k1, k2, rfl⟩ := hR
        rw [hl0.t] at k2
        (repeat' (first | refine k_nil ?_ | refine k_then ?_ | refine k_block ?_))
        exact ⟨.b 1 [] 0 g' cap' cur' pb tv Bt, (Knows.spec (by repeat (first | exact trivial | refine ⟨rfl, ?_⟩))), (by repeat (first | exact SubH.nilR _ | refine SubH.pick (by repeat (first | exact HTake.here | apply HTake.there)) ?_)), ⟨⟨by omega, by simp, rfl⟩, k1, k2⟩, (by show _ < _; simp)⟩
      | cons b r =>
        have e1 : tx = l0 ++ 10 :: jn (b :: r) := by rw [← htx, jn_cons]
        have f10 := fst1_mid l0 (jn (b :: r)) (fun d hd => (hl0.c d hd).1)
        have hlen : tx.length = l0.length + (jn (b :: r)).length + 1 := by rw [e1]; simp; omega
        have e2 : tx.take l0.length = l0 := by rw [e1]; simp
        have e3 : tx.drop (l0.length + 1) = jn (b :: r) := by rw [e1]; simp
        (repeat' (first | refine Wp.draw_all (id := 22) Mixed.out (by kernel_rfl) ?_ | refine s_pure (zzIndex_tr tx 10 htl' l0.length (by rw [e1, f10, if_pos (by simp)])) ?_ | refine s_pure (zzIndex_tr tx 13 htl' (-1) (by rw [if_neg n13])) ?_ | refine k_seq ?_ | refine k_region ?_ | refine k_nil ?_ | refine k_then ?_ | refine k_true ?_ | refine k_false ?_ | refine k_blk ?_ | refine k_skip ?_ | refine k_block ?_ | refine s_gskipt ?_ | refine s_gskipu ?_ | refine s_move ?_ | refine s_assign ?_ | refine s_load ?_ | refine s_field ?_ | refine s_add1 ?_ | refine s_geq_t ?_ | refine s_geq_f ?_ | refine s_pickf ?_ | refine s_nes_t ?_ | refine s_store ?_ | refine s_buildx ?_ | refine u_nil ?_ | refine u_move ?_ | refine u_assign ?_ | refine u_add1 ?_ | refine u_slicef ?_ | refine u_slicet ?_))
        have hpa : PLine 0 (tx.take l0.length) := e2.symm ▸ hl0.p
        refine s_call (addLine_first p g cap pr (⟨o1, o2, false, o4, o5, false, o7, o8, o9, o10⟩ : PO) (⟨lp pr, .pointer none, .map none, inat 1, stk g 1 cap, .int .i64 (-1), .bool false, str [], .int .i64 0, .slice none 0 0, .slice none 0 0, .slice none 0 0, bt0⟩ : PS) cur _ (lp rb) _ _ _ 1 (tx.take l0.length) 10 hpa hO rfl rfl rfl rfl rfl rfl) (fun u K hR => ?_)
        obtain ⟨rfl, g', cap', cur', pb, tv, Bt, k1, k2, rfl⟩ := hR
        rw [e2, hl0.t] at k2
        (repeat' (first | refine k_nil ?_ | refine k_then ?_ | refine k_block ?_))
        exact ⟨.b 1 (tx.drop (l0.length + 1)) 0 g' cap' cur' pb tv Bt, (Knows.spec (by repeat (first | exact trivial | refine ⟨rfl, ?_⟩))), (by repeat (first | exact SubH.nilR _ | refine SubH.pick (by repeat (first | exact HTake.here | apply HTake.there)) ?_)), ⟨⟨by omega, by simp, e3⟩, k1, k2⟩, (by show _ < _; simp)⟩
    | b k t e g' cap' cur' pb tv Bt =>
      obtain ⟨⟨hk1, hk2, ht⟩, k1, k2⟩ := hx
      cases hr : (l0 :: r0).drop k with
      | nil =>
        have hk : k = (l0 :: r0).length := by
          have := congrArg List.length hr
          rw [List.length_drop] at this
          simp only [List.length_nil] at this
          omega
        rw [List.take_of_length_le (by omega)] at k2
        have e0 : t = [] := by rw [ht, hr]; rfl
        (repeat' (first | refine k_seq ?_ | refine k_region ?_ | refine k_nil ?_ | refine k_then ?_ | refine k_false ?_ | refine k_exit ?_ | refine k_exit_then ?_ | refine k_hit ?_ | refine s_move ?_ | refine s_nes_f ?_))
        exact ⟨.b k t e g' cap' cur' pb tv Bt, (by repeat (first | exact trivial | refine ⟨rfl, ?_⟩)), (by repeat (first | exact SubH.nilR _ | refine SubH.pick (by repeat (first | exact HTake.here | apply HTake.there)) ?_)), hk, k1, k2⟩
      | cons a r =>
        have hka : (l0 :: r0)[k]? = some a := by
          have h : ((l0 :: r0).drop k)[0]? = some a := by rw [hr]; rfl
          rw [List.getElem?_drop] at h
          simpa using h
        have hkl : k < (l0 :: r0).length := (List.getElem?_eq_some_iff.1 hka).1
        have ha := hL a (List.mem_of_getElem? hka)
        have hdr : (l0 :: r0).drop (k + 1) = r := by rw [← List.tail_drop, hr]; rfl
        have htk : (l0 :: r0).take (k + 1) = (l0 :: r0).take k ++ [a] := by rw [List.take_add_one, hka]; rfl
        rw [hr] at ht
        have hsub : ∀ d ∈ t, d ≠ 13 := by
          intro d hd
          rw [ht] at hd
          rcases jn_mem _ _ hd with h | ⟨l, hl, h⟩
          · rw [h]; decide
          · have hm : l ∈ (l0 :: r0) := List.mem_of_mem_drop (by rw [hr]; exact hl)
            exact ((hL l hm).c d h).2.1
        have n13 := fst1_no hsub
        have hjl : t.length ≤ 140737488355328 := by
          have h := jn_drop (l0 :: r0) k
          rw [hr, htx, ← ht] at h
          omega
        cases r with
        | nil =>
          rw [jn_one] at ht
          subst ht
          have n10 := fst1_no (c := 10) (l := t) (fun d hd => (ha.c d hd).1)
          have hn0 : ¬ t = [] := ha.ne
          (repeat' (first | refine s_pure (zzIndex_tr t 10 hjl (-1) (by rw [if_neg n10])) ?_ | refine s_pure (zzIndex_tr t 13 hjl (-1) (by rw [if_neg n13])) ?_ | refine k_seq ?_ | refine k_region ?_ | refine k_nil ?_ | refine k_then ?_ | refine k_true ?_ | refine k_false ?_ | refine k_blk ?_ | refine k_skip ?_ | refine k_block ?_ | refine s_gskipt ?_ | refine s_gskipu ?_ | refine s_move ?_ | refine s_assign ?_ | refine s_load ?_ | refine s_field ?_ | refine s_add1 ?_ | refine s_geq_f ?_ | refine s_pickf ?_ | refine s_nes_t ?_ | refine s_store ?_ | refine s_buildx ?_))
          refine s_call (addLine_more p g' cap' pr pb (⟨o1, o2, false, o4, o5, false, o7, o8, o9, o10⟩ : PO) (⟨lp pr, .pointer none, .map none, inat (k + 1), stk g' 2 cap', inat 0, .bool false, str [], .int .i64 0, .slice none 0 0, .slice none 0 0, .slice none 0 0, bt0⟩ : PS) cur' _ (lp rb) _ _ _ _ _ _ tv ((l0 :: r0).take k) Bt (k + 1) t 0 ha.p (by rw [List.length_take]; omega) k1 k2 rfl rfl rfl rfl rfl) (fun u K hR => ?_)
          obtain ⟨rfl, cur2, tv2, Bt2, k1', k2', rfl⟩ := hR
          rw [ha.t, ← htk] at k2'
          (repeat' (first | refine k_nil ?_ | refine k_then ?_ | refine k_block ?_))
          exact ⟨.b (k + 1) [] (k + 1) g' cap' cur2 pb tv2 Bt2, (Knows.spec (by repeat (first | exact trivial | refine ⟨rfl, ?_⟩))), (by repeat (first | exact SubH.nilR _ | refine SubH.pick (by repeat (first | exact HTake.here | apply HTake.there)) ?_)), ⟨⟨by omega, by omega, by rw [hdr]; rfl⟩, k1', k2'⟩, (by show (l0 :: r0).length - (k + 1) < (l0 :: r0).length - k; omega)⟩
        | cons b r =>
          rw [jn_cons] at ht
          have f10 := fst1_mid a (jn (b :: r)) (fun d hd => (ha.c d hd).1)
          rw [← ht] at f10
          have e2 : t.take a.length = a := by rw [ht]; simp
          have e3 : t.drop (a.length + 1) = jn (b :: r) := by rw [ht]; simp
          have hlen : t.length = a.length + (jn (b :: r)).length + 1 := by rw [ht]; simp; omega
          have hn0 : ¬ t = [] := by intro h; rw [h] at hlen; simp at hlen
          have hpa : PLine 0 (t.take a.length) := e2.symm ▸ ha.p
          (repeat' (first | refine Wp.draw_all (id := 22) Mixed.out (by kernel_rfl) ?_ | refine s_pure (zzIndex_tr t 10 hjl a.length (by rw [f10, if_pos (by omega)])) ?_ | refine s_pure (zzIndex_tr t 13 hjl (-1) (by rw [if_neg n13])) ?_ | refine k_seq ?_ | refine k_region ?_ | refine k_nil ?_ | refine k_then ?_ | refine k_true ?_ | refine k_false ?_ | refine k_blk ?_ | refine k_skip ?_ | refine k_block ?_ | refine s_gskipt ?_ | refine s_gskipu ?_ | refine s_move ?_ | refine s_assign ?_ | refine s_load ?_ | refine s_field ?_ | refine s_add1 ?_ | refine s_geq_t ?_ | refine s_geq_f ?_ | refine s_pickf ?_ | refine s_nes_t ?_ | refine s_store ?_ | refine s_buildx ?_ | refine u_nil ?_ | refine u_move ?_ | refine u_assign ?_ | refine u_add1 ?_ | refine u_slicef ?_ | refine u_slicet ?_))
          refine s_call (addLine_more p g' cap' pr pb (⟨o1, o2, false, o4, o5, false, o7, o8, o9, o10⟩ : PO) (⟨lp pr, .pointer none, .map none, inat (k + 1), stk g' 2 cap', inat 0, .bool false, str [], .int .i64 0, .slice none 0 0, .slice none 0 0, .slice none 0 0, bt0⟩ : PS) cur' _ (lp rb) _ _ _ _ _ _ tv ((l0 :: r0).take k) Bt (k + 1) (t.take a.length) 10 hpa (by rw [List.length_take]; omega) k1 k2 rfl rfl rfl rfl rfl) (fun u K hR => ?_)
          obtain ⟨rfl, cur2, tv2, Bt2, k1', k2', rfl⟩ := hR
          rw [e2, ha.t, ← htk] at k2'
          (repeat' (first | refine k_nil ?_ | refine k_then ?_ | refine k_block ?_))
          exact ⟨.b (k + 1) (t.drop (a.length + 1)) (k + 1) g' cap' cur2 pb tv2 Bt2, (Knows.spec (by repeat (first | exact trivial | refine ⟨rfl, ?_⟩))), (by repeat (first | exact SubH.nilR _ | refine SubH.pick (by repeat (first | exact HTake.here | apply HTake.there)) ?_)), ⟨⟨by omega, by omega, by rw [hdr]; exact e3⟩, k1', k2'⟩, (by show (l0 :: r0).length - (k + 1) < (l0 :: r0).length - k; omega)⟩
  · intro x hx
    cases x with
    | a => exact hx.elim
    | b k t e g' cap' cur' pb tv Bt =>
      obtain ⟨rfl, k1, k2⟩ := hx
      (repeat' (first | refine k_seq ?_ | refine k_region ?_))
      refine s_nilblk ?_
      refine s_call (trimAll p g' cap' pb rb (⟨lp pr, .pointer none, .map none, inat (l0 :: r0).length, stk g' 2 cap', inat 0, .bool false, str [], .int .i64 0, .slice none 0 0, .slice none 0 0, .slice none 0 0, bt0⟩ : PS) cur' tv Bt tx [] [] _ 1 (l0 :: r0).length 0 e htl' hpos h1 h2 h3 h4 (by omega) k1 rfl none rfl (Own.nil _ _) (by simp) (l0 :: r0) k2 htx (by simp) (by omega) (by omega)) (fun u K hR => ?_)
      obtain ⟨q, t, v', TB', cur2, ia, im, ic, IB, d, rfl, j1, j2, rfl⟩ := hR
      have j1' : Own 98 1 v' (0 + 1) [lp t] TB' := j1
      obtain ⟨g3, cap3, cur3, rfl, rfl, i1, i2, i3, i4⟩ := j1'.pos
      have c0 : cur3[0 + 0 * 1]? = some (lp t) := j1'.get rfl
      (repeat' (first | refine k_seq ?_ | refine k_region ?_ | refine k_nil ?_ | refine k_then ?_ | refine s_move ?_ | refine s_load ?_ | refine s_field ?_ | refine s_len ?_))
      refine k_midx (fun x : ILoop => [(0, lp pr), (6, lp p)])
        (fun x => match x with
          | .a => []
          | .b s' ja jm jc G => [s'.blk p, (⟨o1, o2, false, o4, o5, false, o7, o8, o9, o10⟩ : PO).blk pr, txb t 1 (1 + (l0 :: r0).length - 1) (.slice ja jm jc) tx, G, [(g3, cellsOf cur3 98)], pgb q 1 (1 + (l0 :: r0).length - 1) t, IB, docb d 0 e (.slice ia im ic) (.map none)])
        (fun x => match x with
          | .a => False
          | .b s' ja jm jc G => IL ja jm jc G ∧ s'.par = lp pr ∧ s'.root = lp d) ?_ ?_
      · (repeat' (first | refine k_blk ?_))
        refine k_loop (fun x : ILoop => match x with
          | .a => [(0, lp pr), (6, lp p), (81, .slice (some ⟨g3, 0, none⟩) (0 + 1) cap3), (82, inat (0 + 1)), (83, inat 0)]
          | .b .. => [(0, lp pr), (6, lp p), (81, .slice (some ⟨g3, 0, none⟩) (0 + 1) cap3), (82, inat (0 + 1)), (83, inat 1)])
          (fun x => match x with
          | .a => [(⟨lp pr, lp d, .map none, inat (l0 :: r0).length, stk g' 0 cap', inat 0, .bool false, str [], .int .i64 0, .slice none 0 0, .slice none 0 0, .slice (some ⟨g3, 0, none⟩) (0 + 1) cap3, bt0⟩ : PS).blk p, (⟨o1, o2, false, o4, o5, false, o7, o8, o9, o10⟩ : PO).blk pr, txb t 1 (1 + (l0 :: r0).length - 1) (.slice none 0 0) tx, [(g3, cellsOf cur3 98)], pgb q 1 (1 + (l0 :: r0).length - 1) t, IB, docb d 0 e (.slice ia im ic) (.map none)]
          | .b s' ja jm jc G => [s'.blk p, (⟨o1, o2, false, o4, o5, false, o7, o8, o9, o10⟩ : PO).blk pr, txb t 1 (1 + (l0 :: r0).length - 1) (.slice ja jm jc) tx, G, [(g3, cellsOf cur3 98)], pgb q 1 (1 + (l0 :: r0).length - 1) t, IB, docb d 0 e (.slice ia im ic) (.map none)])
          (fun x => match x with
          | .a => True
          | .b s' ja jm jc G => IL ja jm jc G ∧ s'.par = lp pr ∧ s'.root = lp d)
          (fun x => match x with
          | .a => 1
          | .b .. => 0) .a trivial (Knows.spec (by repeat (first | exact trivial | refine ⟨rfl, ?_⟩))) (by repeat (first | exact SubH.nilR _ | refine SubH.pick (by repeat (first | exact HTake.here | apply HTake.there)) ?_)) fun x hx => ?_
        cases x with
        | a =>
          (repeat' (first | refine s_load (hc := c0) ?_ | refine k_seq ?_ | refine k_region ?_ | refine k_nil ?_ | refine k_then ?_ | refine k_true ?_ | refine k_blk ?_ | refine k_skip ?_ | refine s_move ?_ | refine s_assign ?_ | refine s_load ?_ | refine s_field ?_ | refine s_nilp ?_ | refine s_lss_t ?_ | refine s_idxa ?_))
          refine s_call (hI p (⟨lp pr, lp d, .map none, inat (l0 :: r0).length, stk g' 0 cap', inat 0, .bool false, str [], .int .i64 0, .slice none 0 0, .slice none 0 0, .slice (some ⟨g3, 0, none⟩) (0 + 1) cap3, bt0⟩ : PS) rfl rfl) (fun u K hR => ?_)
          obtain ⟨s', ja, jm, jc, G, rfl, m1, m2, m3, rfl⟩ := hR
          (repeat' (first | refine k_region ?_ | refine k_nil ?_ | refine k_then ?_ | refine k_block ?_ | refine s_move ?_ | refine s_field ?_ | refine s_nilp ?_ | refine s_add1 ?_ | refine s_store ?_))
          exact ⟨.b s' ja jm jc G, (Knows.spec (by repeat (first | exact trivial | refine ⟨rfl, ?_⟩))), (by repeat (first | exact SubH.nilR _ | refine SubH.pick (by repeat (first | exact HTake.here | apply HTake.there)) ?_)), ⟨m1, m2, m3⟩, (by show 0 < 1; omega)⟩
        | b s' ja jm jc G =>
          (repeat' (first | refine k_seq ?_ | refine k_region ?_ | refine k_nil ?_ | refine k_then ?_ | refine k_false ?_ | refine k_exit ?_ | refine k_exit_then ?_ | refine k_hit ?_ | refine s_lss_f ?_))
          exact ⟨.b s' ja jm jc G, (by repeat (first | exact trivial | refine ⟨rfl, ?_⟩)), (by repeat (first | exact SubH.nilR _ | refine SubH.pick (by repeat (first | exact HTake.here | apply HTake.there)) ?_)), hx⟩
      · intro x hx
        cases x with
        | a => exact hx.elim
        | b s' ja jm jc G =>
          obtain ⟨m1, m2, m3⟩ := hx
          obtain ⟨par, root, links, lineno, stack, depth, corner, sv, em, list, lists, texts, bt⟩ := s'
          subst m2 m3
          (repeat' (first | refine Wp.draw_all (id := 38) Mixed.out (by kernel_rfl) ?_ | refine k_seq ?_ | refine k_region ?_ | refine k_nil ?_ | refine k_then ?_ | refine k_false ?_ | refine k_skip ?_ | refine k_ret ?_ | refine s_move ?_ | refine s_load ?_ | refine s_field ?_ | refine s_nilp ?_ | refine u_nil ?_ | refine u_assign ?_ | refine u_load ?_ | refine u_field ?_))
          exact e_ret _ ⟨d, q, t, _, e, ia, im, ic, IB, ja, jm, jc, G, rfl, j2, m1, rfl⟩ (by repeat (first | exact SubH.nilR _ | refine SubH.pick (by repeat (first | exact HTake.here | apply HTake.there)) ?_))
end Go.Proofs

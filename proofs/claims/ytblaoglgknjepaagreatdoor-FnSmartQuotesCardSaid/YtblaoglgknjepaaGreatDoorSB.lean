/- mergePlain of texts alone; the tokens and the HTML of a word between quotation marks among words, and of an apostrophe; laws.FnSmartQuotes returns true whatever the arguments. Conditions: Word, and that the texts' lengths are those of Go strings. -/
import Derived.Test.YtblaoglgknjepaaGreatDoorS16
import Derived.Test.YtblaoglgknjepaaGreatDoorJ1
import Derived.Test.YtblaoglgknjepaaGreatDoorSA
namespace Go.Proofs
open Go Go.Eng
set_option maxRecDepth 20000
set_option maxHeartbeats 4000000

theorem toPlain_em (q : Nat) : TrP Tryz.prog 96 [vEm q] (lp q) := by
  refine Tr.start (n := 23) (rs := [.tmp 2]) rfl rfl rfl rfl fun B => ?_
  (repeat' (first | refine k_seq ?_ | refine k_region ?_ | refine k_nil ?_ | refine k_then ?_ | refine k_true ?_ | refine k_false ?_ | refine k_blk ?_ | refine k_ret ?_ | refine k_ret_then ?_ | refine k_ret_block ?_ | refine s_move ?_ | refine s_assign ?_ | refine s_field ?_ | refine s_nilp ?_ | refine s_ext ?_ | refine s_asok ?_ | refine s_asno ?_))
  exact e_pure ⟨rfl, rfl⟩

/-- A text among inlines: its value, its place, its bytes. -/
structure Txt (v : Value) (q : Nat) (x : List UInt8) (G : Blk) : Prop where
  ty : v = vPl q ∨ v = vEm q
  cell : ∃ rest T, (q, cellsOf (str x :: rest) T) ∈ G
theorem Txt.plain {v : Value} {q : Nat} {x : List UInt8} {G : Blk} (h : Txt v q x G) : ∃ t u, v = .iface t u ∧ TrP Tryz.prog 96 [.iface t u] (lp q) := by
  rcases h.ty with rfl | rfl
  · exact ⟨_, _, rfl, toPlain_yes q⟩
  · exact ⟨_, _, rfl, toPlain_em q⟩

structure MS where
  j : Nat
  v : Value
  R : Blk

theorem mergeTxt_tr (g n c : Nat) (cur : List Value) (G : Blk) (xs : List (List UInt8)) (hn : 2 ≤ n) (hn2 : n ≤ 1000) (hxl : xs.length = n) (hx : ∀ j, j < n → ∃ v q x, cur[j]? = some v ∧ xs[j]? = some x ∧ Txt v q x G) (hlen : (Lib.join xs []).length ≤ 1000000000) :
    Tr Tryz.prog 97 [.slice (some ⟨g, 0, none⟩) n c] [[(g, cellsOf cur 99)], G] fun u K => ∃ q, u = lp q ∧ K = [[(g, cellsOf cur 99)], G, plb q (Lib.join xs [])] := by
  refine Tr.start (n := 32) (rs := [.tmp 2]) rfl rfl rfl rfl fun B => ?_
  (repeat' (first | refine k_seq ?_ | refine k_region ?_ | refine k_nil ?_ | refine k_then ?_ | refine k_false ?_ | refine k_blk ?_ | refine k_skip ?_ | refine s_move ?_ | refine s_assign ?_ | refine s_eql_f ?_ | refine s_len ?_))
  refine w_nilblk ?_
  refine k_loop (fun x : MS => [(0, .slice (some ⟨g, 0, none⟩) n c), (3, x.v), (13, .slice (some ⟨g, 0, none⟩) n c), (14, inat n), (15, inat x.j)]) (fun x => [[(g, cellsOf cur 99)], G, x.R]) (fun x => x.j ≤ n ∧ Strs x.v (xs.take x.j) x.R) (fun x => n - x.j) ⟨0, .slice none 0 0, []⟩ ⟨Nat.zero_le _, Own.nil _ _⟩ (Knows.spec (by repeat (first | exact trivial | refine ⟨rfl, ?_⟩))) (by repeat (first | exact SubH.nilR _ | refine SubH.pick (by repeat (first | exact HTake.here | apply HTake.there)) ?_)) fun x hxs => ?_
  obtain ⟨j, v, R⟩ := x
  obtain ⟨x1, x2⟩ := hxs
  simp only at x1 x2 ⊢
  by_cases hj : j < n
  · obtain ⟨w, q, x, hc, hxj, hT⟩ := hx j hj
    obtain ⟨t, u, rfl, hP⟩ := hT.plain
    obtain ⟨rest, TT, hcell⟩ := hT.cell
    have hm : ∀ H, HMem (G :: H) q (cellsOf (str x :: rest) TT) := fun H => HMem.of_chunk hcell
    have hc' : cur[0 + j * 1]? = some (.iface t u) := by rw [show 0 + j * 1 = j by omega]; exact hc
    have htl : (xs.take j).length = j := by rw [List.length_take]; omega
    have htk : xs.take (j + 1) = xs.take j ++ [x] := by rw [List.take_add_one, hxj]; rfl
    (repeat' (first | refine s_load (hc := hc') ?_ | refine s_pure (hP) ?_ | refine Ops.pure _ (q_load (by rfl) (by repeat (first | exact hm _ | apply HMem.there)) (by rfl)) (by rfl) ?_ | refine k_seq ?_ | refine k_region ?_ | refine k_nil ?_ | refine k_then ?_ | refine k_true ?_ | refine k_blk ?_ | refine k_skip ?_ | refine s_move ?_ | refine s_assign ?_ | refine s_field ?_ | refine s_nilp ?_ | refine s_lss_t ?_ | refine s_idxa ?_ | refine s_bsl1 (fun _ => ?_)))
    refine s_app x2 (by omega) (fun v2 R2 h2 => ?_)
    have h2' : Strs v2 (xs.take (j + 1)) R2 := by rw [htk]; simpa [Strs] using h2
    (repeat' (first | refine k_region ?_ | refine k_nil ?_ | refine k_then ?_ | refine k_block ?_ | refine s_move ?_ | refine s_assign ?_ | refine s_add1 ?_))
    exact ⟨⟨j + 1, v2, R2⟩, (Knows.spec (by repeat (first | exact trivial | refine ⟨rfl, ?_⟩))), (by repeat (first | exact SubH.nilR _ | refine SubH.pick (by repeat (first | exact HTake.here | apply HTake.there)) ?_)), ⟨by simp only; omega, h2'⟩, by simp only; omega⟩
  · have : j = n := by omega
    subst this
    rw [List.take_of_length_le (by omega)] at x2
    have x3 : Own 9 1 v (xs.length - 1 + 1) (xs.map str) R := by rw [show xs.length - 1 + 1 = xs.length by omega]; exact x2
    obtain ⟨g2, cap2, cur2, rfl, rfl, k1, k2, k3, k4⟩ := x3.pos
    rw [show xs.length - 1 + 1 = xs.length by omega] at k1 k4 ⊢
    have hJ := joinRow_tr g2 xs.length cap2 cur2 xs [] rfl k1 (by omega) (by rw [← k4, Nat.mul_one]) (by omega) hlen
    (repeat' (first | refine s_callD (hJ) ?_ | refine k_seq ?_ | refine k_region ?_ | refine k_nil ?_ | refine k_then ?_ | refine k_false ?_ | refine k_exit ?_ | refine k_exit_then ?_ | refine k_hit ?_ | refine k_ret ?_ | refine s_move ?_ | refine s_assign ?_ | refine s_lss_f ?_ | refine s_buildx ?_ | refine s_box (fun _ => ?_)))
    rename_i q
    exact e_ret _ ⟨q, rfl, rfl⟩ (by repeat (first | exact SubH.nilR _ | refine SubH.pick (by repeat (first | exact HTake.here | apply HTake.there)) ?_))

theorem mergeAll_tr (p g n cap : Nat) (cur : List Value) (G : Blk) (xs : List (List UInt8)) (hn : 2 ≤ n) (hn2 : n ≤ 1000) (hcap : n ≤ cap) (hcl : cur.length = cap) (hxl : xs.length = n) (hx : ∀ j, j < n → ∃ v q x, cur[j]? = some v ∧ xs[j]? = some x ∧ Txt v q x G) (hlen : (Lib.join xs []).length ≤ 1000000000) :
    Tr Tryz.prog 55 [lp p, .slice (some ⟨g, 0, none⟩) n cap] [[(g, cellsOf cur 99)], G] fun u K => ∃ q, u = .slice (some ⟨g, 0, none⟩) 1 cap ∧ K = [[(g, cellsOf (cur.set 0 (vPl q)) 99)], G, plb q (Lib.join xs [])] := by
  refine Tr.start (n := 50) (rs := [.tmp 4]) rfl rfl rfl rfl fun B => ?_
  (repeat' (first | refine k_seq ?_ | refine k_region ?_ | refine k_nil ?_ | refine k_then ?_ | refine k_blk ?_ | refine s_move ?_ | refine s_assign ?_ | refine s_slice0 ?_))
  refine k_loop (fun i : Nat => [(1, .slice (some ⟨g, 0, none⟩) n cap), (5, .slice (some ⟨g, 0, none⟩) 0 cap), (6, inat 0), (7, inat i)]) (fun _ => [[(g, cellsOf cur 99)], G]) (fun i => i ≤ n) (fun i => n - i) 0 (by omega) (Knows.spec (by repeat (first | exact trivial | refine ⟨rfl, ?_⟩))) (by repeat (first | exact SubH.nilR _ | refine SubH.pick (by repeat (first | exact HTake.here | apply HTake.there)) ?_)) fun i hi => ?_
  by_cases hlt : i < n
  · obtain ⟨v, q, x, hc, hxj, hT⟩ := hx i hlt
    obtain ⟨t, u, rfl, hP⟩ := hT.plain
    have hc' : cur[0 + i * 1]? = some (.iface t u) := by rw [show 0 + i * 1 = i by omega]; exact hc
    (repeat' (first | refine s_load (hc := hc') ?_ | refine s_pure (hP) ?_ | refine k_seq ?_ | refine k_region ?_ | refine k_nil ?_ | refine k_then ?_ | refine k_true ?_ | refine k_blk ?_ | refine k_exit ?_ | refine k_exit_then ?_ | refine k_hit ?_ | refine s_grun ?_ | refine s_move ?_ | refine s_assign ?_ | refine s_add1 ?_ | refine s_lss_t ?_ | refine s_pickt ?_ | refine s_len ?_ | refine s_idxa ?_ | refine s_nep1 ?_))
    exact ⟨i + 1, (Knows.spec (by repeat (first | exact trivial | refine ⟨rfl, ?_⟩))), (by repeat (first | exact SubH.nilR _ | refine SubH.pick (by repeat (first | exact HTake.here | apply HTake.there)) ?_)), by omega, by omega⟩
  · have : i = n := by omega
    subst this
    (repeat' (first | refine k_seq ?_ | refine k_region ?_ | refine k_nil ?_ | refine k_then ?_ | refine k_true ?_ | refine k_false ?_ | refine k_blk ?_ | refine k_skip ?_ | refine s_gskipt ?_ | refine s_move ?_ | refine s_lss_t ?_ | refine s_lss_f ?_ | refine s_pickf ?_ | refine s_len ?_ | refine s_slicelh ?_))
    refine s_call (mergeTxt_tr g i (cap - 0) cur G xs hn hn2 hxl hx hlen) (fun u K hR => ?_)
    obtain ⟨q, rfl, rfl⟩ := hR
    (repeat' (first | refine s_mki ?_ | refine s_bsl1 (fun _ => ?_)))
    refine s_appin (m := 0) (u := vPl q) hcl (by omega) ?_
    (repeat' (first | refine k_seq ?_ | refine k_region ?_ | refine k_nil ?_ | refine k_then ?_ | refine k_true ?_ | refine k_exit ?_ | refine k_exit_then ?_ | refine k_hit ?_ | refine k_miss ?_ | refine k_ret ?_ | refine s_move ?_ | refine s_assign ?_ | refine s_geq_t ?_ | refine s_len ?_))
    exact e_ret _ ⟨q, rfl, rfl⟩ (by repeat (first | exact SubH.nilR _ | refine SubH.pick (by repeat (first | exact HTake.here | apply HTake.there)) ?_))
end Go.Proofs

namespace Go.Proofs
open Go Go.Eng
set_option maxRecDepth 20000
set_option maxHeartbeats 4000000

/-- A word between marks among words: the tokens. -/
abbrev quoToks (ch : UInt8) (a b c : List UInt8) : List Tk := lits (a ++ [32]) ++ .run ch 1 true :: (lits b ++ .run ch 1 false :: lits (32 :: c))
abbrev quoText (ch : UInt8) (a b c : List UInt8) : List UInt8 := a ++ [32, ch] ++ b ++ [ch, 32] ++ c
theorem quo_bytes (ch : UInt8) (a b c : List UInt8) : bytesT (quoToks ch a b c) = quoText ch a b c := by
  unfold quoToks quoText
  simp only [bytesT, List.flatMap_append, List.flatMap_cons]
  have e1 := bytes_lits (a ++ [32])
  have e2 := bytes_lits b
  have e3 := bytes_lits (32 :: c)
  simp only [bytesT] at e1 e2 e3
  rw [e1, e2, e3]
  simp [Tk.bytes, List.replicate]
theorem quo_items (ch : UInt8) (a b c : List UInt8) (hb : b ≠ []) : itemsT (quoToks ch a b c) = [.plain (a ++ [32]), .emph [ch] true false 1, .plain b, .emph [ch] false true 1, .plain (32 :: c)] := by
  have h1 : stT (lits (a ++ [32])) = ([], a ++ [32]) := by have := stT_lits [] (a ++ [32]); simpa [stT] using this
  have e : quoToks ch a b c = (((lits (a ++ [32]) ++ [.run ch 1 true]) ++ lits b) ++ [.run ch 1 false]) ++ lits (32 :: c) := by simp [quoToks]
  unfold itemsT
  rw [e, stT_lits, stT_snoc, stT_lits, stT_snoc, h1]
  simp [Tk.step, hb, List.replicate]
theorem quo_ok {ch : UInt8} (hch : ch.toNat = 34 ∨ ch.toNat = 39) {a b c : List UInt8} (ha : Word a) (hb : Word b) (hc : Word c) : TkOK (poO false true) (quoToks ch a b c) := by
  obtain ⟨b0, bs, hb0, hbw⟩ := hb.cons
  obtain ⟨bp, bz, hbz, hbzw⟩ := hb.snoc
  obtain ⟨a0, ar, ha0, haw⟩ := ha.cons
  obtain ⟨cp, cz, hcz, hczw⟩ := hc.snoc
  have hkind : (ch.toNat = 126 ∧ 1 = 1 ∨ ch.toNat = 126 ∧ 1 = 2 ∨ ch.toNat = 34 ∧ 1 = 1 ∨ ch.toNat = 39 ∧ 1 = 1) := by omega
  have l1 := ha.len
  have l2 := hb.len
  have l3 := hc.len
  refine ⟨fun x hx => ?_, fun d rr r m ob hd => ?_, ?_, ⟨lits (a ++ [32]) ++ .run ch 1 true :: (lits b ++ .run ch 1 false :: lits (32 :: cp)), cz, ?_⟩, ?_⟩
  · have hm : x ∈ a ++ [32] ∨ x ∈ b ∨ x ∈ 32 :: c := by
      simp only [quoToks, lits, List.mem_append, List.mem_cons, List.mem_map, Tk.lit.injEq, exists_eq_right, reduceCtorEq, false_or] at hx ⊢
      simpa using hx
    refine sch_lit _ ?_
    rcases hm with h | h | h
    · rcases List.mem_append.1 h with h | h
      · exact .inl (ha.c x h)
      · simp at h; subst h; exact .inr rfl
    · exact .inl (hb.c x h)
    · rcases List.mem_cons.1 h with h | h
      · subst h; exact .inr rfl
      · exact .inl (hc.c x h)
  · have hcase : (d = lits (a ++ [32]) ∧ r = ch ∧ m = 1 ∧ ob = true) ∨ (d = lits (a ++ [32]) ++ .run ch 1 true :: lits b ∧ r = ch ∧ m = 1 ∧ ob = false) := by
      rcases lits_split _ _ _ _ _ _ _ _ hd with ⟨h1, h2, _⟩ | ⟨d', h1, h2⟩
      · injection h2 with h2 h3 h4
        exact .inl ⟨h1, h2.symm, h3.symm, h4.symm⟩
      · rcases lits_split _ _ _ _ _ _ _ _ h2 with ⟨k1, k2, _⟩ | ⟨d'', k1, k2⟩
        · injection k2 with k2 k3 k4
          exact .inr ⟨by rw [h1, k1], k2.symm, k3.symm, k4.symm⟩
        · exact absurd k2 (lits_norun _ _ _ _ _ _)
    rw [quo_bytes]
    rcases hcase with ⟨rfl, rfl, rfl, rfl⟩ | ⟨rfl, rfl, rfl, rfl⟩
    · refine ⟨?_, ⟨32, b0, ?_, rfl⟩, fun h => by omega, fun _ => rfl⟩
      · have := stT_lits [] (a ++ [32])
        rw [List.nil_append] at this
        rw [this]; simp
      · have e : quoText r a b c = (a ++ [32]) ++ (List.replicate 1 r ++ b0 :: (bs ++ [r, 32] ++ c)) := by unfold quoText; rw [hb0]; simp [List.replicate]
        rw [e, bytes_lits]
        exact runMk hkind (.inl ⟨rfl, hbw⟩)
    · refine ⟨?_, ⟨bz, 32, ?_, ?_⟩, fun h => by omega, fun _ => rfl⟩
      · have e : lits (a ++ [32]) ++ Tk.run r 1 true :: lits b = (lits (a ++ [32]) ++ [Tk.run r 1 true]) ++ lits b := by simp
        rw [e, stT_lits]; simp [hb.ne]
      · have e : quoText r a b c = ((a ++ [32, r] ++ bp) ++ [bz]) ++ (List.replicate 1 r ++ 32 :: c) := by unfold quoText; rw [hbz]; simp [List.replicate]
        have e2 : bytesT (lits (a ++ [32]) ++ Tk.run r 1 true :: lits b) = (a ++ [32, r] ++ bp) ++ [bz] := by
          simp only [bytesT, List.flatMap_append, List.flatMap_cons]
          have e1 := bytes_lits (a ++ [32])
          have e2 := bytes_lits b
          simp only [bytesT] at e1 e2
          rw [e1, e2, hbz]; simp [Tk.bytes, List.replicate]
        rw [e, e2]
        exact runMk hkind (.inr (.inl ⟨hbzw, rfl⟩))
      · exact decide_eq_false (by omega)
  · rw [quo_bytes]
    unfold quoText
    simp only [List.length_append, List.length_cons, List.length_nil]
    omega
  · unfold quoToks; rw [hcz]; simp [lits]
  · rw [quo_bytes]
    refine btrim_id (c := a0) (s := ar ++ [32, ch] ++ b ++ [ch, 32] ++ c) (p := a ++ [32, ch] ++ b ++ [ch, 32] ++ cp) (z := cz) ?_ haw ?_ hczw
    · unfold quoText; rw [ha0]; simp
    · unfold quoText; rw [hcz]; simp

/-- An apostrophe within a word: the tokens. -/
abbrev apoToks (a c : List UInt8) : List Tk := lits a ++ .run 39 1 false :: lits c
abbrev apoText (a c : List UInt8) : List UInt8 := a ++ [39] ++ c
theorem apo_bytes (a c : List UInt8) : bytesT (apoToks a c) = apoText a c := by
  unfold apoToks apoText
  simp only [bytesT, List.flatMap_append, List.flatMap_cons]
  have e1 := bytes_lits a
  have e3 := bytes_lits c
  simp only [bytesT] at e1 e3
  rw [e1, e3]
  simp [Tk.bytes, List.replicate]
theorem apo_items (a c : List UInt8) (ha : a ≠ []) : itemsT (apoToks a c) = [.plain a, .emph [39] false true 1, .plain c] := by
  have h1 : stT (lits a) = ([], a) := by have := stT_lits [] a; simpa [stT] using this
  have e : apoToks a c = (lits a ++ [.run 39 1 false]) ++ lits c := by simp [apoToks]
  unfold itemsT
  rw [e, stT_lits, stT_snoc, h1]
  simp [Tk.step, ha, List.replicate]
theorem apo_ok {a c : List UInt8} (ha : Word a) (hc : Word c) : TkOK (poO false true) (apoToks a c) := by
  obtain ⟨a0, ar, ha0, haw⟩ := ha.cons
  obtain ⟨ap, az, haz, hazw⟩ := ha.snoc
  obtain ⟨c0, cs, hc0, hcw⟩ := hc.cons
  obtain ⟨cp, cz, hcz, hczw⟩ := hc.snoc
  have l1 := ha.len
  have l3 := hc.len
  refine ⟨fun x hx => ?_, fun d rr r m ob hd => ?_, ?_, ⟨lits a ++ .run 39 1 false :: lits cp, cz, ?_⟩, ?_⟩
  · have hm : x ∈ a ∨ x ∈ c := by
      simp only [apoToks, lits, List.mem_append, List.mem_cons, List.mem_map, Tk.lit.injEq, exists_eq_right, reduceCtorEq, false_or] at hx ⊢
      simpa using hx
    refine sch_lit _ (.inl ?_)
    rcases hm with h | h
    · exact ha.c x h
    · exact hc.c x h
  · obtain ⟨rfl, rfl, rfl, rfl⟩ : d = lits a ∧ r = 39 ∧ m = 1 ∧ ob = false := by
      rcases lits_split _ _ _ _ _ _ _ _ hd with ⟨h1, h2, _⟩ | ⟨d', h1, h2⟩
      · injection h2 with h2 h3 h4
        exact ⟨h1, h2.symm, h3.symm, h4.symm⟩
      · exact absurd h2 (lits_norun _ _ _ _ _ _)
    rw [apo_bytes]
    refine ⟨?_, ⟨az, c0, ?_, decide_eq_false (by omega)⟩, fun h => absurd h (by decide), fun _ => rfl⟩
    · have := stT_lits [] a
      rw [List.nil_append] at this
      rw [this]; simpa using ha.ne
    · have e : apoText a c = (ap ++ [az]) ++ (List.replicate 1 39 ++ c0 :: cs) := by unfold apoText; rw [haz, hc0]; simp [List.replicate]
      rw [e, bytes_lits, haz]
      exact runMk (.inr (.inr (.inr ⟨rfl, rfl⟩))) (.inr (.inr ⟨hazw, hcw, by decide⟩))
  · rw [apo_bytes]
    unfold apoText
    simp only [List.length_append, List.length_cons, List.length_nil]
    omega
  · unfold apoToks; rw [hcz]; simp [lits]
  · rw [apo_bytes]
    refine btrim_id (c := a0) (s := ar ++ [39] ++ c) (p := a ++ [39] ++ cp) (z := cz) ?_ haw ?_ hczw
    · unfold apoText; rw [ha0]; simp
    · unfold apoText; rw [hcz]; simp

theorem escH_same : ∀ (l : List UInt8), (∀ d ∈ l, d.toNat ≠ 34 ∧ d.toNat ≠ 38 ∧ d.toNat ≠ 60 ∧ d.toNat ≠ 62) → escH l = l
  | [], _ => rfl
  | c :: l, h => by
    obtain ⟨h1, h2, h3, h4⟩ := h c (by simp)
    have ih := escH_same l (fun d hd => h d (List.mem_cons_of_mem _ hd))
    have e1 : escB c = [c] := by
      unfold escB
      rw [if_neg h1, if_neg h2, if_neg h3, if_neg h4]
    simp only [escH, List.flatMap_cons] at ih ⊢
    rw [e1, ih]; rfl

/-- What emph leaves: a row of texts. -/
def MTxt (xs : List (List UInt8)) (im : Nat) (cur : List Value) (G : Blk) : Prop := im = xs.length ∧ ∀ j, j < im → ∃ v q x, cur[j]? = some v ∧ xs[j]? = some x ∧ Txt v q x G

theorem mergeTxts (xs : List (List UInt8)) (out : List UInt8) (h2 : 2 ≤ xs.length) (h3 : xs.length ≤ 1000) (hj : Lib.join xs [] = out) (hol : out.length ≤ 1000) (p g cap im : Nat) (cur : List Value) (G : Blk) (hcl : cur.length = cap) (him : im ≤ cap) (hM : MTxt xs im cur G) :
    Tr Tryz.prog 55 [lp p, .slice (some ⟨g, 0, none⟩) im cap] [[(g, cellsOf cur 99)], G] fun u K => ∃ ja jm jc G', u = .slice ja jm jc ∧ (∃ g' outs, ja = some ⟨g', 0, none⟩ ∧ jm ≤ 100000 ∧ Shown g' jm G' outs ∧ outs.flatten = escH out) ∧ K = [G'] := by
  obtain ⟨rfl, hx⟩ := hM
  have e0 := escH_len out
  refine Tr.postSub (mergeAll_tr p g xs.length cap cur G xs h2 h3 him hcl rfl hx (by rw [hj]; omega)) ?_
  rintro u K ⟨q, rfl, rfl⟩
  rw [hj]
  refine ⟨_, ⟨_, 1, cap, [(g, cellsOf (cur.set 0 (vPl q)) 99)] ++ (G ++ plb q out), rfl, ⟨g, [escH out], rfl, by omega, ⟨⟨cur.set 0 (vPl q), by simp, by rw [List.length_set]; omega, fun j hj0 => ?_⟩, rfl, ?_⟩, by simp⟩, rfl⟩, ⟨[], by simp⟩⟩
  · obtain rfl : j = 0 := by omega
    exact ⟨_, _, _, List.getElem?_set_self (by omega), rfl, prnPlain q out _ (by simp) (by omega)⟩
  · simp only [List.flatten_cons, List.flatten_nil, List.length_append, List.length_nil]
    omega

theorem emphQuo (ch : UInt8) (hch : ch = 34 ∨ ch = 39) (o1 o2 : List UInt8) (ho : o1 = (if ch = 34 then [226, 128, 156] else [226, 128, 152]) ∧ o2 = (if ch = 34 then [226, 128, 157] else [226, 128, 153])) (a b c : List UInt8) (hb : b ≠ []) (p g cap : Nat) (cur vals : List Value) (IB : Blk) (hI : ItsT (itemsT (quoToks ch a b c)) vals IB) (hcap : (itemsT (quoToks ch a b c)).length ≤ cap) (hcl : cur.length = cap) (htk : cur.take (itemsT (quoToks ch a b c)).length = vals) :
    Tr Tryz.prog 54 [lp p, .slice (some ⟨g, 0, none⟩) 0 cap, .slice (some ⟨g, 0, none⟩) (itemsT (quoToks ch a b c)).length cap] [[(g, cellsOf cur 99)], IB] fun u K => ∃ im cur' G, u = .slice (some ⟨g, 0, none⟩) im cap ∧ cur'.length = cap ∧ im ≤ cap ∧ MTxt [a ++ [32], o1, b, o2, 32 :: c] im cur' G ∧ K = [[(g, cellsOf cur' 99)], G] := by
  rw [quo_items ch a b c hb] at hI hcap htk ⊢
  obtain ⟨v4, q4, B4, rfl, rfl, hI4⟩ := ItsT.inv (its := [.plain (a ++ [32]), .emph [ch] true false 1, .plain b, .emph [ch] false true 1]) (x := .plain (32 :: c)) hI
  obtain ⟨v3, q3, B3, rfl, rfl, hI3⟩ := ItsT.inv (its := [.plain (a ++ [32]), .emph [ch] true false 1, .plain b]) (x := .emph [ch] false true 1) hI4
  obtain ⟨v2, q2, B2, rfl, rfl, hI2⟩ := ItsT.inv (its := [.plain (a ++ [32]), .emph [ch] true false 1]) (x := .plain b) hI3
  obtain ⟨v1, q1, B1, rfl, rfl, hI1⟩ := ItsT.inv (its := [.plain (a ++ [32])]) (x := .emph [ch] true false 1) hI2
  obtain ⟨v0, q0, B0, rfl, rfl, hI0⟩ := ItsT.inv (its := []) (x := .plain (a ++ [32])) hI1
  obtain ⟨rfl, rfl⟩ := hI0.inv0
  have hcap5 : 5 ≤ cap := hcap
  have get : ∀ j, j < 5 → cur[j]? = (cur.take 5)[j]? := fun j hj => by rw [List.getElem?_take, if_pos hj]
  have htk' : cur.take 5 = [vPl q0, vEm q1, vPl q2, vEm q3, vPl q4] := htk
  have c0 : cur[0]? = some (vPl q0) := by rw [get 0 (by omega), htk']; rfl
  have c1 : cur[1]? = some (vEm q1) := by rw [get 1 (by omega), htk']; rfl
  have c2 : cur[2]? = some (vPl q2) := by rw [get 2 (by omega), htk']; rfl
  have c3 : cur[3]? = some (vEm q3) := by rw [get 3 (by omega), htk']; rfl
  have c4 : cur[4]? = some (vPl q4) := by rw [get 4 (by omega), htk']; rfl
  have hfin : ∀ (u : Value) (K : Heap), (u = .slice (some ⟨g, 0, none⟩) 5 cap ∧ K = [[(g, cellsOf cur 99)], plb q0 (a ++ [32]), epb q1 o1 true false 1 1, plb q2 b, epb q3 o2 false true 0 1, plb q4 (32 :: c)]) →
      ∃ K' : Heap, (∃ im cur' G, u = .slice (some ⟨g, 0, none⟩) im cap ∧ cur'.length = cap ∧ im ≤ cap ∧ MTxt [a ++ [32], o1, b, o2, 32 :: c] im cur' G ∧ K' = [[(g, cellsOf cur' 99)], G]) ∧ SubH K K' := by
    rintro u K ⟨rfl, rfl⟩
    refine ⟨_, ⟨5, cur, plb q0 (a ++ [32]) ++ (epb q1 o1 true false 1 1 ++ (plb q2 b ++ (epb q3 o2 false true 0 1 ++ plb q4 (32 :: c)))), rfl, hcl, hcap5, ⟨rfl, fun j hj => ?_⟩, rfl⟩, ⟨[], by simp⟩⟩
    rcases (by omega : j = 0 ∨ j = 1 ∨ j = 2 ∨ j = 3 ∨ j = 4) with rfl | rfl | rfl | rfl | rfl
    · exact ⟨_, q0, _, c0, rfl, .inl rfl, _, _, by simp; exact .inl ⟨rfl, rfl⟩⟩
    · exact ⟨_, q1, _, c1, rfl, .inr rfl, _, _, by simp; exact .inr (.inl ⟨rfl, rfl⟩)⟩
    · exact ⟨_, q2, _, c2, rfl, .inl rfl, _, _, by simp; exact .inr (.inr (.inl ⟨rfl, rfl⟩))⟩
    · exact ⟨_, q3, _, c3, rfl, .inr rfl, _, _, by simp; exact .inr (.inr (.inr (.inl ⟨rfl, rfl⟩)))⟩
    · exact ⟨_, q4, _, c4, rfl, .inl rfl, _, _, by simp; exact .inr (.inr (.inr (.inr ⟨rfl, rfl⟩)))⟩
  obtain ⟨rfl, rfl⟩ := ho
  rcases hch with rfl | rfl
  · refine Tr.postSub (Tr.weaker (emphDbl_tr p g cap cur (a ++ [32]) b (32 :: c) q0 q1 q2 q3 q4 hcl hcap5 c0 c1 c2 c3 c4) ?_) hfin
    exact SubH.trans (H' := [[(g, cellsOf cur 99)], [It.cell (.plain (32 :: c)) q4], [It.cell (.emph [34] false true 1) q3], [It.cell (.plain b) q2], [It.cell (.emph [34] true false 1) q1], [It.cell (.plain (a ++ [32])) q0]]) ⟨[], by simp⟩ (by repeat (first | exact SubH.nilR _ | refine SubH.pick (by repeat (first | exact HTake.here | apply HTake.there)) ?_))
  · refine Tr.postSub (Tr.weaker (emphSgl_tr p g cap cur (a ++ [32]) b (32 :: c) q0 q1 q2 q3 q4 hcl hcap5 c0 c1 c2 c3 c4) ?_) hfin
    exact SubH.trans (H' := [[(g, cellsOf cur 99)], [It.cell (.plain (32 :: c)) q4], [It.cell (.emph [39] false true 1) q3], [It.cell (.plain b) q2], [It.cell (.emph [39] true false 1) q1], [It.cell (.plain (a ++ [32])) q0]]) ⟨[], by simp⟩ (by repeat (first | exact SubH.nilR _ | refine SubH.pick (by repeat (first | exact HTake.here | apply HTake.there)) ?_))

theorem emphApo (a c : List UInt8) (ha : a ≠ []) (p g cap : Nat) (cur vals : List Value) (IB : Blk) (hI : ItsT (itemsT (apoToks a c)) vals IB) (hcap : (itemsT (apoToks a c)).length ≤ cap) (hcl : cur.length = cap) (htk : cur.take (itemsT (apoToks a c)).length = vals) :
    Tr Tryz.prog 54 [lp p, .slice (some ⟨g, 0, none⟩) 0 cap, .slice (some ⟨g, 0, none⟩) (itemsT (apoToks a c)).length cap] [[(g, cellsOf cur 99)], IB] fun u K => ∃ im cur' G, u = .slice (some ⟨g, 0, none⟩) im cap ∧ cur'.length = cap ∧ im ≤ cap ∧ MTxt [a, [226, 128, 153], c] im cur' G ∧ K = [[(g, cellsOf cur' 99)], G] := by
  rw [apo_items a c ha] at hI hcap htk ⊢
  obtain ⟨v2, q2, B2, rfl, rfl, hI2⟩ := ItsT.inv (its := [.plain a, .emph [39] false true 1]) (x := .plain c) hI
  obtain ⟨v1, q1, B1, rfl, rfl, hI1⟩ := ItsT.inv (its := [.plain a]) (x := .emph [39] false true 1) hI2
  obtain ⟨v0, q0, B0, rfl, rfl, hI0⟩ := ItsT.inv (its := []) (x := .plain a) hI1
  obtain ⟨rfl, rfl⟩ := hI0.inv0
  have hcap3 : 3 ≤ cap := hcap
  have get : ∀ j, j < 3 → cur[j]? = (cur.take 3)[j]? := fun j hj => by rw [List.getElem?_take, if_pos hj]
  have htk' : cur.take 3 = [vPl q0, vEm q1, vPl q2] := htk
  have c0 : cur[0]? = some (vPl q0) := by rw [get 0 (by omega), htk']; rfl
  have c1 : cur[1]? = some (vEm q1) := by rw [get 1 (by omega), htk']; rfl
  have c2 : cur[2]? = some (vPl q2) := by rw [get 2 (by omega), htk']; rfl
  refine Tr.postSub (Tr.weaker (emphApo_tr p g cap cur a c q0 q1 q2 hcl hcap3 c0 c1 c2) ?_) ?_
  · exact SubH.trans (H' := [[(g, cellsOf cur 99)], [It.cell (.plain c) q2], [It.cell (.emph [39] false true 1) q1], [It.cell (.plain a) q0]]) ⟨[], by simp⟩ (by repeat (first | exact SubH.nilR _ | refine SubH.pick (by repeat (first | exact HTake.here | apply HTake.there)) ?_))
  · rintro u K ⟨rfl, rfl⟩
    refine ⟨_, ⟨3, cur.set 1 (vPl q1), plb q0 a ++ (epb q1 [226, 128, 153] false true 0 1 ++ plb q2 c), rfl, by rw [List.length_set]; exact hcl, hcap3, ⟨rfl, fun j hj => ?_⟩, rfl⟩, ⟨[], by simp⟩⟩
    rcases (by omega : j = 0 ∨ j = 1 ∨ j = 2) with rfl | rfl | rfl
    · exact ⟨_, q0, _, by rw [List.getElem?_set_ne (by decide)]; exact c0, rfl, .inl rfl, _, _, by simp; exact .inl ⟨rfl, rfl⟩⟩
    · exact ⟨_, q1, _, List.getElem?_set_self (by omega), rfl, .inl rfl, _, _, by simp; exact .inr (.inl ⟨rfl, rfl⟩)⟩
    · exact ⟨_, q2, _, by rw [List.getElem?_set_ne (by decide)]; exact c2, rfl, .inl rfl, _, _, by simp; exact .inr (.inr ⟨rfl, rfl⟩)⟩
end Go.Proofs

namespace Go.Proofs
open Go Go.Eng
set_option maxRecDepth 20000
set_option maxHeartbeats 4000000

theorem quoHTML_tr {ch : UInt8} (hch : ch = 34 ∨ ch = 39) {a b c : List UInt8} (ha : Word a) (hb : Word b) (hc : Word c) (o1 o2 : List UInt8) (ho : o1 = (if ch = 34 then [226, 128, 156] else [226, 128, 152]) ∧ o2 = (if ch = 34 then [226, 128, 157] else [226, 128, 153])) :
    TrD Tryz.prog 11 [optO false true, str (quoText ch a b c)] [] (str (paraO ((a ++ [32]) ++ o1 ++ b ++ o2 ++ (32 :: c)))) [] := by
  obtain ⟨a0, ar, ha0, haw⟩ := ha.cons
  have l1 := ha.len
  have l2 := hb.len
  have l3 := hc.len
  have hch' : ch.toNat = 34 ∨ ch.toNat = 39 := by rcases hch with rfl | rfl <;> decide
  have hol : o1.length = 3 ∧ o2.length = 3 := by
    obtain ⟨rfl, rfl⟩ := ho
    constructor <;> (split <;> rfl)
  have hoc : ∀ d, d ∈ o1 ∨ d ∈ o2 → d.toNat ≠ 34 ∧ d.toNat ≠ 38 ∧ d.toNat ≠ 60 ∧ d.toNat ≠ 62 := by
    obtain ⟨rfl, rfl⟩ := ho
    intro d hd
    have h : d = 226 ∨ d = 128 ∨ d = 156 ∨ d = 152 ∨ d = 157 ∨ d = 153 := by
      rcases hd with hd | hd <;> (split at hd <;> (simp only [List.mem_cons, List.not_mem_nil, or_false] at hd; rcases hd with h | h | h <;> simp [h]))
    rcases h with h | h | h | h | h | h <;> (subst h; decide)
  have hall : ∀ d ∈ quoText ch a b c, sch d.toNat := by
    intro d hd
    unfold quoText at hd
    simp only [List.mem_append, List.mem_cons, List.not_mem_nil, or_false] at hd
    rcases hd with (((h | h | h) | h) | h | h) | h
    · exact .inl (ha.c d h)
    · subst h; exact .inr (.inl rfl)
    · subst h; omega
    · exact .inl (hb.c d h)
    · subst h; omega
    · subst h; exact .inr (.inl rfl)
    · exact .inl (hc.c d h)
  have e1 : quoText ch a b c = a0 :: (ar ++ [32, ch] ++ b ++ [ch, 32] ++ c) := by unfold quoText; rw [ha0]; simp
  have hP := plW e1 haw hall (by unfold quoText; simp only [List.length_append, List.length_cons, List.length_nil]; omega)
  have h0 : at0 (quoText ch a b c) 0 = a0.toNat := by rw [e1]; rfl
  have hlen : ((a ++ [32]) ++ o1 ++ b ++ o2 ++ (32 :: c)).length ≤ 1000 := by simp only [List.length_append, List.length_cons, List.length_nil]; omega
  have hT := htmlO_tr false true (quoToks ch a b c) _ (quo_ok hch' ha hb hc) (by rw [quo_bytes]; exact hP) (by rw [quo_bytes, h0]; omega) (by rw [quo_bytes, h0]; omega) (by rw [quo_bytes, h0]; omega) (by rw [quo_bytes, h0]; omega) (MTxt [a ++ [32], o1, b, o2, 32 :: c]) (emphQuo ch hch o1 o2 ho a b c hb.ne)
    (mergeTxts [a ++ [32], o1, b, o2, 32 :: c] ((a ++ [32]) ++ o1 ++ b ++ o2 ++ (32 :: c)) (by simp) (by simp) (by simp [Lib.join_cons, Lib.joinTail]) hlen)
  rw [quo_bytes, escH_same _ (fun d hd => by
    simp only [List.mem_append, List.mem_cons, List.not_mem_nil, or_false] at hd
    rcases hd with ((((h | h) | h) | h) | h) | h | h
    · have := ha.c d h; omega
    · subst h; decide
    · exact hoc d (.inl h)
    · have := hb.c d h; omega
    · exact hoc d (.inr h)
    · subst h; decide
    · have := hc.c d h; omega)] at hT
  exact hT

theorem apoHTML_tr {a c : List UInt8} (ha : Word a) (hc : Word c) :
    TrD Tryz.prog 11 [optO false true, str (apoText a c)] [] (str (paraO (a ++ [226, 128, 153] ++ c))) [] := by
  obtain ⟨a0, ar, ha0, haw⟩ := ha.cons
  have l1 := ha.len
  have l3 := hc.len
  have hall : ∀ d ∈ apoText a c, sch d.toNat := by
    intro d hd
    unfold apoText at hd
    simp only [List.mem_append, List.mem_cons, List.not_mem_nil, or_false] at hd
    rcases hd with (h | h) | h
    · exact .inl (ha.c d h)
    · subst h; decide
    · exact .inl (hc.c d h)
  have e1 : apoText a c = a0 :: (ar ++ [39] ++ c) := by unfold apoText; rw [ha0]; simp
  have hP := plW e1 haw hall (by unfold apoText; simp only [List.length_append, List.length_cons, List.length_nil]; omega)
  have h0 : at0 (apoText a c) 0 = a0.toNat := by rw [e1]; rfl
  have hlen : (a ++ [226, 128, 153] ++ c).length ≤ 1000 := by simp only [List.length_append, List.length_cons, List.length_nil]; omega
  have hT := htmlO_tr false true (apoToks a c) _ (apo_ok ha hc) (by rw [apo_bytes]; exact hP) (by rw [apo_bytes, h0]; omega) (by rw [apo_bytes, h0]; omega) (by rw [apo_bytes, h0]; omega) (by rw [apo_bytes, h0]; omega) (MTxt [a, [226, 128, 153], c]) (emphApo a c ha.ne)
    (mergeTxts [a, [226, 128, 153], c] (a ++ [226, 128, 153] ++ c) (by simp) (by simp) (by simp [Lib.join_cons, Lib.joinTail]) hlen)
  rw [apo_bytes, escH_same _ (fun d hd => by
    simp only [List.mem_append, List.mem_cons, List.not_mem_nil, or_false] at hd
    rcases hd with (h | h | h | h) | h
    · have := ha.c d h; omega
    · subst h; decide
    · subst h; decide
    · subst h; decide
    · have := hc.c d h; omega)] at hT
  exact hT

theorem fnSmartQuotes_tr (a b c : List UInt8) (single : Bool) (hla : a.length ≤ 9223372036854775807) (hlb : b.length ≤ 9223372036854775807) (hlc : c.length ≤ 9223372036854775807) :
    Tr Tryz.prog 4 [str a, str b, str c, .bool single] [] fun u K => u = .bool true ∧ K = [] := by
  refine Tr.start (n := 89) (rs := [.tmp 8]) rfl rfl rfl rfl fun B => ?_
  by_cases ha0 : 2147483647 < a.length
  · (repeat' (first | refine k_seq ?_ | refine k_region ?_ | refine k_nil ?_ | refine k_then ?_ | refine k_true ?_ | refine k_ret ?_ | refine k_ret_then ?_ | refine s_gskipf ?_ | refine s_move ?_ | refine s_assign ?_ | refine s_gtr_t ?_ | refine s_pickt ?_ | refine s_lens ?_))
    exact e_ret [] ⟨rfl, rfl⟩ (by repeat (first | exact SubH.nilR _ | refine SubH.pick (by repeat (first | exact HTake.here | apply HTake.there)) ?_))
  by_cases hb0 : 2147483647 < b.length
  · (repeat' (first | refine k_seq ?_ | refine k_region ?_ | refine k_nil ?_ | refine k_then ?_ | refine k_true ?_ | refine k_ret ?_ | refine k_ret_then ?_ | refine s_grun ?_ | refine s_gskipf ?_ | refine s_move ?_ | refine s_assign ?_ | refine s_gtr_t ?_ | refine s_gtr_f ?_ | refine s_pickt ?_ | refine s_pickf ?_ | refine s_lens ?_))
    exact e_ret [] ⟨rfl, rfl⟩ (by repeat (first | exact SubH.nilR _ | refine SubH.pick (by repeat (first | exact HTake.here | apply HTake.there)) ?_))
  by_cases hc0 : 2147483647 < c.length
  · (repeat' (first | refine k_seq ?_ | refine k_region ?_ | refine k_nil ?_ | refine k_then ?_ | refine k_true ?_ | refine k_ret ?_ | refine k_ret_then ?_ | refine s_grun ?_ | refine s_move ?_ | refine s_assign ?_ | refine s_gtr_t ?_ | refine s_gtr_f ?_ | refine s_pickf ?_ | refine s_lens ?_))
    exact e_ret [] ⟨rfl, rfl⟩ (by repeat (first | exact SubH.nilR _ | refine SubH.pick (by repeat (first | exact HTake.here | apply HTake.there)) ?_))
  (repeat' (first | refine k_seq ?_ | refine k_region ?_ | refine k_nil ?_ | refine k_then ?_ | refine k_false ?_ | refine k_skip ?_ | refine s_grun ?_ | refine s_move ?_ | refine s_assign ?_ | refine s_gtr_f ?_ | refine s_pickf ?_ | refine s_lens ?_))
  refine s_call (word_tr a (by omega)) (fun u K hR => ?_)
  obtain ⟨rfl, r, rfl, hA⟩ := hR
  cases r with
  | false =>
    (repeat' (first | refine k_seq ?_ | refine k_region ?_ | refine k_nil ?_ | refine k_then ?_ | refine k_true ?_ | refine k_ret ?_ | refine k_ret_then ?_ | refine s_gskipf ?_ | refine s_move ?_ | refine s_assign ?_ | refine s_pickt ?_ | refine s_notf ?_))
    exact e_ret [] ⟨rfl, rfl⟩ (by repeat (first | exact SubH.nilR _ | refine SubH.pick (by repeat (first | exact HTake.here | apply HTake.there)) ?_))
  | true =>
  have ha := hA rfl
  (repeat' (first | refine s_grun ?_ | refine s_move ?_ | refine s_nott ?_))
  refine s_call (word_tr b (by omega)) (fun u K hR => ?_)
  obtain ⟨rfl, r, rfl, hB⟩ := hR
  cases r with
  | false =>
    (repeat' (first | refine k_seq ?_ | refine k_region ?_ | refine k_nil ?_ | refine k_then ?_ | refine k_true ?_ | refine k_ret ?_ | refine k_ret_then ?_ | refine s_grun ?_ | refine s_gskipf ?_ | refine s_move ?_ | refine s_assign ?_ | refine s_pickt ?_ | refine s_pickf ?_ | refine s_notf ?_))
    exact e_ret [] ⟨rfl, rfl⟩ (by repeat (first | exact SubH.nilR _ | refine SubH.pick (by repeat (first | exact HTake.here | apply HTake.there)) ?_))
  | true =>
  have hb := hB rfl
  (repeat' (first | refine s_grun ?_ | refine s_move ?_ | refine s_pickf ?_ | refine s_nott ?_))
  refine s_call (word_tr c (by omega)) (fun u K hR => ?_)
  obtain ⟨rfl, r, rfl, hC⟩ := hR
  cases r with
  | false =>
    (repeat' (first | refine k_seq ?_ | refine k_region ?_ | refine k_nil ?_ | refine k_then ?_ | refine k_true ?_ | refine k_ret ?_ | refine k_ret_then ?_ | refine s_grun ?_ | refine s_assign ?_ | refine s_pickf ?_ | refine s_notf ?_))
    exact e_ret [] ⟨rfl, rfl⟩ (by repeat (first | exact SubH.nilR _ | refine SubH.pick (by repeat (first | exact HTake.here | apply HTake.there)) ?_))
  | true =>
  have hc := hC rfl
  have l1 := ha.len
  have l2 := hb.len
  have l3 := hc.len
  cases single with
  | false =>
    have t1 : TrD Tryz.prog 11 [optO false true, str (a ++ [32, 34] ++ b ++ [34, 32] ++ c)] [] _ [] := quoHTML_tr (ch := 34) (.inl rfl) ha hb hc _ _ ⟨rfl, rfl⟩
    have heq : paraO ((a ++ [32]) ++ [226, 128, 156] ++ b ++ [226, 128, 157] ++ (32 :: c)) = [60, 112, 62] ++ a ++ [32, 226, 128, 156] ++ b ++ [226, 128, 157, 32] ++ c ++ [60, 47, 112, 62, 10] := by simp [paraO]
    (repeat' (first | refine s_addsx ?_ | refine s_callD (t1) ?_ | refine s_eqs_t (hr := heq) ?_ | refine k_seq ?_ | refine k_region ?_ | refine k_nil ?_ | refine k_then ?_ | refine k_false ?_ | refine k_skip ?_ | refine k_ret ?_ | refine s_grun ?_ | refine s_move ?_ | refine s_assign ?_ | refine s_pickf ?_ | refine s_nott ?_ | refine s_buildx ?_))
    exact e_ret [] ⟨rfl, rfl⟩ (by repeat (first | exact SubH.nilR _ | refine SubH.pick (by repeat (first | exact HTake.here | apply HTake.there)) ?_))
  | true =>
    have t1 : TrD Tryz.prog 11 [optO false true, str (a ++ [32, 39] ++ b ++ [39, 32] ++ c)] [] _ [] := quoHTML_tr (ch := 39) (.inr rfl) ha hb hc _ _ ⟨rfl, rfl⟩
    have t2 : TrD Tryz.prog 11 [optO false true, str (a ++ [39] ++ c)] [] _ [] := apoHTML_tr ha hc
    have heq : paraO ((a ++ [32]) ++ [226, 128, 152] ++ b ++ [226, 128, 153] ++ (32 :: c)) = [60, 112, 62] ++ a ++ [32, 226, 128, 152] ++ b ++ [226, 128, 153, 32] ++ c ++ [60, 47, 112, 62, 10] := by simp [paraO]
    have heq2 : paraO (a ++ [226, 128, 153] ++ c) = [60, 112, 62] ++ a ++ [226, 128, 153] ++ c ++ [60, 47, 112, 62, 10] := by simp [paraO]
    (repeat' (first | refine s_addsx ?_ | refine s_callD (t1) ?_ | refine s_callD (t2) ?_ | refine s_eqs_t (hr := heq) ?_ | refine s_eqs_t (hr := heq2) ?_ | refine k_seq ?_ | refine k_region ?_ | refine k_nil ?_ | refine k_then ?_ | refine k_true ?_ | refine k_false ?_ | refine k_skip ?_ | refine k_ret ?_ | refine k_ret_then ?_ | refine s_grun ?_ | refine s_move ?_ | refine s_assign ?_ | refine s_pickt ?_ | refine s_pickf ?_ | refine s_nott ?_ | refine s_buildx ?_))
    exact e_ret [] ⟨rfl, rfl⟩ (by repeat (first | exact SubH.nilR _ | refine SubH.pick (by repeat (first | exact HTake.here | apply HTake.there)) ?_))
end Go.Proofs

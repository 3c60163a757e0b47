/- Steps of the walk of the program and plain facts on what it computes. Conditions: as each theorem states them. -/
import Derived.Test.YthmgajolaekpdaaGreatDoorT14
import Derived.Test.YthmgajolaekpdaaGreatDoorT09
import Derived.Test.YthmgajolaekpdaaGreatDoorEngB
namespace Go.Proofs
open Go Go.Eng
set_option maxRecDepth 20000
set_option maxHeartbeats 4000000

theorem get_drop {s r : List UInt8} {i : Nat} {c : UInt8} (h : s.drop i = c :: r) : s[i]? = some c := by
  have := congrArg (fun l => l[0]?) h
  simpa [List.getElem?_drop] using this
theorem drop_add {s a r : List UInt8} {i : Nat} (h : s.drop i = a ++ r) : s.drop (i + a.length) = r := by
  rw [← List.drop_drop, h]; simp
theorem drop_succ {s r : List UInt8} {i : Nat} {c : UInt8} (h : s.drop i = c :: r) : s.drop (i + 1) = r := drop_add (a := [c]) h
theorem takeWhile_run {p : UInt8 → Bool} : ∀ {a : List UInt8} {c : UInt8} {r : List UInt8}, (∀ d ∈ a, p d = true) → p c = false → (a ++ c :: r).takeWhile p = a
  | [], c, r, _, h => by simp [h]
  | d :: a, c, r, h1, h2 => by
    rw [List.cons_append, List.takeWhile_cons_of_pos (h1 d (by simp)), takeWhile_run (fun d hd => h1 d (by simp [hd])) h2]
theorem scan_drop {p : UInt8 → Bool} {s a r : List UInt8} {i : Nat} {c : UInt8} (h : s.drop i = a ++ c :: r) (h1 : ∀ d ∈ a, p d = true) (h2 : p c = false) : scan p s i = i + a.length := by
  unfold scan
  rw [h, takeWhile_run h1 h2]
theorem bix_drop {q : UInt8} {a r : List UInt8} (h : ∀ d ∈ a, d ≠ q) : bix q (a ++ q :: r) = some a.length := by
  have hf : ∀ (a r : List UInt8), (∀ d ∈ a, d ≠ q) → fst1 q (a ++ q :: r) = a.length := by
    intro a
    induction a with
    | nil => intro r _; simp [fst1]
    | cons d a ih =>
      intro r h
      have h0 := h d (by simp)
      simp only [List.cons_append, fst1, List.length_cons]
      rw [if_neg h0, ih r (fun d hd => h d (by simp [hd]))]
  unfold bix
  rw [hf a r h, if_pos (by simp)]

/-- An attribute of the law: white space, its number, and the form of its value. -/
structure Att where
  sep : Nat
  i : Nat
  form : Nat
def Att.ok (x : Att) : Prop := x.sep < 3 ∧ x.i < 10 ∧ x.form < 4
def sepB : Nat → List UInt8
  | 0 => [32]
  | 1 => [10]
  | _ => [32, 32]
def digB (i : Nat) : UInt8 := UInt8.ofNat (48 + i)
def valB : Nat → List UInt8
  | 0 => [61, 34, 118, 32, 62, 32, 119, 34]
  | 1 => [61, 39, 118, 32, 34, 119, 39]
  | 2 => [32, 61, 32, 118]
  | _ => []
def Att.bytes (x : Att) : List UInt8 := sepB x.sep ++ ([107, digB x.i] ++ valB x.form)
def attsB (l : List Att) : List UInt8 := l.flatMap Att.bytes
def endB (slash : Bool) : List UInt8 := if slash then [32, 47, 62] else [62]
/-- What may stand behind an attribute. -/
def Tail (r : List UInt8) : Prop := ∃ a c r', r = a ++ c :: r' ∧ (∀ d ∈ a, d = 32 ∨ d = 10) ∧ (c = 62 ∨ c = 47 ∨ c = 107)
theorem tail_atts (l : List Att) (slash : Bool) (post : List UInt8) : Tail (attsB l ++ (endB slash ++ post)) := by
  cases l with
  | nil =>
    cases slash with
    | true => exact ⟨[32], 47, 62 :: post, rfl, by simp, .inr (.inl rfl)⟩
    | false => exact ⟨[], 62, post, rfl, by simp, .inl rfl⟩
  | cons x l =>
    refine ⟨sepB x.sep, 107, digB x.i :: (valB x.form ++ (attsB l ++ (endB slash ++ post))), by simp [attsB, Att.bytes], ?_, .inr (.inr rfl)⟩
    unfold sepB
    split <;> simp
theorem tail_head {r : List UInt8} (h : Tail r) (l : List Att) (slash : Bool) (post : List UInt8) (e : r = attsB l ++ (endB slash ++ post)) : ∃ c r', r = c :: r' ∧ (c = 32 ∨ c = 10 ∨ c = 62) := by
  subst e
  cases l with
  | nil =>
    cases slash with
    | true => exact ⟨32, 47 :: 62 :: post, rfl, .inl rfl⟩
    | false => exact ⟨62, post, rfl, .inr (.inr rfl)⟩
  | cons x l =>
    have : ∃ c r', sepB x.sep = c :: r' ∧ (c = 32 ∨ c = 10) := by
      unfold sepB
      split
      · exact ⟨32, [], rfl, .inl rfl⟩
      · exact ⟨10, [], rfl, .inr rfl⟩
      · exact ⟨32, [32], rfl, .inl rfl⟩
    obtain ⟨c, r', hc, h2⟩ := this
    exact ⟨c, _, by simp only [attsB, List.flatMap_cons, Att.bytes]; rw [hc]; simp only [List.cons_append]; rfl, by rcases h2 with h | h <;> simp [h]⟩
theorem isSp_of {d : UInt8} (h : d = 32 ∨ d = 10) : isSp d = true := by rcases h with h | h <;> (subst h; decide)
theorem digB_ok {i : Nat} (h : i < 10) : ld8 (digB i).toNat := by
  have : (List.range 10).all (fun i => decide (ld8 (digB i).toNat)) = true := by decide
  exact of_decide_eq_true (List.all_eq_true.1 this i (List.mem_range.2 h))

theorem attrSpec_at {s r : List UInt8} {j f : Nat} (hf : f < 4) (h : s.drop j = valB f ++ r) (hr : Tail r) (hh : ∃ c r', r = c :: r' ∧ (c = 32 ∨ c = 10 ∨ c = 62)) : (attrSpecM s j).getD j = j + (valB f).length := by
  have hlen : ∀ {x : List UInt8} {i : Nat}, s.drop i = x → x ≠ [] → i + x.length = s.length := by
    intro x i h hx
    have := congrArg List.length h
    rw [List.length_drop] at this
    have : 0 < x.length := List.length_pos_iff.2 hx
    omega
  obtain ⟨c, r', hc, hcc⟩ := hh
  have h4 : f = 0 ∨ f = 1 ∨ f = 2 ∨ f = 3 := by omega
  rcases h4 with rfl | rfl | rfl | rfl
  · have h' : s.drop j = [] ++ 61 :: (34 :: ([118, 32, 62, 32, 119] ++ 34 :: r)) := by simpa [valB] using h
    have e1 : scan isSp s j = j := scan_drop h' (by simp) (by decide)
    have h1 : s.drop (j + 1) = [] ++ 34 :: ([118, 32, 62, 32, 119] ++ 34 :: r) := drop_succ h'
    have e2 : scan isSp s (j + 1) = j + 1 := scan_drop h1 (by simp) (by decide)
    have g0 : s[j]? = some 61 := get_drop h'
    have g1 : s[j + 1]? = some 34 := get_drop h1
    have h2 : s.drop (j + 1 + 1) = [118, 32, 62, 32, 119] ++ 34 :: r := drop_succ h1
    have hl := (List.getElem?_eq_some_iff.1 g1).1
    have e : attrSpecM s j = some (j + 8) := by
      unfold attrSpecM
      rw [e1, if_pos ⟨g0, hl⟩, e2]
      unfold attrValM
      rw [g1]
      dsimp only
      rw [if_pos (by decide), h2, bix_drop (by decide)]
      rfl
    rw [e]; rfl
  · have h' : s.drop j = [] ++ 61 :: (39 :: ([118, 32, 34, 119] ++ 39 :: r)) := by simpa [valB] using h
    have e1 : scan isSp s j = j := scan_drop h' (by simp) (by decide)
    have h1 : s.drop (j + 1) = [] ++ 39 :: ([118, 32, 34, 119] ++ 39 :: r) := drop_succ h'
    have e2 : scan isSp s (j + 1) = j + 1 := scan_drop h1 (by simp) (by decide)
    have g0 : s[j]? = some 61 := get_drop h'
    have g1 : s[j + 1]? = some 39 := get_drop h1
    have h2 : s.drop (j + 1 + 1) = [118, 32, 34, 119] ++ 39 :: r := drop_succ h1
    have hl := (List.getElem?_eq_some_iff.1 g1).1
    have e : attrSpecM s j = some (j + 7) := by
      unfold attrSpecM
      rw [e1, if_pos ⟨g0, hl⟩, e2]
      unfold attrValM
      rw [g1]
      dsimp only
      rw [if_pos (by decide), h2, bix_drop (by decide)]
      rfl
    rw [e]; rfl
  · have h' : s.drop j = [32] ++ 61 :: (32 :: 118 :: r) := by simpa [valB] using h
    have e1 : scan isSp s j = j + 1 := scan_drop h' (by decide) (by decide)
    have h1 : s.drop (j + 1) = 61 :: (32 :: 118 :: r) := drop_add (a := [32]) h'
    have h2 : s.drop (j + 1 + 1) = [32] ++ 118 :: r := drop_succ h1
    have e2 : scan isSp s (j + 1 + 1) = j + 1 + 1 + 1 := scan_drop h2 (by decide) (by decide)
    have h3 : s.drop (j + 1 + 1 + 1) = 118 :: r := drop_add (a := [32]) h2
    have g0 : s[j + 1]? = some 61 := get_drop h1
    have g1 : s[j + 1 + 1 + 1]? = some 118 := get_drop h3
    have hl := (List.getElem?_eq_some_iff.1 g1).1
    have h3' : s.drop (j + 1 + 1 + 1) = [118] ++ c :: r' := by rw [h3, hc]; rfl
    have e3 : scan unqB s (j + 1 + 1 + 1) = j + 1 + 1 + 1 + 1 := scan_drop h3' (by decide) (by rcases hcc with h | h | h <;> (subst h; decide))
    have e : attrSpecM s j = some (j + 4) := by
      unfold attrSpecM
      rw [e1, if_pos ⟨g0, by omega⟩, e2]
      unfold attrValM
      rw [g1]
      dsimp only
      rw [if_neg (by decide)]
      unfold unqM
      rw [e3, if_pos (by omega)]
    rw [e]; rfl
  · obtain ⟨a, c2, r2, hr1, hr2, hr3⟩ := hr
    have h' : s.drop j = a ++ c2 :: r2 := by rw [h, hr1]; rfl
    have e1 : scan isSp s j = j + a.length := scan_drop h' (fun d hd => isSp_of (hr2 d hd)) (by rcases hr3 with h | h | h <;> (subst h; decide))
    have g0 : s[j + a.length]? = some c2 := get_drop (drop_add h')
    have e : attrSpecM s j = none := by
      unfold attrSpecM
      rw [e1, g0, if_neg (by rintro ⟨h, _⟩; cases h; rcases hr3 with h | h | h <;> exact absurd h (by decide))]
    rw [e]; simp [valB]
theorem sep_sp (k : Nat) : ∀ d ∈ sepB k, isSp d = true := by
  unfold sepB
  split <;> decide
theorem attr_at {s r : List UInt8} {j : Nat} {x : Att} (hx : x.ok) (h : s.drop j = x.bytes ++ r) (hr : Tail r) (hh : ∃ c r', r = c :: r' ∧ (c = 32 ∨ c = 10 ∨ c = 62)) : attrM s j = some (j + x.bytes.length) := by
  have h0 : s.drop j = sepB x.sep ++ 107 :: (digB x.i :: (valB x.form ++ r)) := by rw [h]; simp [Att.bytes]
  have e0 : scan isSp s j = j + (sepB x.sep).length := scan_drop h0 (sep_sp _) (by decide)
  have h1 := drop_add h0
  have g1 := get_drop h1
  have h2 := drop_succ h1
  have g2 := get_drop h2
  have hd := digB_ok hx.2.1
  have hv : ∃ c r', valB x.form ++ r = c :: r' ∧ nameB c = false := by
    obtain ⟨c, r', hc, hcc⟩ := hh
    unfold valB
    split
    · exact ⟨61, _, rfl, by decide⟩
    · exact ⟨61, _, rfl, by decide⟩
    · exact ⟨32, _, rfl, by decide⟩
    · exact ⟨c, r', hc, by rcases hcc with h | h | h <;> (subst h; decide)⟩
  obtain ⟨c, r', hc, hcn⟩ := hv
  have h2' : s.drop (j + (sepB x.sep).length + 1) = [digB x.i] ++ c :: r' := by rw [h2, hc]; rfl
  have e2 : scan nameB s (j + (sepB x.sep).length + 1) = j + (sepB x.sep).length + 1 + 1 := scan_drop h2' (by intro d hd'; rw [List.mem_singleton] at hd'; subst hd'; simp [nameB, ldhB, hd]) hcn
  have h3 : s.drop (j + (sepB x.sep).length + 1 + 1) = valB x.form ++ r := drop_succ h2
  have e : attrNameM s (j + (sepB x.sep).length) = some (j + (sepB x.sep).length + 1 + 1) := by
    unfold attrNameM
    rw [g1, g2]
    dsimp only
    rw [if_pos (by decide), e2]
  unfold attrM
  rw [e0, e]
  dsimp only
  rw [attrSpec_at hx.2.2 h3 hr hh]
  simp [Att.bytes]
  omega
theorem atts_at : ∀ {l : List Att} {s : List UInt8} {slash : Bool} {post : List UInt8} {j f : Nat}, (∀ x ∈ l, x.ok) → s.drop j = attsB l ++ (endB slash ++ post) → l.length < f → attrsM s f j = some (j + (attsB l).length)
  | [], s, slash, post, j, f, _, h, hf => by
    obtain ⟨f, rfl⟩ : ∃ f', f = f' + 1 := ⟨f - 1, by omega⟩
    unfold attrsM
    have ht := tail_atts [] slash post
    obtain ⟨c, r', hc, hcc⟩ := tail_head ht [] slash post rfl
    have hn : ∃ a c r', attsB [] ++ (endB slash ++ post) = a ++ c :: r' ∧ (∀ d ∈ a, d = 32 ∨ d = 10) ∧ (c = 62 ∨ c = 47) := by
      cases slash with
      | true => exact ⟨[32], 47, 62 :: post, rfl, by simp, .inr rfl⟩
      | false => exact ⟨[], 62, post, rfl, by simp, .inl rfl⟩
    obtain ⟨a, c2, r2, hr1, hr2, hc2⟩ := hn
    rw [← h] at hc hr1
    rw [get_drop hc]
    dsimp only
    rw [if_pos (by rcases hcc with h | h | h <;> (subst h; decide))]
    have e0 : scan isSp s j = j + a.length := scan_drop hr1 (fun d hd => isSp_of (hr2 d hd)) (by rcases hc2 with h | h <;> (subst h; decide))
    have g := get_drop (drop_add hr1)
    have e : attrM s j = none := by
      unfold attrM
      rw [e0]
      have : attrNameM s (j + a.length) = none := by
        unfold attrNameM
        rw [g]
        cases s[j + a.length + 1]? with
        | none => rfl
        | some _ =>
          dsimp only
          rw [if_neg (by rcases hc2 with h | h <;> (subst h; decide))]
      rw [this]
    rw [e]
    rfl
  | x :: l, s, slash, post, j, f, hx, h, hf => by
    obtain ⟨f, rfl⟩ : ∃ f', f = f' + 1 := ⟨f - 1, by omega⟩
    unfold attrsM
    have h0 : s.drop j = x.bytes ++ (attsB l ++ (endB slash ++ post)) := by rw [h]; simp [attsB]
    have ht := tail_atts l slash post
    have hh := tail_head ht l slash post rfl
    obtain ⟨c, r', hc, hcc⟩ := tail_head (tail_atts (x :: l) slash post) (x :: l) slash post rfl
    rw [← h] at hc
    rw [get_drop hc]
    dsimp only
    rw [if_pos (by rcases hcc with h | h | h <;> (subst h; decide)), attr_at (hx x (by simp)) h0 ht hh]
    dsimp only
    rw [atts_at (l := l) (slash := slash) (post := post) (fun y hy => hx y (by simp [hy])) (drop_add h0) (by simp only [List.length_cons] at hf; omega)]
    simp [attsB, Nat.add_assoc]
end Go.Proofs

namespace Go.Proofs
open Go Go.Eng
set_option maxRecDepth 20000
set_option maxHeartbeats 4000000

/-- A scheme of letters and a colon, and what follows, between angle brackets. -/
structure ALink (tx : List UInt8) (i m j : Nat) : Prop where
  o : ∃ c, tx[i]? = some c ∧ c.toNat = 60
  two : i + 3 ≤ m
  most : m ≤ i + 33
  sch : ∀ k, i + 1 ≤ k → k < m → ∃ c, tx[k]? = some c ∧ let8 c.toNat
  colon : ∃ c, tx[m]? = some c ∧ c.toNat = 58
  le : m < j
  url : ∀ k, m < k → k < j → ∃ c, tx[k]? = some c ∧ 32 < c.toNat ∧ c.toNat ≠ 60 ∧ c.toNat ≠ 62
  c : ∃ c, tx[j]? = some c ∧ c.toNat = 62
theorem let_ld {c : Nat} (h : let8 c) : ld8 c := by omega

theorem autoURI_tr (tx : List UInt8) (i m j : Nat) (hl : tx.length ≤ 140737488355328) (h : ALink tx i m j) :
    Tr Tryz.prog 95 [str tx, inat i] [] fun u K => ∃ q, u = .tuple #[.iface 255 (lp q), inat (j + 1), .bool true] ∧ K = [[(q, cellsOf [str ((tx.take j).drop (i + 1)), str ((tx.take j).drop (i + 1))] 257)]] := by
  obtain ⟨c60, hc60, h60⟩ := h.o
  obtain ⟨c58, hc58, h58⟩ := h.colon
  obtain ⟨c62, hc62, h62⟩ := h.c
  have h2 := h.two
  have h33 := h.most
  have hmj := h.le
  obtain ⟨d, hd, hdl⟩ := h.sch (i + 1) (by omega) (by omega)
  have hj := (List.getElem?_eq_some_iff.1 hc62).1
  refine Tr.start (n := 110) (rs := [.tmp 4, .tmp 5, .tmp 6]) rfl rfl rfl rfl fun B => ?_
  (repeat' (first | refine s_pure (isLet_yes d hdl) ?_ | refine k_seq ?_ | refine k_region ?_ | refine k_nil ?_ | refine k_then ?_ | refine k_false ?_ | refine k_skip ?_ | refine s_grun ?_ | refine s_move ?_ | refine s_assign ?_ | refine s_add1 ?_ | refine s_geq_f ?_ | refine s_neq_f ?_ | refine s_pickf ?_ | refine s_lens ?_ | refine s_index ?_ | refine s_nott ?_))
  refine k_mid [(0, str tx), (1, inat i), (7, inat m)] [] ?_ ?_
  · (repeat' (first | refine k_blk ?_))
    refine k_loop (fun k : Nat => [(0, str tx), (1, inat i), (7, inat k)]) (fun _ => []) (fun k => i + 1 ≤ k ∧ k ≤ m) (fun k => m - k) (i + 1) ⟨by omega, by omega⟩ (Knows.spec (by repeat (first | exact trivial | refine ⟨rfl, ?_⟩))) (by repeat (first | exact SubH.nilR _ | refine SubH.pick (by repeat (first | exact HTake.here | apply HTake.there)) ?_)) fun k hk => ?_
    obtain ⟨hk1, hk2⟩ := hk
    by_cases hlt : k < m
    · obtain ⟨c, hc, hlc⟩ := h.sch k hk1 hlt
      (repeat' (first | refine Ops.pure _ (p_sub (a := k) (b := i + 1) (c := k - (i + 1)) (by rfl) (by rfl) (by omega) (by omega)) (by rfl) ?_ | refine s_pure (isScheme_yes c (let_ld hlc)) ?_ | refine k_seq ?_ | refine k_region ?_ | refine k_nil ?_ | refine k_then ?_ | refine k_true ?_ | refine k_blk ?_ | refine k_skip ?_ | refine k_block ?_ | refine s_grun ?_ | refine s_move ?_ | refine s_assign ?_ | refine s_add1 ?_ | refine s_lss_t ?_ | refine s_leq_t ?_ | refine s_pickt ?_ | refine s_lens ?_ | refine s_index ?_))
      exact ⟨k + 1, (Knows.spec (by repeat (first | exact trivial | refine ⟨rfl, ?_⟩))), (by repeat (first | exact SubH.nilR _ | refine SubH.pick (by repeat (first | exact HTake.here | apply HTake.there)) ?_)), ⟨by omega, by omega⟩, by omega⟩
    · have : k = m := by omega
      subst this
      (repeat' (first | refine s_pure (isScheme_no c58 (by omega) (by omega) (by omega) (by omega)) ?_ | refine k_seq ?_ | refine k_region ?_ | refine k_nil ?_ | refine k_then ?_ | refine k_false ?_ | refine k_exit ?_ | refine k_exit_then ?_ | refine k_hit ?_ | refine s_grun ?_ | refine s_gskipt ?_ | refine s_move ?_ | refine s_lss_t ?_ | refine s_pickt ?_ | refine s_pickf ?_ | refine s_lens ?_ | refine s_index ?_))
      exact ⟨(by repeat (first | exact trivial | refine ⟨rfl, ?_⟩)), (by repeat (first | exact SubH.nilR _ | refine SubH.pick (by repeat (first | exact HTake.here | apply HTake.there)) ?_))⟩
  · (repeat' (first | refine Ops.pure _ (p_sub (a := m) (b := i + 1) (c := m - (i + 1)) (by rfl) (by rfl) (by omega) (by omega)) (by rfl) ?_ | refine k_seq ?_ | refine k_region ?_ | refine k_nil ?_ | refine k_then ?_ | refine k_false ?_ | refine k_skip ?_ | refine s_grun ?_ | refine s_move ?_ | refine s_assign ?_ | refine s_add1 ?_ | refine s_lss_f ?_ | refine s_gtr_f ?_ | refine s_geq_f ?_ | refine s_neq_f ?_ | refine s_pickf ?_ | refine s_lens ?_ | refine s_index ?_))
    refine k_mid [(0, str tx), (1, inat i), (7, inat j)] [] ?_ ?_
    · (repeat' (first | refine k_blk ?_))
      refine k_loop (fun k : Nat => [(0, str tx), (1, inat i), (7, inat k)]) (fun _ => []) (fun k => m < k ∧ k ≤ j) (fun k => j - k) (m + 1) ⟨by omega, by omega⟩ (Knows.spec (by repeat (first | exact trivial | refine ⟨rfl, ?_⟩))) (by repeat (first | exact SubH.nilR _ | refine SubH.pick (by repeat (first | exact HTake.here | apply HTake.there)) ?_)) fun k hk => ?_
      obtain ⟨hk1, hk2⟩ := hk
      by_cases hlt : k < j
      · obtain ⟨c, hc, hc1, hc2, hc3⟩ := h.url k hk1 hlt
        (repeat' (first | refine s_pure (isURL_yes c hc1 hc2 hc3) ?_ | refine k_seq ?_ | refine k_region ?_ | refine k_nil ?_ | refine k_then ?_ | refine k_true ?_ | refine k_blk ?_ | refine k_skip ?_ | refine k_block ?_ | refine s_grun ?_ | refine s_move ?_ | refine s_assign ?_ | refine s_add1 ?_ | refine s_lss_t ?_ | refine s_pickt ?_ | refine s_lens ?_ | refine s_index ?_))
        exact ⟨k + 1, (Knows.spec (by repeat (first | exact trivial | refine ⟨rfl, ?_⟩))), (by repeat (first | exact SubH.nilR _ | refine SubH.pick (by repeat (first | exact HTake.here | apply HTake.there)) ?_)), ⟨by omega, by omega⟩, by omega⟩
      · have : k = j := by omega
        subst this
        (repeat' (first | refine s_pure (isURL_no c62 h62) ?_ | refine k_seq ?_ | refine k_region ?_ | refine k_nil ?_ | refine k_then ?_ | refine k_false ?_ | refine k_exit ?_ | refine k_exit_then ?_ | refine k_hit ?_ | refine s_grun ?_ | refine s_move ?_ | refine s_lss_t ?_ | refine s_pickt ?_ | refine s_lens ?_ | refine s_index ?_))
        exact ⟨(by repeat (first | exact trivial | refine ⟨rfl, ?_⟩)), (by repeat (first | exact SubH.nilR _ | refine SubH.pick (by repeat (first | exact HTake.here | apply HTake.there)) ?_))⟩
    · (repeat' (first | refine k_seq ?_ | refine k_region ?_ | refine k_nil ?_ | refine k_then ?_ | refine k_false ?_ | refine k_skip ?_ | refine k_ret ?_ | refine s_grun ?_ | refine s_move ?_ | refine s_assign ?_ | refine s_add1 ?_ | refine s_geq_f ?_ | refine s_neq_f ?_ | refine s_pickf ?_ | refine s_lens ?_ | refine s_index ?_ | refine s_slices ?_ | refine s_mki ?_ | refine s_buildx ?_ | refine s_box (fun _ => ?_)))
      rename_i q
      exact e_ret _ ⟨q, rfl, rfl⟩ (by repeat (first | exact SubH.nilR _ | refine SubH.pick (by repeat (first | exact HTake.here | apply HTake.there)) ?_))

theorem autoLink_tr (p : Nat) (tx : List UInt8) (i m j : Nat) (hl : tx.length ≤ 140737488355328) (h : ALink tx i m j) :
    Tr Tryz.prog 62 [lp p, str tx, inat i] [] fun u K => ∃ q, u = .tuple #[.iface 255 (lp q), inat i, inat (j + 1), .bool true] ∧ K = [[(q, cellsOf [str ((tx.take j).drop (i + 1)), str ((tx.take j).drop (i + 1))] 257)]] := by
  refine Tr.start (n := 53) (rs := [.tmp 6, .tmp 7, .tmp 8, .tmp 9]) rfl rfl rfl rfl fun B => ?_
  (repeat' (first | refine k_seq ?_ | refine k_region ?_ | refine k_nil ?_ | refine k_then ?_ | refine s_move ?_ | refine s_assign ?_))
  refine s_valR (autoURI_tr tx i m j hl h) (fun u K hR => ?_)
  obtain ⟨q, rfl, rfl⟩ := hR
  (repeat' (first | refine k_seq ?_ | refine k_region ?_ | refine k_nil ?_ | refine k_then ?_ | refine k_true ?_ | refine k_ret ?_ | refine k_ret_then ?_ | refine s_move ?_ | refine s_assign ?_ | refine s_ext ?_))
  exact e_ret _ ⟨q, rfl, rfl⟩ (by repeat (first | exact SubH.nilR _ | refine SubH.pick (by repeat (first | exact HTake.here | apply HTake.there)) ?_))
end Go.Proofs

namespace Go.Proofs
open Go Go.Eng
set_option maxRecDepth 20000
set_option maxHeartbeats 8000000

theorem pre_ne {tx : List UInt8} {d x : UInt8} {r : List UInt8} (h : tx[1]? = some d) (hd : d ≠ x) (n : Nat) : ¬ tx.take n = 60 :: x :: r := by
  intro e
  have h1 := congrArg (fun l => l[1]?) e
  simp only [List.getElem?_take, List.getElem?_cons_succ, List.getElem?_cons_zero] at h1
  split at h1
  · rw [h] at h1; injection h1 with h1; exact hd h1
  · cases h1

/-- What the scan of a tag's name leaves. -/
structure SB where
  k : Nat
  v : Value
  xs : List Value
  B : Blk

theorem startHTML_al (p q g cap : Nat) (s : PS) (cur : List Value) (bty : Nat) (bv : Value) (tx : List UInt8) (nl m j : Nat) (hnt : NoTab tx) (hl : tx.length ≤ 100000) (h : ALink tx 0 m j) (cn : Bool) (hcn : s.corner = .bool cn)
    (hb : cur[0 + (1 - 1) * 4 + 0]? = some (.iface bty bv)) (ht : Nat.beq bty 155 = false) (hs : s.stack = stk g 1 cap) :
    Tr Tryz.prog 134 [lp p, lp q] [lnb q 0 tx nl, s.blk p, stb g cur] fun u K => u = .bool false ∧ ∃ cn', K = [lnb q 0 tx nl, ({ s with corner := .bool cn' } : PS).blk p, stb g cur] := by
  have hl' : tx.length ≤ 140737488355328 := by omega
  obtain ⟨c60, hc60, h60⟩ := h.o
  obtain ⟨c58, hc58, h58⟩ := h.colon
  have h2 := h.two
  have h33 := h.most
  have hmj := h.le
  obtain ⟨d, hd, hdl⟩ := h.sch 1 (by omega) (by omega)
  have hmlt := (List.getElem?_eq_some_iff.1 hc58).1
  have hat : at0 tx 0 = 60 := by rw [at0_some hc60, h60]
  have hns : nsp tx = 0 := by
    cases tx with
    | nil => rfl
    | cons a r =>
      simp only [List.getElem?_cons_zero, Option.some.injEq] at hc60
      subst hc60
      simp [nsp, h60]
  have hsp : sp3 0 tx = 0 := by unfold sp3; rw [List.drop_zero, hns, Nat.zero_min]
  have e : tsI 0 tx 0 3 false = 0 := by rw [tsI_zero, List.drop_zero, hns, Nat.zero_min]
  have hne : ∀ x : UInt8, ¬ let8 x.toNat → d ≠ x := fun x hx he => hx (he ▸ hdl)
  have hp1 := fun (x : UInt8) (r : List UInt8) (hx : ¬ let8 x.toNat) (hr : (60 :: x :: r).length ≤ 140737488355328) => hasPrefix_no tx (60 :: x :: r) hl' hr (pre_ne hd (hne x hx) _)
  have g1 := hp1 33 [45, 45] (by decide) (by decide)
  have g2 := hp1 63 [] (by decide) (by decide)
  have g3 := hp1 33 [91, 67, 68, 65, 84, 65, 91] (by decide) (by decide)
  have g4 := hp1 33 [] (by decide) (by decide)
  have hst := fun q => string_tr q 0 tx nl hl' (Nat.zero_le _)
  simp only [List.drop_zero] at hst
  have hO0 : ∀ r, Own 5 1 (.slice (some ⟨r, 0, none⟩) 0 16) 0 [] [(r, cellsOf (List.replicate 16 (.int .u8 0)) 5)] := fun r => by
    have := Own.mk' (E := 5) (sz := 1) (g := r) (m := 0) (cap := 16) (cur := List.replicate 16 (.int .u8 0)) (by omega) (by omega) (by simp)
    simpa using this
  obtain ⟨par, root, links, lineno, stack, depth, corner, sv, em, list, lists, texts, bt⟩ := s
  subst hcn; subst hs
  refine Tr.start (n := 368) (rs := [.tmp 4]) rfl rfl rfl rfl fun B => ?_
  refine k_seq ?_
  refine k_region ?_
  refine s_assign ?_
  refine k_nil ?_
  refine k_then ?_
  refine k_scopeJ (α := SB) (l := 0) (fun x => [(0, lp p), (1, lp q), (4, .bool false), (6, str tx), (9, inat x.k), (10, x.v)]) (fun x => [lnb q 0 tx nl, (⟨par, root, links, lineno, stk g 1 cap, depth, .bool cn, sv, em, list, lists, texts, bt⟩ : PS).blk p, stb g cur, x.B]) (fun x => 1 ≤ x.k ∧ x.k ≤ m) rfl ?_ ?_
  · (repeat' (first | refine k_seq ?_ | refine k_region ?_ | refine s_move ?_ | refine s_nilp ?_ | refine s_loada ?_))
    refine s_alloc (fun r2 => ?_)
    (repeat' (first | refine s_callD (trimSpace_tr r2 0 tx nl 0 3 false hnt (by omega) hl' (by omega) (by omega)) ?_ | refine k_seq ?_ | refine k_region ?_ | refine k_nil ?_ | refine k_then ?_ | refine s_storea ?_))
    rw [e, tsOK_zero]
    have hpk := peek_tr r2 0 tx nl hl' (Nat.zero_le _)
    rw [hat] at hpk
    (repeat' (first | refine s_callD (hpk) ?_ | refine s_callD (hst r2) ?_ | refine k_seq ?_ | refine k_region ?_ | refine k_nil ?_ | refine k_then ?_ | refine k_false ?_ | refine k_skip ?_ | refine s_assign ?_ | refine s_neq_f ?_ | refine s_alloc1 (fun _ => ?_)))
    rename_i re
    refine k_mid [(0, lp p), (1, lp q), (4, .bool false), (6, str tx), (7, lp re)] [scell re (str []), lnb q 0 tx nl, (⟨par, root, links, lineno, stk g 1 cap, depth, .bool cn, sv, em, list, lists, texts, bt⟩ : PS).blk p, stb g cur] ?_ ?_
    · (repeat' (first | refine s_pure (g1) ?_ | refine s_pure (g2) ?_ | refine s_pure (g3) ?_ | refine s_pure (g4) ?_ | refine k_seq ?_ | refine k_region ?_ | refine k_nil ?_ | refine k_then ?_ | refine k_false ?_ | refine k_blk ?_ | refine k_skip ?_ | refine k_block ?_ | refine s_gskipt ?_ | refine s_move ?_ | refine s_assign ?_ | refine s_pickf ?_))
      exact ⟨(by repeat (first | exact trivial | refine ⟨rfl, ?_⟩)), (by repeat (first | exact SubH.nilR _ | refine SubH.pick (by repeat (first | exact HTake.here | apply HTake.there)) ?_))⟩
    · (repeat' (first | refine k_seq ?_ | refine k_region ?_ | refine k_nil ?_ | refine k_then ?_ | refine k_false ?_ | refine k_skip ?_ | refine s_grun ?_ | refine s_move ?_ | refine s_assign ?_ | refine s_load ?_ | refine s_lss_t ?_ | refine s_eql_f ?_ | refine s_pickt ?_ | refine s_lens ?_ | refine s_index ?_ | refine s_nes_f ?_))
      refine s_make (m := 0) (c := 16) (by omega) (by omega) (by omega) (fun rb => ?_)
      (repeat' (first | refine k_seq ?_ | refine k_nil ?_ | refine k_then ?_ | refine s_assign ?_))
      refine k_midx (fun x : SB => [(0, lp p), (1, lp q), (4, .bool false), (6, str tx), (9, inat x.k), (10, x.v)]) (fun x => [lnb q 0 tx nl, (⟨par, root, links, lineno, stk g 1 cap, depth, .bool cn, sv, em, list, lists, texts, bt⟩ : PS).blk p, stb g cur, x.B]) (fun x => 1 ≤ x.k ∧ x.k ≤ m) ?_ ?_
      · (repeat' (first | refine k_blk ?_))
        refine k_loop (fun x : SB => [(0, lp p), (1, lp q), (4, .bool false), (6, str tx), (9, inat x.k), (10, x.v)]) (fun x => [x.B, lnb q 0 tx nl, (⟨par, root, links, lineno, stk g 1 cap, depth, .bool cn, sv, em, list, lists, texts, bt⟩ : PS).blk p, stb g cur])
          (fun x => 1 ≤ x.k ∧ x.k ≤ m ∧ x.k ≤ 17 ∧ Own 5 1 x.v (x.k - 1) x.xs x.B) (fun x => 20 - x.k) ⟨1, .slice (some ⟨rb, 0, none⟩) 0 16, [], [(rb, cellsOf (List.replicate 16 (.int .u8 0)) 5)]⟩ ⟨by simp only; omega, by simp only; omega, by simp only; omega, hO0 rb⟩ (Knows.spec (by repeat (first | exact trivial | refine ⟨rfl, ?_⟩))) (by repeat (first | exact SubH.nilR _ | refine SubH.pick (by repeat (first | exact HTake.here | apply HTake.there)) ?_)) fun x hx => ?_
        obtain ⟨k, v, xs, BB⟩ := x
        obtain ⟨i1, i2, i3, i4⟩ := hx
        simp only at i1 i2 i3 i4 ⊢
        obtain ⟨ia, ic, rfl⟩ : ∃ ia ic, v = .slice ia (k - 1) ic := by
          rcases i4 with ⟨_, ⟨h1, h2, _⟩ | ⟨g', c', cur', h1, _⟩⟩
          · exact ⟨none, 0, by rw [h1, h2]⟩
          · exact ⟨_, _, h1⟩
        by_cases hb16 : k - 1 < 16
        · by_cases hkm : k < m
          · obtain ⟨c, hc, hlc⟩ := h.sch k (by omega) hkm
            rcases hlc with hlc | hlc
            · (repeat' (first | refine Ops.pure _ (p_add8 (a := c.toNat) (b := 32) (c := c.toNat + 32) (by rfl) (by rfl) (by omega) (by omega)) (by rfl) ?_ | refine k_seq ?_ | refine k_region ?_ | refine k_nil ?_ | refine k_then ?_ | refine k_true ?_ | refine k_false ?_ | refine k_blk ?_ | refine k_skip ?_ | refine s_grun ?_ | refine s_gskipt ?_ | refine s_gskipu ?_ | refine s_move ?_ | refine s_assign ?_ | refine s_lss_t ?_ | refine s_leq_t ?_ | refine s_pickt ?_ | refine s_pickf ?_ | refine s_lens ?_ | refine s_len ?_ | refine s_index ?_ | refine s_nott ?_ | refine s_bsl1 (fun _ => ?_)))
              refine s_app i4 (by omega) (fun v' B' hO' => ?_)
              (repeat' (first | refine k_region ?_ | refine k_nil ?_ | refine k_then ?_ | refine k_block ?_ | refine s_move ?_ | refine s_assign ?_ | refine s_add1 ?_))
              exact ⟨⟨k + 1, v', _, B'⟩, (Knows.spec (by repeat (first | exact trivial | refine ⟨rfl, ?_⟩))), (by repeat (first | exact SubH.nilR _ | refine SubH.pick (by repeat (first | exact HTake.here | apply HTake.there)) ?_)), ⟨by simp only; omega, by simp only; omega, by simp only; omega, by simp only; rw [show k + 1 - 1 = k - 1 + 1 by omega]; exact hO'⟩, by simp only; omega⟩
            · (repeat' (first | refine k_seq ?_ | refine k_region ?_ | refine k_nil ?_ | refine k_then ?_ | refine k_true ?_ | refine k_false ?_ | refine k_blk ?_ | refine k_skip ?_ | refine s_grun ?_ | refine s_gskipt ?_ | refine s_gskipu ?_ | refine s_move ?_ | refine s_assign ?_ | refine s_lss_t ?_ | refine s_leq_t ?_ | refine s_leq_f ?_ | refine s_pickt ?_ | refine s_pickf ?_ | refine s_lens ?_ | refine s_len ?_ | refine s_index ?_ | refine s_nott ?_ | refine s_bsl1 (fun _ => ?_)))
              refine s_app i4 (by omega) (fun v' B' hO' => ?_)
              (repeat' (first | refine k_region ?_ | refine k_nil ?_ | refine k_then ?_ | refine k_block ?_ | refine s_move ?_ | refine s_assign ?_ | refine s_add1 ?_))
              exact ⟨⟨k + 1, v', _, B'⟩, (Knows.spec (by repeat (first | exact trivial | refine ⟨rfl, ?_⟩))), (by repeat (first | exact SubH.nilR _ | refine SubH.pick (by repeat (first | exact HTake.here | apply HTake.there)) ?_)), ⟨by simp only; omega, by simp only; omega, by simp only; omega, by simp only; rw [show k + 1 - 1 = k - 1 + 1 by omega]; exact hO'⟩, by simp only; omega⟩
          · have : k = m := by omega
            subst this
            (repeat' (first | refine k_seq ?_ | refine k_region ?_ | refine k_nil ?_ | refine k_then ?_ | refine k_true ?_ | refine k_false ?_ | refine k_blk ?_ | refine k_skip ?_ | refine k_exit ?_ | refine k_exit_then ?_ | refine k_hit ?_ | refine k_miss ?_ | refine s_grun ?_ | refine s_gskipt ?_ | refine s_move ?_ | refine s_assign ?_ | refine s_lss_t ?_ | refine s_leq_t ?_ | refine s_leq_f ?_ | refine s_pickt ?_ | refine s_pickf ?_ | refine s_lens ?_ | refine s_len ?_ | refine s_index ?_ | refine s_notf ?_))
            exact ⟨⟨k, _, xs, BB⟩, (by repeat (first | exact trivial | refine ⟨rfl, ?_⟩)), (by repeat (first | exact SubH.nilR _ | refine SubH.pick (by repeat (first | exact HTake.here | apply HTake.there)) ?_)), by simp only; omega, by simp only; omega⟩
        · (repeat' (first | refine k_seq ?_ | refine k_region ?_ | refine k_nil ?_ | refine k_then ?_ | refine k_false ?_ | refine k_exit ?_ | refine k_exit_then ?_ | refine k_hit ?_ | refine s_grun ?_ | refine s_move ?_ | refine s_lss_t ?_ | refine s_lss_f ?_ | refine s_pickt ?_ | refine s_lens ?_ | refine s_len ?_))
          exact ⟨⟨k, _, xs, BB⟩, (by repeat (first | exact trivial | refine ⟨rfl, ?_⟩)), (by repeat (first | exact SubH.nilR _ | refine SubH.pick (by repeat (first | exact HTake.here | apply HTake.there)) ?_)), by simp only; omega, by simp only; omega⟩
      · rintro ⟨k, v, xs, BB⟩ ⟨hk1, hk2⟩
        simp only at hk1 hk2 ⊢
        have hkc : ∃ c, tx[k]? = some c ∧ (let8 c.toNat ∨ c.toNat = 58) := by
          by_cases hkm : k < m
          · obtain ⟨c, hc, hlc⟩ := h.sch k (by omega) hkm
            exact ⟨c, hc, .inl hlc⟩
          · have : k = m := by omega
            subst this
            exact ⟨c58, hc58, .inr h58⟩
        obtain ⟨c, hc, hlc⟩ := hkc
        (repeat' (first | refine k_seq ?_ | refine k_region ?_ | refine k_nil ?_ | refine k_then ?_ | refine k_true ?_ | refine k_false ?_ | refine k_blk ?_ | refine s_move ?_ | refine s_assign ?_ | refine s_lss_t ?_ | refine s_eql_f ?_ | refine s_lens ?_ | refine s_index ?_ | refine k_goto ?_ | refine k_goto_then ?_ | refine k_goto_block ?_ | refine k_jump ?_))
        exact ⟨⟨k, v, xs, BB⟩, (by repeat (first | exact trivial | refine ⟨rfl, ?_⟩)), (by repeat (first | exact SubH.nilR _ | refine SubH.pick (by repeat (first | exact HTake.here | apply HTake.there)) ?_)), hk1, hk2⟩
  · rintro ⟨k, v, xs, BB⟩ ⟨hk1, hk2⟩
    simp only at hk1 hk2 ⊢
    have hkc : ∃ c, tx[k]? = some c ∧ (let8 c.toNat ∨ c.toNat = 58) := by
      by_cases hkm : k < m
      · obtain ⟨c, hc, hlc⟩ := h.sch k (by omega) hkm
        exact ⟨c, hc, .inl hlc⟩
      · have : k = m := by omega
        subst this
        exact ⟨c58, hc58, .inr h58⟩
    obtain ⟨c, hc, hlc⟩ := hkc
    (repeat' (first | refine s_callD (para_no p g 1 cap (⟨par, root, links, lineno, stk g 1 cap, depth, .bool cn, sv, em, list, lists, texts, bt⟩ : PS) cur bty bv (by omega) (by omega) hb ht rfl) ?_ | refine k_seq ?_ | refine k_region ?_ | refine k_nil ?_ | refine k_then ?_ | refine k_true ?_ | refine k_false ?_ | refine k_skip ?_ | refine s_grun ?_ | refine s_move ?_ | refine s_gtr_t ?_ | refine s_geq_f ?_ | refine s_eql_f ?_ | refine s_neq_t ?_ | refine s_pickt ?_ | refine s_pickf ?_ | refine s_lens ?_ | refine s_index ?_ | refine s_eqp0 ?_))
    refine s_call (openTag_colon p (⟨par, root, links, lineno, stk g 1 cap, depth, .bool cn, sv, em, list, lists, texts, bt⟩ : PS) tx 0 m hl' (by omega) ⟨c60, hc60, h60⟩ ⟨d, hd, hdl⟩ (fun k hk1 hk2 => (h.sch k hk1 hk2).imp fun c hc => ⟨hc.1, let_ld hc.2⟩) ⟨c58, hc58, h58⟩ cn rfl) (fun u K hR => ?_)
    obtain ⟨cn', rfl, rfl⟩ := hR
    (repeat' (first | refine s_pure (closeTag_no p tx hl' (by omega) ⟨d, hd, by omega⟩ ⟨c60, hc60, h60⟩) ?_ | refine k_seq ?_ | refine k_region ?_ | refine k_nil ?_ | refine k_then ?_ | refine k_false ?_ | refine k_skip ?_ | refine k_ret ?_ | refine k_ret_nogo ?_ | refine s_gskipt ?_ | refine s_move ?_ | refine s_assign ?_ | refine s_pickf ?_ | refine s_ext ?_))
    exact e_ret _ ⟨rfl, cn', rfl⟩ (by repeat (first | exact SubH.nilR _ | refine SubH.pick (by repeat (first | exact HTake.here | apply HTake.there)) ?_))

theorem newHTML_al (p g cap : Nat) (s : PS) (cur : List Value) (bty : Nat) (bv : Value) (tx : List UInt8) (nl m j : Nat) (hnt : NoTab tx) (hl : tx.length ≤ 100000) (h : ALink tx 0 m j) (cn : Bool) (hcn : s.corner = .bool cn)
    (hb : cur[0 + (1 - 1) * 4 + 0]? = some (.iface bty bv)) (ht : Nat.beq bty 155 = false) (hs : s.stack = stk g 1 cap) :
    Tr Tryz.prog 84 [lp p, lnv 0 tx nl] [s.blk p, stb g cur] fun u K => u = .tuple #[lnv 0 tx nl, .bool false] ∧ ∃ cn', K = [({ s with corner := .bool cn' } : PS).blk p, stb g cur] := by
  refine Tr.start (n := 12) (rs := [.cell 4 97, .tmp 5]) rfl rfl rfl rfl fun B => ?_
  (repeat' (first | refine k_seq ?_ | refine k_region ?_))
  refine s_box (fun r1 => ?_)
  refine s_alloc (fun r2 => ?_)
  (repeat' (first | refine k_seq ?_ | refine k_region ?_ | refine k_nil ?_ | refine k_then ?_ | refine s_assign ?_ | refine s_loada ?_))
  refine s_alloc (fun r3 => ?_)
  (repeat' (first | refine k_seq ?_ | refine k_region ?_ | refine k_nil ?_ | refine k_then ?_ | refine s_move ?_ | refine s_storea ?_))
  refine s_call (startHTML_al p r3 g cap s cur bty bv tx nl m j hnt hl h cn hcn hb ht hs) (fun u K hR => ?_)
  obtain ⟨rfl, cn', rfl⟩ := hR
  (repeat' (first | refine k_seq ?_ | refine k_region ?_ | refine k_nil ?_ | refine k_then ?_ | refine k_false ?_ | refine k_skip ?_ | refine k_ret ?_ | refine s_assign ?_ | refine s_loada ?_ | refine s_storea ?_))
  exact e_ret _ ⟨rfl, cn', rfl⟩ (by repeat (first | exact SubH.nilR _ | refine SubH.pick (by repeat (first | exact HTake.here | apply HTake.there)) ?_))
end Go.Proofs

namespace Go.Proofs
open Go Go.Eng
set_option maxRecDepth 20000
set_option maxHeartbeats 8000000

/-- What the other beginnings ask of a line that begins with an angle bracket. -/
structure ALine (tx : List UInt8) : Prop where
  nt : NoTab tx
  len1 : tx.length ≤ 100000
  len : tx.length ≤ 140737488355328
  le : 0 ≤ tx.length
  ink : ltrim (tx.drop 0) ≠ []
  sp : nsp (tx.drop 0) < 4
  quote : at0 tx (sp3 0 tx) ≠ 62
  atx : ∀ nl q nq nv, TrD Tryz.prog 119 [lp q, lp nq] [lnb q 0 tx nl, [(nq, cellsOf [nv] 3)]] (.bool false) [lnb q 0 tx nl, [(nq, cellsOf [nv] 3)]]
  m45 : at0 tx (sp3 0 tx) ≠ 45
  m95 : at0 tx (sp3 0 tx) ≠ 95
  m42 : at0 tx (sp3 0 tx) ≠ 42
  m96 : at0 tx (sp3 0 tx) ≠ 96
  m126 : at0 tx (sp3 0 tx) ≠ 126
  item : noItem (tx.drop (sp3 0 tx))

theorem aline_of {tx : List UInt8} {m j : Nat} (h : ALink tx 0 m j) (hnt : NoTab tx) (hl : tx.length ≤ 100000) : ALine tx := by
  obtain ⟨c60, hc60, h60⟩ := h.o
  have hat : at0 tx 0 = 60 := by rw [at0_some hc60, h60]
  obtain ⟨r, rfl⟩ : ∃ r, tx = c60 :: r := by
    cases tx with
    | nil => cases hc60
    | cons a r =>
      simp only [List.getElem?_cons_zero, Option.some.injEq] at hc60
      exact ⟨r, by rw [hc60]⟩
  have hns : nsp (c60 :: r) = 0 := by simp [nsp, h60]
  have hsp : sp3 0 (c60 :: r) = 0 := by unfold sp3; rw [List.drop_zero, hns, Nat.zero_min]
  have hlt : ltrim (c60 :: r) = c60 :: r := by
    unfold ltrim
    rw [List.dropWhile_cons_of_neg]
    simp [isBl]; omega
  have hq : ∀ k, k ≠ 60 → at0 (c60 :: r) (sp3 0 (c60 :: r)) ≠ k := fun k hk => by rw [hsp, hat]; exact fun h => hk h.symm
  refine ⟨hnt, hl, by omega, Nat.zero_le _, by rw [List.drop_zero, hlt]; simp, by rw [List.drop_zero, hns]; omega, hq _ (by omega), fun nl q nq nv => trimHeading_no q nq 0 nv _ nl hnt (by omega) (Nat.zero_le _) (hq 35 (by omega)), hq _ (by omega), hq _ (by omega), hq _ (by omega), hq _ (by omega), hq _ (by omega), ?_⟩
  rw [hsp, List.drop_zero]
  refine ⟨by omega, by omega, by omega, fun j hj hj0 => ?_⟩
  have := hj 0 hj0
  omega

theorem addLine_al (p g cap pr : Nat) (o : PO) (s : PS) (cur : List Value) (bty : Nat) (bv e1 e2 e3 : Value) (ln : Nat) (tx : List UInt8) (nl m j : Nat) (hA : ALink tx 0 m j) (hp : ALine tx) (cn : Bool) (hcn : s.corner = .bool cn)
    (hO : Stk (stk g 1 cap) 1 [.iface bty bv, e1, e2, e3] (stb g cur)) (ht : Nat.beq bty 155 = false) (ht2 : Nat.beq bty 235 = false)
    (hs : s.stack = stk g 1 cap) (hln : s.lineno = inat ln) (hpar : s.par = lp pr) (htab : o.table = false) :
    Tr Tryz.prog 48 [lp p, lnv 0 tx nl] [s.blk p, stb g cur, o.blk pr] fun u K => u = unit ∧ ∃ g' cap' cur' pb tv Bt, Stk (stk g' 2 cap') 2 ([.iface bty bv, e1, e2, e3] ++ [.iface 155 (lp pb), .slice none 0 0, inat ln, inat ln]) (stb g' cur') ∧
      Strs tv [ltrim tx] Bt ∧ ∃ cn', K = [({ s with stack := stk g' 2 cap', depth := inat 0, corner := .bool cn' } : PS).blk p, stb g' cur', o.blk pr, pbb pb tv, Bt] := by
  obtain ⟨par, root, links, lineno, stack, depth, corner, str, em, list, lists, texts, bt⟩ := s
  subst hs; subst hln; subst hpar; subst hcn
  obtain ⟨v1, v2, v3, v4⟩ := hO.view
  have hb : cur[0 + (1 - 1) * 4 + 0]? = some (.iface bty bv) := hO.get rfl
  refine Tr.start (n := 113) (rs := []) rfl rfl rfl rfl fun B => ?_
  (repeat' (first | refine k_seq ?_ | refine k_region ?_ | refine k_nil ?_ | refine k_then ?_ | refine k_scope ?_ | refine s_move ?_ | refine s_field ?_ | refine s_nilp ?_ | refine s_store ?_ | refine s_box (fun _ => ?_)))
  rename_i r3
  refine k_mid [(0, lp p), (3, lp r3)]
    [(⟨lp pr, root, links, inat ln, stk g 1 cap, inat 0, .bool cn, str, em, list, lists, texts, bt⟩ : PS).blk p, stb g cur, o.blk pr, lnb r3 0 tx nl] ?_ ?_
  · (repeat' (first | refine k_blk ?_))
    refine k_loop (fun _ : Nat => [(0, lp p), (3, lp r3)]) (fun _ => [(⟨lp pr, root, links, inat ln, stk g 1 cap, inat 0, .bool cn, str, em, list, lists, texts, bt⟩ : PS).blk p, stb g cur, o.blk pr, lnb r3 0 tx nl]) (fun _ => True) (fun _ => 0) 0 trivial (Knows.spec (by repeat (first | exact trivial | refine ⟨rfl, ?_⟩))) (by repeat (first | exact SubH.nilR _ | refine SubH.pick (by repeat (first | exact HTake.here | apply HTake.there)) ?_)) fun k hk => ?_
    (repeat' (first | refine Wp.draw_all (id := 2) Mixed.out (by kernel_rfl) ?_ | refine k_seq ?_ | refine k_nil ?_ | refine k_then ?_ | refine k_false ?_ | refine k_exit ?_ | refine k_exit_then ?_ | refine k_hit ?_ | refine u_nil ?_ | refine u_move ?_ | refine u_load ?_ | refine u_field ?_ | refine u_nilp ?_ | refine u_add1 ?_ | refine u_lss_f ?_ | refine u_len ?_))
    exact ⟨(by repeat (first | exact trivial | refine ⟨rfl, ?_⟩)), (by repeat (first | exact SubH.nilR _ | refine SubH.pick (by repeat (first | exact HTake.here | apply HTake.there)) ?_))⟩
  · (repeat' (first | refine s_callD (isBlank_tr r3 0 tx nl hp.len hp.le false (decide_eq_false hp.ink).symm) ?_ | refine k_seq ?_ | refine k_region ?_ | refine k_nil ?_ | refine k_then ?_ | refine k_false ?_ | refine k_skip ?_ | refine k_label ?_))
    refine s_call news_tr (fun u K hR => ?_)
    obtain ⟨rn, rfl, rfl⟩ := hR
    (repeat' (first | refine k_nil ?_ | refine k_then ?_ | refine s_move ?_ | refine s_len ?_))
    refine k_midx (fun _ : Bool => [(0, lp p), (3, lp r3)]) (fun c => [(⟨lp pr, root, links, inat ln, stk g 1 cap, inat 0, .bool c, str, em, list, lists, texts, bt⟩ : PS).blk p, stb g cur, o.blk pr, lnb r3 0 tx nl]) (fun _ => True) ?_ ?_
    · (repeat' (first | refine k_blk ?_))
      refine k_loop (fun x : Nat × Bool => [(0, lp p), (3, lp r3), (86, .slice (some ⟨rn, 0, none⟩) 8 8), (87, inat 8), (88, inat x.1)]) (fun x => [(⟨lp pr, root, links, inat ln, stk g 1 cap, inat 0, .bool x.2, str, em, list, lists, texts, bt⟩ : PS).blk p, stb g cur, o.blk pr, lnb r3 0 tx nl, [(rn, cellsOf newsL 117)]])
        (fun x => x.1 ≤ 8) (fun x => 8 - x.1) (0, cn) (by simp only; omega) (Knows.spec (by repeat (first | exact trivial | refine ⟨rfl, ?_⟩))) (by repeat (first | exact SubH.nilR _ | refine SubH.pick (by repeat (first | exact HTake.here | apply HTake.there)) ?_)) fun x hk => ?_
      obtain ⟨k, c⟩ := x
      simp only at hk ⊢
      rcases (by omega : k = 0 ∨ k = 1 ∨ k = 2 ∨ k = 3 ∨ k = 4 ∨ k = 5 ∨ k = 6 ∨ k = 7 ∨ k = 8) with rfl | rfl | rfl | rfl | rfl | rfl | rfl | rfl | rfl
      · (repeat' (first | refine s_valD (newQuote_no (lp p) 0 tx nl hp.nt hp.len hp.le hp.quote) ?_ | refine k_seq ?_ | refine k_region ?_ | refine k_nil ?_ | refine k_then ?_ | refine k_true ?_ | refine k_false ?_ | refine k_blk ?_ | refine k_skip ?_ | refine k_block ?_ | refine s_move ?_ | refine s_assign ?_ | refine s_load ?_ | refine s_add1 ?_ | refine s_lss_t ?_ | refine s_ext ?_ | refine s_idxa ?_ | refine s_loada ?_ | refine s_storea ?_ | refine s_alloc (fun _ => ?_)))
        exact ⟨(1, c), (Knows.spec (by repeat (first | exact trivial | refine ⟨rfl, ?_⟩))), (by repeat (first | exact SubH.nilR _ | refine SubH.pick (by repeat (first | exact HTake.here | apply HTake.there)) ?_)), by simp only; omega, by simp only; omega⟩
      · (repeat' (first | refine s_valD (newATX_no (lp p) 0 tx nl (fun q nq nv => hp.atx nl q nq nv)) ?_ | refine k_seq ?_ | refine k_region ?_ | refine k_nil ?_ | refine k_then ?_ | refine k_true ?_ | refine k_false ?_ | refine k_blk ?_ | refine k_skip ?_ | refine k_block ?_ | refine s_move ?_ | refine s_assign ?_ | refine s_load ?_ | refine s_add1 ?_ | refine s_lss_t ?_ | refine s_ext ?_ | refine s_idxa ?_ | refine s_loada ?_ | refine s_storea ?_ | refine s_alloc (fun _ => ?_)))
        exact ⟨(2, c), (Knows.spec (by repeat (first | exact trivial | refine ⟨rfl, ?_⟩))), (by repeat (first | exact SubH.nilR _ | refine SubH.pick (by repeat (first | exact HTake.here | apply HTake.there)) ?_)), by simp only; omega, by simp only; omega⟩
      · (repeat' (first | refine s_valD (setext_no1 p g 1 cap 0 _ cur bty bv 0 tx nl (by omega) (by omega) (by omega) hb ht rfl rfl) ?_ | refine k_seq ?_ | refine k_region ?_ | refine k_nil ?_ | refine k_then ?_ | refine k_true ?_ | refine k_false ?_ | refine k_blk ?_ | refine k_skip ?_ | refine k_block ?_ | refine s_move ?_ | refine s_assign ?_ | refine s_load ?_ | refine s_add1 ?_ | refine s_lss_t ?_ | refine s_ext ?_ | refine s_idxa ?_ | refine s_loada ?_ | refine s_storea ?_ | refine s_alloc (fun _ => ?_)))
        exact ⟨(3, c), (Knows.spec (by repeat (first | exact trivial | refine ⟨rfl, ?_⟩))), (by repeat (first | exact SubH.nilR _ | refine SubH.pick (by repeat (first | exact HTake.here | apply HTake.there)) ?_)), by simp only; omega, by simp only; omega⟩
      · (repeat' (first | refine s_valD (newHR_no (lp p) 0 tx nl hp.nt hp.len hp.le hp.m45 hp.m95 hp.m42) ?_ | refine k_seq ?_ | refine k_region ?_ | refine k_nil ?_ | refine k_then ?_ | refine k_true ?_ | refine k_false ?_ | refine k_blk ?_ | refine k_skip ?_ | refine k_block ?_ | refine s_move ?_ | refine s_assign ?_ | refine s_load ?_ | refine s_add1 ?_ | refine s_lss_t ?_ | refine s_ext ?_ | refine s_idxa ?_ | refine s_loada ?_ | refine s_storea ?_ | refine s_alloc (fun _ => ?_)))
        exact ⟨(4, c), (Knows.spec (by repeat (first | exact trivial | refine ⟨rfl, ?_⟩))), (by repeat (first | exact SubH.nilR _ | refine SubH.pick (by repeat (first | exact HTake.here | apply HTake.there)) ?_)), by simp only; omega, by simp only; omega⟩
      · (repeat' (first | refine s_valD (newListItem_no p g 1 cap 0 _ cur bty bv 0 tx nl hp.nt hp.len hp.le hp.item (by omega) (by omega) hb ht2 rfl rfl) ?_ | refine k_seq ?_ | refine k_region ?_ | refine k_nil ?_ | refine k_then ?_ | refine k_true ?_ | refine k_false ?_ | refine k_blk ?_ | refine k_skip ?_ | refine k_block ?_ | refine s_move ?_ | refine s_assign ?_ | refine s_load ?_ | refine s_add1 ?_ | refine s_lss_t ?_ | refine s_ext ?_ | refine s_idxa ?_ | refine s_loada ?_ | refine s_storea ?_ | refine s_alloc (fun _ => ?_)))
        exact ⟨(5, c), (Knows.spec (by repeat (first | exact trivial | refine ⟨rfl, ?_⟩))), (by repeat (first | exact SubH.nilR _ | refine SubH.pick (by repeat (first | exact HTake.here | apply HTake.there)) ?_)), by simp only; omega, by simp only; omega⟩
      · (repeat' (first | refine k_seq ?_ | refine k_region ?_ | refine k_nil ?_ | refine k_then ?_ | refine k_true ?_ | refine k_blk ?_ | refine k_skip ?_ | refine s_move ?_ | refine s_assign ?_ | refine s_load ?_ | refine s_lss_t ?_ | refine s_idxa ?_ | refine s_loada ?_))
        refine s_valR (newHTML_al p g cap (⟨lp pr, root, links, inat ln, stk g 1 cap, inat 0, .bool c, str, em, list, lists, texts, bt⟩ : PS) cur bty bv tx nl m j hp.nt hp.len1 hA c rfl hb ht rfl) (fun u K hR => ?_)
        obtain ⟨rfl, c', rfl⟩ := hR
        (repeat' (first | refine k_seq ?_ | refine k_region ?_ | refine k_nil ?_ | refine k_then ?_ | refine k_false ?_ | refine k_skip ?_ | refine k_block ?_ | refine s_move ?_ | refine s_assign ?_ | refine s_add1 ?_ | refine s_ext ?_ | refine s_storea ?_ | refine s_alloc (fun _ => ?_)))
        exact ⟨(6, c'), (Knows.spec (by repeat (first | exact trivial | refine ⟨rfl, ?_⟩))), (by repeat (first | exact SubH.nilR _ | refine SubH.pick (by repeat (first | exact HTake.here | apply HTake.there)) ?_)), by simp only; omega, by simp only; omega⟩
      · (repeat' (first | refine s_valD (newFence_no (lp p) 0 tx nl hp.nt hp.len hp.le hp.m96 hp.m126) ?_ | refine k_seq ?_ | refine k_region ?_ | refine k_nil ?_ | refine k_then ?_ | refine k_true ?_ | refine k_false ?_ | refine k_blk ?_ | refine k_skip ?_ | refine k_block ?_ | refine s_move ?_ | refine s_assign ?_ | refine s_load ?_ | refine s_add1 ?_ | refine s_lss_t ?_ | refine s_ext ?_ | refine s_idxa ?_ | refine s_loada ?_ | refine s_storea ?_ | refine s_alloc (fun _ => ?_)))
        exact ⟨(7, c), (Knows.spec (by repeat (first | exact trivial | refine ⟨rfl, ?_⟩))), (by repeat (first | exact SubH.nilR _ | refine SubH.pick (by repeat (first | exact HTake.here | apply HTake.there)) ?_)), by simp only; omega, by simp only; omega⟩
      · (repeat' (first | refine s_valD (pre_no1 p g 1 cap _ cur bty bv 0 tx nl (by omega) (by omega) hb ht rfl hp.nt hp.len hp.le hp.sp) ?_ | refine k_seq ?_ | refine k_region ?_ | refine k_nil ?_ | refine k_then ?_ | refine k_true ?_ | refine k_false ?_ | refine k_blk ?_ | refine k_skip ?_ | refine k_block ?_ | refine s_move ?_ | refine s_assign ?_ | refine s_load ?_ | refine s_add1 ?_ | refine s_lss_t ?_ | refine s_ext ?_ | refine s_idxa ?_ | refine s_loada ?_ | refine s_storea ?_ | refine s_alloc (fun _ => ?_)))
        exact ⟨(8, c), (Knows.spec (by repeat (first | exact trivial | refine ⟨rfl, ?_⟩))), (by repeat (first | exact SubH.nilR _ | refine SubH.pick (by repeat (first | exact HTake.here | apply HTake.there)) ?_)), by simp only; omega, by simp only; omega⟩
      · (repeat' (first | refine k_seq ?_ | refine k_region ?_ | refine k_nil ?_ | refine k_then ?_ | refine k_false ?_ | refine k_exit ?_ | refine k_exit_then ?_ | refine k_hit ?_ | refine s_lss_f ?_))
        exact ⟨c, (by repeat (first | exact trivial | refine ⟨rfl, ?_⟩)), (by repeat (first | exact SubH.nilR _ | refine SubH.pick (by repeat (first | exact HTake.here | apply HTake.there)) ?_)), trivial⟩
    · rintro c -
      (repeat' (first | refine k_region ?_ | refine s_move ?_ | refine s_loada ?_))
      refine s_call (newPara_first p g 0 cap pr o _ [.iface bty bv, e1, e2, e3] cur bty bv ln 0 tx nl hp.len hp.le (by omega) hO rfl ht rfl rfl rfl rfl htab) (fun u K hR => ?_)
      obtain ⟨rfl, g', cap', cur', pb, tv, Bt, h1, h2, rfl⟩ := hR
      (repeat' (first | refine k_nil ?_ | refine k_nogo ?_))
      exact e_norm _ ⟨rfl, g', cap', cur', pb, tv, Bt, h1, h2, c, rfl⟩ (by repeat (first | exact SubH.nilR _ | refine SubH.pick (by repeat (first | exact HTake.here | apply HTake.there)) ?_))
end Go.Proofs

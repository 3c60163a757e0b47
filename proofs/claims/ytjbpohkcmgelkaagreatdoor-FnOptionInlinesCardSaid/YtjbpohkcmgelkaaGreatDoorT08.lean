/- Steps of the walk of the program and plain facts on what it computes. Conditions: as each theorem states them. -/
import Derived.Test.YtjbpohkcmgelkaaGreatDoorT07
import Derived.Test.YtjbpohkcmgelkaaGreatDoorT05
namespace Go.Proofs
open Go Go.Eng
set_option maxRecDepth 20000
set_option maxHeartbeats 4000000

/-- From a sign @ on: domains with full stops between them, up to the bracket that closes. -/
def domsM (s : List UInt8) : Nat → Nat → Option Nat
  | 0, _ => none
  | f + 1, a => match skipDomM (s.drop (a + 1)) with
    | none => none
    | some n => match s[a + 1 + n]? with
      | none => none
      | some c => if c.toNat = 62 then some (a + 1 + n) else if c.toNat = 46 then domsM s f (a + 1 + n) else none
theorem domsM_lt {s : List UInt8} : ∀ {f a k : Nat}, domsM s f a = some k → a < k ∧ k < s.length
  | 0, _, _, h => by simp [domsM] at h
  | f + 1, a, k, h => by
    unfold domsM at h
    split at h
    · cases h
    · rename_i n hn
      split at h
      · cases h
      · rename_i c hc
        have h0 := (List.getElem?_eq_some_iff.1 hc).1
        split at h
        · have := Option.some.inj h
          omega
        · split at h
          · have := domsM_lt h
            omega
          · cases h
def emailM (s : List UInt8) (i : Nat) : Option Nat := match s[i]?, s[i + 1]? with
  | some c, some d => if c.toNat = 60 ∧ userB d = true then (if s[scan userB s (i + 1)]? = some 64 then domsM s (s.length + 1) (scan userB s (i + 1)) else none) else none
  | _, _ => none
theorem emailM_lt {s : List UInt8} {i k : Nat} (h : emailM s i = some k) : i < k ∧ k < s.length := by
  unfold emailM at h
  split at h
  · split at h
    · split at h
      · have := domsM_lt h
        have := scan_ge userB s (i + 1)
        omega
      · cases h
    · cases h
  · cases h
structure DT where
  a : Nat
  f : Nat

theorem emailG_tr (s : List UInt8) (i : Nat) (hl : s.length ≤ 1000000) (hi : i ≤ s.length) :
    Tr Tryz.prog 88 [str s, inat i] [] fun u K => ∃ q, u = autV q (emailM s i) ∧ K = autK q s [109, 97, 105, 108, 116, 111, 58] i (emailM s i) := by
  unfold emailM
  by_cases hlt : i + 1 < s.length
  · obtain ⟨c, hc⟩ := get_some (show i < s.length by omega)
    obtain ⟨d, hd⟩ := get_some hlt
    have hL := isUserB_tr d
    rw [hc, hd]
    dsimp only
    by_cases h60 : c.toNat = 60
    · cases hb : userB d with
      | false =>
        rw [hb] at hL
        rw [if_neg (by rintro ⟨_, h⟩; cases h)]
        refine Tr.start (n := 102) (rs := [.tmp 4, .tmp 5, .tmp 6]) rfl rfl rfl rfl fun B => ?_
        (repeat' (first | refine zo (hL) ?_ | refine z7 ?_ | refine z6 ?_ | refine z2 ?_ | refine z1 ?_ | refine zc ?_ | refine ze ?_ | refine zx ?_ | refine zh ?_ | refine z8 ?_ | refine za ?_ | refine zl ?_ | refine zab ?_ | refine zb0 ?_ | refine zk ?_ | refine zg ?_ | refine zi ?_ | refine zam ?_))
        exact e_ret _ ⟨0, rfl, rfl⟩ sA
      | true =>
        rw [hb] at hL
        rw [if_pos ⟨h60, rfl⟩]
        have h1 := scan_ge userB s (i + 1)
        have h2 := scan_le (p := userB) (s := s) (i := i + 1) (by omega)
        generalize hj : scan userB s (i + 1) = j at h1 h2 ⊢
        have hex : ∃ R, R = domsM s (s.length + 1) j := ⟨_, rfl⟩
        obtain ⟨R, hR⟩ := hex
        rw [← hR]
        refine Tr.start (n := 102) (rs := [.tmp 4, .tmp 5, .tmp 6]) rfl rfl rfl rfl fun B => ?_
        (repeat' (first | refine zo (hL) ?_ | refine z7 ?_ | refine z6 ?_ | refine z2 ?_ | refine z1 ?_ | refine zb ?_ | refine zd ?_ | refine zh ?_ | refine z8 ?_ | refine za ?_ | refine zl ?_ | refine zab ?_ | refine zb0 ?_ | refine zk ?_ | refine zg ?_ | refine zi ?_ | refine zaq ?_))
        refine zac [(0, str s), (1, inat i), (7, inat j)] [] ?_ ?_
        · (repeat' (first | refine zf ?_))
          refine za6 (fun k : Nat => [(0, str s), (1, inat i), (7, inat k)]) (fun _ => []) (fun k => scan userB s k = j ∧ k ≤ s.length) (fun k => s.length - k) (i + 1) ⟨hj, by omega⟩ kB sA fun k hk => ?_
          obtain ⟨hk1, hk2⟩ := hk
          by_cases hlt : k < s.length
          · obtain ⟨e, he⟩ := get_some hlt
            have hD := isUserB_tr e
            cases hb1 : userB e with
            | true =>
              rw [hb1] at hD
              (repeat' (first | refine zo (hD) ?_ | refine z7 ?_ | refine z6 ?_ | refine z2 ?_ | refine z1 ?_ | refine zc ?_ | refine zf ?_ | refine zd ?_ | refine zu ?_ | refine zh ?_ | refine z8 ?_ | refine za ?_ | refine zl ?_ | refine zm ?_ | refine zj ?_ | refine zg ?_ | refine zi ?_))
              exact ⟨k + 1, kB, sA, ⟨by rw [← hk1, scan_step he hb1], by omega⟩, by omega⟩
            | false =>
              rw [hb1] at hD
              have : k = j := by rw [← hk1, scan_stop he hb1]
              subst this
              (repeat' (first | refine zo (hD) ?_ | refine z7 ?_ | refine z6 ?_ | refine z2 ?_ | refine z1 ?_ | refine zb ?_ | refine zw ?_ | refine zy ?_ | refine zz ?_ | refine zh ?_ | refine z8 ?_ | refine zm ?_ | refine zj ?_ | refine zg ?_ | refine zi ?_))
              exact ⟨kA, sA⟩
          · have : k = j := by rw [← hk1, scan_end (by omega)]
            subst this
            (repeat' (first | refine z7 ?_ | refine z6 ?_ | refine z2 ?_ | refine z1 ?_ | refine zb ?_ | refine zw ?_ | refine zy ?_ | refine zz ?_ | refine za2 ?_ | refine z8 ?_ | refine za4 ?_ | refine zk ?_ | refine zg ?_))
            exact ⟨kA, sA⟩
        · by_cases hjl : j < s.length
          · obtain ⟨e, he⟩ := get_some hjl
            rw [he]
            by_cases h64 : e.toNat = 64
            · have e64 : e = 64 := UInt8.toNat_inj.1 h64
              rw [e64, if_pos rfl]
              (repeat' (first | refine z7 ?_ | refine z6 ?_ | refine z2 ?_ | refine z1 ?_ | refine zb ?_ | refine zd ?_ | refine zh ?_ | refine z8 ?_ | refine zab ?_ | refine zb0 ?_ | refine zk ?_ | refine zg ?_ | refine zi ?_))
              refine zau (fun k : Nat => [(0, str s), (1, inat i), (7, inat k)]) (fun _ => []) (fun k => R = some k) ?_ ?_
              · (repeat' (first | refine zf ?_))
                refine za6 (fun x : DT => [(0, str s), (1, inat i), (7, inat x.a)]) (fun _ => []) (fun x => domsM s x.f x.a = R ∧ x.a < s.length ∧ s.length < x.a + x.f) (fun x => s.length - x.a) ⟨j, s.length + 1⟩ ⟨hR.symm, hjl, by dsimp only; omega⟩ kB sA fun x hx => ?_
                obtain ⟨a, f⟩ := x
                obtain ⟨i1, i2, i3⟩ := hx
                dsimp only at i1 i2 i3 ⊢
                obtain ⟨f, rfl⟩ : ∃ f', f = f' + 1 := ⟨f - 1, by omega⟩
                have hS := skipDomG_tr (s.drop (a + 1)) (by rw [List.length_drop]; omega)
                unfold domsM at i1
                cases hn : skipDomM (s.drop (a + 1)) with
                | none =>
                  rw [hn] at i1 hS
                  dsimp only at i1 hS
                  rw [← i1]
                  (repeat' (first | refine zo (hS) ?_ | refine z7 ?_ | refine z6 ?_ | refine z2 ?_ | refine z1 ?_ | refine zc ?_ | refine zf ?_ | refine ze ?_ | refine zx ?_ | refine zag ?_ | refine z8 ?_ | refine za ?_ | refine zl ?_ | refine za0 ?_ | refine zba ?_ | refine zam ?_))
                  exact e_ret _ ⟨0, rfl, rfl⟩ sA
                | some n =>
                  rw [hn] at i1 hS
                  dsimp only at i1 hS
                  have hnl := skipDomM_le hn
                  rw [List.length_drop] at hnl
                  by_cases hbl : a + 1 + n < s.length
                  · obtain ⟨g, hg⟩ := get_some hbl
                    rw [hg] at i1
                    dsimp only at i1
                    by_cases h62 : g.toNat = 62
                    · rw [if_pos h62] at i1
                      (repeat' (first | refine zo (hS) ?_ | refine z7 ?_ | refine z6 ?_ | refine z2 ?_ | refine z1 ?_ | refine zc ?_ | refine zb ?_ | refine zf ?_ | refine zd ?_ | refine zw ?_ | refine zy ?_ | refine zz ?_ | refine zaw ?_ | refine zh ?_ | refine z8 ?_ | refine za ?_ | refine zl ?_ | refine zb1 ?_ | refine zab ?_ | refine zt ?_ | refine zb2 ?_ | refine zb0 ?_ | refine zj ?_ | refine zk ?_ | refine zg ?_ | refine zi ?_ | refine za0 ?_ | refine zba ?_ | refine zaq ?_))
                      exact ⟨a + 1 + n, kA, sA, i1.symm⟩
                    · rw [if_neg h62] at i1
                      by_cases h46 : g.toNat = 46
                      · rw [if_pos h46] at i1
                        (repeat' (first | refine zo (hS) ?_ | refine z7 ?_ | refine z6 ?_ | refine z2 ?_ | refine z1 ?_ | refine zb ?_ | refine zf ?_ | refine zd ?_ | refine zu ?_ | refine zh ?_ | refine za2 ?_ | refine z8 ?_ | refine za ?_ | refine zl ?_ | refine zb1 ?_ | refine zab ?_ | refine zr ?_ | refine zb0 ?_ | refine zk ?_ | refine zg ?_ | refine zi ?_ | refine za0 ?_ | refine zba ?_ | refine zaq ?_))
                        exact ⟨⟨a + 1 + n, f⟩, kB, sA, ⟨i1, hbl, by dsimp only; omega⟩, by dsimp only; omega⟩
                      · rw [if_neg h46] at i1
                        rw [← i1]
                        (repeat' (first | refine zo (hS) ?_ | refine z7 ?_ | refine z6 ?_ | refine z2 ?_ | refine z1 ?_ | refine zc ?_ | refine zb ?_ | refine zf ?_ | refine zd ?_ | refine ze ?_ | refine zx ?_ | refine zag ?_ | refine zh ?_ | refine z8 ?_ | refine za ?_ | refine zl ?_ | refine zb1 ?_ | refine zab ?_ | refine zb2 ?_ | refine zj ?_ | refine zk ?_ | refine zg ?_ | refine zi ?_ | refine za0 ?_ | refine zba ?_ | refine zaq ?_))
                        exact e_ret _ ⟨0, rfl, rfl⟩ sA
                  · rw [List.getElem?_eq_none (by omega)] at i1
                    dsimp only at i1
                    rw [← i1]
                    (repeat' (first | refine zo (hS) ?_ | refine z7 ?_ | refine z6 ?_ | refine z2 ?_ | refine z1 ?_ | refine zc ?_ | refine zb ?_ | refine zf ?_ | refine zd ?_ | refine ze ?_ | refine zx ?_ | refine zag ?_ | refine zaa ?_ | refine zay ?_ | refine z8 ?_ | refine za ?_ | refine zl ?_ | refine zb1 ?_ | refine zas ?_ | refine zj ?_ | refine zg ?_ | refine za0 ?_ | refine zba ?_ | refine zaq ?_))
                    exact e_ret _ ⟨0, rfl, rfl⟩ sA
              · rintro k hk
                have hkl := domsM_lt (hR.symm.trans hk)
                rw [hk]
                have hsl : ((s.take k).drop (i + 1)).length ≤ s.length := by rw [List.length_drop, List.length_take]; omega
                (repeat' (first | refine zde ?_ | refine z7 ?_ | refine z6 ?_ | refine z2 ?_ | refine z1 ?_ | refine ze ?_ | refine z8 ?_ | refine za ?_ | refine zl ?_ | refine zav ?_ | refine zan ?_ | refine zao ?_ | refine zaf (fun _ => ?_)))
                rename_i q
                exact e_ret _ ⟨q, rfl, rfl⟩ sA
            · rw [if_neg (fun h => by cases h; exact h64 rfl)]
              (repeat' (first | refine z7 ?_ | refine z6 ?_ | refine z2 ?_ | refine z1 ?_ | refine zc ?_ | refine ze ?_ | refine zx ?_ | refine zh ?_ | refine z8 ?_ | refine za ?_ | refine zab ?_ | refine zb2 ?_ | refine zk ?_ | refine zg ?_ | refine zi ?_))
              exact e_ret _ ⟨0, rfl, rfl⟩ sA
          · rw [List.getElem?_eq_none (by omega), if_neg (by simp)]
            (repeat' (first | refine z7 ?_ | refine z6 ?_ | refine z2 ?_ | refine z1 ?_ | refine zc ?_ | refine ze ?_ | refine zx ?_ | refine zaa ?_ | refine z8 ?_ | refine za ?_ | refine zas ?_ | refine zj ?_ | refine zg ?_))
            exact e_ret _ ⟨0, rfl, rfl⟩ sA
    · rw [if_neg (by rintro ⟨h, _⟩; exact h60 h)]
      refine Tr.start (n := 102) (rs := [.tmp 4, .tmp 5, .tmp 6]) rfl rfl rfl rfl fun B => ?_
      (repeat' (first | refine z7 ?_ | refine z6 ?_ | refine z2 ?_ | refine z1 ?_ | refine zc ?_ | refine ze ?_ | refine zx ?_ | refine zh ?_ | refine zaa ?_ | refine z8 ?_ | refine za ?_ | refine zl ?_ | refine zab ?_ | refine zb2 ?_ | refine zj ?_ | refine zk ?_ | refine zg ?_ | refine zi ?_))
      exact e_ret _ ⟨0, rfl, rfl⟩ sA
  · rw [List.getElem?_eq_none (show s.length ≤ i + 1 by omega)]
    have e : ∀ (o : Option UInt8) (f : UInt8 → UInt8 → Option Nat), (match o, (none : Option UInt8) with
      | some c, some d => f c d
      | _, _ => none) = (none : Option Nat) := fun o f => by cases o <;> rfl
    rw [e]
    refine Tr.start (n := 102) (rs := [.tmp 4, .tmp 5, .tmp 6]) rfl rfl rfl rfl fun B => ?_
    (repeat' (first | refine z7 ?_ | refine z6 ?_ | refine z2 ?_ | refine z1 ?_ | refine zc ?_ | refine ze ?_ | refine zx ?_ | refine zaa ?_ | refine z8 ?_ | refine za ?_ | refine zl ?_ | refine zas ?_ | refine zj ?_ | refine zg ?_))
    exact e_ret _ ⟨0, rfl, rfl⟩ sA

/-- What stands between angle brackets: the inline, and the place behind it. -/
def angM (s : List UInt8) (i : Nat) : Option (LIt × Nat) := match autoURIM s i with
  | some j => some (⟨144, 146, [str ((s.take j).drop (i + 1)), str ((s.take j).drop (i + 1))]⟩, j + 1)
  | none => match emailM s i with
    | some j => some (⟨144, 146, [str ((s.take j).drop (i + 1)), str ([109, 97, 105, 108, 116, 111, 58] ++ (s.take j).drop (i + 1))]⟩, j + 1)
    | none => match htmlTagM s i with
      | some j => some (⟨149, 150, [str ((s.take j).drop i)]⟩, j)
      | none => none
/-- The values that a parser of inlines gives, and the memory of what it gives. -/
def inlV (q i : Nat) : Option (LIt × Nat) → Value
  | some (x, j) => .tuple #[.iface x.ty (lp q), inat i, inat j, .bool true]
  | none => .tuple #[.nilIface, inat 0, inat 0, .bool false]
def inlK (q : Nat) : Option (LIt × Nat) → Heap
  | some (x, _) => [[x.cell q]]
  | none => []
theorem angG_tr (p : Nat) (st : PS) (s : List UInt8) (i : Nat) (hl : s.length ≤ 1000000) (hi : i ≤ s.length) (cn : Bool) (hcn : st.corner = .bool cn) :
    Tr Tryz.prog 64 [lp p, str s, inat i] [st.blk p] fun u K => ∃ q cn', u = inlV q i (angM s i) ∧ K = ({ st with corner := .bool cn' } : PS).blk p :: inlK q (angM s i) := by
  obtain ⟨par, root, links, lineno, stack, depth, corner, sv, em, list, lists, texts, bt⟩ := st
  subst hcn
  unfold angM
  refine Tr.start (n := 53) (rs := [.tmp 6, .tmp 7, .tmp 8, .tmp 9]) rfl rfl rfl rfl fun B => ?_
  (repeat' (first | refine z7 ?_ | refine z6 ?_ | refine z2 ?_ | refine z1 ?_ | refine z8 ?_ | refine za ?_))
  refine za1 (autoURIG_tr s i hl hi) (fun u K hR => ?_)
  obtain ⟨q, rfl, rfl⟩ := hR
  cases h1 : autoURIM s i with
  | some j =>
    dsimp only
    (repeat' (first | refine z7 ?_ | refine z6 ?_ | refine z2 ?_ | refine z1 ?_ | refine zc ?_ | refine ze ?_ | refine zx ?_ | refine z8 ?_ | refine za ?_ | refine za0 ?_))
    exact e_ret _ ⟨q, cn, rfl, rfl⟩ sA
  | none =>
    dsimp only
    (repeat' (first | refine z7 ?_ | refine z6 ?_ | refine z2 ?_ | refine z1 ?_ | refine zb ?_ | refine zd ?_ | refine z8 ?_ | refine za ?_ | refine za0 ?_))
    refine za1 (emailG_tr s i hl hi) (fun u K hR => ?_)
    obtain ⟨q, rfl, rfl⟩ := hR
    cases h2 : emailM s i with
    | some j =>
      dsimp only
      (repeat' (first | refine z7 ?_ | refine z6 ?_ | refine z2 ?_ | refine z1 ?_ | refine zc ?_ | refine ze ?_ | refine zx ?_ | refine z8 ?_ | refine za ?_ | refine za0 ?_))
      exact e_ret _ ⟨q, cn, rfl, rfl⟩ sA
    | none =>
      dsimp only
      (repeat' (first | refine z7 ?_ | refine z6 ?_ | refine z2 ?_ | refine z1 ?_ | refine zb ?_ | refine zd ?_ | refine z8 ?_ | refine za ?_ | refine za0 ?_))
      refine za1 (htmlTagG_tr p _ s i hl hi cn rfl) (fun u K hR => ?_)
      obtain ⟨q, cn', rfl, rfl⟩ := hR
      cases h3 : htmlTagM s i with
      | some j =>
        dsimp only
        (repeat' (first | refine z7 ?_ | refine z6 ?_ | refine z2 ?_ | refine z1 ?_ | refine zc ?_ | refine ze ?_ | refine zx ?_ | refine z8 ?_ | refine za ?_ | refine za0 ?_))
        exact e_ret _ ⟨q, cn', rfl, rfl⟩ sA
      | none =>
        dsimp only
        (repeat' (first | refine z7 ?_ | refine z6 ?_ | refine z2 ?_ | refine z1 ?_ | refine zb ?_ | refine zd ?_ | refine ze ?_ | refine z8 ?_ | refine za ?_ | refine za0 ?_))
        exact e_ret _ ⟨q, cn', rfl, rfl⟩ sA
end Go.Proofs

namespace Go.Proofs
open Go Go.Eng
set_option maxRecDepth 20000
set_option maxHeartbeats 4000000

/-- What a parser of inlines gives: the inline, where it begins and ends. -/
abbrev Prs := Option (LIt × Nat × Nat)
def prsV (q : Nat) : Prs → Value
  | some (x, a, b) => .tuple #[.iface x.ty (lp q), inat a, inat b, .bool true]
  | none => .tuple #[.nilIface, inat 0, inat 0, .bool false]
def prsK (q : Nat) : Prs → Heap
  | some (x, _, _) => [[x.cell q]]
  | none => []
abbrev escL (t : List UInt8) : LIt := ⟨157, 160, [str t]⟩
abbrev hardL : LIt := ⟨132, 133, []⟩
abbrev softL : LIt := ⟨130, 131, []⟩
abbrev openL (t : List UInt8) (i : Nat) : LIt := ⟨166, 169, [str t, inat i]⟩
abbrev codeL (t : List UInt8) : LIt := ⟨134, 136, [str t]⟩

def isPunB (c : UInt8) : Bool := decide (33 ≤ c.toNat ∧ c.toNat ≤ 47 ∨ 58 ≤ c.toNat ∧ c.toNat ≤ 64 ∨ 91 ≤ c.toNat ∧ c.toNat ≤ 96 ∨ 123 ≤ c.toNat ∧ c.toNat ≤ 126)
theorem isPunB_tr (c : UInt8) : TrP Tryz.prog 85 [.int .u8 c.toNat] (.bool (isPunB c)) := by
  have hc := c.toNat_lt
  unfold isPunB
  refine Tr.start (n := 33) (rs := [.tmp 2]) rfl rfl rfl rfl fun B => ?_
  (repeat' (first | refine z7 ?_ | refine z6 ?_ | refine z2 ?_ | refine z1 ?_ | refine ze ?_ | refine zh ?_ | refine za2 ?_ | refine zaa ?_ | refine zay ?_ | refine z8 ?_ | refine za ?_ | refine zbt ?_ | refine zda ?_ | refine zj ?_ | refine zk ?_ | refine Ops.split_run (fun hg => ?_) (fun hg => ?_) | refine Ops.split_skip (fun hg => ?_) (fun hg => ?_)))
  all_goals (refine e_pure ?_; refine ⟨?_, rfl⟩; simp only [oneOr, Value.bool.injEq]; first | (symm; exact decide_eq_true (by omega)) | (symm; exact decide_eq_false (by omega)) | (rw [decide_eq_decide]; omega))

def escapeM (s : List UInt8) (i : Nat) : Prs := match s[i + 1]? with
  | none => none
  | some c => if isPunB c = true then some (escL [c], i, i + 2) else if c.toNat = 10 then some (hardL, i, scan isBl s (i + 2)) else none
theorem escapeG_tr (p : Nat) (st : PS) (s : List UInt8) (i : Nat) (hl : s.length ≤ 1000000) (hi : i < s.length) (cn : Bool) (hcn : st.corner = .bool cn) :
    Tr Tryz.prog 61 [lp p, str s, inat i] [st.blk p] fun u K => ∃ q cn', u = prsV q (escapeM s i) ∧ K = ({ st with corner := .bool cn' } : PS).blk p :: prsK q (escapeM s i) := by
  obtain ⟨par, root, links, lineno, stack, depth, corner, sv, em, list, lists, texts, bt⟩ := st
  subst hcn
  unfold escapeM
  by_cases hlt : i + 1 < s.length
  · obtain ⟨c, hc⟩ := get_some hlt
    have hP := isPunB_tr c
    rw [hc]
    dsimp only
    cases hb : isPunB c with
    | true =>
      rw [hb] at hP
      simp only [if_true]
      have hs : (s.take (i + 2)).drop (i + 1) = [c] := slice1 hc
      rw [← hs]
      refine Tr.start (n := 75) (rs := [.tmp 6, .tmp 7, .tmp 8, .tmp 9]) rfl rfl rfl rfl fun B => ?_
      (repeat' (first | refine zo (hP) ?_ | refine z7 ?_ | refine z6 ?_ | refine z2 ?_ | refine z1 ?_ | refine zc ?_ | refine ze ?_ | refine zx ?_ | refine z8 ?_ | refine za ?_ | refine zl ?_ | refine zb3 ?_ | refine zm ?_ | refine zg ?_ | refine zi ?_ | refine zav ?_ | refine zan ?_ | refine zao ?_ | refine zaf (fun _ => ?_)))
      rename_i q
      exact e_ret _ ⟨q, cn, rfl, rfl⟩ sA
    | false =>
      rw [hb] at hP
      simp only [Bool.false_eq_true, if_false]
      by_cases h10 : c.toNat = 10
      · rw [if_pos h10]
        have hge := scan_ge isBl s (i + 2)
        have hle := scan_le (p := isBl) (s := s) (i := i + 2) (by omega)
        obtain ⟨c0, hc0⟩ := get_some hi
        generalize hj : scan isBl s (i + 2) = j at hge hle ⊢
        refine Tr.start (n := 75) (rs := [.tmp 6, .tmp 7, .tmp 8, .tmp 9]) rfl rfl rfl rfl fun B => ?_
        ((repeat (refine z7 ?_)); refine z6 ?_; (repeat' (first | refine za ?_)); refine z2 ?_; refine z1 ?_)
        ((repeat (refine z7 ?_)); refine z6 ?_; (repeat' (first | refine z8 ?_ | refine zl ?_ | refine zm ?_ | refine zg ?_)); refine z2 ?_; refine z1 ?_)
        (repeat (refine z7 ?_))
        refine zc ?_
        ((repeat (refine z7 ?_)); refine z6 ?_; (repeat' (first | refine z8 ?_ | refine za ?_ | refine zl ?_ | refine zi ?_)); refine z2 ?_; refine z1 ?_)
        ((repeat (refine z7 ?_)); refine z6 ?_; (repeat' (first | refine zo (hP) ?_ | refine z8 ?_)); refine z2 ?_; refine z1 ?_)
        (repeat (refine z7 ?_))
        refine zb ?_
        refine zd ?_
        refine z1 ?_
        ((repeat (refine z7 ?_)); refine z6 ?_; (repeat' (first | refine z8 ?_ | refine zt ?_)); refine z2 ?_; refine z1 ?_)
        (repeat (refine z7 ?_))
        refine zc ?_
        (repeat (refine z7 ?_))
        refine zau (fun b : Bool => [(0, lp p), (1, str s), (2, inat i), (46, .bool b)]) (fun _ => [(⟨par, root, links, lineno, stack, depth, .bool cn, sv, em, list, lists, texts, bt⟩ : PS).blk p]) (fun _ => True) ?_ ?_
        · by_cases h0 : 0 < i
          · obtain ⟨d, hd⟩ := get_some (show i - 1 < s.length by omega)
            by_cases h92 : d.toNat = 92
            · (repeat' (first | refine Ops.pure _ (zap (a := i) (b := 1) (c := i - 1) (by rfl) (by rfl) (by omega) (by omega)) (by rfl) ?_ | refine z6 ?_ | refine z2 ?_ | refine z1 ?_ | refine zh ?_ | refine z8 ?_ | refine zaz ?_ | refine zt ?_ | refine zj ?_ | refine zi ?_))
              exact ⟨true, kA, sA, trivial⟩
            · (repeat' (first | refine Ops.pure _ (zap (a := i) (b := 1) (c := i - 1) (by rfl) (by rfl) (by omega) (by omega)) (by rfl) ?_ | refine z6 ?_ | refine z2 ?_ | refine z1 ?_ | refine zh ?_ | refine z8 ?_ | refine zaz ?_ | refine zr ?_ | refine zj ?_ | refine zi ?_))
              exact ⟨false, kA, sA, trivial⟩
          · (repeat' (first | refine z6 ?_ | refine z2 ?_ | refine z1 ?_ | refine za2 ?_ | refine z8 ?_ | refine zat ?_ | refine zk ?_))
            exact ⟨false, kA, sA, trivial⟩
        rintro b -
        (repeat (refine z7 ?_))
        refine zau (fun c : Bool => [(0, lp p), (1, str s), (2, inat i)]) (fun c => [(⟨par, root, links, lineno, stack, depth, .bool c, sv, em, list, lists, texts, bt⟩ : PS).blk p]) (fun _ => True) ?_ ?_
        · cases b with
          | true =>
            (repeat' (first | refine z6 ?_ | refine z2 ?_ | refine z1 ?_ | refine zc ?_ | refine z8 ?_ | refine zp ?_ | refine zq ?_ | refine za5 ?_))
            exact ⟨true, kA, sA, trivial⟩
          | false =>
            (repeat' (first | refine z1 ?_ | refine zb ?_ | refine zd ?_))
            exact ⟨cn, kA, sA, trivial⟩
        · rintro c2 -
          (repeat' (first | refine z7 ?_ | refine z6 ?_ | refine z2 ?_ | refine z1 ?_ | refine z8 ?_ | refine za ?_ | refine zb3 ?_))
          refine zac [(0, lp p), (1, str s), (2, inat i), (11, inat j)] [(⟨par, root, links, lineno, stack, depth, .bool c2, sv, em, list, lists, texts, bt⟩ : PS).blk p] ?_ ?_
          · (repeat' (first | refine zf ?_))
            refine za6 (fun k : Nat => [(0, lp p), (1, str s), (2, inat i), (11, inat k)]) (fun _ => [(⟨par, root, links, lineno, stack, depth, .bool c2, sv, em, list, lists, texts, bt⟩ : PS).blk p]) (fun k => scan isBl s k = j ∧ k ≤ s.length) (fun k => s.length - k) (i + 2) ⟨hj, by omega⟩ kB sA fun k hk => ?_
            obtain ⟨hk1, hk2⟩ := hk
            by_cases hlt : k < s.length
            · obtain ⟨d, hd⟩ := get_some hlt
              by_cases h1 : d.toNat = 32
              · (repeat' (first | refine z7 ?_ | refine z6 ?_ | refine z2 ?_ | refine z1 ?_ | refine zc ?_ | refine zf ?_ | refine zd ?_ | refine zu ?_ | refine zh ?_ | refine zaa ?_ | refine z8 ?_ | refine za ?_ | refine zl ?_ | refine zm ?_ | refine zt ?_ | refine zj ?_ | refine zg ?_ | refine zi ?_))
                exact ⟨k + 1, kB, sA, ⟨by rw [← hk1, scan_step hd (by simp [isBl, h1])], by omega⟩, by omega⟩
              by_cases h2 : d.toNat = 9
              · (repeat' (first | refine z7 ?_ | refine z6 ?_ | refine z2 ?_ | refine z1 ?_ | refine zc ?_ | refine zf ?_ | refine zd ?_ | refine zu ?_ | refine zh ?_ | refine z8 ?_ | refine za ?_ | refine zl ?_ | refine zm ?_ | refine zt ?_ | refine zr ?_ | refine zj ?_ | refine zk ?_ | refine zg ?_ | refine zi ?_))
                exact ⟨k + 1, kB, sA, ⟨by rw [← hk1, scan_step hd (by simp [isBl, h2])], by omega⟩, by omega⟩
              · have : k = j := by rw [← hk1, scan_stop hd (by simp [isBl, h1, h2])]
                subst this
                (repeat' (first | refine z7 ?_ | refine z6 ?_ | refine z2 ?_ | refine z1 ?_ | refine zb ?_ | refine zw ?_ | refine zy ?_ | refine zz ?_ | refine zh ?_ | refine z8 ?_ | refine zm ?_ | refine zr ?_ | refine zj ?_ | refine zk ?_ | refine zg ?_ | refine zi ?_))
                exact ⟨kA, sA⟩
            · have : k = j := by rw [← hk1, scan_end (by omega)]
              subst this
              (repeat' (first | refine z7 ?_ | refine z6 ?_ | refine z2 ?_ | refine z1 ?_ | refine zb ?_ | refine zw ?_ | refine zy ?_ | refine zz ?_ | refine za2 ?_ | refine zay ?_ | refine z8 ?_ | refine za4 ?_ | refine zk ?_ | refine zg ?_))
              exact ⟨kA, sA⟩
          · (repeat' (first | refine z7 ?_ | refine z6 ?_ | refine z2 ?_ | refine z1 ?_ | refine ze ?_ | refine zx ?_ | refine z8 ?_ | refine za ?_ | refine zan ?_ | refine zao ?_ | refine zaf (fun _ => ?_)))
            rename_i q
            exact e_ret _ ⟨q, c2, rfl, rfl⟩ sA
      · rw [if_neg h10]
        refine Tr.start (n := 75) (rs := [.tmp 6, .tmp 7, .tmp 8, .tmp 9]) rfl rfl rfl rfl fun B => ?_
        (repeat' (first | refine zo (hP) ?_ | refine z7 ?_ | refine z6 ?_ | refine z2 ?_ | refine z1 ?_ | refine zc ?_ | refine zb ?_ | refine zd ?_ | refine ze ?_ | refine z8 ?_ | refine za ?_ | refine zl ?_ | refine zm ?_ | refine zr ?_ | refine zg ?_ | refine zi ?_))
        exact e_ret _ ⟨0, cn, rfl, rfl⟩ sA
  · rw [List.getElem?_eq_none (by omega)]
    refine Tr.start (n := 75) (rs := [.tmp 6, .tmp 7, .tmp 8, .tmp 9]) rfl rfl rfl rfl fun B => ?_
    (repeat' (first | refine z7 ?_ | refine z6 ?_ | refine z2 ?_ | refine z1 ?_ | refine zb ?_ | refine zd ?_ | refine ze ?_ | refine z8 ?_ | refine za ?_ | refine zl ?_ | refine za4 ?_ | refine zg ?_))
    exact e_ret _ ⟨0, cn, rfl, rfl⟩ sA

def bcan (s : List UInt8) : Nat → Nat
  | 0 => 0
  | i + 1 => match s[i]? with
    | some c => if isBl c = true then bcan s i else i + 1
    | none => i + 1
theorem bcan_le (s : List UInt8) : ∀ i, bcan s i ≤ i
  | 0 => Nat.le_refl _
  | i + 1 => by
    unfold bcan
    split
    · split
      · have := bcan_le s i; omega
      · exact Nat.le_refl _
    · exact Nat.le_refl _
def breakM (s : List UInt8) (i : Nat) : Prs := some (if 2 ≤ i ∧ s[i - 1]? = some 32 ∧ s[i - 2]? = some 32 then hardL else softL, bcan s i, scan isBl s (i + 1))
theorem breakG_tr (p : Value) (s : List UInt8) (i : Nat) (hl : s.length ≤ 1000000) (hi : i < s.length) :
    Tr Tryz.prog 70 [p, str s, inat i] [] fun u K => ∃ q, u = prsV q (breakM s i) ∧ K = prsK q (breakM s i) := by
  unfold breakM
  have hb := bcan_le s i
  have hge := scan_ge isBl s (i + 1)
  have hle := scan_le (p := isBl) (s := s) (i := i + 1) (by omega)
  generalize hbe : bcan s i = b at hb ⊢
  generalize hje : scan isBl s (i + 1) = j at hge hle ⊢
  refine Tr.start (n := 77) (rs := [.tmp 6, .tmp 7, .tmp 8, .tmp 9]) rfl rfl rfl rfl fun B => ?_
  (repeat' (first | refine z7 ?_ | refine z6 ?_ | refine z2 ?_ | refine z1 ?_ | refine z8 ?_ | refine za ?_))
  refine zac [(1, str s), (2, inat i), (10, inat b)] [] ?_ ?_
  · (repeat' (first | refine zf ?_))
    refine za6 (fun k : Nat => [(1, str s), (2, inat i), (10, inat k)]) (fun _ => []) (fun k => bcan s k = b ∧ k ≤ i) (fun k => k) i ⟨hbe, Nat.le_refl _⟩ kB sA fun k hk => ?_
    obtain ⟨hk1, hk2⟩ := hk
    cases k with
    | zero =>
      have : b = 0 := by rw [← hk1]; rfl
      subst this
      (repeat' (first | refine z7 ?_ | refine z6 ?_ | refine z2 ?_ | refine z1 ?_ | refine zb ?_ | refine zw ?_ | refine zy ?_ | refine zz ?_ | refine za2 ?_ | refine zay ?_ | refine z8 ?_ | refine zat ?_ | refine zk ?_))
      exact ⟨kA, sA⟩
    | succ k =>
      obtain ⟨c, hc⟩ := get_some (show k < s.length by omega)
      unfold bcan at hk1
      rw [hc] at hk1
      dsimp only at hk1
      by_cases h1 : c.toNat = 32
      · rw [if_pos (by simp [isBl, h1])] at hk1
        (repeat' (first | refine Ops.pure _ (zap (a := k + 1) (b := 1) (c := k) (by rfl) (by rfl) (by omega) (by omega)) (by rfl) ?_ | refine z7 ?_ | refine z6 ?_ | refine z2 ?_ | refine z1 ?_ | refine zc ?_ | refine zf ?_ | refine zd ?_ | refine zu ?_ | refine zh ?_ | refine zaa ?_ | refine z8 ?_ | refine za ?_ | refine zaz ?_ | refine zt ?_ | refine zj ?_ | refine zi ?_))
        exact ⟨k, kB, sA, ⟨hk1, by omega⟩, by omega⟩
      by_cases h2 : c.toNat = 9
      · rw [if_pos (by simp [isBl, h2])] at hk1
        (repeat' (first | refine Ops.pure _ (zap (a := k + 1) (b := 1) (c := k) (by rfl) (by rfl) (by omega) (by omega)) (by rfl) ?_ | refine z7 ?_ | refine z6 ?_ | refine z2 ?_ | refine z1 ?_ | refine zc ?_ | refine zf ?_ | refine zd ?_ | refine zu ?_ | refine zh ?_ | refine z8 ?_ | refine za ?_ | refine zaz ?_ | refine zt ?_ | refine zr ?_ | refine zj ?_ | refine zk ?_ | refine zi ?_))
        exact ⟨k, kB, sA, ⟨hk1, by omega⟩, by omega⟩
      · rw [if_neg (by simp [isBl, h1, h2])] at hk1
        subst hk1
        (repeat' (first | refine Ops.pure _ (zap (a := k + 1) (b := 1) (c := k) (by rfl) (by rfl) (by omega) (by omega)) (by rfl) ?_ | refine z7 ?_ | refine z6 ?_ | refine z2 ?_ | refine z1 ?_ | refine zb ?_ | refine zw ?_ | refine zy ?_ | refine zz ?_ | refine zh ?_ | refine z8 ?_ | refine zaz ?_ | refine zr ?_ | refine zj ?_ | refine zk ?_ | refine zi ?_))
        exact ⟨kA, sA⟩
  · (repeat' (first | refine z7 ?_ | refine z6 ?_ | refine z2 ?_ | refine z1 ?_ | refine z8 ?_ | refine za ?_ | refine zl ?_))
    refine zac [(1, str s), (2, inat i), (10, inat b), (11, inat j)] [] ?_ ?_
    · (repeat' (first | refine zf ?_))
      refine za6 (fun k : Nat => [(1, str s), (2, inat i), (10, inat b), (11, inat k)]) (fun _ => []) (fun k => scan isBl s k = j ∧ k ≤ s.length) (fun k => s.length - k) (i + 1) ⟨hje, by omega⟩ kB sA fun k hk => ?_
      obtain ⟨hk1, hk2⟩ := hk
      by_cases hlt : k < s.length
      · obtain ⟨d, hd⟩ := get_some hlt
        by_cases h1 : d.toNat = 32
        · (repeat' (first | refine z7 ?_ | refine z6 ?_ | refine z2 ?_ | refine z1 ?_ | refine zc ?_ | refine zf ?_ | refine zd ?_ | refine zu ?_ | refine zh ?_ | refine zaa ?_ | refine z8 ?_ | refine za ?_ | refine zl ?_ | refine zm ?_ | refine zt ?_ | refine zj ?_ | refine zg ?_ | refine zi ?_))
          exact ⟨k + 1, kB, sA, ⟨by rw [← hk1, scan_step hd (by simp [isBl, h1])], by omega⟩, by omega⟩
        by_cases h2 : d.toNat = 9
        · (repeat' (first | refine z7 ?_ | refine z6 ?_ | refine z2 ?_ | refine z1 ?_ | refine zc ?_ | refine zf ?_ | refine zd ?_ | refine zu ?_ | refine zh ?_ | refine z8 ?_ | refine za ?_ | refine zl ?_ | refine zm ?_ | refine zt ?_ | refine zr ?_ | refine zj ?_ | refine zk ?_ | refine zg ?_ | refine zi ?_))
          exact ⟨k + 1, kB, sA, ⟨by rw [← hk1, scan_step hd (by simp [isBl, h2])], by omega⟩, by omega⟩
        · have : k = j := by rw [← hk1, scan_stop hd (by simp [isBl, h1, h2])]
          subst this
          (repeat' (first | refine z7 ?_ | refine z6 ?_ | refine z2 ?_ | refine z1 ?_ | refine zb ?_ | refine zw ?_ | refine zy ?_ | refine zz ?_ | refine zh ?_ | refine z8 ?_ | refine zm ?_ | refine zr ?_ | refine zj ?_ | refine zk ?_ | refine zg ?_ | refine zi ?_))
          exact ⟨kA, sA⟩
      · have : k = j := by rw [← hk1, scan_end (by omega)]
        subst this
        (repeat' (first | refine z7 ?_ | refine z6 ?_ | refine z2 ?_ | refine z1 ?_ | refine zb ?_ | refine zw ?_ | refine zy ?_ | refine zz ?_ | refine za2 ?_ | refine zay ?_ | refine z8 ?_ | refine za4 ?_ | refine zk ?_ | refine zg ?_))
        exact ⟨kA, sA⟩
    · by_cases h2 : 2 ≤ i
      · obtain ⟨c, hc⟩ := get_some (show i - 1 < s.length by omega)
        obtain ⟨d, hd⟩ := get_some (show i - 2 < s.length by omega)
        by_cases hc32 : c.toNat = 32
        · by_cases hd32 : d.toNat = 32
          · rw [if_pos ⟨h2, by rw [hc, show c = 32 from UInt8.toNat_inj.1 hc32], by rw [hd, show d = 32 from UInt8.toNat_inj.1 hd32]⟩]
            (repeat' (first | refine Ops.pure _ (zap (a := i) (b := 1) (c := i - 1) (by rfl) (by rfl) (by omega) (by omega)) (by rfl) ?_ | refine Ops.pure _ (zap (a := i) (b := 2) (c := i - 2) (by rfl) (by rfl) (by omega) (by omega)) (by rfl) ?_ | refine z7 ?_ | refine z6 ?_ | refine z2 ?_ | refine z1 ?_ | refine zc ?_ | refine ze ?_ | refine zx ?_ | refine zh ?_ | refine z8 ?_ | refine za ?_ | refine zas ?_ | refine zt ?_ | refine zj ?_ | refine zi ?_ | refine zan ?_ | refine zao ?_ | refine zaf (fun _ => ?_)))
            rename_i q
            exact e_ret _ ⟨q, rfl, rfl⟩ sA
          · rw [if_neg (by rintro ⟨_, _, e⟩; rw [hd] at e; cases e; exact hd32 rfl)]
            (repeat' (first | refine Ops.pure _ (zap (a := i) (b := 1) (c := i - 1) (by rfl) (by rfl) (by omega) (by omega)) (by rfl) ?_ | refine Ops.pure _ (zap (a := i) (b := 2) (c := i - 2) (by rfl) (by rfl) (by omega) (by omega)) (by rfl) ?_ | refine z7 ?_ | refine z6 ?_ | refine z2 ?_ | refine z1 ?_ | refine zb ?_ | refine zd ?_ | refine ze ?_ | refine zh ?_ | refine z8 ?_ | refine za ?_ | refine zas ?_ | refine zt ?_ | refine zr ?_ | refine zj ?_ | refine zi ?_ | refine zan ?_ | refine zao ?_ | refine zaf (fun _ => ?_)))
            rename_i q
            exact e_ret _ ⟨q, rfl, rfl⟩ sA
        · rw [if_neg (by rintro ⟨_, e, _⟩; rw [hc] at e; cases e; exact hc32 rfl)]
          (repeat' (first | refine Ops.pure _ (zap (a := i) (b := 1) (c := i - 1) (by rfl) (by rfl) (by omega) (by omega)) (by rfl) ?_ | refine z7 ?_ | refine z6 ?_ | refine z2 ?_ | refine z1 ?_ | refine zb ?_ | refine zd ?_ | refine ze ?_ | refine zh ?_ | refine za2 ?_ | refine z8 ?_ | refine za ?_ | refine zas ?_ | refine zr ?_ | refine zj ?_ | refine zk ?_ | refine zi ?_ | refine zan ?_ | refine zao ?_ | refine zaf (fun _ => ?_)))
          rename_i q
          exact e_ret _ ⟨q, rfl, rfl⟩ sA
      · rw [if_neg (by rintro ⟨e, _⟩; exact h2 e)]
        (repeat' (first | refine z7 ?_ | refine z6 ?_ | refine z2 ?_ | refine z1 ?_ | refine zb ?_ | refine zd ?_ | refine ze ?_ | refine za2 ?_ | refine z8 ?_ | refine za ?_ | refine zab ?_ | refine zk ?_ | refine zan ?_ | refine zao ?_ | refine zaf (fun _ => ?_)))
        rename_i q
        exact e_ret _ ⟨q, rfl, rfl⟩ sA

def linkOpenM (s : List UInt8) (i : Nat) : Prs := some (openL ((s.take (i + 1)).drop i) (i + 1), i, i + 1)
theorem linkOpenG_tr (p : Value) (s : List UInt8) (i : Nat) (hl : s.length ≤ 1000000) (hi : i < s.length) :
    Tr Tryz.prog 65 [p, str s, inat i] [] fun u K => ∃ q, u = prsV q (linkOpenM s i) ∧ K = prsK q (linkOpenM s i) := by
  refine Tr.start (n := 24) (rs := [.tmp 6, .tmp 7, .tmp 8, .tmp 9]) rfl rfl rfl rfl fun B => ?_
  (repeat' (first | refine z7 ?_ | refine z6 ?_ | refine z2 ?_ | refine z1 ?_ | refine ze ?_ | refine z8 ?_ | refine za ?_ | refine zl ?_ | refine zav ?_ | refine zan ?_ | refine zao ?_ | refine zaf (fun _ => ?_)))
  rename_i q
  exact e_ret _ ⟨q, rfl, rfl⟩ sA
def imageOpenM (s : List UInt8) (i : Nat) : Prs := if s[i + 1]? = some 91 then some (openL ((s.take (i + 2)).drop i) (i + 2), i, i + 2) else none
theorem imageOpenG_tr (p : Value) (s : List UInt8) (i : Nat) (hl : s.length ≤ 1000000) (hi : i < s.length) :
    Tr Tryz.prog 66 [p, str s, inat i] [] fun u K => ∃ q, u = prsV q (imageOpenM s i) ∧ K = prsK q (imageOpenM s i) := by
  unfold imageOpenM
  by_cases hlt : i + 1 < s.length
  · obtain ⟨c, hc⟩ := get_some hlt
    rw [hc]
    by_cases h91 : c.toNat = 91
    · rw [show c = 91 from UInt8.toNat_inj.1 h91, if_pos rfl]
      refine Tr.start (n := 36) (rs := [.tmp 6, .tmp 7, .tmp 8, .tmp 9]) rfl rfl rfl rfl fun B => ?_
      (repeat' (first | refine z7 ?_ | refine z6 ?_ | refine z2 ?_ | refine z1 ?_ | refine zc ?_ | refine ze ?_ | refine zx ?_ | refine zh ?_ | refine z8 ?_ | refine za ?_ | refine zl ?_ | refine zb3 ?_ | refine zm ?_ | refine zt ?_ | refine zj ?_ | refine zg ?_ | refine zi ?_ | refine zav ?_ | refine zan ?_ | refine zao ?_ | refine zaf (fun _ => ?_)))
      rename_i q
      exact e_ret _ ⟨q, rfl, rfl⟩ sA
    · rw [if_neg (fun e => by cases e; exact h91 rfl)]
      refine Tr.start (n := 36) (rs := [.tmp 6, .tmp 7, .tmp 8, .tmp 9]) rfl rfl rfl rfl fun B => ?_
      (repeat' (first | refine z7 ?_ | refine z6 ?_ | refine z2 ?_ | refine z1 ?_ | refine zb ?_ | refine zd ?_ | refine ze ?_ | refine zh ?_ | refine z8 ?_ | refine za ?_ | refine zl ?_ | refine zm ?_ | refine zr ?_ | refine zj ?_ | refine zg ?_ | refine zi ?_))
      exact e_ret _ ⟨0, rfl, rfl⟩ sA
  · rw [List.getElem?_eq_none (by omega), if_neg (by simp)]
    refine Tr.start (n := 36) (rs := [.tmp 6, .tmp 7, .tmp 8, .tmp 9]) rfl rfl rfl rfl fun B => ?_
    (repeat' (first | refine z7 ?_ | refine z6 ?_ | refine z2 ?_ | refine z1 ?_ | refine zb ?_ | refine zd ?_ | refine ze ?_ | refine za2 ?_ | refine z8 ?_ | refine za ?_ | refine zl ?_ | refine za4 ?_ | refine zk ?_ | refine zg ?_))
    exact e_ret _ ⟨0, rfl, rfl⟩ sA
end Go.Proofs

/- parse of a text of lines. Conditions: a contract of inline for this text, and how the line begins. skip and emit, and lists of texts as inlines. Conditions: bounds. PrintHTML of texts, struck texts, Text, Paragraph and Document. Conditions: bounds on the length. strings.IndexByte, and laws.only. Conditions: bounds on the length. -/
import Derived.Test.YtjbpohkcmgelkaaGreatDoorT03
import Derived.Test.YtjbpohkcmgelkaaGreatDoorEngB
import Derived.Test.YtjbpohkcmgelkaaGreatDoorT04
import Derived.Lib.IndexLaws
import Derived.Laws.StandIn
namespace Go.Proofs
open Go Go.Eng
set_option maxRecDepth 20000
set_option maxHeartbeats 4000000

def bt0 : List Value := List.replicate 80 (.int .i64 0) ++ [.bool false]
abbrev ps0 : PS := ⟨.pointer none, .pointer none, .map none, .int .i64 0, .slice none 0 0, .int .i64 0, .bool false, str [], .int .i64 0, .slice none 0 0, .slice none 0 0, .slice none 0 0, bt0⟩
inductive PLoop where
  | a
  | b (k : Nat) (t : List UInt8) (e : Nat) (g' cap' : Nat) (cur' : List Value) (pb : Nat) (tv : Value) (Bt : Blk)
inductive ILoop where
  | a
  | b (s : PS) (ia : Option Addr) (im ic : Nat) (G : Blk)

/-! Lines with line feeds between them. -/
abbrev jn (ls : List (List UInt8)) : List UInt8 := Lib.join ls [10]
theorem jn_one (a : List UInt8) : jn [a] = a := Lib.join_one a [10]
theorem jn_cons (a b : List UInt8) (r : List (List UInt8)) : jn (a :: b :: r) = a ++ 10 :: jn (b :: r) := by
  unfold jn
  rw [Lib.join_cons, Lib.join_cons]; simp [Lib.joinTail]
theorem jn_mem : ∀ (ls : List (List UInt8)) (c : UInt8), c ∈ jn ls → c = 10 ∨ ∃ l ∈ ls, c ∈ l
  | [], c, h => by simp [jn, Lib.join_nil] at h
  | [a], c, h => by rw [jn_one] at h; exact .inr ⟨a, by simp, h⟩
  | a :: b :: r, c, h => by
    rw [jn_cons] at h
    rcases List.mem_append.1 h with h | h
    · exact .inr ⟨a, by simp, h⟩
    · rcases List.mem_cons.1 h with h | h
      · exact .inl h
      · rcases jn_mem (b :: r) c h with h | ⟨l, h1, h2⟩
        · exact .inl h
        · exact .inr ⟨l, List.mem_cons_of_mem _ h1, h2⟩
theorem jn_tail (a : List UInt8) (r : List (List UInt8)) : (jn r).length ≤ (jn (a :: r)).length := by
  cases r with
  | nil => simp [jn, Lib.join_nil]
  | cons b r => rw [jn_cons]; simp; omega
theorem jn_drop : ∀ (ls : List (List UInt8)) (k : Nat), (jn (ls.drop k)).length ≤ (jn ls).length
  | ls, 0 => by simp
  | [], k + 1 => by simp
  | a :: r, k + 1 => by simpa using Nat.le_trans (jn_drop r k) (jn_tail a r)
theorem fst1_mid : ∀ (a t : List UInt8), (∀ d ∈ a, d ≠ 10) → fst1 10 (a ++ 10 :: t) = a.length
  | [], t, _ => by simp [fst1]
  | d :: a, t, h => by
    have hd : d ≠ 10 := h d (by simp)
    have := fst1_mid a t (fun e he => h e (by simp [he]))
    simp only [List.cons_append, fst1, if_neg hd, this, List.length_cons]
theorem fst1_no {c : UInt8} {l : List UInt8} (h : ∀ d ∈ l, d ≠ c) : ¬ fst1 c l < l.length := fun hlt =>
  h c (List.mem_of_getElem? (fst1_at hlt)) rfl

/-- A line that begins nothing but a paragraph, without white space ahead of it. -/
structure PL (l : List UInt8) : Prop where
  p : PLine 0 l
  t : ltrim l = l
  c : ∀ d ∈ l, d ≠ 10 ∧ d ≠ 13 ∧ d ≠ 0
theorem PL.ne {l : List UInt8} (h : PL l) : l ≠ [] := by intro e; subst e; exact h.p.ink rfl

end Go.Proofs

namespace Go.Proofs
open Go Go.Eng
set_option maxRecDepth 20000
set_option maxHeartbeats 4000000

/-- Inlines that are texts. -/
inductive Itm where
  | plain (t : List UInt8)
  | esc (t : List UInt8)
  | brk

def Itm.ty : Itm → Nat
  | .plain _ => 161
  | .esc _ => 157
  | .brk => 130
def Itm.sty : Itm → Nat
  | .plain _ => 158
  | .esc _ => 160
  | .brk => 131
def Itm.text : Itm → List UInt8
  | .plain t => t
  | .esc t => t
  | .brk => [10]
def Itm.cells : Itm → List Value
  | .plain t => [str t]
  | .esc t => [str t]
  | .brk => []
abbrev Itm.cell (x : Itm) (q : Nat) : Nat × Obj := (q, cellsOf x.cells x.sty)

/-- The values of a list of inlines, and the cells that they point to. -/
inductive Items : List Itm → List Value → Blk → Prop
  | nil : Items [] [] []
  | snoc {its : List Itm} {vals : List Value} {Bk : Blk} (x : Itm) (q : Nat) : Items its vals Bk → Items (its ++ [x]) (vals ++ [.iface x.ty (lp q)]) (x.cell q :: Bk)

abbrev Inls (v : Value) (l : List Value) (Bk : Blk) : Prop := Own 89 1 v l.length l Bk

theorem SubH.join {c d : Blk} {H : Heap} : SubH (c :: d :: H) ((c ++ d) :: H) := ⟨[], by simp⟩

theorem skip_tr (p i : Nat) (s : PS) : TrD Tryz.prog 74 [lp p, inat i] [s.blk p] unit [({ s with em := inat i } : PS).blk p] := by
  obtain ⟨par, root, links, lineno, stack, depth, corner, sv, em, list, lists, texts, bt⟩ := s
  refine Tr.start (n := 8) (rs := []) rfl rfl rfl rfl fun B => ?_
  (repeat' (first | refine z6 ?_ | refine z2 ?_ | refine z8 ?_ | refine zp ?_ | refine zq ?_ | refine za5 ?_))
  exact e_norm _ ⟨rfl, rfl⟩ sA

theorem emit_no (p i e : Nat) (s : PS) (he : s.em = inat e) (h : i ≤ e) : TrD Tryz.prog 73 [lp p, inat i] [s.blk p] unit [s.blk p] := by
  obtain ⟨par, root, links, lineno, stack, depth, corner, sv, em, list, lists, texts, bt⟩ := s
  subst he
  refine Tr.start (n := 36) (rs := []) rfl rfl rfl rfl fun B => ?_
  (repeat' (first | refine z7 ?_ | refine z6 ?_ | refine z2 ?_ | refine z1 ?_ | refine zb ?_ | refine zd ?_ | refine z8 ?_ | refine zn ?_ | refine zp ?_ | refine zq ?_ | refine za4 ?_))
  exact e_norm _ ⟨rfl, rfl⟩ sA

end Go.Proofs

namespace Go.Proofs
open Go Go.Eng
set_option maxRecDepth 20000
set_option maxHeartbeats 4000000

theorem HMem.of_chunk {b : Nat} {o : Obj} : ∀ {c : Blk} {H : Heap}, (b, o) ∈ c → HMem (c :: H) b o
  | (b', o') :: c, H, h => by
    rcases List.mem_cons.1 h with h | h
    · cases h; exact .here
    · exact .skip (HMem.of_chunk h)

theorem flat_snoc {outs : List (List UInt8)} {j : Nat} {x : List UInt8} (h : outs[j]? = some x) : (outs.take (j + 1)).flatten = (outs.take j).flatten ++ x := by
  rw [List.take_add_one, h]; simp
theorem flat_le (outs : List (List UInt8)) (j : Nat) : (outs.take j).flatten.length ≤ outs.flatten.length := by
  conv => rhs; rw [← List.take_append_drop j outs]
  rw [List.flatten_append, List.length_append]; omega

/-- The HTML of a document of one paragraph. -/
abbrev paraO (o : List UInt8) : List UInt8 := [60, 112, 62] ++ o ++ [60, 47, 112, 62, 10]
end Go.Proofs

namespace Go.Proofs
open Go Go.Eng
set_option maxRecDepth 20000
set_option maxHeartbeats 4000000

/-- Letters; letters and digits. -/
abbrev let8 (c : Nat) : Prop := 65 ≤ c ∧ c ≤ 90 ∨ 97 ≤ c ∧ c ≤ 122
abbrev ld8 (c : Nat) : Prop := 65 ≤ c ∧ c ≤ 90 ∨ 97 ≤ c ∧ c ≤ 122 ∨ 48 ≤ c ∧ c ≤ 57
theorem isLetF (c : Nat) (hc : c < 256) : TrP Tryz.prog 124 [.int .u8 c] (.bool (decide (let8 c))) := by
  refine Tr.start (n := 17) (rs := [.tmp 2]) rfl rfl rfl rfl fun B => ?_
  (repeat' (first | refine z7 ?_ | refine z6 ?_ | refine z2 ?_ | refine z1 ?_ | refine ze ?_ | refine zh ?_ | refine za2 ?_ | refine zaa ?_ | refine zay ?_ | refine z8 ?_ | refine za ?_ | refine zbt ?_ | refine zda ?_ | refine zj ?_ | refine zk ?_ | refine Ops.split_run (fun hg => ?_) (fun hg => ?_) | refine Ops.split_skip (fun hg => ?_) (fun hg => ?_)))
  all_goals (refine e_pure ?_; refine ⟨?_, rfl⟩; simp only [oneOr, Value.bool.injEq]; first | (symm; exact decide_eq_true (by omega)) | (symm; exact decide_eq_false (by omega)) | (rw [decide_eq_decide]; omega))
theorem isLDF (c : Nat) (hc : c < 256) : TrP Tryz.prog 155 [.int .u8 c] (.bool (decide (ld8 c))) := by
  refine Tr.start (n := 25) (rs := [.tmp 2]) rfl rfl rfl rfl fun B => ?_
  (repeat' (first | refine z7 ?_ | refine z6 ?_ | refine z2 ?_ | refine z1 ?_ | refine ze ?_ | refine zh ?_ | refine za2 ?_ | refine zaa ?_ | refine zay ?_ | refine z8 ?_ | refine za ?_ | refine zb8 ?_ | refine zbt ?_ | refine zda ?_ | refine zj ?_ | refine zk ?_ | refine Ops.split_run (fun hg => ?_) (fun hg => ?_) | refine Ops.split_skip (fun hg => ?_) (fun hg => ?_)))
  all_goals (refine e_pure ?_; refine ⟨?_, rfl⟩; simp only [oneOr, Value.bool.injEq]; first | (symm; exact decide_eq_true (by omega)) | (symm; exact decide_eq_false (by omega)) | (rw [decide_eq_decide]; omega))
theorem isLD_yes (c : UInt8) (h : ld8 c.toNat) : TrP Tryz.prog 155 [.int .u8 c.toNat] (.bool true) := by
  have := isLDF c.toNat c.toNat_lt
  rwa [decide_eq_true h] at this
theorem isLD_no (c : UInt8) (h : ¬ ld8 c.toNat) : TrP Tryz.prog 155 [.int .u8 c.toNat] (.bool false) := by
  have := isLDF c.toNat c.toNat_lt
  rwa [decide_eq_false h] at this
theorem isLDH_yes (c : UInt8) (h : ld8 c.toNat) : TrP Tryz.prog 172 [.int .u8 c.toNat] (.bool true) := by
  refine Tr.start (n := 9) (rs := [.tmp 2]) rfl rfl rfl rfl fun B => ?_
  (repeat' (first | refine zo (isLD_yes c h) ?_ | refine z7 ?_ | refine z6 ?_ | refine z2 ?_ | refine z1 ?_ | refine ze ?_ | refine zaa ?_ | refine z8 ?_ | refine za ?_ | refine zj ?_))
  exact e_pure ⟨rfl, rfl⟩
theorem isLDH_no (c : UInt8) (h : ¬ ld8 c.toNat) (h2 : c.toNat ≠ 45) : TrP Tryz.prog 172 [.int .u8 c.toNat] (.bool false) := by
  refine Tr.start (n := 9) (rs := [.tmp 2]) rfl rfl rfl rfl fun B => ?_
  (repeat' (first | refine zo (isLD_no c h) ?_ | refine z7 ?_ | refine z6 ?_ | refine z2 ?_ | refine z1 ?_ | refine ze ?_ | refine zh ?_ | refine z8 ?_ | refine za ?_ | refine zr ?_ | refine zk ?_))
  exact e_pure ⟨rfl, rfl⟩
end Go.Proofs

namespace Go.Proofs
open Go Go.Eng
set_option maxRecDepth 20000
set_option maxHeartbeats 4000000

theorem idxByte_lt {l : List UInt8} {c : UInt8} : (Lib.indexByte l c < 0) ↔ ¬ c ∈ l := by
  have h1 := Lib.indexByte_ge l c
  constructor
  · intro h hc
    have : Lib.indexByte l c = -1 := by omega
    obtain ⟨k, hk⟩ := List.getElem?_of_mem hc
    exact Lib.indexByte_none this k hk
  · intro h
    refine Classical.byContradiction fun hn => ?_
    obtain ⟨o, ho⟩ : ∃ o : Nat, Lib.indexByte l c = o := ⟨(Lib.indexByte l c).toNat, by omega⟩
    exact h (List.mem_of_getElem? (Lib.indexByte_some ho).1)

theorem indexByte_tr (l : List UInt8) (c : UInt8) : TrP Tryz.prog 21 [str l, .int .u8 c.toNat] (.int .i64 (Lib.indexByte l c)) := by
  have hf : ∀ w, (callFunc 48 #[str l, .int .u8 c.toNat]).run Tryz.prog w = .ok (.value (.int .i64 (Lib.indexByte l c))) w := by
    intro w
    rw [run_callFunc_indexByte (P := Tryz.prog) (f := 48) Tryz.func48 rfl rfl (by kernel_rfl) (by rfl)]
    have h := Lib.run_indexByteString (P := Tryz.prog) ⟨l.toArray⟩ c.toNat w
    simp at h
    show (Sem.run Tryz.prog (Extern.BytealgIndexByte.indexByte #[.string ⟨l.toArray⟩, .int .u8 c.toNat]) w).andThen _ = _
    rw [h]
    rfl
  have hs : TrP Tryz.prog 36 [str l, .int .u8 c.toNat] (.int .i64 (Lib.indexByte l c)) := by
    refine Tr.start (n := 8) (rs := [.tmp 4]) rfl rfl rfl rfl fun B => ?_
    (repeat' (first | refine Ops.pure _ (zft (by rfl) (by rfl) hf) (by rfl) ?_ | refine z7 ?_ | refine z6 ?_ | refine z2 ?_ | refine z1 ?_ | refine ze ?_ | refine z8 ?_ | refine za ?_))
    exact e_pure ⟨rfl, rfl⟩
  refine Tr.start (n := 8) (rs := [.tmp 4]) rfl rfl rfl rfl fun B => ?_
  (repeat' (first | refine zo (hs) ?_ | refine z7 ?_ | refine z6 ?_ | refine z2 ?_ | refine z1 ?_ | refine ze ?_ | refine z8 ?_ | refine za ?_))
  exact e_pure ⟨rfl, rfl⟩

theorem only_tr (l al : List UInt8) (most : Nat) (hl : l.length ≤ 2147483647) : Tr Tryz.prog 8 [str l, str al, inat most] [] fun u K => K = [] ∧ ∃ r, u = .bool r ∧ (r = true → l.length ≤ most ∧ ∀ c ∈ l, c ∈ al) := by
  refine Tr.start (n := 24) (rs := [.tmp 6]) rfl rfl rfl rfl fun B => ?_
  by_cases hm : most < l.length
  · (repeat' (first | refine z7 ?_ | refine z6 ?_ | refine z2 ?_ | refine z1 ?_ | refine zc ?_ | refine ze ?_ | refine zx ?_ | refine z8 ?_ | refine za ?_ | refine zaz ?_ | refine zg ?_))
    exact e_ret [] ⟨rfl, false, rfl, fun h => Bool.noConfusion h⟩ sA
  (repeat' (first | refine z7 ?_ | refine z6 ?_ | refine z2 ?_ | refine z1 ?_ | refine zb ?_ | refine zd ?_ | refine z8 ?_ | refine za ?_ | refine zat ?_ | refine zg ?_))
  refine zau (fun _ : Unit => []) (fun _ => []) (fun _ => l.length ≤ most ∧ ∀ c ∈ l, c ∈ al) ?_ ?_
  · (repeat' (first | refine zf ?_))
    refine za6 (fun j : Nat => [(0, str l), (1, str al), (13, inat l.length), (14, inat j)]) (fun _ => []) (fun j => j ≤ l.length ∧ ∀ c ∈ l.take j, c ∈ al) (fun j => l.length - j) 0 ⟨Nat.zero_le _, by simp⟩ kB sA fun j hj => ?_
    obtain ⟨hj, hA⟩ := hj
    by_cases h : j < l.length
    · obtain ⟨c, hc⟩ : ∃ c, l[j]? = some c := ⟨_, List.getElem?_eq_getElem h⟩
      have hI := indexByte_tr al c
      by_cases hin : c ∈ al
      · have hge : ¬ Lib.indexByte al c < 0 := fun hh => idxByte_lt.1 hh hin
        (repeat' (first | refine zo (hI) ?_ | refine z7 ?_ | refine z6 ?_ | refine z2 ?_ | refine z1 ?_ | refine zc ?_ | refine zb ?_ | refine zf ?_ | refine zd ?_ | refine zu ?_ | refine z8 ?_ | refine za ?_ | refine zl ?_ | refine zm ?_ | refine za4 ?_ | refine zi ?_))
        refine ⟨j + 1, kB, sA, ⟨by omega, fun d hd => ?_⟩, by omega⟩
        rw [List.take_add_one, hc] at hd
        rcases List.mem_append.1 hd with hd | hd
        · exact hA d hd
        · simp at hd; subst hd; exact hin
      · have hlt : Lib.indexByte al c < 0 := idxByte_lt.2 hin
        (repeat' (first | refine zo (hI) ?_ | refine z7 ?_ | refine z6 ?_ | refine z2 ?_ | refine z1 ?_ | refine zc ?_ | refine zf ?_ | refine zd ?_ | refine ze ?_ | refine zx ?_ | refine zag ?_ | refine z8 ?_ | refine za ?_ | refine zm ?_ | refine zi ?_))
        exact e_ret [] ⟨rfl, false, rfl, fun h => Bool.noConfusion h⟩ sA
    · have : j = l.length := by omega
      subst this
      rw [List.take_length] at hA
      (repeat' (first | refine z7 ?_ | refine z6 ?_ | refine z2 ?_ | refine z1 ?_ | refine zb ?_ | refine zw ?_ | refine zy ?_ | refine zz ?_ | refine za4 ?_))
      exact ⟨(), kA, sA, by omega, hA⟩
  · rintro _ hA
    (repeat' (first | refine z7 ?_ | refine z6 ?_ | refine z2 ?_ | refine z1 ?_ | refine ze ?_ | refine za ?_))
    exact e_ret [] ⟨rfl, true, rfl, fun _ => hA⟩ sA

end Go.Proofs

namespace Go.Proofs
open Go Go.Eng
set_option maxRecDepth 20000
set_option maxHeartbeats 8000000

theorem skipSpaceG_tr (s : List UInt8) (i : Nat) (hl : s.length ≤ 1000000) (hi : i ≤ 100000000) : TrP Tryz.prog 100 [str s, inat i] (inat (scan isSp s i)) := by
  refine Tr.start (n := 30) (rs := [.tmp 4]) rfl rfl rfl rfl fun B => ?_
  (repeat' (first | refine z7 ?_ | refine z6 ?_ | refine z2 ?_ | refine z1 ?_ | refine zf ?_ | refine za ?_))
  refine za6 (fun k : Nat => [(0, str s), (1, inat k)]) (fun _ => []) (fun k => scan isSp s k = scan isSp s i ∧ k ≤ 100000000) (fun k => s.length - k) i ⟨rfl, hi⟩ kB sA fun k hk => ?_
  obtain ⟨hk, hk2⟩ := hk
  by_cases hlt : k < s.length
  · obtain ⟨c, hc⟩ := get_some hlt
    by_cases h1 : c.toNat = 32
    · (repeat' (first | refine z7 ?_ | refine z6 ?_ | refine z2 ?_ | refine z1 ?_ | refine zc ?_ | refine zf ?_ | refine zd ?_ | refine zu ?_ | refine zh ?_ | refine zaa ?_ | refine z8 ?_ | refine za ?_ | refine zl ?_ | refine zm ?_ | refine zt ?_ | refine zj ?_ | refine zg ?_ | refine zi ?_))
      exact ⟨k + 1, kB, sA, ⟨by rw [← hk, scan_step hc (by simp [isSp, h1])], by omega⟩, by omega⟩
    by_cases h2 : c.toNat = 9
    · (repeat' (first | refine z7 ?_ | refine z6 ?_ | refine z2 ?_ | refine z1 ?_ | refine zc ?_ | refine zf ?_ | refine zd ?_ | refine zu ?_ | refine zh ?_ | refine zaa ?_ | refine z8 ?_ | refine za ?_ | refine zl ?_ | refine zm ?_ | refine zt ?_ | refine zr ?_ | refine zj ?_ | refine zk ?_ | refine zg ?_ | refine zi ?_))
      exact ⟨k + 1, kB, sA, ⟨by rw [← hk, scan_step hc (by simp [isSp, h2])], by omega⟩, by omega⟩
    by_cases h3 : c.toNat = 10
    · (repeat' (first | refine z7 ?_ | refine z6 ?_ | refine z2 ?_ | refine z1 ?_ | refine zc ?_ | refine zf ?_ | refine zd ?_ | refine zu ?_ | refine zh ?_ | refine z8 ?_ | refine za ?_ | refine zl ?_ | refine zm ?_ | refine zt ?_ | refine zr ?_ | refine zj ?_ | refine zk ?_ | refine zg ?_ | refine zi ?_))
      exact ⟨k + 1, kB, sA, ⟨by rw [← hk, scan_step hc (by simp [isSp, h3])], by omega⟩, by omega⟩
    · rw [← hk, scan_stop hc (by simp [isSp, h1, h2, h3])]
      (repeat' (first | refine z7 ?_ | refine z6 ?_ | refine z2 ?_ | refine z1 ?_ | refine zb ?_ | refine zw ?_ | refine zy ?_ | refine zz ?_ | refine ze ?_ | refine zh ?_ | refine z8 ?_ | refine za ?_ | refine zm ?_ | refine zr ?_ | refine zj ?_ | refine zk ?_ | refine zg ?_ | refine zi ?_))
      exact e_pure ⟨rfl, rfl⟩
  · rw [← hk, scan_end (by omega)]
    (repeat' (first | refine z7 ?_ | refine z6 ?_ | refine z2 ?_ | refine z1 ?_ | refine zb ?_ | refine zw ?_ | refine zy ?_ | refine zz ?_ | refine ze ?_ | refine za2 ?_ | refine zay ?_ | refine z8 ?_ | refine za ?_ | refine za4 ?_ | refine zk ?_ | refine zg ?_))
    exact e_pure ⟨rfl, rfl⟩

def letB (c : UInt8) : Bool := decide (let8 c.toNat)
def ldhB (c : UInt8) : Bool := decide (ld8 c.toNat) || c.toNat == 45
theorem isLetB_tr (c : UInt8) : TrP Tryz.prog 124 [.int .u8 c.toNat] (.bool (letB c)) := isLetF c.toNat c.toNat_lt
theorem isLDHB_tr (c : UInt8) : TrP Tryz.prog 172 [.int .u8 c.toNat] (.bool (ldhB c)) := by
  by_cases h : ld8 c.toNat
  · have e : ldhB c = true := by simp [ldhB, h]
    rw [e]; exact isLDH_yes c h
  · by_cases h2 : c.toNat = 45
    · have e : ldhB c = true := by simp [ldhB, h2]
      rw [e]
      refine Tr.start (n := 9) (rs := [.tmp 2]) rfl rfl rfl rfl fun B => ?_
      (repeat' (first | refine zo (isLD_no c h) ?_ | refine z7 ?_ | refine z6 ?_ | refine z2 ?_ | refine z1 ?_ | refine ze ?_ | refine zh ?_ | refine z8 ?_ | refine za ?_ | refine zt ?_ | refine zk ?_))
      exact e_pure ⟨rfl, rfl⟩
    · have e : ldhB c = false := by simp [ldhB, h, h2]
      rw [e]; exact isLDH_no c h h2

/-- What is read from i on, and behind it. -/
def tri (s : List UInt8) (i : Nat) : Option Nat → Value
  | some j => .tuple #[str ((s.take j).drop i), inat j, .bool true]
  | none => .tuple #[str [], inat 0, .bool false]
def tagNameM (s : List UInt8) (i : Nat) : Option Nat := match s[i]? with
  | some c => if letB c = true then some (scan ldhB s (i + 1)) else none
  | none => none
theorem tagNameM_lt {s : List UInt8} {i j : Nat} (h : tagNameM s i = some j) : i < j ∧ j ≤ s.length := by
  unfold tagNameM at h
  split at h
  · rename_i c hc
    split at h
    · cases h
      have := (List.getElem?_eq_some_iff.1 hc).1
      exact ⟨by have := scan_ge ldhB s (i + 1); omega, scan_le (by omega)⟩
    · cases h
  · cases h
theorem tagNameG_tr (s : List UInt8) (i : Nat) (hl : s.length ≤ 1000000) (hi : i ≤ 100000000) : TrP Tryz.prog 173 [str s, inat i] (tri s i (tagNameM s i)) := by
  by_cases hlt : i < s.length
  · obtain ⟨c, hc⟩ := get_some hlt
    have hL := isLetB_tr c
    unfold tagNameM
    rw [hc]
    dsimp only
    cases hb : letB c with
    | false =>
      rw [hb] at hL
      simp only [Bool.false_eq_true, if_false]
      refine Tr.start (n := 37) (rs := [.tmp 4, .tmp 5, .tmp 6]) rfl rfl rfl rfl fun B => ?_
      (repeat' (first | refine zo (hL) ?_ | refine z7 ?_ | refine z6 ?_ | refine z2 ?_ | refine z1 ?_ | refine zb ?_ | refine zd ?_ | refine ze ?_ | refine zh ?_ | refine z8 ?_ | refine za ?_ | refine zm ?_ | refine zj ?_ | refine zg ?_ | refine zi ?_))
      exact e_pure ⟨rfl, rfl⟩
    | true =>
      rw [hb] at hL
      simp only [if_true]
      have hge := scan_ge ldhB s (i + 1)
      have hle := scan_le (p := ldhB) (s := s) (i := i + 1) (by omega)
      generalize hj : scan ldhB s (i + 1) = j at hge hle ⊢
      refine Tr.start (n := 37) (rs := [.tmp 4, .tmp 5, .tmp 6]) rfl rfl rfl rfl fun B => ?_
      (repeat' (first | refine zo (hL) ?_ | refine z7 ?_ | refine z6 ?_ | refine z2 ?_ | refine z1 ?_ | refine zc ?_ | refine zh ?_ | refine z8 ?_ | refine za ?_ | refine zl ?_ | refine zm ?_ | refine zj ?_ | refine zg ?_ | refine zi ?_))
      refine zac [(0, str s), (1, inat i), (7, inat j)] [] ?_ ?_
      · (repeat' (first | refine zf ?_))
        refine za6 (fun k : Nat => [(0, str s), (1, inat i), (7, inat k)]) (fun _ => []) (fun k => scan ldhB s k = j ∧ k ≤ s.length) (fun k => s.length - k) (i + 1) ⟨hj, by omega⟩ kB sA fun k hk => ?_
        obtain ⟨hk1, hk2⟩ := hk
        by_cases hlt : k < s.length
        · obtain ⟨d, hd⟩ := get_some hlt
          have hD := isLDHB_tr d
          cases hb2 : ldhB d with
          | true =>
            rw [hb2] at hD
            (repeat' (first | refine zo (hD) ?_ | refine z7 ?_ | refine z6 ?_ | refine z2 ?_ | refine z1 ?_ | refine zc ?_ | refine zf ?_ | refine zd ?_ | refine zu ?_ | refine zh ?_ | refine z8 ?_ | refine za ?_ | refine zl ?_ | refine zm ?_ | refine zj ?_ | refine zg ?_ | refine zi ?_))
            exact ⟨k + 1, kB, sA, ⟨by rw [← hk1, scan_step hd hb2], by omega⟩, by omega⟩
          | false =>
            rw [hb2] at hD
            have : k = j := by rw [← hk1, scan_stop hd hb2]
            subst this
            (repeat' (first | refine zo (hD) ?_ | refine z7 ?_ | refine z6 ?_ | refine z2 ?_ | refine z1 ?_ | refine zb ?_ | refine zw ?_ | refine zy ?_ | refine zz ?_ | refine zh ?_ | refine z8 ?_ | refine zm ?_ | refine zj ?_ | refine zg ?_ | refine zi ?_))
            exact ⟨kA, sA⟩
        · have : k = j := by rw [← hk1, scan_end (by omega)]
          subst this
          (repeat' (first | refine z7 ?_ | refine z6 ?_ | refine z2 ?_ | refine z1 ?_ | refine zb ?_ | refine zw ?_ | refine zy ?_ | refine zz ?_ | refine za2 ?_ | refine z8 ?_ | refine za4 ?_ | refine zk ?_ | refine zg ?_))
          exact ⟨kA, sA⟩
      · (repeat' (first | refine z7 ?_ | refine z6 ?_ | refine z2 ?_ | refine z1 ?_ | refine ze ?_ | refine zx ?_ | refine z8 ?_ | refine za ?_ | refine zav ?_))
        exact e_pure ⟨rfl, rfl⟩
  · unfold tagNameM
    rw [List.getElem?_eq_none (by omega)]
    refine Tr.start (n := 37) (rs := [.tmp 4, .tmp 5, .tmp 6]) rfl rfl rfl rfl fun B => ?_
    (repeat' (first | refine z7 ?_ | refine z6 ?_ | refine z2 ?_ | refine z1 ?_ | refine zb ?_ | refine zd ?_ | refine ze ?_ | refine za2 ?_ | refine z8 ?_ | refine za ?_ | refine za4 ?_ | refine zk ?_ | refine zg ?_))
    exact e_pure ⟨rfl, rfl⟩

def name0B (c : UInt8) : Bool := letB c || c.toNat == 95 || c.toNat == 58
def nameB (c : UInt8) : Bool := ldhB c || c.toNat == 95 || c.toNat == 46 || c.toNat == 58
def attrNameM (s : List UInt8) (i : Nat) : Option Nat := match s[i]?, s[i + 1]? with
  | some c, some _ => if name0B c = true then some (scan nameB s (i + 1)) else none
  | _, _ => none
theorem attrNameM_lt {s : List UInt8} {i j : Nat} (h : attrNameM s i = some j) : i < j ∧ j ≤ s.length := by
  unfold attrNameM at h
  split at h
  · rename_i c d hc hd
    split at h
    · cases h
      have := (List.getElem?_eq_some_iff.1 hc).1
      exact ⟨by have := scan_ge nameB s (i + 1); omega, scan_le (by omega)⟩
    · cases h
  · cases h

theorem attrNameG_tr (s : List UInt8) (i : Nat) (hl : s.length ≤ 1000000) (hi : i ≤ 100000000) : TrP Tryz.prog 196 [str s, inat i] (tri s i (attrNameM s i)) := by
  by_cases hlt : i + 1 < s.length
  · obtain ⟨c, hc⟩ := get_some (show i < s.length by omega)
    obtain ⟨c1, hc1⟩ := get_some hlt
    have hL := isLetB_tr c
    unfold attrNameM
    rw [hc, hc1]
    dsimp only
    refine Tr.start (n := 68) (rs := [.tmp 4, .tmp 5, .tmp 6]) rfl rfl rfl rfl fun B => ?_
    ((repeat (refine z7 ?_)); refine z6 ?_; (repeat' (first | refine za ?_)); refine z2 ?_; refine z1 ?_)
    (repeat (refine z7 ?_))
    refine zac [(0, str s), (1, inat i), (30, .bool (name0B c))] [] ?_ ?_
    · cases hb : letB c with
      | true =>
        rw [hb] at hL
        have e : name0B c = true := by simp [name0B, hb]
        rw [e]
        (repeat' (first | refine zo (hL) ?_ | refine z6 ?_ | refine z2 ?_ | refine z1 ?_ | refine zh ?_ | refine zaa ?_ | refine z8 ?_ | refine zl ?_ | refine zm ?_ | refine zj ?_ | refine zg ?_ | refine zi ?_))
        exact ⟨kA, sA⟩
      | false =>
        rw [hb] at hL
        by_cases h1 : c.toNat = 95
        · have e : name0B c = true := by simp [name0B, h1]
          rw [e]
          (repeat' (first | refine zo (hL) ?_ | refine z6 ?_ | refine z2 ?_ | refine z1 ?_ | refine zh ?_ | refine zaa ?_ | refine z8 ?_ | refine zl ?_ | refine zm ?_ | refine zt ?_ | refine zj ?_ | refine zk ?_ | refine zg ?_ | refine zi ?_))
          exact ⟨kA, sA⟩
        by_cases h2 : c.toNat = 58
        · have e : name0B c = true := by simp [name0B, h2]
          rw [e]
          (repeat' (first | refine zo (hL) ?_ | refine z6 ?_ | refine z2 ?_ | refine z1 ?_ | refine zh ?_ | refine z8 ?_ | refine zl ?_ | refine zm ?_ | refine zt ?_ | refine zr ?_ | refine zj ?_ | refine zk ?_ | refine zg ?_ | refine zi ?_))
          exact ⟨kA, sA⟩
        · have e : name0B c = false := by simp [name0B, h1, h2, hb]
          rw [e]
          (repeat' (first | refine zo (hL) ?_ | refine z6 ?_ | refine z2 ?_ | refine z1 ?_ | refine zh ?_ | refine z8 ?_ | refine zl ?_ | refine zm ?_ | refine zr ?_ | refine zj ?_ | refine zk ?_ | refine zg ?_ | refine zi ?_))
          exact ⟨kA, sA⟩
    · cases hb : name0B c with
      | false =>
        simp only [Bool.false_eq_true, if_false]
        (repeat' (first | refine z7 ?_ | refine z6 ?_ | refine z2 ?_ | refine z1 ?_ | refine zb ?_ | refine zd ?_ | refine ze ?_ | refine za ?_))
        exact e_pure ⟨rfl, rfl⟩
      | true =>
        simp only [if_true]
        have hge := scan_ge nameB s (i + 1)
        have hle := scan_le (p := nameB) (s := s) (i := i + 1) (by omega)
        generalize hj : scan nameB s (i + 1) = j at hge hle ⊢
        (repeat' (first | refine z7 ?_ | refine z6 ?_ | refine z2 ?_ | refine z1 ?_ | refine zc ?_ | refine z8 ?_ | refine za ?_ | refine zl ?_))
        refine zac [(0, str s), (1, inat i), (7, inat j)] [] ?_ ?_
        · (repeat' (first | refine zf ?_))
          refine za6 (fun k : Nat => [(0, str s), (1, inat i), (7, inat k)]) (fun _ => []) (fun k => scan nameB s k = j ∧ k ≤ s.length) (fun k => s.length - k) (i + 1) ⟨hj, by omega⟩ kB sA fun k hk => ?_
          obtain ⟨hk1, hk2⟩ := hk
          by_cases hlt : k < s.length
          · obtain ⟨d, hd⟩ := get_some hlt
            have hD := isLDHB_tr d
            cases hb1 : ldhB d with
            | true =>
              rw [hb1] at hD
              (repeat' (first | refine zo (hD) ?_ | refine z7 ?_ | refine z6 ?_ | refine z2 ?_ | refine z1 ?_ | refine zc ?_ | refine zf ?_ | refine zd ?_ | refine zu ?_ | refine zh ?_ | refine zaa ?_ | refine z8 ?_ | refine za ?_ | refine zl ?_ | refine zm ?_ | refine zj ?_ | refine zg ?_ | refine zi ?_))
              exact ⟨k + 1, kB, sA, ⟨by rw [← hk1, scan_step hd (by simp [nameB, hb1])], by omega⟩, by omega⟩
            | false =>
              rw [hb1] at hD
              by_cases h1 : d.toNat = 95
              · (repeat' (first | refine zo (hD) ?_ | refine z7 ?_ | refine z6 ?_ | refine z2 ?_ | refine z1 ?_ | refine zc ?_ | refine zf ?_ | refine zd ?_ | refine zu ?_ | refine zh ?_ | refine zaa ?_ | refine z8 ?_ | refine za ?_ | refine zl ?_ | refine zm ?_ | refine zt ?_ | refine zj ?_ | refine zk ?_ | refine zg ?_ | refine zi ?_))
                exact ⟨k + 1, kB, sA, ⟨by rw [← hk1, scan_step hd (by simp [nameB, h1])], by omega⟩, by omega⟩
              by_cases h2 : d.toNat = 46
              · (repeat' (first | refine zo (hD) ?_ | refine z7 ?_ | refine z6 ?_ | refine z2 ?_ | refine z1 ?_ | refine zc ?_ | refine zf ?_ | refine zd ?_ | refine zu ?_ | refine zh ?_ | refine zaa ?_ | refine z8 ?_ | refine za ?_ | refine zl ?_ | refine zm ?_ | refine zt ?_ | refine zr ?_ | refine zj ?_ | refine zk ?_ | refine zg ?_ | refine zi ?_))
                exact ⟨k + 1, kB, sA, ⟨by rw [← hk1, scan_step hd (by simp [nameB, h2])], by omega⟩, by omega⟩
              by_cases h3 : d.toNat = 58
              · (repeat' (first | refine zo (hD) ?_ | refine z7 ?_ | refine z6 ?_ | refine z2 ?_ | refine z1 ?_ | refine zc ?_ | refine zf ?_ | refine zd ?_ | refine zu ?_ | refine zh ?_ | refine z8 ?_ | refine za ?_ | refine zl ?_ | refine zm ?_ | refine zt ?_ | refine zr ?_ | refine zj ?_ | refine zk ?_ | refine zg ?_ | refine zi ?_))
                exact ⟨k + 1, kB, sA, ⟨by rw [← hk1, scan_step hd (by simp [nameB, h3])], by omega⟩, by omega⟩
              · have : k = j := by rw [← hk1, scan_stop hd (by simp [nameB, hb1, h1, h2, h3])]
                subst this
                (repeat' (first | refine zo (hD) ?_ | refine z7 ?_ | refine z6 ?_ | refine z2 ?_ | refine z1 ?_ | refine zb ?_ | refine zw ?_ | refine zy ?_ | refine zz ?_ | refine zh ?_ | refine z8 ?_ | refine zm ?_ | refine zr ?_ | refine zj ?_ | refine zk ?_ | refine zg ?_ | refine zi ?_))
                exact ⟨kA, sA⟩
          · have : k = j := by rw [← hk1, scan_end (by omega)]
            subst this
            (repeat' (first | refine z7 ?_ | refine z6 ?_ | refine z2 ?_ | refine z1 ?_ | refine zb ?_ | refine zw ?_ | refine zy ?_ | refine zz ?_ | refine za2 ?_ | refine zay ?_ | refine z8 ?_ | refine za4 ?_ | refine zk ?_ | refine zg ?_))
            exact ⟨kA, sA⟩
        · (repeat' (first | refine z7 ?_ | refine z6 ?_ | refine z2 ?_ | refine z1 ?_ | refine ze ?_ | refine zx ?_ | refine z8 ?_ | refine za ?_ | refine zav ?_))
          exact e_pure ⟨rfl, rfl⟩
  · have e : attrNameM s i = none := by
      unfold attrNameM
      rw [List.getElem?_eq_none (show s.length ≤ i + 1 by omega)]
      cases s[i]? <;> rfl
    rw [e]
    refine Tr.start (n := 68) (rs := [.tmp 4, .tmp 5, .tmp 6]) rfl rfl rfl rfl fun B => ?_
    (repeat' (first | refine z7 ?_ | refine z6 ?_ | refine z2 ?_ | refine z1 ?_ | refine zb ?_ | refine zd ?_ | refine ze ?_ | refine za2 ?_ | refine zay ?_ | refine z8 ?_ | refine za ?_ | refine zl ?_ | refine za4 ?_ | refine zk ?_ | refine zg ?_))
    exact e_pure ⟨rfl, rfl⟩
end Go.Proofs

namespace Go.Proofs
open Go Go.Eng
set_option maxRecDepth 20000
set_option maxHeartbeats 8000000

/-- Where a byte stands first in a text. -/
def bix (c : UInt8) (l : List UInt8) : Option Nat := if fst1 c l < l.length then some (fst1 c l) else none
theorem bix_lt {c : UInt8} {l : List UInt8} {k : Nat} (h : bix c l = some k) : k < l.length := by
  unfold bix at h
  split at h
  · cases h; assumption
  · cases h
theorem bix_index (c : UInt8) (l : List UInt8) : Lib.indexByte l c = oint (bix c l) := by
  unfold bix
  split
  · rename_i h
    have h1 := fst1_at h
    have hn : ∀ k, k < fst1 c l → l[k]? ≠ some c := fun k hk e => by
      obtain ⟨d, hd, hne⟩ := fst1_lt hk
      rw [hd] at e; cases e; exact hne rfl
    have h0 : ¬ Lib.indexByte l c < 0 := fun hh => idxByte_lt.1 hh (List.mem_of_getElem? h1)
    obtain ⟨o', ho⟩ : ∃ o : Nat, Lib.indexByte l c = o := ⟨(Lib.indexByte l c).toNat, by omega⟩
    obtain ⟨a1, a2⟩ := Lib.indexByte_some ho
    rw [ho]
    show (o' : Int) = ((fst1 c l : Nat) : Int)
    rcases Nat.lt_trichotomy o' (fst1 c l) with h3 | h3 | h3
    · exact absurd a1 (hn o' h3)
    · rw [h3]
    · exact absurd h1 (a2 _ h3)
  · rename_i h
    have h2 : ¬ c ∈ l := fun hm => by
      obtain ⟨k, hk, e⟩ := List.mem_iff_getElem.1 hm
      have : l[k]? = some c := by rw [List.getElem?_eq_getElem hk, e]
      have hlt : k < fst1 c l := by omega
      obtain ⟨d, hd, hne⟩ := fst1_lt hlt
      rw [this] at hd; cases hd; exact hne rfl
    have h3 := idxByte_lt.2 h2
    have h4 := Lib.indexByte_ge l c
    show Lib.indexByte l c = -1
    omega
theorem indexB_tr (l : List UInt8) (c : UInt8) : TrP Tryz.prog 21 [str l, .int .u8 c.toNat] (.int .i64 (oint (bix c l))) := by
  rw [← bix_index]; exact indexByte_tr l c

def unqB (c : UInt8) : Bool := !(c ∈ ([32, 9, 10, 34, 39, 61, 60, 62, 96] : List UInt8) : Bool)
def unqM (s : List UInt8) (i : Nat) : Option Nat := if i < scan unqB s i then some (scan unqB s i) else none
def attrValM (s : List UInt8) (i : Nat) : Option Nat := match s[i]? with
  | none => none
  | some q => if q.toNat = 39 ∨ q.toNat = 34 then (match bix q (s.drop (i + 1)) with
    | some j => some (i + 1 + j + 1)
    | none => unqM s i) else unqM s i
theorem unqM_lt {s : List UInt8} {i j : Nat} (hi : i ≤ s.length) (h : unqM s i = some j) : i < j ∧ j ≤ s.length := by
  unfold unqM at h
  split at h
  · cases h
    exact ⟨by assumption, scan_le hi⟩
  · cases h
theorem attrValM_lt {s : List UInt8} {i j : Nat} (h : attrValM s i = some j) : i < j ∧ j ≤ s.length := by
  unfold attrValM at h
  split at h
  · cases h
  · rename_i q hq
    have hi := (List.getElem?_eq_some_iff.1 hq).1
    split at h
    · split at h
      · rename_i j' hj
        cases h
        have := bix_lt hj
        rw [List.length_drop] at this
        omega
      · exact unqM_lt (by omega) h
    · exact unqM_lt (by omega) h
theorem unqB_idx (c : UInt8) : Lib.indexByte [32, 9, 10, 34, 39, 61, 60, 62, 96] c < 0 ↔ unqB c = true := by
  rw [idxByte_lt]; simp [unqB]

theorem attrValG_tr (s : List UInt8) (i : Nat) (hl : s.length ≤ 1000000) (hi : i ≤ 100000000) : TrP Tryz.prog 205 [str s, inat i] (tri s i (attrValM s i)) := by
  by_cases hlt : i < s.length
  · obtain ⟨q, hq⟩ := get_some hlt
    obtain ⟨b, hb⟩ : ∃ b : Bool, b = decide (q.toNat = 39 ∨ q.toNat = 34) := ⟨_, rfl⟩
    refine Tr.start (n := 68) (rs := [.tmp 4, .tmp 5, .tmp 6]) rfl rfl rfl rfl fun B => ?_
    ((repeat (refine z7 ?_)); refine z6 ?_; (repeat' (first | refine za ?_)); refine z2 ?_; refine z1 ?_)
    (repeat (refine z7 ?_))
    refine zac [(0, str s), (1, inat i), (25, .bool b)] [] ?_ ?_
    · rw [hb]
      by_cases h1 : q.toNat = 39
      · rw [decide_eq_true (.inl h1)]
        (repeat' (first | refine z6 ?_ | refine z2 ?_ | refine z1 ?_ | refine zh ?_ | refine zaa ?_ | refine z8 ?_ | refine zm ?_ | refine zt ?_ | refine zj ?_ | refine zg ?_ | refine zi ?_))
        exact ⟨kA, sA⟩
      by_cases h2 : q.toNat = 34
      · rw [decide_eq_true (.inr h2)]
        (repeat' (first | refine z6 ?_ | refine z2 ?_ | refine z1 ?_ | refine zh ?_ | refine z8 ?_ | refine zm ?_ | refine zt ?_ | refine zr ?_ | refine zj ?_ | refine zk ?_ | refine zg ?_ | refine zi ?_))
        exact ⟨kA, sA⟩
      · rw [decide_eq_false (by omega)]
        (repeat' (first | refine z6 ?_ | refine z2 ?_ | refine z1 ?_ | refine zh ?_ | refine z8 ?_ | refine zm ?_ | refine zr ?_ | refine zj ?_ | refine zk ?_ | refine zg ?_ | refine zi ?_))
        exact ⟨kA, sA⟩
    · refine zau (fun _ : Unit => [(0, str s), (1, inat i)]) (fun _ => []) (fun _ => attrValM s i = unqM s i) ?_ ?_
      · have hI := indexB_tr (s.drop (i + 1)) q
        cases hbb : b with
        | false =>
          rw [hbb] at hb
          have hn : ¬ (q.toNat = 39 ∨ q.toNat = 34) := of_decide_eq_false hb.symm
          (repeat' (first | refine z1 ?_ | refine zb ?_ | refine zd ?_))
          exact ⟨(), kA, sA, by unfold attrValM; rw [hq]; dsimp only; rw [if_neg hn]⟩
        | true =>
          rw [hbb] at hb
          have hn : q.toNat = 39 ∨ q.toNat = 34 := of_decide_eq_true hb.symm
          cases hx : bix q (s.drop (i + 1)) with
          | none =>
            rw [hx, oint_none] at hI
            (repeat' (first | refine Wp.draw_tail (id := 2) 7 Mixed.out (by kernel_rfl) ?_ | refine zo (hI) ?_ | refine z7 ?_ | refine z6 ?_ | refine z2 ?_ | refine z1 ?_ | refine zc ?_ | refine zb ?_ | refine zd ?_ | refine z8 ?_ | refine za ?_ | refine zab ?_ | refine za8 ?_ | refine za7 ?_ | refine zcg ?_ | refine zbh ?_ | refine zd8 ?_))
            exact ⟨(), kA, sA, by unfold attrValM; rw [hq]; dsimp only; rw [if_pos hn, hx]⟩
          | some j =>
            have hjl := bix_lt hx
            rw [List.length_drop] at hjl
            have e : attrValM s i = some (i + 1 + j + 1) := by unfold attrValM; rw [hq]; dsimp only; rw [if_pos hn, hx]
            rw [e]
            rw [hx] at hI
            have hoj : oint (some j) = (j : Int) := rfl
            rw [hoj] at hI
            (repeat' (first | refine Wp.draw_tail (id := 2) 7 Mixed.out (by kernel_rfl) ?_ | refine zo (hI) ?_ | refine z7 ?_ | refine z6 ?_ | refine z2 ?_ | refine z1 ?_ | refine zc ?_ | refine ze ?_ | refine zx ?_ | refine z8 ?_ | refine za ?_ | refine zl ?_ | refine zb1 ?_ | refine zas ?_ | refine zav ?_ | refine za8 ?_ | refine za7 ?_ | refine zcg ?_ | refine zbh ?_ | refine zd8 ?_))
            exact e_pure ⟨rfl, rfl⟩
      · rintro _ he
        rw [he]
        have hle := scan_le (p := unqB) (s := s) (i := i) (by omega)
        have hge := scan_ge unqB s i
        unfold unqM
        generalize hj : scan unqB s i = j at hle hge ⊢
        (repeat' (first | refine z7 ?_ | refine z6 ?_ | refine z2 ?_ | refine z1 ?_ | refine z8 ?_ | refine za ?_))
        refine zac [(0, str s), (1, inat i), (9, inat j)] [] ?_ ?_
        · (repeat' (first | refine zf ?_))
          refine za6 (fun k : Nat => [(0, str s), (1, inat i), (9, inat k)]) (fun _ => []) (fun k => scan unqB s k = j ∧ k ≤ s.length) (fun k => s.length - k) i ⟨hj, by omega⟩ kB sA fun k hk => ?_
          obtain ⟨hk1, hk2⟩ := hk
          by_cases hlt : k < s.length
          · obtain ⟨d, hd⟩ := get_some hlt
            have hI0 := indexByte_tr [32, 9, 10, 34, 39, 61, 60, 62, 96] d
            cases hb1 : unqB d with
            | true =>
              have hneg := (unqB_idx d).2 hb1
              (repeat' (first | refine zo (hI0) ?_ | refine z7 ?_ | refine z6 ?_ | refine z2 ?_ | refine z1 ?_ | refine zc ?_ | refine zf ?_ | refine zd ?_ | refine zu ?_ | refine zh ?_ | refine z8 ?_ | refine za ?_ | refine zl ?_ | refine zm ?_ | refine zj ?_ | refine zg ?_ | refine zi ?_))
              exact ⟨k + 1, kB, sA, ⟨by rw [← hk1, scan_step hd hb1], by omega⟩, by omega⟩
            | false =>
              have hneg : ¬ Lib.indexByte [32, 9, 10, 34, 39, 61, 60, 62, 96] d < 0 := fun h => by rw [(unqB_idx d).1 h] at hb1; cases hb1
              have : k = j := by rw [← hk1, scan_stop hd hb1]
              subst this
              (repeat' (first | refine zo (hI0) ?_ | refine z7 ?_ | refine z6 ?_ | refine z2 ?_ | refine z1 ?_ | refine zb ?_ | refine zw ?_ | refine zy ?_ | refine zz ?_ | refine zh ?_ | refine z8 ?_ | refine zm ?_ | refine za4 ?_ | refine zj ?_ | refine zg ?_ | refine zi ?_))
              exact ⟨kA, sA⟩
          · have : k = j := by rw [← hk1, scan_end (by omega)]
            subst this
            (repeat' (first | refine z7 ?_ | refine z6 ?_ | refine z2 ?_ | refine z1 ?_ | refine zb ?_ | refine zw ?_ | refine zy ?_ | refine zz ?_ | refine za2 ?_ | refine z8 ?_ | refine za4 ?_ | refine zk ?_ | refine zg ?_))
            exact ⟨kA, sA⟩
        · by_cases hij : i < j
          · rw [if_pos hij]
            (repeat' (first | refine z7 ?_ | refine z6 ?_ | refine z2 ?_ | refine z1 ?_ | refine zc ?_ | refine ze ?_ | refine zx ?_ | refine z8 ?_ | refine za ?_ | refine zaz ?_ | refine zav ?_))
            exact e_pure ⟨rfl, rfl⟩
          · rw [if_neg hij]
            (repeat' (first | refine z7 ?_ | refine z6 ?_ | refine z2 ?_ | refine z1 ?_ | refine zb ?_ | refine zd ?_ | refine ze ?_ | refine z8 ?_ | refine za ?_ | refine zat ?_))
            exact e_pure ⟨rfl, rfl⟩
  · have e : attrValM s i = none := by
      unfold attrValM
      rw [List.getElem?_eq_none (by omega)]
    rw [e]
    refine Tr.start (n := 68) (rs := [.tmp 4, .tmp 5, .tmp 6]) rfl rfl rfl rfl fun B => ?_
    (repeat' (first | refine z7 ?_ | refine z6 ?_ | refine z2 ?_ | refine z1 ?_ | refine zb ?_ | refine zd ?_ | refine za2 ?_ | refine zay ?_ | refine z8 ?_ | refine za ?_ | refine za4 ?_ | refine zk ?_ | refine zg ?_))
    refine zac [(0, str s), (1, inat i), (9, inat i)] [] ?_ ?_
    · (repeat' (first | refine zf ?_))
      refine za6 (fun k : Unit => [(0, str s), (1, inat i), (9, inat i)]) (fun _ => []) (fun k => True) (fun k => 0) () trivial kB sA fun k hk => ?_
      (repeat' (first | refine z7 ?_ | refine z6 ?_ | refine z2 ?_ | refine z1 ?_ | refine zb ?_ | refine zw ?_ | refine zy ?_ | refine zz ?_ | refine za2 ?_ | refine z8 ?_ | refine za4 ?_ | refine zk ?_ | refine zg ?_))
      exact ⟨kA, sA⟩
    · (repeat' (first | refine z7 ?_ | refine z6 ?_ | refine z2 ?_ | refine z1 ?_ | refine zb ?_ | refine zd ?_ | refine ze ?_ | refine z8 ?_ | refine za ?_ | refine zat ?_))
      exact e_pure ⟨rfl, rfl⟩

theorem fffd_tr (s : List UInt8) (hl : s.length ≤ 1000000) : ∃ b, TrP Tryz.prog 51 [str s, str [239, 191, 189]] (.bool b) := ⟨_, zzContainsS_tr s _ hl (by decide) (by decide)⟩

def attrSpecM (s : List UInt8) (i : Nat) : Option Nat :=
  if s[scan isSp s i]? = some 61 ∧ scan isSp s i + 1 < s.length then attrValM s (scan isSp s (scan isSp s i + 1)) else none
def specAt (s : List UInt8) (i : Nat) : Nat := scan isSp s (scan isSp s i + 1)
theorem attrSpecM_lt {s : List UInt8} {i j : Nat} (h : attrSpecM s i = some j) : i < j ∧ j ≤ s.length := by
  unfold attrSpecM at h
  split at h
  · have h1 := scan_ge isSp s i
    have h2 := scan_ge isSp s (scan isSp s i + 1)
    have := attrValM_lt h
    omega
  · cases h
theorem attrSpecG_tr (p : Nat) (st : PS) (s : List UInt8) (i : Nat) (hl : s.length ≤ 1000000) (hi : i ≤ s.length) (cn : Bool) (hcn : st.corner = .bool cn) :
    Tr Tryz.prog 197 [lp p, str s, inat i] [st.blk p] fun u K => ∃ cn', u = tri s (specAt s i) (attrSpecM s i) ∧ K = [({ st with corner := .bool cn' } : PS).blk p] := by
  obtain ⟨par, root, links, lineno, stack, depth, corner, sv, em, list, lists, texts, bt⟩ := st
  subst hcn
  have h1 := skipSpaceG_tr s i hl (by omega)
  have hle1 := scan_le (p := isSp) hi
  unfold attrSpecM specAt
  generalize scan isSp s i = a at h1 hle1 ⊢
  by_cases ha : a + 1 < s.length
  · obtain ⟨c, hc⟩ := get_some (show a < s.length by omega)
    by_cases h61 : c.toNat = 61
    · have e61 : c = 61 := UInt8.toNat_inj.1 h61
      rw [hc, e61, if_pos ⟨rfl, ha⟩]
      have h2 := skipSpaceG_tr s (a + 1) hl (by omega)
      have hle2 := scan_le (p := isSp) (s := s) (i := a + 1) (by omega)
      generalize scan isSp s (a + 1) = b at h2 hle2 ⊢
      have h3 := attrValG_tr s b hl (by omega)
      cases hv : attrValM s b with
      | none =>
        rw [hv] at h3
        refine Tr.start (n := 57) (rs := [.tmp 6, .tmp 7, .tmp 8]) rfl rfl rfl rfl fun B => ?_
        (repeat' (first | refine zo (h1) ?_ | refine zo (h2) ?_ | refine zo (h3) ?_ | refine z7 ?_ | refine z6 ?_ | refine z2 ?_ | refine z1 ?_ | refine zc ?_ | refine zb ?_ | refine zd ?_ | refine ze ?_ | refine zh ?_ | refine z8 ?_ | refine za ?_ | refine zl ?_ | refine zm ?_ | refine zt ?_ | refine zj ?_ | refine zg ?_ | refine zi ?_ | refine za0 ?_))
        exact e_ret _ ⟨cn, rfl, rfl⟩ sA
      | some j =>
        rw [hv] at h3
        obtain ⟨hj1, hj2⟩ := attrValM_lt hv
        obtain ⟨bb, hb⟩ := fffd_tr ((s.take j).drop b) (by rw [List.length_drop, List.length_take]; omega)
        cases cn with
        | true =>
          refine Tr.start (n := 57) (rs := [.tmp 6, .tmp 7, .tmp 8]) rfl rfl rfl rfl fun B => ?_
          (repeat' (first | refine zo (h1) ?_ | refine zo (h2) ?_ | refine zo (h3) ?_ | refine z7 ?_ | refine z6 ?_ | refine z2 ?_ | refine z1 ?_ | refine zc ?_ | refine ze ?_ | refine zx ?_ | refine zh ?_ | refine zaa ?_ | refine z8 ?_ | refine za ?_ | refine zn ?_ | refine zp ?_ | refine zq ?_ | refine zl ?_ | refine zm ?_ | refine zt ?_ | refine zj ?_ | refine zg ?_ | refine zi ?_ | refine za0 ?_ | refine zav ?_ | refine za5 ?_))
          exact e_ret _ ⟨true, rfl, rfl⟩ sA
        | false =>
          refine Tr.start (n := 57) (rs := [.tmp 6, .tmp 7, .tmp 8]) rfl rfl rfl rfl fun B => ?_
          (repeat' (first | refine zo (h1) ?_ | refine zo (h2) ?_ | refine zo (h3) ?_ | refine zo (hb) ?_ | refine z7 ?_ | refine z6 ?_ | refine z2 ?_ | refine z1 ?_ | refine zc ?_ | refine ze ?_ | refine zx ?_ | refine zh ?_ | refine z8 ?_ | refine za ?_ | refine zn ?_ | refine zp ?_ | refine zq ?_ | refine zl ?_ | refine zm ?_ | refine zt ?_ | refine zj ?_ | refine zk ?_ | refine zg ?_ | refine zi ?_ | refine za0 ?_ | refine zav ?_ | refine za5 ?_))
          exact e_ret _ ⟨bb, rfl, rfl⟩ sA
    · rw [hc, if_neg (by rintro ⟨e, _⟩; cases e; exact h61 rfl)]
      refine Tr.start (n := 57) (rs := [.tmp 6, .tmp 7, .tmp 8]) rfl rfl rfl rfl fun B => ?_
      (repeat' (first | refine zo (h1) ?_ | refine z7 ?_ | refine z6 ?_ | refine z2 ?_ | refine z1 ?_ | refine zb ?_ | refine zd ?_ | refine ze ?_ | refine zh ?_ | refine z8 ?_ | refine za ?_ | refine zl ?_ | refine zm ?_ | refine zr ?_ | refine zj ?_ | refine zg ?_ | refine zi ?_))
      exact e_ret _ ⟨cn, rfl, rfl⟩ sA
  · rw [if_neg (by rintro ⟨_, e⟩; exact ha e)]
    refine Tr.start (n := 57) (rs := [.tmp 6, .tmp 7, .tmp 8]) rfl rfl rfl rfl fun B => ?_
    (repeat' (first | refine zo (h1) ?_ | refine z7 ?_ | refine z6 ?_ | refine z2 ?_ | refine z1 ?_ | refine zb ?_ | refine zd ?_ | refine ze ?_ | refine za2 ?_ | refine z8 ?_ | refine za ?_ | refine zl ?_ | refine za4 ?_ | refine zk ?_ | refine zg ?_))
    exact e_ret _ ⟨cn, rfl, rfl⟩ sA

def attrM (s : List UInt8) (i : Nat) : Option Nat := match attrNameM s (scan isSp s i) with
  | none => none
  | some j => some ((attrSpecM s j).getD j)
theorem attrM_lt {s : List UInt8} {i j : Nat} (h : attrM s i = some j) : i < j ∧ j ≤ s.length := by
  unfold attrM at h
  have h0 := scan_ge isSp s i
  split at h
  · cases h
  · rename_i j' hj
    have h1 := attrNameM_lt hj
    cases hs : attrSpecM s j' with
    | none => rw [hs] at h; cases h; simp only [Option.getD_none]; omega
    | some k =>
      rw [hs] at h; cases h
      have := attrSpecM_lt hs
      simp only [Option.getD_some]; omega
theorem attrG_tr (p : Nat) (st : PS) (s : List UInt8) (i : Nat) (hl : s.length ≤ 1000000) (hi : i ≤ s.length) (cn : Bool) (hcn : st.corner = .bool cn) :
    Tr Tryz.prog 174 [lp p, str s, inat i] [st.blk p] fun u K => ∃ cn', u = tri s (scan isSp s i) (attrM s i) ∧ K = [({ st with corner := .bool cn' } : PS).blk p] := by
  obtain ⟨par, root, links, lineno, stack, depth, corner, sv, em, list, lists, texts, bt⟩ := st
  subst hcn
  have h1 := skipSpaceG_tr s i hl (by omega)
  have hle1 := scan_le (p := isSp) hi
  unfold attrM
  generalize scan isSp s i = a at h1 hle1 ⊢
  have h2 := attrNameG_tr s a hl (by omega)
  cases hn : attrNameM s a with
  | none =>
    rw [hn] at h2
    refine Tr.start (n := 41) (rs := [.tmp 6, .tmp 7, .tmp 8]) rfl rfl rfl rfl fun B => ?_
    (repeat' (first | refine zo (h1) ?_ | refine zo (h2) ?_ | refine z7 ?_ | refine z6 ?_ | refine z2 ?_ | refine z1 ?_ | refine zb ?_ | refine zd ?_ | refine ze ?_ | refine z8 ?_ | refine za ?_ | refine za0 ?_))
    exact e_ret _ ⟨cn, rfl, rfl⟩ sA
  | some j =>
    rw [hn] at h2
    obtain ⟨hj1, hj2⟩ := attrNameM_lt hn
    refine Tr.start (n := 41) (rs := [.tmp 6, .tmp 7, .tmp 8]) rfl rfl rfl rfl fun B => ?_
    (repeat' (first | refine zo (h1) ?_ | refine zo (h2) ?_ | refine z7 ?_ | refine z6 ?_ | refine z2 ?_ | refine z1 ?_ | refine zc ?_ | refine z8 ?_ | refine za ?_ | refine za0 ?_))
    refine za1 (attrSpecG_tr p _ s j hl (by omega) cn rfl) (fun u K hR => ?_)
    obtain ⟨cn', rfl, rfl⟩ := hR
    dsimp only
    cases hs : attrSpecM s j with
    | none =>
      (repeat' (first | refine z7 ?_ | refine z6 ?_ | refine z2 ?_ | refine z1 ?_ | refine zb ?_ | refine zd ?_ | refine ze ?_ | refine zx ?_ | refine z8 ?_ | refine za ?_ | refine za0 ?_ | refine zav ?_))
      exact e_ret _ ⟨cn', rfl, rfl⟩ sA
    | some k =>
      obtain ⟨hk1, hk2⟩ := attrSpecM_lt hs
      (repeat' (first | refine z7 ?_ | refine z6 ?_ | refine z2 ?_ | refine z1 ?_ | refine zc ?_ | refine ze ?_ | refine zx ?_ | refine z8 ?_ | refine za ?_ | refine za0 ?_ | refine zav ?_))
      exact e_ret _ ⟨cn', rfl, rfl⟩ sA
end Go.Proofs

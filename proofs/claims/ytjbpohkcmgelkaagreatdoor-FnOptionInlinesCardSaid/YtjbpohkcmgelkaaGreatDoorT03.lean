/- Contract of strings.Join, from the kit's own. Conditions: bounds on the lengths. pos, blocks, newText, Join of one, and the paragraph's build of lines. Conditions: how the text begins. closeBlock of a paragraph, and the root's build. Conditions: bounds. closeBlock of the root, and trimStack to nothing. Conditions: bounds. zzIndex and zzContains of one byte. Conditions: a bound on the length. growSlice of a row: a new row with room. Conditions: lengths below a bound. -/
import Derived.Test.YtjbpohkcmgelkaaGreatDoorT01
import Derived.Test.YtjbpohkcmgelkaaGreatDoorEngB
import Derived.Shelf.Strings.OnBuilder
import Derived.Test.YtjbpohkcmgelkaaGreatDoorT02
import Derived.Test.YtjbpohkcmgelkaaGreatDoorFacts
import Derived.Lib.AppendZeros
import Derived.Lib.Buffer
import Derived.Laws.CopyRow
import Derived.Laws.IdiomCopy
import Derived.OwnWalk
import Derived.Defers
import Derived.Recover
import Derived.Lib.Walk
import Derived.Lib.ByteType
import Derived.Lib.Hide
namespace Go.Proofs
open Go Go.Eng Go.RowKit
set_option maxRecDepth 20000
set_option maxHeartbeats 4000000

/-- The numbers of the library's functions and types in this program. -/
def joinRen : Go.Shelf.Ren where
  f := fun n => match n with | 156 => 11 | 165 => 24 | 166 => 25 | 169 => 27 | 240 => 40 | 241 => 41 | 276 => 49 | 277 => 50 | n => n
  t := fun n => match n with | 0 => 0 | 3 => 3 | 4 => 4 | 5 => 5 | 9 => 9 | 20 => 20 | 31 => 23 | 37 => 22 | 70 => 46 | 72 => 48 | 75 => 51 | 76 => 52 | 80 => 55 | 127 => 75 | 164 => 111 | n => n
  g := fun n => n
theorem joinLays : Lays.n156 Tryz.prog joinRen where
  mixed := by kernel_rfl
  f156 := (Tryz.func11).trans (by kernel_rfl)
  f165 := (Tryz.func24).trans (by kernel_rfl)
  f166 := (Tryz.func25).trans (by kernel_rfl)
  f169 := (Tryz.func27).trans (by kernel_rfl)
  f240 := (Tryz.func40).trans (by kernel_rfl)
  f241 := (Tryz.func41).trans (by kernel_rfl)
  f276 := (Tryz.func49).trans (by kernel_rfl)
  f277 := (Tryz.func50).trans (by kernel_rfl)
  t0 := (Tryz.underlying0).trans (by kernel_rfl)
  a0 := fun w => by kernel_rfl
  z0 := fun w => by kernel_rfl
  v0 := fun w => by kernel_rfl
  t3 := (Tryz.underlying3).trans (by kernel_rfl)
  a3 := fun w => by kernel_rfl
  z3 := fun w => by kernel_rfl
  v3 := fun w => by kernel_rfl
  t4 := (Tryz.underlying4).trans (by kernel_rfl)
  a4 := fun w => by kernel_rfl
  z4 := fun w => by kernel_rfl
  v4 := fun w => by kernel_rfl
  t9 := (Tryz.underlying9).trans (by kernel_rfl)
  a9 := fun w => by kernel_rfl
  z9 := fun w => by kernel_rfl
  v9 := fun w => by kernel_rfl
  t20 := (Tryz.underlying20).trans (by kernel_rfl)
  a20 := fun w => by kernel_rfl
  z20 := fun w => by kernel_rfl
  v20 := fun w => by kernel_rfl
  t31 := (Tryz.underlying23).trans (by kernel_rfl)
  a31 := fun w => by kernel_rfl
  z31 := fun w => by kernel_rfl
  v31 := fun w => by kernel_rfl
  t37 := (Tryz.underlying22).trans (by kernel_rfl)
  a37 := fun w => by kernel_rfl
  z37 := fun w => by kernel_rfl
  v37 := fun w => by kernel_rfl
  t70 := (Tryz.underlying46).trans (by kernel_rfl)
  a70 := fun w => by kernel_rfl
  z70 := fun w => by kernel_rfl
  v70 := fun w => by kernel_rfl
  t72 := (Tryz.underlying48).trans (by kernel_rfl)
  a72 := fun w => by kernel_rfl
  z72 := fun w => by kernel_rfl
  v72 := fun w => by kernel_rfl
  t75 := (Tryz.underlying51).trans (by kernel_rfl)
  a75 := fun w => by kernel_rfl
  z75 := fun w => by kernel_rfl
  v75 := fun w => by kernel_rfl
  t76 := (Tryz.underlying52).trans (by kernel_rfl)
  a76 := fun w => by kernel_rfl
  z76 := fun w => by kernel_rfl
  v76 := fun w => by kernel_rfl
  t127 := (Tryz.underlying75).trans (by kernel_rfl)
  a127 := fun w => by kernel_rfl
  z127 := fun w => by kernel_rfl
  v127 := fun w => by kernel_rfl
  t164 := (Tryz.underlying111).trans (by kernel_rfl)
  a164 := fun w => by kernel_rfl
  z164 := fun w => by kernel_rfl
  v164 := fun w => by kernel_rfl
theorem joinExtra : Builder.Extra Tryz.prog joinRen where
  sizeBuilder := by kernel_rfl
  liesBuilder := by kernel_rfl
  t5 := by kernel_rfl
  infoByte := by kernel_rfl
  cellsByte := by kernel_rfl
  sizeByte := by kernel_rfl
  a5 := fun w => by kernel_rfl
  z5 := fun w => by kernel_rfl
  v5 := fun w => by kernel_rfl
  neB5 := by decide

/-- strings.Join of lines. -/
theorem joinRow_tr (g n cap : Nat) (cur : List Value) (xs : List (List UInt8)) (sep : List UInt8) (hn : xs.length = n) (hcap : n ≤ cap) (hcl : cur.length = cap) (hv : cur.take n = xs.map str) (hN : n ≤ 1000000) (hlen : (Lib.join xs sep).length ≤ 1000000000) :
    TrD Tryz.prog 11 [.slice (some ⟨g, 0, none⟩) n cap, str sep] [[(g, cellsOf cur 9)]] (str (Lib.join xs sep)) [[(g, cellsOf cur 9)]] := by
  refine ⟨fun B w hw => ?_⟩
  have hg : w.heap[g]? = some (cellsOf cur 9) := hw.has g _ (by simp)
  have hm : (xs.map fun l => (⟨l.toArray⟩ : ByteArray)).map (·.data.toList) = xs := by simp [Function.comp_def]
  have hcells : ∀ (j : Nat) x, (xs.map fun l => (⟨l.toArray⟩ : ByteArray))[j]? = some x → w.cell? ⟨g, 0 + j, none⟩ = some (.string x) := by
    intro j x hj
    rw [List.getElem?_map] at hj
    cases hx : xs[j]? with
    | none => rw [hx] at hj; cases hj
    | some l =>
      rw [hx] at hj
      simp at hj
      subst hj
      have hjn : j < n := by have := (List.getElem?_eq_some_iff.1 hx).1; omega
      refine cell_of hg ?_
      have h1 : (cur.take n)[j]? = some (str l) := by rw [hv, List.getElem?_map, hx]; rfl
      rw [List.getElem?_take, if_pos hjn] at h1
      simpa using h1
  have h := Any.strings_Join joinLays joinExtra g 0 cap (xs.map fun l => (⟨l.toArray⟩ : ByteArray)) ⟨sep.toArray⟩ w hcells (hw.lt (by simp [ids])) (by simp; omega) (by simp; omega) (by rw [hm]; show (Lib.join xs sep).length ≤ 140737488355328; omega)
  rw [hm] at h
  simp only [List.length_map, hn] at h
  refine h.mono ?_
  rintro e w' ⟨rfl, hb⟩
  refine ⟨_, _, rfl, ⟨rfl, rfl⟩, ?_⟩
  exact hw.below hb
end Go.Proofs

namespace Go.Proofs
open Go Go.Eng
set_option maxRecDepth 20000
set_option maxHeartbeats 4000000

theorem skipSpace_no (l : List UInt8) (i : Nat) (_hl : l.length ≤ 140737488355328) (hi : i < l.length) (h1 : at0 l i ≠ 32) (h2 : at0 l i ≠ 9) (h3 : at0 l i ≠ 10) :
    TrP Tryz.prog 100 [str l, inat i] (inat i) := by
  refine Tr.start (n := 30) (rs := [.tmp 4]) rfl rfl rfl rfl fun B => ?_
  obtain ⟨c, hc⟩ := get_some hi
  rw [at0_some hc] at h1 h2 h3
  (repeat' (first | refine z7 ?_ | refine z6 ?_ | refine z2 ?_ | refine z1 ?_ | refine zf ?_ | refine za ?_))
  refine za6 (fun _ : Nat => [(0, Eng.str l), (1, inat i)]) (fun _ => []) (fun _ => True) (fun _ => 0) 0 trivial kB sA fun k hk => ?_
  (repeat' (first | refine z7 ?_ | refine z6 ?_ | refine z2 ?_ | refine z1 ?_ | refine zb ?_ | refine zw ?_ | refine zy ?_ | refine zz ?_ | refine ze ?_ | refine zh ?_ | refine z8 ?_ | refine za ?_ | refine zm ?_ | refine zr ?_ | refine zj ?_ | refine zk ?_ | refine zg ?_ | refine zi ?_))
  exact e_pure ⟨rfl, rfl⟩

theorem linkLabel_no (p : Nat) (l : List UInt8) (i : Nat) (_hl : l.length ≤ 140737488355328) (hi : i < l.length) (h1 : at0 l i ≠ 91) :
    TrP Tryz.prog 103 [lp p, str l, inat i] (.tuple #[str [], .int .i64 0, .bool false]) := by
  refine Tr.start (n := 69) (rs := [.tmp 6, .tmp 7, .tmp 8]) rfl rfl rfl rfl fun B => ?_
  obtain ⟨c, hc⟩ := get_some hi
  rw [at0_some hc] at h1
  (repeat' (first | refine z7 ?_ | refine z6 ?_ | refine z2 ?_ | refine z1 ?_ | refine zc ?_ | refine ze ?_ | refine zx ?_ | refine zh ?_ | refine z8 ?_ | refine za ?_ | refine zab ?_ | refine zb2 ?_ | refine zk ?_ | refine zg ?_ | refine zi ?_))
  exact e_pure ⟨rfl, rfl⟩

theorem linkRef_no (p : Nat) (l : List UInt8) (hl : l.length ≤ 140737488355328) (hi : 0 < l.length) (h1 : at0 l 0 ≠ 32) (h2 : at0 l 0 ≠ 9) (h3 : at0 l 0 ≠ 10) (h4 : at0 l 0 ≠ 91) :
    TrP Tryz.prog 317 [.iface 95 (lp p), str l] (.tuple #[.int .i64 0, .bool false]) := by
  refine Tr.start (n := 200) (rs := [.tmp 4, .tmp 5]) rfl rfl rfl rfl fun B => ?_
  (repeat' (first | refine zo (skipSpace_no l 0 hl hi h1 h2 h3) ?_ | refine zo (linkLabel_no p l 0 hl hi h4) ?_ | refine z7 ?_ | refine z6 ?_ | refine z2 ?_ | refine z1 ?_ | refine zc ?_ | refine ze ?_ | refine zx ?_ | refine zaa ?_ | refine z8 ?_ | refine za ?_ | refine zj ?_ | refine za0 ?_ | refine zam ?_ | refine zcm ?_))
  exact e_pure ⟨rfl, rfl⟩

theorem Seg.two : ∀ {cs : List Value} {o : Nat} {a b : Value}, cs[o]? = some a → cs[o + 1]? = some b → Seg cs o 2 [a, b]
  | [], _, _, _, h, _ => by simp at h
  | [c], 0, a, b, _, h => by simp at h
  | c :: d :: cs, 0, a, b, h1, h2 => by
    simp at h1 h2
    subst h1 h2
    exact .take (.take .stop)
  | c :: cs, o + 1, a, b, h1, h2 => .drop (Seg.two (by simpa using h1) (by simpa using h2))

theorem pos_tr (p g m cap : Nat) (s : PS) (cs : List Value) (a b : Nat) (hm : 1 ≤ m) (hm2 : m ≤ 140737488355328) (ha : cs[0 + (m - 1) * 4 + 2]? = some (inat a)) (hb : cs[0 + (m - 1) * 4 + 2 + 1]? = some (inat b)) (hs : s.stack = stk g m cap) :
    TrD Tryz.prog 360 [lp p] [s.blk p, stb g cs] (.agg #[inat a, inat b]) [s.blk p, stb g cs] := by
  obtain ⟨par, root, links, lineno, stack, depth, corner, sv, em, list, lists, texts, bt⟩ := s
  subst hs
  refine Tr.start (n := 19) (rs := [.cell 2 125]) rfl rfl rfl rfl fun B => ?_
  (repeat' (first | refine Wp.draw_all (id := 1) Mixed.out (by kernel_rfl) ?_ | refine zak (hc := Seg.two ha hb) ?_ | refine z7 ?_ | refine z6 ?_ | refine z2 ?_ | refine z1 ?_ | refine ze ?_ | refine z8 ?_ | refine zp ?_ | refine zq ?_ | refine zaj ?_ | refine zai (fun _ => ?_) | refine za8 ?_ | refine za7 ?_ | refine zbg ?_ | refine za3 ?_ | refine zae ?_ | refine zad ?_ | refine zc7 ?_ | refine zb5 ?_ | refine zb9 ?_))
  exact e_ret _ ⟨rfl, rfl⟩ sA

theorem blocks_tr (p g m cap : Nat) (s : PS) (cs : List Value) (v : Value) (hm : 1 ≤ m) (hm2 : m ≤ 140737488355328) (ha : cs[0 + (m - 1) * 4 + 1]? = some v) (hs : s.stack = stk g m cap) :
    TrD Tryz.prog 357 [lp p] [s.blk p, stb g cs] v [s.blk p, stb g cs] := by
  obtain ⟨par, root, links, lineno, stack, depth, corner, sv, em, list, lists, texts, bt⟩ := s
  subst hs
  refine Tr.start (n := 19) (rs := [.tmp 2]) rfl rfl rfl rfl fun B => ?_
  (repeat' (first | refine Wp.draw_all (id := 1) Mixed.out (by kernel_rfl) ?_ | refine zn (hc := ha) ?_ | refine z7 ?_ | refine z6 ?_ | refine z2 ?_ | refine z1 ?_ | refine ze ?_ | refine z8 ?_ | refine za ?_ | refine zp ?_ | refine zq ?_ | refine za8 ?_ | refine za7 ?_ | refine zbg ?_ | refine za3 ?_ | refine zae ?_ | refine zad ?_ | refine zc7 ?_ | refine zb5 ?_ | refine zb9 ?_))
  exact e_ret _ ⟨rfl, rfl⟩ sA

/-- A text that is not yet parsed into inlines. -/
abbrev txb (t : Nat) (a b : Nat) (il : Value) (raw : List UInt8) : Blk := [(t, cellsOf [inat a, inat b, il, str raw] 127)]
abbrev Ptrs (v : Value) (l : List Nat) (Bk : Blk) : Prop := Own 123 1 v l.length (l.map lp) Bk

theorem newText_tr (p : Nat) (s : PS) (ts : List Nat) (TB : Blk) (a b : Nat) (raw : List UInt8) (hT : Ptrs s.texts ts TB) (htl : ts.length ≤ 1000000) :
    Tr Tryz.prog 157 [lp p, .agg #[inat a, inat b], str raw] [s.blk p, TB] fun u K => ∃ t v' TB', u = lp t ∧ Ptrs v' (ts ++ [t]) TB' ∧ K = [({ s with texts := v' } : PS).blk p, TB', txb t a b (.slice none 0 0) raw] := by
  obtain ⟨par, root, links, lineno, stack, depth, corner, sv, em, list, lists, texts, bt⟩ := s
  refine Tr.start (n := 23) (rs := [.tmp 6]) rfl rfl rfl rfl fun B => ?_
  (repeat' (first | refine z7 ?_ | refine z6 ?_ | refine z2 ?_ | refine z1 ?_ | refine z8 ?_ | refine za ?_ | refine zn ?_ | refine zp ?_ | refine zq ?_ | refine zak ?_ | refine zao ?_ | refine zaf (fun _ => ?_) | refine zb7 (fun _ => ?_)))
  rename_i r1 t r2
  refine zbz hT (by omega) (fun v' Bk' hT' => ?_)
  obtain ⟨g2, cap2, cur2, rfl, rfl, h1, h2, h3, h4⟩ := hT'.pos
  (repeat' (first | refine z7 ?_ | refine z6 ?_ | refine z2 ?_ | refine z1 ?_ | refine ze ?_ | refine z8 ?_ | refine za ?_ | refine zp ?_ | refine zq ?_ | refine za5 ?_))
  have hT2 : Ptrs (.slice (some ⟨g2, 0, none⟩) (ts.length + 1) cap2) (ts ++ [t]) [(g2, cellsOf cur2 123)] := by simpa [Ptrs] using hT'
  exact e_ret _ ⟨t, _, _, rfl, hT2, rfl⟩ sA

abbrev pgb (q : Nat) (a b t : Nat) : Blk := [(q, cellsOf [inat a, inat b, lp t] 192)]

/-- A paragraph of lines. -/
theorem build_para (p g m cap pb : Nat) (s : PS) (cs : List Value) (tv : Value) (Bt : Blk) (tx : List UInt8) (ts : List Nat) (TB : Blk) (a b : Nat) (hl : tx.length ≤ 140737488355328) (hi : 0 < tx.length) (h1 : at0 tx 0 ≠ 32) (h2 : at0 tx 0 ≠ 9) (h3 : at0 tx 0 ≠ 10) (h4 : at0 tx 0 ≠ 91)
    (hm : 1 ≤ m) (hm2 : m ≤ 140737488355328) (ha : cs[0 + (m - 1) * 4 + 2]? = some (inat a)) (hb : cs[0 + (m - 1) * 4 + 2 + 1]? = some (inat b)) (ha2 : a ≤ 100000000) (hs : s.stack = stk g m cap)
    (hT : Ptrs s.texts ts TB) (htl : ts.length ≤ 1000000) (ls : List (List UInt8)) (hS : Strs tv ls Bt) (htx : Lib.join ls [10] = tx) (hl0 : ls ≠ []) (hll : ls.length ≤ 1000000) (hlt : tx.length ≤ 1000000000) :
    Tr Tryz.prog 314 [lp pb, .iface 95 (lp p)] [s.blk p, stb g cs, pbb pb tv, Bt, TB] fun u K => ∃ q t v' TB', u = .iface 190 (lp q) ∧ Ptrs v' (ts ++ [t]) TB' ∧
      K = [({ s with texts := v' } : PS).blk p, stb g cs, TB', txb t a (a + ls.length - 1) (.slice none 0 0) tx, pgb q a (a + ls.length - 1) t] := by
  obtain ⟨par, root, links, lineno, stack, depth, corner, sv, em, list, lists, texts, bt⟩ := s
  subst hs
  obtain ⟨k, hk⟩ : ∃ k, ls.length = k + 1 := ⟨ls.length - 1, by have := List.length_pos_iff.2 hl0; omega⟩
  rw [hk]
  obtain ⟨g2, cap2, cur2, rfl, rfl, k1, k2, k3, k4⟩ := (show Own 9 1 tv (k + 1) (ls.map str) Bt from hk ▸ hS).pos
  have hj := joinRow_tr g2 (k + 1) cap2 cur2 ls [10] hk k1 (by omega) (by rw [← k4, Nat.mul_one]) (by omega) (by rw [htx]; exact hlt)
  rw [htx] at hj
  have hne : ¬ tx = [] := by intro h; subst h; simp at hi
  refine Tr.start (n := 67) (rs := [.tmp 4]) rfl rfl rfl rfl fun B => ?_
  (repeat' (first | refine za9 (hj) ?_ | refine z7 ?_ | refine z6 ?_ | refine z2 ?_ | refine z1 ?_ | refine zb ?_ | refine zd ?_ | refine z8 ?_ | refine za ?_ | refine zn ?_ | refine zp ?_ | refine zq ?_ | refine zcl ?_))
  refine zac [(0, lp pb), (1, .iface 95 (lp p)), (5, str tx)] [(⟨par, root, links, lineno, stk g m cap, depth, corner, sv, em, list, lists, texts, bt⟩ : PS).blk p, stb g cs, pbb pb (.slice (some ⟨g2, 0, none⟩) (k + 1) cap2), [(g2, cellsOf cur2 9)], TB] ?_ ?_
  · (repeat' (first | refine zf ?_))
    refine za6 (fun _ : Nat => [(0, lp pb), (1, .iface 95 (lp p)), (5, str tx)]) (fun _ => [(⟨par, root, links, lineno, stk g m cap, depth, corner, sv, em, list, lists, texts, bt⟩ : PS).blk p, stb g cs, pbb pb (.slice (some ⟨g2, 0, none⟩) (k + 1) cap2), [(g2, cellsOf cur2 9)], TB]) (fun _ => True) (fun _ => 0) 0 trivial kB sA fun k hk => ?_
    (repeat' (first | refine zo (linkRef_no p tx hl hi h1 h2 h3 h4) ?_ | refine z7 ?_ | refine z6 ?_ | refine z2 ?_ | refine z1 ?_ | refine zc ?_ | refine zf ?_ | refine zd ?_ | refine zw ?_ | refine zy ?_ | refine zz ?_ | refine zaw ?_ | refine z8 ?_ | refine za ?_ | refine za0 ?_ | refine zcd ?_ | refine zam ?_))
    exact ⟨kA, sA⟩
  · (repeat' (first | refine Wp.draw_tail (id := 11) 7 Mixed.out (by kernel_rfl) ?_ | refine zdj (pos_tr p g m cap _ cs a b hm hm2 ha hb rfl) ?_ | refine z7 ?_ | refine z6 ?_ | refine z2 ?_ | refine z1 ?_ | refine zb ?_ | refine zd ?_ | refine z8 ?_ | refine zp ?_ | refine zc4 ?_ | refine zb1 ?_ | refine zce ?_ | refine za5 ?_ | refine zaj ?_ | refine zai (fun _ => ?_) | refine za8 ?_ | refine za7 ?_ | refine za3 ?_ | refine zae ?_ | refine zad ?_ | refine zb5 ?_))
    rename_i r8
    refine Wp.draw_held (id := 12) [[(r8, cellsOf [inat a, inat (a + (k + 1) - 1)] 125)]] 9 Mixed.out sA rfl ?_
    refine hF 0 ?_
    refine hF 1 ?_
    refine hF 2 ?_
    refine hF 3 ?_
    refine hO 4 ?_
    refine zcw (newText_tr p _ ts TB a (a + (k + 1) - 1) tx hT htl) (fun u K hR => ?_)
    obtain ⟨t, v', TB', rfl, hT', rfl⟩ := hR
    (repeat' (first | refine z2 ?_ | refine z1 ?_))
    refine ⟨sA, ?_⟩
    refine hF 5 ?_
    refine hO 6 ?_
    (repeat' (first | refine z2 ?_ | refine z1 ?_ | refine zaf (fun _ => ?_)))
    refine ⟨sA, ?_⟩
    rename_i q
    refine hF 7 ?_
    refine hF 8 ?_
    refine OpsH.nil (by kernel_rfl) ?_
    (repeat' (first | refine ze ?_))
    exact e_ret _ ⟨q, t, v', TB', rfl, hT', rfl⟩ sA
end Go.Proofs

namespace Go.Proofs
open Go Go.Eng
set_option maxRecDepth 20000
set_option maxHeartbeats 4000000

abbrev Blks (v : Value) (l : List Value) (Bk : Blk) : Prop := Own 77 1 v l.length l Bk

theorem closePara (p g cap pb : Nat) (s : PS) (cur : List Value) (tv : Value) (Bt : Blk) (tx : List UInt8) (ts : List Nat) (TB : Blk) (bty : Nat) (bv e2 e3 f1 : Value) (a b : Nat) (hl : tx.length ≤ 140737488355328) (hi : 0 < tx.length) (h1 : at0 tx 0 ≠ 32) (h2 : at0 tx 0 ≠ 9) (h3 : at0 tx 0 ≠ 10) (h4 : at0 tx 0 ≠ 91) (ha2 : a ≤ 100000000)
    (hO : Stk (stk g 2 cap) 2 [.iface bty bv, .slice none 0 0, e2, e3, .iface 223 (lp pb), f1, inat a, inat b] (stb g cur)) (hs : s.stack = stk g 2 cap)
    (hT : Ptrs s.texts ts TB) (htl : ts.length ≤ 1000000) (ls : List (List UInt8)) (hS : Strs tv ls Bt) (htx : Lib.join ls [10] = tx) (hl0 : ls ≠ []) (hll : ls.length ≤ 1000000) (hlt : tx.length ≤ 1000000000) :
    Tr Tryz.prog 83 [lp p] [s.blk p, stb g cur, pbb pb tv, Bt, TB] fun u K => ∃ q t v' TB' cur' iv IB, u = .iface 190 (lp q) ∧ Ptrs v' (ts ++ [t]) TB' ∧
      Stk (stk g 1 cap) 1 [.iface bty bv, iv, e2, e3] (stb g cur') ∧ Blks iv [.iface 190 (lp q)] IB ∧
      K = [({ s with stack := stk g 1 cap, texts := v' } : PS).blk p, stb g cur', TB', txb t a (a + ls.length - 1) (.slice none 0 0) tx, pgb q a (a + ls.length - 1) t, IB] := by
  obtain ⟨par, root, links, lineno, stack, depth, corner, sv, em, list, lists, texts, bt⟩ := s
  subst hs
  obtain ⟨v1, v2, v3, v4⟩ := hO.view
  have c0 : cur[0 + (2 - 1) * 4 + 0]? = some (.iface 223 (lp pb)) := hO.get rfl
  have c2 : cur[0 + (2 - 1) * 4 + 2]? = some (inat a) := hO.get rfl
  have c3 : cur[0 + (2 - 1) * 4 + 2 + 1]? = some (inat b) := hO.get rfl
  have c4 : cur[0 + (2 - 1 - 1) * 4 + 1]? = some (.slice none 0 0) := hO.get rfl
  refine Tr.start (n := 118) (rs := [.tmp 2]) rfl rfl rfl rfl fun B => ?_
  (repeat' (first | refine Wp.draw_all (id := 1) Mixed.out (by kernel_rfl) ?_ | refine zn (hc := c0) ?_ | refine z7 ?_ | refine z6 ?_ | refine z2 ?_ | refine z1 ?_ | refine zb ?_ | refine zd ?_ | refine z8 ?_ | refine za ?_ | refine zp ?_ | refine zq ?_ | refine zan ?_ | refine zer ?_ | refine za8 ?_ | refine za7 ?_ | refine zbg ?_ | refine za3 ?_ | refine zae ?_ | refine zad ?_ | refine zc7 ?_ | refine zb5 ?_ | refine zb9 ?_))
  refine zcw (build_para p g 2 cap pb _ cur tv Bt tx ts TB a b hl hi h1 h2 h3 h4 (by omega) (by omega) c2 c3 ha2 rfl hT htl ls hS htx hl0 hll hlt) (fun u K hR => ?_)
  obtain ⟨q, t, v', TB', rfl, hT', rfl⟩ := hR
  (repeat' (first | refine Wp.draw_tail (id := 10) 12 Mixed.out (by kernel_rfl) ?_ | refine Wp.draw_all (id := 12) Mixed.out (by kernel_rfl) ?_ | refine zn (hc := c4) ?_ | refine z7 ?_ | refine z6 ?_ | refine z2 ?_ | refine z1 ?_ | refine zc ?_ | refine zb ?_ | refine zd ?_ | refine z8 ?_ | refine za ?_ | refine zn ?_ | refine zp ?_ | refine zq ?_ | refine zaz ?_ | refine zah ?_ | refine za0 ?_ | refine zby ?_ | refine za5 ?_ | refine zb7 (fun _ => ?_) | refine za8 ?_ | refine za7 ?_ | refine zbg ?_ | refine za3 ?_ | refine zae ?_ | refine zad ?_ | refine zc7 ?_ | refine zb5 ?_ | refine zdo ?_ | refine zb9 ?_))
  refine zct ?_
  refine zbz (Own.nil _ _) (by omega) (fun v'' Bk' hB => ?_)
  obtain ⟨g', cap', cur', rfl, rfl, k1, k2, k3, k4⟩ := hB.pos
  (repeat' (first | refine zc5 ?_ | refine z7 ?_ | refine z6 ?_ | refine z2 ?_ | refine z1 ?_ | refine ze ?_ | refine z8 ?_ | refine za ?_ | refine zp ?_ | refine zq ?_))
  have hq : cur.take (0 + 4) = [] ++ [.iface bty bv, .slice none 0 0, e2, e3] := by
    have : cur.take (0 + 4) = (cur.take (2 * 4)).take 4 := by rw [List.take_take]; rfl
    rw [this, v4]; rfl
  have h6 := take_set_tail (z := 4) (k := 1) (.slice (some ⟨g', 0, none⟩) (0 + 1) cap') rfl hq rfl
  have h9 := Own.mk' (E := 178) (g := g) (m := 1) (cur := cur.set (0 + 1) (.slice (some ⟨g', 0, none⟩) (0 + 1) cap')) (by omega : 1 ≤ cap) v2 (by simpa using v3)
  have h10 : (cur.set (0 + 1) (.slice (some ⟨g', 0, none⟩) (0 + 1) cap')).take (1 * 4) = [.iface bty bv, .slice (some ⟨g', 0, none⟩) (0 + 1) cap', e2, e3] := h6
  rw [h10] at h9
  exact e_ret _ ⟨q, t, v', TB', _, _, _, rfl, hT', h9, hB, rfl⟩ sA

abbrev docb (d a b : Nat) (iv lk : Value) : Blk := [(d, cellsOf [inat a, inat b, iv, lk] 349)]

theorem rootBuild (p rb g m cap : Nat) (s : PS) (cs : List Value) (a b : Nat) (ia : Option Addr) (im ic : Nat) (lk : Option Nat) (hlk : s.links = .map lk) (hm : 1 ≤ m) (hm2 : m ≤ 140737488355328) (h1 : cs[0 + (m - 1) * 4 + 1]? = some (.slice ia im ic)) (h2 : cs[0 + (m - 1) * 4 + 2]? = some (inat a)) (h3 : cs[0 + (m - 1) * 4 + 2 + 1]? = some (inat b)) (hs : s.stack = stk g m cap) :
    Tr Tryz.prog 253 [lp rb, .iface 95 (lp p)] [s.blk p, stb g cs] fun u K => ∃ d, u = .iface 57 (lp d) ∧ K = [s.blk p, stb g cs, docb d a b (.slice ia im ic) (.map lk)] := by
  have e1 := pos_tr p g m cap s cs a b hm hm2 h2 h3 hs
  have e2 := blocks_tr p g m cap s cs (.slice ia im ic) hm hm2 h1 hs
  obtain ⟨par, root, links, lineno, stack, depth, corner, sv, em, list, lists, texts, bt⟩ := s
  subst hs
  subst hlk
  refine Tr.start (n := 17) (rs := [.tmp 4]) rfl rfl rfl rfl fun B => ?_
  (repeat' (first | refine z7 ?_ | refine z6 ?_ | refine z2 ?_ | refine z1 ?_ | refine za ?_))
  refine Wp.draw_held (id := 1) [(⟨par, root, .map lk, lineno, stk g m cap, depth, corner, sv, em, list, lists, texts, bt⟩ : PS).blk p, stb g cs] 13 Mixed.out sA rfl ?_
  refine hF 0 ?_
  refine hF 2 ?_
  refine hF 4 ?_
  refine hF 5 ?_
  refine hF 6 ?_
  refine hF 7 ?_
  refine hF 8 ?_
  refine hO 1 ?_
  (repeat' (first | refine zdj (e1) ?_ | refine z2 ?_ | refine z1 ?_))
  refine ⟨sA, ?_⟩
  refine hO 3 ?_
  (repeat' (first | refine zdj (e2) ?_ | refine z2 ?_ | refine z1 ?_))
  refine ⟨sA, ?_⟩
  refine hF 9 ?_
  refine hO 10 ?_
  (repeat' (first | refine z2 ?_ | refine z1 ?_ | refine zaf (fun _ => ?_)))
  refine ⟨sA, ?_⟩
  refine hF 11 ?_
  refine hF 12 ?_
  refine OpsH.nil (by kernel_rfl) ?_
  (repeat' (first | refine ze ?_))
  exact e_ret _ ⟨_, rfl, rfl⟩ sA
end Go.Proofs

namespace Go.Proofs
open Go Go.Eng
set_option maxRecDepth 20000
set_option maxHeartbeats 4000000

theorem closeRoot (p rb g cap : Nat) (s : PS) (cur : List Value) (a b : Nat) (ia : Option Addr) (im ic : Nat) (lk : Option Nat) (hlk : s.links = .map lk)
    (hO : Stk (stk g 1 cap) 1 [.iface 116 (lp rb), .slice ia im ic, inat a, inat b] (stb g cur)) (hs : s.stack = stk g 1 cap) :
    Tr Tryz.prog 83 [lp p] [s.blk p, stb g cur] fun u K => ∃ d, u = .iface 57 (lp d) ∧
      K = [({ s with stack := stk g 0 cap, root := lp d } : PS).blk p, stb g cur, docb d a b (.slice ia im ic) (.map lk)] := by
  obtain ⟨par, root, links, lineno, stack, depth, corner, sv, em, list, lists, texts, bt⟩ := s
  subst hs
  subst hlk
  obtain ⟨v1, v2, v3, v4⟩ := hO.view
  have c0 : cur[0 + (1 - 1) * 4 + 0]? = some (.iface 116 (lp rb)) := hO.get rfl
  have c1 : cur[0 + (1 - 1) * 4 + 1]? = some (.slice ia im ic) := hO.get rfl
  have c2 : cur[0 + (1 - 1) * 4 + 2]? = some (inat a) := hO.get rfl
  have c3 : cur[0 + (1 - 1) * 4 + 2 + 1]? = some (inat b) := hO.get rfl
  refine Tr.start (n := 118) (rs := [.tmp 2]) rfl rfl rfl rfl fun B => ?_
  (repeat' (first | refine Wp.draw_all (id := 1) Mixed.out (by kernel_rfl) ?_ | refine zn (hc := c0) ?_ | refine z7 ?_ | refine z6 ?_ | refine z2 ?_ | refine z1 ?_ | refine zb ?_ | refine zd ?_ | refine z8 ?_ | refine za ?_ | refine zp ?_ | refine zq ?_ | refine zan ?_ | refine zer ?_ | refine za8 ?_ | refine za7 ?_ | refine zbg ?_ | refine za3 ?_ | refine zae ?_ | refine zad ?_ | refine zc7 ?_ | refine zb5 ?_ | refine zb9 ?_))
  refine zcw (rootBuild p rb g 1 cap _ cur a b ia im ic lk rfl (by omega) (by omega) c1 c2 c3 rfl) (fun u K hR => ?_)
  obtain ⟨d, rfl, rfl⟩ := hR
  (repeat' (first | refine Wp.draw_tail (id := 10) 12 Mixed.out (by kernel_rfl) ?_ | refine z7 ?_ | refine z6 ?_ | refine z2 ?_ | refine z1 ?_ | refine zb ?_ | refine zd ?_ | refine ze ?_ | refine z8 ?_ | refine za ?_ | refine zn ?_ | refine zp ?_ | refine zq ?_ | refine zat ?_ | refine zah ?_ | refine za0 ?_ | refine zcm ?_ | refine zby ?_ | refine za5 ?_ | refine za8 ?_ | refine za7 ?_ | refine za3 ?_ | refine zae ?_ | refine zad ?_ | refine zc7 ?_ | refine zb5 ?_ | refine zdo ?_))
  exact e_ret _ ⟨d, rfl, rfl⟩ sA

inductive Trim where
  | two
  | one (q t : Nat) (v' : Value) (TB' : Blk) (cur' : List Value) (ia : Option Addr) (im ic : Nat) (IB : Blk)
  | none (q t : Nat) (v' : Value) (TB' : Blk) (cur' : List Value) (ia : Option Addr) (im ic : Nat) (IB : Blk) (d : Nat)

theorem trimAll (p g cap pb rb : Nat) (s : PS) (cur : List Value) (tv : Value) (Bt : Blk) (tx : List UInt8) (ts : List Nat) (TB : Blk) (f1 : Value) (a b e2 e3 : Nat) (hl : tx.length ≤ 140737488355328) (hi : 0 < tx.length) (h1 : at0 tx 0 ≠ 32) (h2 : at0 tx 0 ≠ 9) (h3 : at0 tx 0 ≠ 10) (h4 : at0 tx 0 ≠ 91) (ha2 : a ≤ 100000000)
    (hO : Stk (stk g 2 cap) 2 [.iface 116 (lp rb), .slice none 0 0, inat e2, inat e3, .iface 223 (lp pb), f1, inat a, inat b] (stb g cur)) (hs : s.stack = stk g 2 cap) (lk : Option Nat) (hlk : s.links = .map lk)
    (hT : Ptrs s.texts ts TB) (htl : ts.length ≤ 1000000) (ls : List (List UInt8)) (hS : Strs tv ls Bt) (htx : Lib.join ls [10] = tx) (hl0 : ls ≠ []) (hll : ls.length ≤ 1000000) (hlt : tx.length ≤ 1000000000) :
    Tr Tryz.prog 56 [lp p, .int .i64 0] [s.blk p, stb g cur, pbb pb tv, Bt, TB] fun u K => ∃ q t v' TB' cur' ia im ic IB d, u = unit ∧ Ptrs v' (ts ++ [t]) TB' ∧ Blks (.slice ia im ic) [.iface 190 (lp q)] IB ∧
      K = [({ s with stack := stk g 0 cap, root := lp d, texts := v' } : PS).blk p, stb g cur', TB', txb t a (a + ls.length - 1) (.slice none 0 0) tx, pgb q a (a + ls.length - 1) t, IB, docb d e2 e3 (.slice ia im ic) (.map lk)] := by
  obtain ⟨par, root, links, lineno, stack, depth, corner, sv, em, list, lists, texts, bt⟩ := s
  subst hs
  subst hlk
  refine Tr.start (n := 21) (rs := []) rfl rfl rfl rfl fun B => ?_
  (repeat' (first | refine z7 ?_ | refine z6 ?_ | refine z2 ?_ | refine z1 ?_ | refine zb ?_ | refine zf ?_ | refine zd ?_ | refine z8 ?_ | refine zn ?_ | refine zp ?_ | refine zq ?_ | refine za4 ?_ | refine zah ?_))
  refine za6 (fun _ : Trim => [(0, lp p), (1, .int .i64 0)])
    (fun x => match x with
      | .two => [(⟨par, root, .map lk, lineno, stk g 2 cap, depth, corner, sv, em, list, lists, texts, bt⟩ : PS).blk p, stb g cur, pbb pb tv, Bt, TB]
      | .one q t v' TB' cur' ia im ic IB => [(⟨par, root, .map lk, lineno, stk g 1 cap, depth, corner, sv, em, list, lists, v', bt⟩ : PS).blk p, stb g cur', TB', txb t a (a + ls.length - 1) (.slice none 0 0) tx, pgb q a (a + ls.length - 1) t, IB]
      | .none q t v' TB' cur' ia im ic IB d => [(⟨par, lp d, .map lk, lineno, stk g 0 cap, depth, corner, sv, em, list, lists, v', bt⟩ : PS).blk p, stb g cur', TB', txb t a (a + ls.length - 1) (.slice none 0 0) tx, pgb q a (a + ls.length - 1) t, IB, docb d e2 e3 (.slice ia im ic) (.map lk)])
    (fun x => match x with
      | .two => True
      | .one q t v' TB' cur' ia im ic IB => Ptrs v' (ts ++ [t]) TB' ∧ Stk (stk g 1 cap) 1 [.iface 116 (lp rb), .slice ia im ic, inat e2, inat e3] (stb g cur') ∧ Blks (.slice ia im ic) [.iface 190 (lp q)] IB
      | .none q t v' TB' cur' ia im ic IB d => Ptrs v' (ts ++ [t]) TB' ∧ Blks (.slice ia im ic) [.iface 190 (lp q)] IB)
    (fun x => match x with
      | .two => 2
      | .one .. => 1
      | .none .. => 0) .two trivial kB sA fun x hx => ?_
  cases x with
  | two =>
    (repeat' (first | refine z7 ?_ | refine z6 ?_ | refine z2 ?_ | refine z1 ?_ | refine zc ?_ | refine zf ?_ | refine zd ?_ | refine z8 ?_ | refine zn ?_ | refine zp ?_ | refine zq ?_ | refine zaz ?_ | refine zah ?_))
    refine za1 (closePara p g cap pb _ cur tv Bt tx ts TB _ _ _ _ f1 a b hl hi h1 h2 h3 h4 ha2 hO rfl hT htl ls hS htx hl0 hll hlt) (fun u K hR => ?_)
    obtain ⟨q, t, v', TB', cur', iv, IB, rfl, k1, k2, k3, rfl⟩ := hR
    obtain ⟨g', cap', cur2, rfl, rfl, j1, j2, j3, j4⟩ := (show Own _ 1 iv (0 + 1) _ IB from k3).pos
    (repeat' (first | refine z2 ?_ | refine z1 ?_ | refine zu ?_))
    exact ⟨.one q t v' TB' cur' (some ⟨g', 0, .none⟩) (0 + 1) cap' _, kB, sA, ⟨k1, k2, k3⟩, (by show 1 < 2; omega)⟩
  | one q t v' TB' cur' ia im ic IB =>
    obtain ⟨k1, k2, k3⟩ := hx
    (repeat' (first | refine z7 ?_ | refine z6 ?_ | refine z2 ?_ | refine z1 ?_ | refine zc ?_ | refine zf ?_ | refine zd ?_ | refine z8 ?_ | refine zn ?_ | refine zp ?_ | refine zq ?_ | refine zaz ?_ | refine zah ?_))
    refine za1 (closeRoot p rb g cap _ cur' e2 e3 ia im ic lk rfl k2 rfl) (fun u K hR => ?_)
    obtain ⟨d, rfl, rfl⟩ := hR
    (repeat' (first | refine z2 ?_ | refine z1 ?_ | refine zu ?_))
    exact ⟨.none q t v' TB' cur' ia im ic IB d, kB, sA, ⟨k1, k3⟩, (by show 0 < 1; omega)⟩
  | none q t v' TB' cur' ia im ic IB d =>
    obtain ⟨k1, k3⟩ := hx
    (repeat' (first | refine z7 ?_ | refine z6 ?_ | refine z2 ?_ | refine z1 ?_ | refine zb ?_ | refine zw ?_ | refine zy ?_ | refine zz ?_ | refine z8 ?_ | refine zn ?_ | refine zp ?_ | refine zq ?_ | refine zat ?_ | refine zah ?_))
    exact e_norm _ ⟨q, t, v', TB', cur', ia, im, ic, IB, d, rfl, k1, k3, rfl⟩ sA
end Go.Proofs

namespace Go.Proofs
open Go Go.Eng
set_option maxRecDepth 20000
set_option maxHeartbeats 4000000

theorem slice1 {l : List UInt8} {k : Nat} {d : UInt8} (h : l[k]? = some d) : (l.take (k + 1)).drop k = [d] := by
  obtain ⟨h1, h2⟩ := List.getElem?_eq_some_iff.1 h
  rw [List.take_succ_eq_append_getElem h1, List.drop_append_of_le_length (by simp; omega), List.drop_eq_nil_of_le (by simp; exact Nat.min_le_left _ _)]
  simp [h2]

/-- The place of the first byte 'c', or the length. -/
def fst1 (c : UInt8) : List UInt8 → Nat
  | [] => 0
  | d :: l => if d = c then 0 else fst1 c l + 1
theorem fst1_le (c : UInt8) : ∀ l, fst1 c l ≤ l.length
  | [] => Nat.le_refl _
  | d :: l => by have := fst1_le c l; simp only [fst1, List.length_cons]; split <;> omega
theorem fst1_lt {c : UInt8} : ∀ {l : List UInt8} {k : Nat}, k < fst1 c l → ∃ d, l[k]? = some d ∧ d ≠ c
  | [], k, h => by simp [fst1] at h
  | d :: l, k, h => by
    simp only [fst1] at h
    split at h
    · omega
    · rename_i hd
      cases k with
      | zero => exact ⟨d, rfl, hd⟩
      | succ k => simpa using fst1_lt (l := l) (k := k) (by omega)
theorem fst1_at {c : UInt8} : ∀ {l : List UInt8}, fst1 c l < l.length → l[fst1 c l]? = some c
  | [], h => by simp [fst1] at h
  | d :: l, h => by
    simp only [fst1] at h ⊢
    split
    · rename_i hd; simp [hd]
    · rename_i hd
      rw [if_neg hd] at h
      simpa using fst1_at (l := l) (by simpa using h)

theorem zzIndex_tr (l : List UInt8) (c : UInt8) (hl : l.length ≤ 140737488355328) (r : Int) (hr : r = if fst1 c l < l.length then (fst1 c l : Int) else -1) :
    TrP Tryz.prog 54 [str l, str [c]] (.int .i64 r) := by
  have hle := fst1_le c l
  refine Tr.start (n := 25) (rs := [.tmp 4]) rfl rfl rfl rfl fun B => ?_
  (repeat' (first | refine z7 ?_ | refine z6 ?_ | refine z2 ?_ | refine z1 ?_ | refine za ?_))
  refine zau (fun _ : Unit => [(0, str l), (1, str [c]), (5, inat l.length)]) (fun _ => []) (fun _ => ¬ fst1 c l < l.length) ?_ ?_
  · (repeat' (first | refine zf ?_))
    refine za6 (fun k : Nat => [(0, str l), (1, str [c]), (5, inat k)]) (fun _ => []) (fun k => k ≤ fst1 c l) (fun k => fst1 c l - k) 0 (by omega) kB sA fun k hk => ?_
    have e1 : [c].length = 1 := rfl
    by_cases hlt : k < l.length
    · by_cases hkf : k < fst1 c l
      · obtain ⟨d, hd1, hd2⟩ := fst1_lt hkf
        have hs : ¬ (l.take (k + [c].length)).drop k = [c] := by rw [e1, slice1 hd1]; simpa using hd2
        (repeat' (first | refine z7 ?_ | refine z6 ?_ | refine z2 ?_ | refine z1 ?_ | refine zc ?_ | refine zb ?_ | refine zf ?_ | refine zd ?_ | refine zu ?_ | refine z8 ?_ | refine za ?_ | refine zl ?_ | refine zb1 ?_ | refine zb8 ?_ | refine zg ?_ | refine zav ?_ | refine zce ?_))
        exact ⟨k + 1, kB, sA, by omega, by omega⟩
      · have hkf' : k = fst1 c l := by omega
        subst hkf'
        have hs : (l.take (fst1 c l + [c].length)).drop (fst1 c l) = [c] := by rw [e1, slice1 (fst1_at hlt)]
        rw [if_pos hlt] at hr
        subst hr
        (repeat' (first | refine z7 ?_ | refine z6 ?_ | refine z2 ?_ | refine z1 ?_ | refine zc ?_ | refine zf ?_ | refine zd ?_ | refine ze ?_ | refine zx ?_ | refine zag ?_ | refine z8 ?_ | refine za ?_ | refine zb1 ?_ | refine zb8 ?_ | refine zg ?_ | refine zav ?_ | refine zc8 ?_))
        exact e_pure ⟨rfl, rfl⟩
    · have : k = l.length := by omega
      subst this
      (repeat' (first | refine z7 ?_ | refine z6 ?_ | refine z2 ?_ | refine z1 ?_ | refine zb ?_ | refine zw ?_ | refine zy ?_ | refine zz ?_ | refine z8 ?_ | refine zb1 ?_ | refine zbt ?_ | refine zg ?_))
      exact ⟨(), kA, sA, by omega⟩
  · intro _ this
    rw [if_neg this] at hr
    subst hr
    (repeat' (first | refine z7 ?_ | refine z6 ?_ | refine z2 ?_ | refine z1 ?_ | refine ze ?_ | refine za ?_))
    exact e_pure ⟨rfl, rfl⟩

theorem zzContains_tr (l : List UInt8) (c : UInt8) (hl : l.length ≤ 140737488355328) (hn : ¬ fst1 c l < l.length) :
    TrP Tryz.prog 51 [str l, str [c]] (.bool false) := by
  refine Tr.start (n := 9) (rs := [.tmp 4]) rfl rfl rfl rfl fun B => ?_
  (repeat' (first | refine zo (zzIndex_tr l c hl (-1) (by rw [if_neg hn])) ?_ | refine z7 ?_ | refine z6 ?_ | refine z2 ?_ | refine z1 ?_ | refine ze ?_ | refine z8 ?_ | refine za ?_ | refine zab ?_))
  exact e_pure ⟨rfl, rfl⟩
end Go.Proofs

namespace Go.Proofs
open Go Go.Eng
set_option maxRecDepth 20000
set_option maxHeartbeats 4000000

/-! Plain words of the model: where a run of bytes ends, where a text stands in another one. -/

/-- Behind the run of bytes of a class that begins at i. -/
def scan (p : UInt8 → Bool) (s : List UInt8) (i : Nat) : Nat := i + ((s.drop i).takeWhile p).length
theorem scan_ge (p : UInt8 → Bool) (s : List UInt8) (i : Nat) : i ≤ scan p s i := Nat.le_add_right _ _
theorem takeWhile_len_le {p : UInt8 → Bool} : ∀ l : List UInt8, (l.takeWhile p).length ≤ l.length
  | [] => by simp
  | c :: l => by
    simp only [List.takeWhile_cons]
    split
    · have := takeWhile_len_le (p := p) l; simp only [List.length_cons]; omega
    · simp
theorem scan_le {p : UInt8 → Bool} {s : List UInt8} {i : Nat} (h : i ≤ s.length) : scan p s i ≤ s.length := by
  have := takeWhile_len_le (p := p) (s.drop i)
  rw [List.length_drop] at this
  unfold scan; omega
theorem scan_step {p : UInt8 → Bool} {s : List UInt8} {i : Nat} {c : UInt8} (h : s[i]? = some c) (hp : p c = true) : scan p s i = scan p s (i + 1) := by
  have hi := (List.getElem?_eq_some_iff.1 h).1
  have e : s.drop i = c :: s.drop (i + 1) := by
    rw [List.drop_eq_getElem_cons hi]
    have := (List.getElem?_eq_some_iff.1 h).2
    rw [this]
  unfold scan
  rw [e, List.takeWhile_cons_of_pos hp, List.length_cons]; omega
theorem scan_stop {p : UInt8 → Bool} {s : List UInt8} {i : Nat} {c : UInt8} (h : s[i]? = some c) (hp : p c = false) : scan p s i = i := by
  have hi := (List.getElem?_eq_some_iff.1 h).1
  have e : s.drop i = c :: s.drop (i + 1) := by
    rw [List.drop_eq_getElem_cons hi]
    have := (List.getElem?_eq_some_iff.1 h).2
    rw [this]
  unfold scan
  rw [e, List.takeWhile_cons_of_neg (by simp [hp])]; rfl
theorem scan_end {p : UInt8 → Bool} {s : List UInt8} {i : Nat} (h : s.length ≤ i) : scan p s i = i := by
  unfold scan
  rw [List.drop_eq_nil_of_le h]; rfl
/-- Where a text stands first in another one. -/
def fsub (sub : List UInt8) : List UInt8 → Option Nat
  | [] => if sub = [] then some 0 else none
  | c :: s => if (c :: s).take sub.length = sub then some 0 else (fsub sub s).map (· + 1)
theorem fsub_short {sub : List UInt8} : ∀ {s : List UInt8}, s.length < sub.length → fsub sub s = none
  | [], h => by
    unfold fsub
    rw [if_neg (by rintro rfl; simp at h)]
  | c :: s, h => by
    unfold fsub
    rw [if_neg (by intro e; have := congrArg List.length e; rw [List.length_take] at this; omega), fsub_short (s := s) (by simp only [List.length_cons] at h; omega)]; rfl
theorem fsub_step {sub s : List UInt8} {k : Nat} (hk : k + sub.length ≤ s.length) (hne : sub ≠ []) (h : ¬ (s.take (k + sub.length)).drop k = sub) : fsub sub (s.drop k) = (fsub sub (s.drop (k + 1))).map (· + 1) := by
  have h0 : 0 < sub.length := List.length_pos_iff.2 hne
  have hk' : k < s.length := by omega
  rw [List.drop_eq_getElem_cons hk']
  conv => lhs; unfold fsub
  rw [if_neg]
  intro e
  apply h
  rw [List.drop_take, Nat.add_sub_cancel_left, List.drop_eq_getElem_cons hk']
  exact e
theorem fsub_hit {sub s : List UInt8} {k : Nat} (hk : k + sub.length ≤ s.length) (hne : sub ≠ []) (h : (s.take (k + sub.length)).drop k = sub) : fsub sub (s.drop k) = some 0 := by
  have h0 : 0 < sub.length := List.length_pos_iff.2 hne
  have hk' : k < s.length := by omega
  rw [List.drop_take, Nat.add_sub_cancel_left] at h
  rw [List.drop_eq_getElem_cons hk'] at h ⊢
  unfold fsub
  rw [if_pos h]
theorem fsub_le {sub : List UInt8} : ∀ {s : List UInt8} {k : Nat}, fsub sub s = some k → k + sub.length ≤ s.length
  | [], k, h => by
    unfold fsub at h
    split at h
    · rename_i e; subst e; cases h; simp
    · cases h
  | c :: s, k, h => by
    unfold fsub at h
    split at h
    · rename_i e
      cases h
      have := congrArg List.length e; rw [List.length_take] at this; omega
    · cases hs : fsub sub s with
      | none => rw [hs] at h; cases h
      | some m =>
        rw [hs] at h
        cases h
        have := fsub_le hs
        simp only [List.length_cons]; omega
def oint : Option Nat → Int
  | none => -1
  | some k => k
theorem oint_none : oint none = -1 := rfl

theorem zzIndexS_tr (s sub : List UInt8) (hl : s.length ≤ 1000000) (h2 : sub.length ≤ 1000000) (hne : sub ≠ []) : TrP Tryz.prog 54 [str s, str sub] (.int .i64 (oint (fsub sub s))) := by
  refine Tr.start (n := 25) (rs := [.tmp 4]) rfl rfl rfl rfl fun B => ?_
  (repeat' (first | refine z7 ?_ | refine z6 ?_ | refine z2 ?_ | refine z1 ?_ | refine za ?_))
  refine zau (fun _ : Unit => []) (fun _ => []) (fun _ => fsub sub s = none) ?_ ?_
  · (repeat' (first | refine zf ?_))
    refine za6 (fun k : Nat => [(0, str s), (1, str sub), (5, inat k)]) (fun _ => []) (fun k => k ≤ s.length ∧ fsub sub s = (fsub sub (s.drop k)).map (· + k)) (fun k => s.length - k) 0 ⟨Nat.zero_le _, by simp⟩ kB sA fun k hk => ?_
    obtain ⟨hk, hI⟩ := hk
    by_cases hlt : k + sub.length ≤ s.length
    · have h0 : 0 < sub.length := List.length_pos_iff.2 hne
      by_cases hs : (s.take (k + sub.length)).drop k = sub
      · rw [fsub_hit hlt hne hs] at hI
        have hI' : fsub sub s = some k := by rw [hI]; simp
        rw [hI']
        (repeat' (first | refine z7 ?_ | refine z6 ?_ | refine z2 ?_ | refine z1 ?_ | refine zc ?_ | refine zf ?_ | refine zd ?_ | refine ze ?_ | refine zx ?_ | refine zag ?_ | refine z8 ?_ | refine za ?_ | refine zb1 ?_ | refine zb8 ?_ | refine zg ?_ | refine zav ?_ | refine zc8 ?_))
        exact e_pure ⟨rfl, rfl⟩
      · (repeat' (first | refine z7 ?_ | refine z6 ?_ | refine z2 ?_ | refine z1 ?_ | refine zc ?_ | refine zb ?_ | refine zf ?_ | refine zd ?_ | refine zu ?_ | refine z8 ?_ | refine za ?_ | refine zl ?_ | refine zb1 ?_ | refine zb8 ?_ | refine zg ?_ | refine zav ?_ | refine zce ?_))
        refine ⟨k + 1, kB, sA, ⟨by omega, ?_⟩, by omega⟩
        rw [hI, fsub_step hlt hne hs, Option.map_map]
        congr 1
        funext x
        show x + 1 + k = x + (k + 1)
        omega
    · (repeat' (first | refine z7 ?_ | refine z6 ?_ | refine z2 ?_ | refine z1 ?_ | refine zb ?_ | refine zw ?_ | refine zy ?_ | refine zz ?_ | refine z8 ?_ | refine zb1 ?_ | refine zbt ?_ | refine zg ?_))
      refine ⟨(), kA, sA, ?_⟩
      rw [hI, fsub_short (by rw [List.length_drop]; omega)]; rfl
  · rintro _ hn
    rw [hn]
    (repeat' (first | refine z7 ?_ | refine z6 ?_ | refine z2 ?_ | refine z1 ?_ | refine ze ?_ | refine za ?_))
    exact e_pure ⟨rfl, rfl⟩
theorem zzContainsS_tr (s sub : List UInt8) (hl : s.length ≤ 1000000) (h2 : sub.length ≤ 1000000) (hne : sub ≠ []) : TrP Tryz.prog 51 [str s, str sub] (.bool (fsub sub s).isSome) := by
  have hI := zzIndexS_tr s sub hl h2 hne
  cases h : fsub sub s with
  | none =>
    rw [h] at hI
    refine Tr.start (n := 9) (rs := [.tmp 4]) rfl rfl rfl rfl fun B => ?_
    (repeat' (first | refine zo (hI) ?_ | refine z7 ?_ | refine z6 ?_ | refine z2 ?_ | refine z1 ?_ | refine ze ?_ | refine z8 ?_ | refine za ?_ | refine zeg ?_))
    exact e_pure ⟨rfl, rfl⟩
  | some k =>
    rw [h] at hI
    have hk : ¬ ((k : Nat) : Int) < 0 := by omega
    have hk2 : oint (some k) = (k : Int) := rfl
    rw [hk2] at hI
    refine Tr.start (n := 9) (rs := [.tmp 4]) rfl rfl rfl rfl fun B => ?_
    (repeat' (first | refine zo (hI) ?_ | refine z7 ?_ | refine z6 ?_ | refine z2 ?_ | refine z1 ?_ | refine ze ?_ | refine z8 ?_ | refine za ?_ | refine zas ?_))
    exact e_pure ⟨rfl, rfl⟩
end Go.Proofs

namespace Go.Proofs
open Go Go.Eng Go.RowKit
set_option maxRecDepth 100000
set_option maxHeartbeats 6400000

theorem growSlice_catch (w : World) :
    CallsD Tryz.prog 252 #[] .returning w fun e u' w' => e = .returned (.tuple #[]) ∧ u' = .returning ∧ w' = w := by
  have hnn : ∀ w, (binOp .neq 20 .nilIface .nilIface).run Tryz.prog w = .ok (.bool false) w := fun w => Lib.run_neq_nil_nil w Tryz.underlying20
  refine callsD_of_wpS Tryz.func252 rfl fun c₀ cs hu => ?_
  apply wpS_seq
  apply wpS_region
  simp [wpOpsS, go_sem, recoverD, hu, hnn, Tryz.ntmps252, Exit.thenS]
  refine wpS_cond (t := false) (by simp [Act.eval, Array.replicate]) ?_
  simp only [Bool.false_eq_true, if_false]
  refine wpS_of_wp (wp_skip ?_)
  cases c₀
  simp_all [bodyPostS, results]

theorem growSlice_row (g l c n : Nat) (cur : Array Value) (w : World) (hg : w.heap[g]? = some (.cells cur 5 (0, 0))) (hcs : cur.size = c) (hlc : l ≤ c) (hn : 1 ≤ n)
    (hlim : l + n ≤ 140737488355328) (hc2 : c ≤ 140737488355328) (h1 : ∀ v ∈ cur.toList.take l, v.oneCell' = true) (C : Nat) (hCe : C = if l + n < 2 * c then 2 * c else l + n) :
    Calls Tryz.prog 250 #[.slice (some ⟨g, 0, none⟩) l c, .int .i64 n] w fun e w' => ∃ cap2 cells, e = .returned (.slice (some ⟨w.heap.size, 0, none⟩) l cap2) ∧ w'.heap[w.heap.size]? = some (.cells cells 5 (0, 0)) ∧
      cells.size = cap2 ∧ cells.toList.take l = cur.toList.take l ∧ l + n ≤ cap2 ∧ cap2 ≤ maxLen ∧ Below w.heap.size w w' := by
  obtain ⟨i0, hi, hz0, hz1, hz2⟩ := info_parts (P := Tryz.prog) (e := 5) (z := .int .u8 0) (size := 1) (bytes := 1) (by kernel_rfl)
  have hsz1 : ((Tryz.prog).info? 5).map (·.size) = some 1 := by rw [hi]; simp [hz1]
  have t37 := Tryz.underlying22
  have t3 := Tryz.underlying3
  have hCl : l + n ≤ C := by subst hCe; split <;> omega
  have hCm : C ≤ 281474976710656 := by subst hCe; split <;> omega
  have happ := Lib.run_append_nil_zeros (P := Tryz.prog) w 22 3 22 5 i0 (.int .u8 0) .i64 .i64 t37 t3 hi hz0 C (by omega) (by omega) (by omega) (by rw [hz2]; omega)
  generalize hcap : grownCap w C 0 5 = cap2 at happ
  have hcapge : C ≤ cap2 := by rw [← hcap]; exact grownCap_ge w _ 0 5
  have hcaple : cap2 ≤ maxLen := by rw [← hcap]; exact grownCap_le_maxLen w _ 0 5 (by unfold maxLen; omega)
  generalize hZ : (Builtin.zeroCells (Value.int .u8 0).cells C ++ Builtin.zeroCells (Value.int .u8 0).cells (cap2 - C)) = Z at happ
  have hZs : Z.size = cap2 := by rw [← hZ]; simp [size_zeroCells, Value.cells]; omega
  clear hcap hZ
  have hgl := Lib.lt_of_heap hg
  have hg1 : (w.alloc (.cells Z 5)).drew.heap[g]? = some (.cells cur 5 (0, 0)) := by show (w.alloc (.cells Z 5)).heap[g]? = _; rw [RowKit.Below.heap_alloc w _ g hgl]; exact hg
  have hxl : (cur.toList.take l).length = l := by rw [List.length_take, Array.length_toList]; omega
  have hcopy := run_copy_row (P := Tryz.prog) (w.alloc (.cells Z 5)).drew 22 22 3 5 w.heap.size 0 C cap2 ⟨g, 0, none⟩ l c Z 5 (cur.toList.take l) t37 hsz1 (heap_alloc_new w _) (by rw [hxl]; exact (Nat.min_eq_left (by omega)).symm) (Lib.cells_of_row hg1 l) (by rw [hxl]; omega) h1
  rw [hxl] at hcopy
  generalize hY : (Z.toList.take 0 ++ cur.toList.take l ++ Z.toList.drop (0 + l)).toArray = Y at hcopy
  by_cases hlt : l + n < 2 * c
  · rw [if_pos hlt] at hCe
    subst hCe
    rw [show (((2 * c : Nat)) : Int) = 2 * (c : Int) by omega] at happ
    go_enter_defers Tryz.func250, Tryz.ntmps250
    go_wp2_with (at_builtin; refine Lib.wpList_append_run _ rfl _ _ _ _ rfl _ _ rfl rfl _ _ happ ?_)
    refine leaves_cons (f := 252) (args := #[]) (by simp) (Callable.mk Tryz.func252 rfl rfl _ _) ?_
    refine (growSlice_catch _).mono ?_
    rintro e u' w'' ⟨rfl, rfl, rfl⟩
    refine ⟨_, results_tmp rfl _ _ _, ?_⟩
    have hYl : Y.toList = cur.toList.take l ++ Z.toList.drop l := by rw [← hY]; simp
    refine ⟨cap2, Y, rfl, setRow_heap _ _ Z Y 5 (0, 0) (heap_alloc_new w _), ?_, ?_, by omega, hcaple, ?_⟩
    · have : Y.toList.length = cap2 := by rw [hYl, List.length_append, hxl, List.length_drop, Array.length_toList, hZs]; omega
      simpa using this
    · rw [hYl, List.take_append_of_le_length (by rw [hxl]; exact Nat.le_refl _), List.take_of_length_le (by rw [hxl]; exact Nat.le_refl _)]
    · exact ⟨rfl, rfl, rfl, by simp, fun k hk => by rw [setRow_other _ _ _ _ (by omega)]; exact Below.heap_alloc w _ k hk⟩
  · rw [if_neg hlt] at hCe
    subst hCe
    rw [show (((l + n : Nat)) : Int) = (l : Int) + (n : Int) by omega] at happ
    go_enter_defers Tryz.func250, Tryz.ntmps250
    go_wp2_with (at_builtin; refine Lib.wpList_append_run _ rfl _ _ _ _ rfl _ _ rfl rfl _ _ happ ?_)
    refine leaves_cons (f := 252) (args := #[]) (by simp) (Callable.mk Tryz.func252 rfl rfl _ _) ?_
    refine (growSlice_catch _).mono ?_
    rintro e u' w'' ⟨rfl, rfl, rfl⟩
    refine ⟨_, results_tmp rfl _ _ _, ?_⟩
    have hYl : Y.toList = cur.toList.take l ++ Z.toList.drop l := by rw [← hY]; simp
    refine ⟨cap2, Y, rfl, setRow_heap _ _ Z Y 5 (0, 0) (heap_alloc_new w _), ?_, ?_, by omega, hcaple, ?_⟩
    · have : Y.toList.length = cap2 := by rw [hYl, List.length_append, hxl, List.length_drop, Array.length_toList, hZs]; omega
      simpa using this
    · rw [hYl, List.take_append_of_le_length (by rw [hxl]; exact Nat.le_refl _), List.take_of_length_le (by rw [hxl]; exact Nat.le_refl _)]
    · exact ⟨rfl, rfl, rfl, by simp, fun k hk => by rw [setRow_other _ _ _ _ (by omega)]; exact Below.heap_alloc w _ k hk⟩
end Go.Proofs

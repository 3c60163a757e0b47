/- Contract of strings.Join, from the kit's own. Conditions: bounds on the lengths. -/
import Derived.Test.YtblaoglgknjepaaGreatDoorW5
import Derived.Test.YtblaoglgknjepaaGreatDoorEngB
import Derived.Shelf.Strings.OnBuilder
namespace Go.Proofs
open Go Go.Eng Go.RowKit
set_option maxRecDepth 20000
set_option maxHeartbeats 4000000

/-- The numbers of the library's functions and types in this program. -/
def joinRen : Go.Shelf.Ren where
  f := fun n => match n with | 156 => 150 | 165 => 138 | 166 => 139 | 169 => 141 | 240 => 172 | 241 => 173 | 276 => 185 | 277 => 186 | n => n
  t := fun n => match n with | 0 => 0 | 3 => 3 | 4 => 4 | 5 => 5 | 9 => 9 | 20 => 20 | 31 => 131 | 37 => 40 | 70 => 243 | 72 => 245 | 75 => 165 | 76 => 168 | 80 => 49 | 127 => 282 | 164 => 291 | n => n
  g := fun n => n
theorem joinLays : Lays.n156 Tryz.prog joinRen where
  mixed := by kernel_rfl
  f156 := (Tryz.func150).trans (by kernel_rfl)
  f165 := (Tryz.func138).trans (by kernel_rfl)
  f166 := (Tryz.func139).trans (by kernel_rfl)
  f169 := (Tryz.func141).trans (by kernel_rfl)
  f240 := (Tryz.func172).trans (by kernel_rfl)
  f241 := (Tryz.func173).trans (by kernel_rfl)
  f276 := (Tryz.func185).trans (by kernel_rfl)
  f277 := (Tryz.func186).trans (by kernel_rfl)
  t0 := (Tryz.underlying0).trans (by kernel_rfl)
  a0 := fun w => by kernel_rfl
  z0 := fun w => by kernel_rfl
  v0 := fun w => by kernel_rfl
  t3 := (Tryz.underlying3).trans (by kernel_rfl)
  a3 := fun w => by kernel_rfl
  z3 := fun w => by kernel_rfl
  v3 := fun w => by kernel_rfl
  t4 := (Tryz.underlying4).trans (by kernel_rfl)
  a4 := fun w => by kernel_rfl
  z4 := fun w => by kernel_rfl
  v4 := fun w => by kernel_rfl
  t9 := (Tryz.underlying9).trans (by kernel_rfl)
  a9 := fun w => by kernel_rfl
  z9 := fun w => by kernel_rfl
  v9 := fun w => by kernel_rfl
  t20 := (Tryz.underlying20).trans (by kernel_rfl)
  a20 := fun w => by kernel_rfl
  z20 := fun w => by kernel_rfl
  v20 := fun w => by kernel_rfl
  t31 := (Tryz.underlying131).trans (by kernel_rfl)
  a31 := fun w => by kernel_rfl
  z31 := fun w => by kernel_rfl
  v31 := fun w => by kernel_rfl
  t37 := (Tryz.underlying40).trans (by kernel_rfl)
  a37 := fun w => by kernel_rfl
  z37 := fun w => by kernel_rfl
  v37 := fun w => by kernel_rfl
  t70 := (Tryz.underlying243).trans (by kernel_rfl)
  a70 := fun w => by kernel_rfl
  z70 := fun w => by kernel_rfl
  v70 := fun w => by kernel_rfl
  t72 := (Tryz.underlying245).trans (by kernel_rfl)
  a72 := fun w => by kernel_rfl
  z72 := fun w => by kernel_rfl
  v72 := fun w => by kernel_rfl
  t75 := (Tryz.underlying165).trans (by kernel_rfl)
  a75 := fun w => by kernel_rfl
  z75 := fun w => by kernel_rfl
  v75 := fun w => by kernel_rfl
  t76 := (Tryz.underlying168).trans (by kernel_rfl)
  a76 := fun w => by kernel_rfl
  z76 := fun w => by kernel_rfl
  v76 := fun w => by kernel_rfl
  t127 := (Tryz.underlying282).trans (by kernel_rfl)
  a127 := fun w => by kernel_rfl
  z127 := fun w => by kernel_rfl
  v127 := fun w => by kernel_rfl
  t164 := (Tryz.underlying291).trans (by kernel_rfl)
  a164 := fun w => by kernel_rfl
  z164 := fun w => by kernel_rfl
  v164 := fun w => by kernel_rfl
theorem joinExtra : Builder.Extra Tryz.prog joinRen where
  sizeBuilder := by kernel_rfl
  liesBuilder := by kernel_rfl
  t5 := by kernel_rfl
  infoByte := by kernel_rfl
  cellsByte := by kernel_rfl
  sizeByte := by kernel_rfl
  a5 := fun w => by kernel_rfl
  z5 := fun w => by kernel_rfl
  v5 := fun w => by kernel_rfl
  neB5 := by decide

/-- strings.Join of lines. -/
theorem joinRow_tr (g n cap : Nat) (cur : List Value) (xs : List (List UInt8)) (sep : List UInt8) (hn : xs.length = n) (hcap : n ≤ cap) (hcl : cur.length = cap) (hv : cur.take n = xs.map str) (hN : n ≤ 1000000) (hlen : (Lib.join xs sep).length ≤ 1000000000) :
    TrD Tryz.prog 150 [.slice (some ⟨g, 0, none⟩) n cap, str sep] [[(g, cellsOf cur 9)]] (str (Lib.join xs sep)) [[(g, cellsOf cur 9)]] := by
  refine ⟨fun B w hw => ?_⟩
  have hg : w.heap[g]? = some (cellsOf cur 9) := hw.has g _ (by simp)
  have hm : (xs.map fun l => (⟨l.toArray⟩ : ByteArray)).map (·.data.toList) = xs := by simp [Function.comp_def]
  have hcells : ∀ (j : Nat) x, (xs.map fun l => (⟨l.toArray⟩ : ByteArray))[j]? = some x → w.cell? ⟨g, 0 + j, none⟩ = some (.string x) := by
    intro j x hj
    rw [List.getElem?_map] at hj
    cases hx : xs[j]? with
    | none => rw [hx] at hj; cases hj
    | some l =>
      rw [hx] at hj
      simp at hj
      subst hj
      have hjn : j < n := by have := (List.getElem?_eq_some_iff.1 hx).1; omega
      refine cell_of hg ?_
      have h1 : (cur.take n)[j]? = some (str l) := by rw [hv, List.getElem?_map, hx]; rfl
      rw [List.getElem?_take, if_pos hjn] at h1
      simpa using h1
  have h := Any.strings_Join joinLays joinExtra g 0 cap (xs.map fun l => (⟨l.toArray⟩ : ByteArray)) ⟨sep.toArray⟩ w hcells (hw.lt (by simp [ids])) (by simp; omega) (by simp; omega) (by rw [hm]; show (Lib.join xs sep).length ≤ 140737488355328; omega)
  rw [hm] at h
  simp only [List.length_map, hn] at h
  refine h.mono ?_
  rintro e w' ⟨rfl, hb⟩
  refine ⟨_, _, rfl, ⟨rfl, rfl⟩, ?_⟩
  exact hw.below hb
end Go.Proofs

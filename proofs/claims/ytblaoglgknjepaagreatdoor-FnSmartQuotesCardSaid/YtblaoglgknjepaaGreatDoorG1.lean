/- growSlice of a row: a new row with room. Conditions: lengths below a bound. -/
import Derived.Test.YtblaoglgknjepaaGreatDoorFacts
import Derived.Test.YtblaoglgknjepaaGreatDoorEngB
import Derived.Lib.AppendZeros
import Derived.Lib.Buffer
import Derived.Laws.CopyRow
import Derived.Laws.IdiomCopy
import Derived.OwnWalk
import Derived.Defers
import Derived.Recover
import Derived.Lib.Walk
import Derived.Lib.ByteType
import Derived.Lib.Hide
namespace Go.Proofs
open Go Go.Eng Go.RowKit
set_option maxRecDepth 100000
set_option maxHeartbeats 6400000

theorem growSlice_catch (w : World) :
    CallsD Tryz.prog 236 #[] .returning w fun e u' w' => e = .returned (.tuple #[]) ∧ u' = .returning ∧ w' = w := by
  have hnn : ∀ w, (binOp .neq 20 .nilIface .nilIface).run Tryz.prog w = .ok (.bool false) w := fun w => Lib.run_neq_nil_nil w Tryz.underlying20
  refine callsD_of_wpS Tryz.func236 rfl fun c₀ cs hu => ?_
  apply wpS_seq
  apply wpS_region
  simp [wpOpsS, go_sem, recoverD, hu, hnn, Tryz.ntmps236, Exit.thenS]
  refine wpS_cond (t := false) (by simp [Act.eval, Array.replicate]) ?_
  simp only [Bool.false_eq_true, if_false]
  refine wpS_of_wp (wp_skip ?_)
  cases c₀
  simp_all [bodyPostS, results]

theorem growSlice_row (g l c n : Nat) (cur : Array Value) (w : World) (hg : w.heap[g]? = some (.cells cur 5 (0, 0))) (hcs : cur.size = c) (hlc : l ≤ c) (hn : 1 ≤ n)
    (hlim : l + n ≤ 140737488355328) (hc2 : c ≤ 140737488355328) (h1 : ∀ v ∈ cur.toList.take l, v.oneCell' = true) (C : Nat) (hCe : C = if l + n < 2 * c then 2 * c else l + n) :
    Calls Tryz.prog 235 #[.slice (some ⟨g, 0, none⟩) l c, .int .i64 n] w fun e w' => ∃ cap2 cells, e = .returned (.slice (some ⟨w.heap.size, 0, none⟩) l cap2) ∧ w'.heap[w.heap.size]? = some (.cells cells 5 (0, 0)) ∧
      cells.size = cap2 ∧ cells.toList.take l = cur.toList.take l ∧ l + n ≤ cap2 ∧ cap2 ≤ maxLen ∧ Below w.heap.size w w' := by
  obtain ⟨i0, hi, hz0, hz1, hz2⟩ := info_parts (P := Tryz.prog) (e := 5) (z := .int .u8 0) (size := 1) (bytes := 1) (by kernel_rfl)
  have hsz1 : ((Tryz.prog).info? 5).map (·.size) = some 1 := by rw [hi]; simp [hz1]
  have t37 := Tryz.underlying40
  have t3 := Tryz.underlying3
  have hCl : l + n ≤ C := by subst hCe; split <;> omega
  have hCm : C ≤ 281474976710656 := by subst hCe; split <;> omega
  have happ := Lib.run_append_nil_zeros (P := Tryz.prog) w 40 3 40 5 i0 (.int .u8 0) .i64 .i64 t37 t3 hi hz0 C (by omega) (by omega) (by omega) (by rw [hz2]; omega)
  generalize hcap : grownCap w C 0 5 = cap2 at happ
  have hcapge : C ≤ cap2 := by rw [← hcap]; exact grownCap_ge w _ 0 5
  have hcaple : cap2 ≤ maxLen := by rw [← hcap]; exact grownCap_le_maxLen w _ 0 5 (by unfold maxLen; omega)
  generalize hZ : (Builtin.zeroCells (Value.int .u8 0).cells C ++ Builtin.zeroCells (Value.int .u8 0).cells (cap2 - C)) = Z at happ
  have hZs : Z.size = cap2 := by rw [← hZ]; simp [size_zeroCells, Value.cells]; omega
  clear hcap hZ
  have hgl := Lib.lt_of_heap hg
  have hg1 : (w.alloc (.cells Z 5)).drew.heap[g]? = some (.cells cur 5 (0, 0)) := by show (w.alloc (.cells Z 5)).heap[g]? = _; rw [RowKit.Below.heap_alloc w _ g hgl]; exact hg
  have hxl : (cur.toList.take l).length = l := by rw [List.length_take, Array.length_toList]; omega
  have hcopy := run_copy_row (P := Tryz.prog) (w.alloc (.cells Z 5)).drew 40 40 3 5 w.heap.size 0 C cap2 ⟨g, 0, none⟩ l c Z 5 (cur.toList.take l) t37 hsz1 (heap_alloc_new w _) (by rw [hxl]; exact (Nat.min_eq_left (by omega)).symm) (Lib.cells_of_row hg1 l) (by rw [hxl]; omega) h1
  rw [hxl] at hcopy
  generalize hY : (Z.toList.take 0 ++ cur.toList.take l ++ Z.toList.drop (0 + l)).toArray = Y at hcopy
  by_cases hlt : l + n < 2 * c
  · rw [if_pos hlt] at hCe
    subst hCe
    rw [show (((2 * c : Nat)) : Int) = 2 * (c : Int) by omega] at happ
    go_enter_defers Tryz.func235, Tryz.ntmps235
    go_wp2_with (at_builtin; refine Lib.wpList_append_run _ rfl _ _ _ _ rfl _ _ rfl rfl _ _ happ ?_)
    refine leaves_cons (f := 236) (args := #[]) (by simp) (Callable.mk Tryz.func236 rfl rfl _ _) ?_
    refine (growSlice_catch _).mono ?_
    rintro e u' w'' ⟨rfl, rfl, rfl⟩
    refine ⟨_, results_tmp rfl _ _ _, ?_⟩
    have hYl : Y.toList = cur.toList.take l ++ Z.toList.drop l := by rw [← hY]; simp
    refine ⟨cap2, Y, rfl, setRow_heap _ _ Z Y 5 (0, 0) (heap_alloc_new w _), ?_, ?_, by omega, hcaple, ?_⟩
    · have : Y.toList.length = cap2 := by rw [hYl, List.length_append, hxl, List.length_drop, Array.length_toList, hZs]; omega
      simpa using this
    · rw [hYl, List.take_append_of_le_length (by rw [hxl]; exact Nat.le_refl _), List.take_of_length_le (by rw [hxl]; exact Nat.le_refl _)]
    · exact ⟨rfl, rfl, rfl, by simp, fun k hk => by rw [setRow_other _ _ _ _ (by omega)]; exact Below.heap_alloc w _ k hk⟩
  · rw [if_neg hlt] at hCe
    subst hCe
    rw [show (((l + n : Nat)) : Int) = (l : Int) + (n : Int) by omega] at happ
    go_enter_defers Tryz.func235, Tryz.ntmps235
    go_wp2_with (at_builtin; refine Lib.wpList_append_run _ rfl _ _ _ _ rfl _ _ rfl rfl _ _ happ ?_)
    refine leaves_cons (f := 236) (args := #[]) (by simp) (Callable.mk Tryz.func236 rfl rfl _ _) ?_
    refine (growSlice_catch _).mono ?_
    rintro e u' w'' ⟨rfl, rfl, rfl⟩
    refine ⟨_, results_tmp rfl _ _ _, ?_⟩
    have hYl : Y.toList = cur.toList.take l ++ Z.toList.drop l := by rw [← hY]; simp
    refine ⟨cap2, Y, rfl, setRow_heap _ _ Z Y 5 (0, 0) (heap_alloc_new w _), ?_, ?_, by omega, hcaple, ?_⟩
    · have : Y.toList.length = cap2 := by rw [hYl, List.length_append, hxl, List.length_drop, Array.length_toList, hZs]; omega
      simpa using this
    · rw [hYl, List.take_append_of_le_length (by rw [hxl]; exact Nat.le_refl _), List.take_of_length_le (by rw [hxl]; exact Nat.le_refl _)]
    · exact ⟨rfl, rfl, rfl, by simp, fun k hk => by rw [setRow_other _ _ _ _ (by omega)]; exact Below.heap_alloc w _ k hk⟩
end Go.Proofs

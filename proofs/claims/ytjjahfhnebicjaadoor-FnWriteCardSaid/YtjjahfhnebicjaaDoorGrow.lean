/- bytes.growSlice: a new row with room for more. After the library's own worked text (growSlice_row), turned to this program's numbers. -/
import Derived.Test.YtjjahfhnebicjaaDoorStr
import Derived.Test.YtjjahfhnebicjaaDoorClone
import Derived.Lib.AppendZeros
import Derived.Lib.ByteType
import Derived.Defers
import Derived.Recover
namespace Go.Proofs.YtjjahfhnebicjaaDoor
open Go.ChangeShapes Go.WideShapes Go.ChangeAt Go.RowKit

theorem growCatch (w : World) : CallsD Tryd.prog 77 #[] .returning w fun e u' w' => e = .returned (.tuple #[]) ∧ u' = .returning ∧ w' = w := by
  have hnn : ∀ w, (binOp .neq 20 .nilIface .nilIface).run Tryd.prog w = .ok (.bool false) w := fun w => Lib.run_neq_nil_nil w Tryd.underlying20
  refine callsD_of_wpS Tryd.func77 rfl fun c₀ cs hu => ?_
  apply wpS_seq
  apply wpS_region
  simp [wpOpsS, go_sem, recoverD, hu, hnn]
  refine wpS_cond (t := false) (by simp [Act.eval, Array.replicate]) ?_
  simp only [Bool.false_eq_true, if_false]
  refine wpS_of_wp (wp_skip ?_)
  cases c₀
  simp_all [bodyPostS, results]

/-- What growSlice leaves. -/
def Grown (w : World) (l n : Nat) (xs : List Value) (e : Ending) (w' : World) : Prop :=
  ∃ cap2 cells, e = .returned (.slice (some ⟨w.heap.size, 0, none⟩) l cap2) ∧ Blk w' w.heap.size 5 cells ∧ cells.length = cap2 ∧ cells.take l = xs ∧ l + n ≤ cap2 ∧ cap2 ≤ maxLen ∧ Below w.heap.size w w'

theorem grown_end {w : World} {l n C cap2 : Nat} {Z Y : Array Value} (xs : List Value) (hZs : Z.size = cap2) (hY : (Z.toList.take 0 ++ xs ++ Z.toList.drop (0 + l)).toArray = Y) (hxl : xs.length = l) (hC : C ≤ cap2) (hm : cap2 ≤ maxLen) (hl : l + n ≤ C) (hlc : l ≤ cap2) :
    Grown w l n xs (.returned (.slice (some ⟨w.heap.size, 0, none⟩) l cap2)) ((w.alloc (.cells Z 5)).drew.setRow w.heap.size Y) := by
  have hYl : Y.toList = xs ++ Z.toList.drop l := by rw [← hY]; simp
  refine ⟨cap2, Y.toList, rfl, ?_, ?_, ?_, by omega, hm, ?_⟩
  · exact setRow_heap _ _ Z Y 5 (0, 0) (heap_alloc_new w _)
  · rw [hYl, List.length_append, hxl, List.length_drop, Array.length_toList, hZs]; omega
  · rw [hYl, List.take_left' hxl]
  · exact ⟨rfl, rfl, rfl, by simp, fun k hk => by rw [setRow_other _ _ _ _ (by omega)]; exact Below.heap_alloc w _ k hk⟩

set_option maxHeartbeats 6400000 in
set_option maxRecDepth 100000 in
theorem growSlice_row (g l c n C : Nat) (cs : List Value) (w : World) (hB : Blk w g 5 cs) (hcs : cs.length = c) (hlc : l ≤ c) (hn : 1 ≤ n) (hlim : l + n ≤ 1000000000) (hc2 : c ≤ 1000000000) (h1 : ∀ v ∈ cs.take l, v.oneCell' = true)
    (hC : C = if l + n < 2 * c then 2 * c else l + n) :
    Calls Tryd.prog 76 #[.slice (some ⟨g, 0, none⟩) l c, .int .i64 n] w (Grown w l n (cs.take l)) := by
  obtain ⟨i0, hi, hz0, hz1, hz2⟩ := info_parts Tryd.info_u8
  have hsz1 : (Tryd.prog.info? 5).map (·.size) = some 1 := by rw [hi]; simp [hz1]
  have hCn : l + n ≤ C := by rw [hC]; split <;> omega
  have hC1 : C ≤ 2000000000 := by rw [hC]; split <;> omega
  have happ := Lib.run_append_nil_zeros (P := Tryd.prog) w 26 3 26 5 i0 (.int .u8 0) .i64 .i64 Tryd.underlying26 Tryd.underlying3 hi hz0 C (by omega) (by omega) (by omega) (by rw [hz2]; omega)
  generalize hcap : grownCap w C 0 5 = cap2 at happ
  have hcapge : C ≤ cap2 := by rw [← hcap]; exact grownCap_ge w _ 0 5
  have hcaple : cap2 ≤ maxLen := by rw [← hcap]; exact grownCap_le_maxLen w _ 0 5 (by unfold maxLen; omega)
  generalize hZ : (Builtin.zeroCells (Value.int .u8 0).cells C ++ Builtin.zeroCells (Value.int .u8 0).cells (cap2 - C)) = Z at happ
  have hZs : Z.size = cap2 := by rw [← hZ]; simp [size_zeroCells, Value.cells]; omega
  have hgl := hB.lt
  have hg1 : Blk (w.alloc (.cells Z 5)).drew g 5 cs := hB.alloc _
  have hxl : (cs.take l).length = l := by rw [List.length_take]; omega
  have hcopy := run_copy_row (P := Tryd.prog) (w.alloc (.cells Z 5)).drew 26 26 3 5 w.heap.size 0 C cap2 ⟨g, 0, none⟩ l c Z 5 (cs.take l) Tryd.underlying26 hsz1 (heap_alloc_new w _) (by rw [hxl]; exact (Nat.min_eq_left (by omega)).symm)
    (fun j v hj => by
      rw [addr_add, Nat.zero_add, hg1.cell]
      rw [List.getElem?_take] at hj
      split at hj
      · exact hj
      · cases hj) (by rw [hxl]; omega) h1
  rw [hxl] at hcopy
  generalize hY : (Z.toList.take 0 ++ cs.take l ++ Z.toList.drop (0 + l)).toArray = Y at hcopy
  have hle : l ≤ cap2 := by omega
  have HH := hide (And.intro hcap (And.intro hZ (And.intro hZs (And.intro hY (And.intro hcapge hcaple)))))
  have HG := hide (And.intro hg1 hB)
  have HXL := hide (And.intro hxl hcs)
  clear hcap hZ hZs hY hg1 hB hgl hcapge hcaple hxl hcs
  by_cases hlt : l + n < 2 * c
  · have hC2 : C = 2 * c := by rw [hC, if_pos hlt]
    rw [show ((C : Nat) : Int) = 2 * (c : Int) by omega] at happ
    have HC2 := hide hC2
    clear hC hC2 hCn hC1
    go_enter_defers Tryd.func76, Tryd.ntmps76
    go_wp2_with (at_builtin; refine Lib.wpList_append_run _ rfl _ _ _ _ rfl _ _ rfl rfl _ _ happ ?_)
    refine leaves_cons (f := 77) (args := #[]) (by simp) (by simp [go_sem]) ?_
    refine (growCatch _).mono ?_
    rintro e u' w'' ⟨rfl, rfl, rfl⟩
    refine ⟨_, results_tmp rfl _ _ _, ?_⟩
    exact grown_end _ HH.out.2.2.1 HH.out.2.2.2.1 HXL.out.1 HH.out.2.2.2.2.1 HH.out.2.2.2.2.2 (by have := HC2.out; omega) (by omega)
  · have hC2 : C = l + n := by rw [hC, if_neg hlt]
    rw [show ((C : Nat) : Int) = (l : Int) + (n : Int) by omega] at happ
    have HC2 := hide hC2
    clear hC hC2 hCn hC1
    go_enter_defers Tryd.func76, Tryd.ntmps76
    go_wp2_with (at_builtin; refine Lib.wpList_append_run _ rfl _ _ _ _ rfl _ _ rfl rfl _ _ happ ?_)
    refine leaves_cons (f := 77) (args := #[]) (by simp) (by simp [go_sem]) ?_
    refine (growCatch _).mono ?_
    rintro e u' w'' ⟨rfl, rfl, rfl⟩
    refine ⟨_, results_tmp rfl _ _ _, ?_⟩
    exact grown_end _ HH.out.2.2.1 HH.out.2.2.2.1 HXL.out.1 HH.out.2.2.2.2.1 HH.out.2.2.2.2.2 (by have := HC2.out; omega) (by omega)

set_option maxHeartbeats 6400000 in
set_option maxRecDepth 100000 in
theorem growSlice_nil (n : Nat) (w : World) (hn : 1 ≤ n) (hlim : n ≤ 1000000000) :
    Calls Tryd.prog 76 #[.slice none 0 0, .int .i64 n] w (Grown w 0 n []) := by
  obtain ⟨i0, hi, hz0, hz1, hz2⟩ := info_parts Tryd.info_u8
  have happ := Lib.run_append_nil_zeros (P := Tryd.prog) w 26 3 26 5 i0 (.int .u8 0) .i64 .i64 Tryd.underlying26 Tryd.underlying3 hi hz0 n (by omega) (by omega) (by omega) (by rw [hz2]; omega)
  generalize hcap : grownCap w n 0 5 = cap2 at happ
  have hcapge : n ≤ cap2 := by rw [← hcap]; exact grownCap_ge w _ 0 5
  have hcaple : cap2 ≤ maxLen := by rw [← hcap]; exact grownCap_le_maxLen w _ 0 5 (by unfold maxLen; omega)
  generalize hZ : (Builtin.zeroCells (Value.int .u8 0).cells n ++ Builtin.zeroCells (Value.int .u8 0).cells (cap2 - n)) = Z at happ
  have hZs : Z.size = cap2 := by rw [← hZ]; simp [size_zeroCells, Value.cells]; omega
  have hcopy := run_copy_nil (P := Tryd.prog) (w.alloc (.cells Z 5)).drew 26 26 3 5 ⟨w.heap.size, 0, none⟩ n cap2 Tryd.underlying26 (by rw [hi]; rfl)
  have HH := hide (And.intro hcap (And.intro hZ (And.intro hZs (And.intro hcapge hcaple))))
  clear hcap hZ hZs hcapge hcaple
  go_enter_defers Tryd.func76, Tryd.ntmps76
  go_wp2_with (at_builtin; refine Lib.wpList_append_run _ rfl _ _ _ _ rfl _ _ rfl rfl _ _ happ ?_)
  refine leaves_cons (f := 77) (args := #[]) (by simp) (by simp [go_sem]) ?_
  refine (growCatch _).mono ?_
  rintro e u' w'' ⟨rfl, rfl, rfl⟩
  refine ⟨_, results_tmp rfl _ _ _, ?_⟩
  refine ⟨cap2, Z.toList, rfl, heap_alloc_new w _, by rw [Array.length_toList]; exact HH.out.2.2.1, by simp, by have := HH.out.2.2.2.1; omega, HH.out.2.2.2.2, ?_⟩
  exact ((Below.refl _ _).alloc (Nat.le_refl _) _).drew
end Go.Proofs.YtjjahfhnebicjaaDoor

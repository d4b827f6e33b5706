/- isValidReceivedCloseCode: the map of close codes, made and looked up. No condition. -/
import Derived.Test.YtcmfbbldojhbeaaRows
import Derived.Test.YtcmfbbldojhbeaaMem
namespace Go.Proofs.Ytcmfbbldojhbeaa
open Go.ChangeShapes Go.WideShapes Go.ChangeAt Go.RowKit

/-- A new key stored in the map that was made last. -/
theorem run_upd_new {P : Program} (w : World) (T K E : TypeId) (hT : P.underlying T = some (.map K E)) (hK : P.underlying K = some (.int .i64)) (es : Array MapEntry) (c : Nat) (k : Int) (v : Value)
    (h : Instr.findNow (.int .i64) (.int .i64 k) es.toList 0 = some none) :
    (Instr.mapUpdate T (.map (some w.heap.size)) (.int .i64 k) v).run P (w.alloc (.map es c)) = .ok () (w.alloc (.map (es.push ⟨.int .i64 k, v, c⟩) (c + 1))) := by
  have hget : (w.alloc (.map es c)).heap[w.heap.size]? = some (.map es c) := heap_alloc_new w _
  have hset : ({ w.alloc (.map es c) with heap := (w.alloc (.map es c)).heap.setIfInBounds w.heap.size (.map (es.push ⟨.int .i64 k, v, c⟩) (c + 1)) } : World) = w.alloc (.map (es.push ⟨.int .i64 k, v, c⟩) (c + 1)) := by
    simp only [World.alloc, World.mk.injEq, and_true]
    apply Array.ext_getElem?
    intro i
    simp only [Array.getElem?_setIfInBounds, Array.getElem?_push, Array.size_push]
    by_cases hi : i = w.heap.size
    · subst hi; simp
    · rw [if_neg (by omega), if_neg hi, if_neg hi]
  unfold Instr.mapUpdate
  simp [run_underlying hT, Result.andThen, MapKept.run_getObj_map hget, MapKept.run_checkKey hK (show MapKept.IsKey (.int .i64) (.int .i64 k) from rfl) false 9999, MapKept.run_findKey hK h, MapKept.run_setObj_map _ hget]
  exact hset

/-- A key looked up in the map that was made last. -/
theorem run_look_new {P : Program} (w : World) (T K E : TypeId) (hT : P.underlying T = some (.map K E)) (hK : P.underlying K = some (.int .i64)) (es : Array MapEntry) (c : Nat) (k : Int) (i : Nat) (v : Value)
    (h : Instr.findNow (.int .i64) (.int .i64 k) es.toList 0 = some (some (i, v))) :
    (Instr.lookup T (.map (some w.heap.size)) (.int .i64 k) false).run P (w.alloc (.map es c)) = .ok v (w.alloc (.map es c)) := by
  have hget : (w.alloc (.map es c)).heap[w.heap.size]? = some (.map es c) := heap_alloc_new w _
  unfold Instr.lookup
  simp [run_underlying hT, Result.andThen, MapKept.run_getObj_map hget, MapKept.run_checkKey hK (show MapKept.IsKey (.int .i64) (.int .i64 k) from rfl) es.isEmpty 9999, MapKept.run_findKey hK h]
theorem run_look_none {P : Program} (w : World) (T K E : TypeId) (hT : P.underlying T = some (.map K E)) (hK : P.underlying K = some (.int .i64)) (z : Value) (hz : ∀ w, (zeroValue E).run P w = .ok z w) (es : Array MapEntry) (c : Nat) (k : Int)
    (h : Instr.findNow (.int .i64) (.int .i64 k) es.toList 0 = some none) :
    (Instr.lookup T (.map (some w.heap.size)) (.int .i64 k) false).run P (w.alloc (.map es c)) = .ok z (w.alloc (.map es c)) := by
  have hget : (w.alloc (.map es c)).heap[w.heap.size]? = some (.map es c) := heap_alloc_new w _
  unfold Instr.lookup
  simp [run_underlying hT, Result.andThen, MapKept.run_getObj_map hget, MapKept.run_checkKey hK (show MapKept.IsKey (.int .i64) (.int .i64 k) from rfl) es.isEmpty 9999, MapKept.run_findKey hK h, hz]

def codesEs : Array MapEntry := #[⟨.int .i64 1000, .bool true, 0⟩, ⟨.int .i64 1001, .bool true, 1⟩, ⟨.int .i64 1002, .bool true, 2⟩, ⟨.int .i64 1003, .bool true, 3⟩, ⟨.int .i64 1005, .bool false, 4⟩, ⟨.int .i64 1006, .bool false, 5⟩, ⟨.int .i64 1007, .bool true, 6⟩, ⟨.int .i64 1008, .bool true, 7⟩, ⟨.int .i64 1009, .bool true, 8⟩, ⟨.int .i64 1010, .bool true, 9⟩, ⟨.int .i64 1011, .bool true, 10⟩, ⟨.int .i64 1012, .bool true, 11⟩, ⟨.int .i64 1013, .bool true, 12⟩, ⟨.int .i64 1015, .bool false, 13⟩]
theorem ins0 (w : World) : (Instr.mapUpdate 40 (.map (some w.heap.size)) (.int .i64 1000) (.bool true)).run Try.prog (w.alloc (.map #[] 0)) = .ok () (w.alloc (.map #[⟨.int .i64 1000, .bool true, 0⟩] 1)) :=
  run_upd_new w 40 3 4 Try.underlying40 Try.underlying3 _ _ _ _ rfl
theorem ins1 (w : World) : (Instr.mapUpdate 40 (.map (some w.heap.size)) (.int .i64 1001) (.bool true)).run Try.prog (w.alloc (.map #[⟨.int .i64 1000, .bool true, 0⟩] 1)) = .ok () (w.alloc (.map #[⟨.int .i64 1000, .bool true, 0⟩, ⟨.int .i64 1001, .bool true, 1⟩] 2)) :=
  run_upd_new w 40 3 4 Try.underlying40 Try.underlying3 _ _ _ _ rfl
theorem ins2 (w : World) : (Instr.mapUpdate 40 (.map (some w.heap.size)) (.int .i64 1002) (.bool true)).run Try.prog (w.alloc (.map #[⟨.int .i64 1000, .bool true, 0⟩, ⟨.int .i64 1001, .bool true, 1⟩] 2)) = .ok () (w.alloc (.map #[⟨.int .i64 1000, .bool true, 0⟩, ⟨.int .i64 1001, .bool true, 1⟩, ⟨.int .i64 1002, .bool true, 2⟩] 3)) :=
  run_upd_new w 40 3 4 Try.underlying40 Try.underlying3 _ _ _ _ rfl
theorem ins3 (w : World) : (Instr.mapUpdate 40 (.map (some w.heap.size)) (.int .i64 1003) (.bool true)).run Try.prog (w.alloc (.map #[⟨.int .i64 1000, .bool true, 0⟩, ⟨.int .i64 1001, .bool true, 1⟩, ⟨.int .i64 1002, .bool true, 2⟩] 3)) = .ok () (w.alloc (.map #[⟨.int .i64 1000, .bool true, 0⟩, ⟨.int .i64 1001, .bool true, 1⟩, ⟨.int .i64 1002, .bool true, 2⟩, ⟨.int .i64 1003, .bool true, 3⟩] 4)) :=
  run_upd_new w 40 3 4 Try.underlying40 Try.underlying3 _ _ _ _ rfl
theorem ins4 (w : World) : (Instr.mapUpdate 40 (.map (some w.heap.size)) (.int .i64 1005) (.bool false)).run Try.prog (w.alloc (.map #[⟨.int .i64 1000, .bool true, 0⟩, ⟨.int .i64 1001, .bool true, 1⟩, ⟨.int .i64 1002, .bool true, 2⟩, ⟨.int .i64 1003, .bool true, 3⟩] 4)) = .ok () (w.alloc (.map #[⟨.int .i64 1000, .bool true, 0⟩, ⟨.int .i64 1001, .bool true, 1⟩, ⟨.int .i64 1002, .bool true, 2⟩, ⟨.int .i64 1003, .bool true, 3⟩, ⟨.int .i64 1005, .bool false, 4⟩] 5)) :=
  run_upd_new w 40 3 4 Try.underlying40 Try.underlying3 _ _ _ _ rfl
theorem ins5 (w : World) : (Instr.mapUpdate 40 (.map (some w.heap.size)) (.int .i64 1006) (.bool false)).run Try.prog (w.alloc (.map #[⟨.int .i64 1000, .bool true, 0⟩, ⟨.int .i64 1001, .bool true, 1⟩, ⟨.int .i64 1002, .bool true, 2⟩, ⟨.int .i64 1003, .bool true, 3⟩, ⟨.int .i64 1005, .bool false, 4⟩] 5)) = .ok () (w.alloc (.map #[⟨.int .i64 1000, .bool true, 0⟩, ⟨.int .i64 1001, .bool true, 1⟩, ⟨.int .i64 1002, .bool true, 2⟩, ⟨.int .i64 1003, .bool true, 3⟩, ⟨.int .i64 1005, .bool false, 4⟩, ⟨.int .i64 1006, .bool false, 5⟩] 6)) :=
  run_upd_new w 40 3 4 Try.underlying40 Try.underlying3 _ _ _ _ rfl
theorem ins6 (w : World) : (Instr.mapUpdate 40 (.map (some w.heap.size)) (.int .i64 1007) (.bool true)).run Try.prog (w.alloc (.map #[⟨.int .i64 1000, .bool true, 0⟩, ⟨.int .i64 1001, .bool true, 1⟩, ⟨.int .i64 1002, .bool true, 2⟩, ⟨.int .i64 1003, .bool true, 3⟩, ⟨.int .i64 1005, .bool false, 4⟩, ⟨.int .i64 1006, .bool false, 5⟩] 6)) = .ok () (w.alloc (.map #[⟨.int .i64 1000, .bool true, 0⟩, ⟨.int .i64 1001, .bool true, 1⟩, ⟨.int .i64 1002, .bool true, 2⟩, ⟨.int .i64 1003, .bool true, 3⟩, ⟨.int .i64 1005, .bool false, 4⟩, ⟨.int .i64 1006, .bool false, 5⟩, ⟨.int .i64 1007, .bool true, 6⟩] 7)) :=
  run_upd_new w 40 3 4 Try.underlying40 Try.underlying3 _ _ _ _ rfl
theorem ins7 (w : World) : (Instr.mapUpdate 40 (.map (some w.heap.size)) (.int .i64 1008) (.bool true)).run Try.prog (w.alloc (.map #[⟨.int .i64 1000, .bool true, 0⟩, ⟨.int .i64 1001, .bool true, 1⟩, ⟨.int .i64 1002, .bool true, 2⟩, ⟨.int .i64 1003, .bool true, 3⟩, ⟨.int .i64 1005, .bool false, 4⟩, ⟨.int .i64 1006, .bool false, 5⟩, ⟨.int .i64 1007, .bool true, 6⟩] 7)) = .ok () (w.alloc (.map #[⟨.int .i64 1000, .bool true, 0⟩, ⟨.int .i64 1001, .bool true, 1⟩, ⟨.int .i64 1002, .bool true, 2⟩, ⟨.int .i64 1003, .bool true, 3⟩, ⟨.int .i64 1005, .bool false, 4⟩, ⟨.int .i64 1006, .bool false, 5⟩, ⟨.int .i64 1007, .bool true, 6⟩, ⟨.int .i64 1008, .bool true, 7⟩] 8)) :=
  run_upd_new w 40 3 4 Try.underlying40 Try.underlying3 _ _ _ _ rfl
theorem ins8 (w : World) : (Instr.mapUpdate 40 (.map (some w.heap.size)) (.int .i64 1009) (.bool true)).run Try.prog (w.alloc (.map #[⟨.int .i64 1000, .bool true, 0⟩, ⟨.int .i64 1001, .bool true, 1⟩, ⟨.int .i64 1002, .bool true, 2⟩, ⟨.int .i64 1003, .bool true, 3⟩, ⟨.int .i64 1005, .bool false, 4⟩, ⟨.int .i64 1006, .bool false, 5⟩, ⟨.int .i64 1007, .bool true, 6⟩, ⟨.int .i64 1008, .bool true, 7⟩] 8)) = .ok () (w.alloc (.map #[⟨.int .i64 1000, .bool true, 0⟩, ⟨.int .i64 1001, .bool true, 1⟩, ⟨.int .i64 1002, .bool true, 2⟩, ⟨.int .i64 1003, .bool true, 3⟩, ⟨.int .i64 1005, .bool false, 4⟩, ⟨.int .i64 1006, .bool false, 5⟩, ⟨.int .i64 1007, .bool true, 6⟩, ⟨.int .i64 1008, .bool true, 7⟩, ⟨.int .i64 1009, .bool true, 8⟩] 9)) :=
  run_upd_new w 40 3 4 Try.underlying40 Try.underlying3 _ _ _ _ rfl
theorem ins9 (w : World) : (Instr.mapUpdate 40 (.map (some w.heap.size)) (.int .i64 1010) (.bool true)).run Try.prog (w.alloc (.map #[⟨.int .i64 1000, .bool true, 0⟩, ⟨.int .i64 1001, .bool true, 1⟩, ⟨.int .i64 1002, .bool true, 2⟩, ⟨.int .i64 1003, .bool true, 3⟩, ⟨.int .i64 1005, .bool false, 4⟩, ⟨.int .i64 1006, .bool false, 5⟩, ⟨.int .i64 1007, .bool true, 6⟩, ⟨.int .i64 1008, .bool true, 7⟩, ⟨.int .i64 1009, .bool true, 8⟩] 9)) = .ok () (w.alloc (.map #[⟨.int .i64 1000, .bool true, 0⟩, ⟨.int .i64 1001, .bool true, 1⟩, ⟨.int .i64 1002, .bool true, 2⟩, ⟨.int .i64 1003, .bool true, 3⟩, ⟨.int .i64 1005, .bool false, 4⟩, ⟨.int .i64 1006, .bool false, 5⟩, ⟨.int .i64 1007, .bool true, 6⟩, ⟨.int .i64 1008, .bool true, 7⟩, ⟨.int .i64 1009, .bool true, 8⟩, ⟨.int .i64 1010, .bool true, 9⟩] 10)) :=
  run_upd_new w 40 3 4 Try.underlying40 Try.underlying3 _ _ _ _ rfl
theorem ins10 (w : World) : (Instr.mapUpdate 40 (.map (some w.heap.size)) (.int .i64 1011) (.bool true)).run Try.prog (w.alloc (.map #[⟨.int .i64 1000, .bool true, 0⟩, ⟨.int .i64 1001, .bool true, 1⟩, ⟨.int .i64 1002, .bool true, 2⟩, ⟨.int .i64 1003, .bool true, 3⟩, ⟨.int .i64 1005, .bool false, 4⟩, ⟨.int .i64 1006, .bool false, 5⟩, ⟨.int .i64 1007, .bool true, 6⟩, ⟨.int .i64 1008, .bool true, 7⟩, ⟨.int .i64 1009, .bool true, 8⟩, ⟨.int .i64 1010, .bool true, 9⟩] 10)) = .ok () (w.alloc (.map #[⟨.int .i64 1000, .bool true, 0⟩, ⟨.int .i64 1001, .bool true, 1⟩, ⟨.int .i64 1002, .bool true, 2⟩, ⟨.int .i64 1003, .bool true, 3⟩, ⟨.int .i64 1005, .bool false, 4⟩, ⟨.int .i64 1006, .bool false, 5⟩, ⟨.int .i64 1007, .bool true, 6⟩, ⟨.int .i64 1008, .bool true, 7⟩, ⟨.int .i64 1009, .bool true, 8⟩, ⟨.int .i64 1010, .bool true, 9⟩, ⟨.int .i64 1011, .bool true, 10⟩] 11)) :=
  run_upd_new w 40 3 4 Try.underlying40 Try.underlying3 _ _ _ _ rfl
theorem ins11 (w : World) : (Instr.mapUpdate 40 (.map (some w.heap.size)) (.int .i64 1012) (.bool true)).run Try.prog (w.alloc (.map #[⟨.int .i64 1000, .bool true, 0⟩, ⟨.int .i64 1001, .bool true, 1⟩, ⟨.int .i64 1002, .bool true, 2⟩, ⟨.int .i64 1003, .bool true, 3⟩, ⟨.int .i64 1005, .bool false, 4⟩, ⟨.int .i64 1006, .bool false, 5⟩, ⟨.int .i64 1007, .bool true, 6⟩, ⟨.int .i64 1008, .bool true, 7⟩, ⟨.int .i64 1009, .bool true, 8⟩, ⟨.int .i64 1010, .bool true, 9⟩, ⟨.int .i64 1011, .bool true, 10⟩] 11)) = .ok () (w.alloc (.map #[⟨.int .i64 1000, .bool true, 0⟩, ⟨.int .i64 1001, .bool true, 1⟩, ⟨.int .i64 1002, .bool true, 2⟩, ⟨.int .i64 1003, .bool true, 3⟩, ⟨.int .i64 1005, .bool false, 4⟩, ⟨.int .i64 1006, .bool false, 5⟩, ⟨.int .i64 1007, .bool true, 6⟩, ⟨.int .i64 1008, .bool true, 7⟩, ⟨.int .i64 1009, .bool true, 8⟩, ⟨.int .i64 1010, .bool true, 9⟩, ⟨.int .i64 1011, .bool true, 10⟩, ⟨.int .i64 1012, .bool true, 11⟩] 12)) :=
  run_upd_new w 40 3 4 Try.underlying40 Try.underlying3 _ _ _ _ rfl
theorem ins12 (w : World) : (Instr.mapUpdate 40 (.map (some w.heap.size)) (.int .i64 1013) (.bool true)).run Try.prog (w.alloc (.map #[⟨.int .i64 1000, .bool true, 0⟩, ⟨.int .i64 1001, .bool true, 1⟩, ⟨.int .i64 1002, .bool true, 2⟩, ⟨.int .i64 1003, .bool true, 3⟩, ⟨.int .i64 1005, .bool false, 4⟩, ⟨.int .i64 1006, .bool false, 5⟩, ⟨.int .i64 1007, .bool true, 6⟩, ⟨.int .i64 1008, .bool true, 7⟩, ⟨.int .i64 1009, .bool true, 8⟩, ⟨.int .i64 1010, .bool true, 9⟩, ⟨.int .i64 1011, .bool true, 10⟩, ⟨.int .i64 1012, .bool true, 11⟩] 12)) = .ok () (w.alloc (.map #[⟨.int .i64 1000, .bool true, 0⟩, ⟨.int .i64 1001, .bool true, 1⟩, ⟨.int .i64 1002, .bool true, 2⟩, ⟨.int .i64 1003, .bool true, 3⟩, ⟨.int .i64 1005, .bool false, 4⟩, ⟨.int .i64 1006, .bool false, 5⟩, ⟨.int .i64 1007, .bool true, 6⟩, ⟨.int .i64 1008, .bool true, 7⟩, ⟨.int .i64 1009, .bool true, 8⟩, ⟨.int .i64 1010, .bool true, 9⟩, ⟨.int .i64 1011, .bool true, 10⟩, ⟨.int .i64 1012, .bool true, 11⟩, ⟨.int .i64 1013, .bool true, 12⟩] 13)) :=
  run_upd_new w 40 3 4 Try.underlying40 Try.underlying3 _ _ _ _ rfl
theorem ins13 (w : World) : (Instr.mapUpdate 40 (.map (some w.heap.size)) (.int .i64 1015) (.bool false)).run Try.prog (w.alloc (.map #[⟨.int .i64 1000, .bool true, 0⟩, ⟨.int .i64 1001, .bool true, 1⟩, ⟨.int .i64 1002, .bool true, 2⟩, ⟨.int .i64 1003, .bool true, 3⟩, ⟨.int .i64 1005, .bool false, 4⟩, ⟨.int .i64 1006, .bool false, 5⟩, ⟨.int .i64 1007, .bool true, 6⟩, ⟨.int .i64 1008, .bool true, 7⟩, ⟨.int .i64 1009, .bool true, 8⟩, ⟨.int .i64 1010, .bool true, 9⟩, ⟨.int .i64 1011, .bool true, 10⟩, ⟨.int .i64 1012, .bool true, 11⟩, ⟨.int .i64 1013, .bool true, 12⟩] 13)) = .ok () (w.alloc (.map codesEs 14)) :=
  run_upd_new w 40 3 4 Try.underlying40 Try.underlying3 _ _ _ _ rfl

set_option maxHeartbeats 2000000 in
theorem codes_map (w : World) : Calls Try.prog 31 #[] w fun e w' => e = .returned (.map (some w.heap.size)) ∧ w' = w.alloc (.map codesEs 14) := by
  have hmm := @run_makeMap Try.prog
  have h0 := ins0 w
  have h1 := ins1 w
  have h2 := ins2 w
  have h3 := ins3 w
  have h4 := ins4 w
  have h5 := ins5 w
  have h6 := ins6 w
  have h7 := ins7 w
  have h8 := ins8 w
  have h9 := ins9 w
  have h10 := ins10 w
  have h11 := ins11 w
  have h12 := ins12 w
  have h13 := ins13 w
  go_enter Try.func31, Try.ntmps31
  go_wp2_with fail
  go_ret
  exact ⟨rfl, rfl⟩

/-- Which codes the map tells. -/
def inMap (code : Int) : Bool := decide (1000 ≤ code) && decide (code ≤ 1013) && !decide (1004 ≤ code && code ≤ 1006)
theorem zero_bool (w : World) : (zeroValue 4).run Try.prog w = .ok (.bool false) w := by kernel_rfl
theorem look (w : World) (code : Int) : (Instr.lookup 40 (.map (some w.heap.size)) (.int .i64 code) false).run Try.prog (w.alloc (.map codesEs 14)) = .ok (.bool (inMap code)) (w.alloc (.map codesEs 14)) := by
  by_cases h : 1000 ≤ code ∧ code ≤ 1015
  · have hc : code = 1000 ∨ code = 1001 ∨ code = 1002 ∨ code = 1003 ∨ code = 1004 ∨ code = 1005 ∨ code = 1006 ∨ code = 1007 ∨ code = 1008 ∨ code = 1009 ∨ code = 1010 ∨ code = 1011 ∨ code = 1012 ∨ code = 1013 ∨ code = 1014 ∨ code = 1015 := by omega
    rcases hc with rfl | rfl | rfl | rfl | rfl | rfl | rfl | rfl | rfl | rfl | rfl | rfl | rfl | rfl | rfl | rfl
    all_goals first
      | exact run_look_new w 40 3 4 Try.underlying40 Try.underlying3 codesEs 14 _ _ _ rfl
      | exact run_look_none w 40 3 4 Try.underlying40 Try.underlying3 _ zero_bool codesEs 14 _ rfl
  · have hf : inMap code = false := by
      unfold inMap
      by_cases h1 : 1000 ≤ code
      · have h2 : ¬ code ≤ 1013 := by omega
        simp [h2]
      · simp [h1]
    rw [hf]
    refine run_look_none w 40 3 4 Try.underlying40 Try.underlying3 _ zero_bool codesEs 14 _ ?_
    have hne : ∀ k : Int, 1000 ≤ k → k ≤ 1015 → (code == k) = false := by
      intro k h1 h2
      rw [beq_eq_false_iff_ne]
      omega
    simp [codesEs, Instr.findNow, Instr.sameNow, hne]

/-- Which codes may be heard. -/
def okCode (code : Int) : Bool := inMap code || (decide (3000 ≤ code) && decide (code ≤ 4999))

set_option maxHeartbeats 2000000 in
theorem valid_recv (code : Int) (w : World) : Calls Try.prog 29 #[.int .i64 code] w fun e w' => e = .returned (.bool (okCode code)) ∧ Below w.heap.size w w' := by
  have hl := look w code
  have hb : Below w.heap.size w (w.alloc (.map codesEs 14)) := (Below.refl _ _).alloc (Nat.le_refl _) _
  have HB := hide hb
  clear hb
  cases hm : inMap code with
  | true =>
    rw [hm] at hl
    have hok : okCode code = true := by simp [okCode, hm]
    rw [hok]
    clear hok hm
    go_enter Try.func29, Try.ntmps29
    go_wp2_with (go_at_call 31; refine (codes_map _).mono ?_; rintro e w1 ⟨rfl, rfl⟩)
    go_ret
    exact ⟨rfl, HB.out⟩
  | false =>
    rw [hm] at hl
    have hok : okCode code = (decide (3000 ≤ code) && decide (code ≤ 4999)) := by simp [okCode, hm]
    rw [hok]
    clear hok hm
    by_cases h1 : 3000 ≤ code
    · by_cases h2 : code ≤ 4999
      · rw [show (decide (3000 ≤ code) && decide (code ≤ 4999)) = true by simp [h1, h2]]
        go_enter Try.func29, Try.ntmps29
        go_wp2_with (go_at_call 31; refine (codes_map _).mono ?_; rintro e w1 ⟨rfl, rfl⟩)
        go_ret
        exact ⟨rfl, HB.out⟩
      · rw [show (decide (3000 ≤ code) && decide (code ≤ 4999)) = false by simp [h2]]
        go_enter Try.func29, Try.ntmps29
        go_wp2_with (go_at_call 31; refine (codes_map _).mono ?_; rintro e w1 ⟨rfl, rfl⟩)
        go_ret
        exact ⟨ret_bool (a := decide (code ≤ 4999)) (decide_eq_false (by omega)), HB.out⟩
    · rw [show (decide (3000 ≤ code) && decide (code ≤ 4999)) = false by simp [h1]]
      go_enter Try.func29, Try.ntmps29
      go_wp2_with (go_at_call 31; refine (codes_map _).mono ?_; rintro e w1 ⟨rfl, rfl⟩)
      go_ret
      exact ⟨rfl, HB.out⟩

set_option maxHeartbeats 1000000 in
theorem implValid (code : Int) (w : World) : Calls Try.prog 15 #[.int .i64 code] w fun e w' => e = .returned (.bool (okCode code)) ∧ Below w.heap.size w w' := by
  go_enter Try.func15, Try.ntmps15
  go_wp2_with (first | (go_at_call 23; go_in) | (go_at_call 29; refine (valid_recv code _).mono ?_; rintro e w1 ⟨rfl, hb⟩; have HB := hide hb; clear hb))
  go_ret
  exact ⟨rfl, HB.out⟩

/-- spec.IsCode tells the same. -/
theorem specIsCode (code : Int) (w : World) : Calls Try.prog 16 #[.int .i64 code] w fun e w' => e = .returned (.bool (okCode code)) ∧ w = w' := by
  by_cases h4 : code = 1004
  · subst h4
    go_enter Try.func16, Try.ntmps16
    go_wp2
    go_ret
    exact ⟨rfl, rfl⟩
  by_cases h5 : code = 1005
  · subst h5
    clear h4
    go_enter Try.func16, Try.ntmps16
    go_wp2
    go_ret
    exact ⟨rfl, rfl⟩
  by_cases h6 : code = 1006
  · subst h6
    clear h4 h5
    go_enter Try.func16, Try.ntmps16
    go_wp2
    go_ret
    exact ⟨rfl, rfl⟩
  have e4 : (code == 1004) = false := beq_eq_false_iff_ne.2 h4
  have e5 : (code == 1005) = false := beq_eq_false_iff_ne.2 h5
  have e6 : (code == 1006) = false := beq_eq_false_iff_ne.2 h6
  have hin : inMap code = (decide (1000 ≤ code) && decide (code ≤ 1013)) := by
    unfold inMap
    by_cases h : 1004 ≤ code ∧ code ≤ 1006
    · omega
    · have : (decide (1004 ≤ code) && decide (code ≤ 1006)) = false := by
        rw [Bool.and_eq_false_iff, decide_eq_false_iff_not, decide_eq_false_iff_not]
        omega
      simp [this]
  have hok : okCode code = (decide (1000 ≤ code) && decide (code ≤ 1013) || (decide (3000 ≤ code) && decide (code ≤ 4999))) := by rw [okCode, hin]
  rw [hok]
  clear hok hin h4 h5 h6
  by_cases h1 : 1000 ≤ code
  · by_cases h2 : code ≤ 1013
    · rw [show (decide (1000 ≤ code) && decide (code ≤ 1013) || (decide (3000 ≤ code) && decide (code ≤ 4999))) = true by simp [h1, h2]]
      go_enter Try.func16, Try.ntmps16
      go_wp2
      go_ret
      exact ⟨rfl, rfl⟩
    · by_cases h3 : 3000 ≤ code
      · by_cases h7 : code ≤ 4999
        · rw [show (decide (1000 ≤ code) && decide (code ≤ 1013) || (decide (3000 ≤ code) && decide (code ≤ 4999))) = true by simp [h3, h7]]
          go_enter Try.func16, Try.ntmps16
          go_wp2
          go_ret
          exact ⟨rfl, rfl⟩
        · rw [show (decide (1000 ≤ code) && decide (code ≤ 1013) || (decide (3000 ≤ code) && decide (code ≤ 4999))) = false by simp [h2, h7]]
          go_enter Try.func16, Try.ntmps16
          go_wp2
          go_ret
          exact ⟨rfl, rfl⟩
      · rw [show (decide (1000 ≤ code) && decide (code ≤ 1013) || (decide (3000 ≤ code) && decide (code ≤ 4999))) = false by simp [h2, h3]]
        go_enter Try.func16, Try.ntmps16
        go_wp2
        go_ret
        exact ⟨rfl, rfl⟩
  · have h3 : ¬ 3000 ≤ code := by omega
    rw [show (decide (1000 ≤ code) && decide (code ≤ 1013) || (decide (3000 ≤ code) && decide (code ≤ 4999))) = false by simp [h1, h3]]
    go_enter Try.func16, Try.ntmps16
    go_wp2
    go_ret
    exact ⟨rfl, rfl⟩
end Go.Proofs.Ytcmfbbldojhbeaa

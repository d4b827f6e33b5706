/- bytes.Buffer as a field of the transport: tryGrowByReslice, Len, grow. -/
import Derived.Test.YtjjahfhnebicjaaDoorGrow
import Derived.BigQuiet
import Derived.Deep.RegionHeld
namespace Go.Proofs.YtjjahfhnebicjaaDoor
open Go.ChangeShapes Go.WideShapes Go.ChangeAt Go.RowKit

/-- The transport's block: the reader, the buffer's slice, its offset, its last read. -/
def TrB (w : World) (bt : Nat) (rd bv : Value) (lr : Int) : Prop := Blk w bt 53 [rd, bv, .int .i64 0, .int .i8 lr]
section
variable {w w' : World} {bt : Nat} {rd v : Value} {lr : Int}
theorem TrB.c1 (h : TrB w bt rd v lr) : w.cell? ⟨bt, 1, none⟩ = some v := Blk.cell h 1
theorem TrB.c2 (h : TrB w bt rd v lr) : w.cell? ⟨bt, 2, none⟩ = some (.int .i64 0) := Blk.cell h 2
theorem TrB.c3 (h : TrB w bt rd v lr) : w.cell? ⟨bt, 3, none⟩ = some (.int .i8 lr) := Blk.cell h 3
theorem TrB.fz (h : TrB w bt rd v lr) (i : Nat) : w.frozen? ⟨bt, i, none⟩ = false := Blk.frozen h i
theorem TrB.lt (h : TrB w bt rd v lr) : bt < w.heap.size := Blk.lt h
theorem TrB.set1 (h : TrB w bt rd v lr) (u : Value) : TrB (w.setCell ⟨bt, 1, none⟩ u) bt rd u lr := Blk.set h 1 u
theorem TrB.set2 (h : TrB w bt rd v lr) : TrB (w.setCell ⟨bt, 2, none⟩ (.int .i64 0)) bt rd v lr := Blk.set h 2 _
theorem TrB.set3 (h : TrB w bt rd v lr) (lr' : Int) : TrB (w.setCell ⟨bt, 3, none⟩ (.int .i8 lr')) bt rd v lr' := Blk.set h 3 _
theorem TrB.below {B : Nat} (h : TrB w bt rd v lr) (hb : Below B w w') (hg : bt < B) : TrB w' bt rd v lr := Blk.below h hb hg
theorem TrB.alloc (h : TrB w bt rd v lr) (o : Obj) : TrB (w.alloc o) bt rd v lr := Blk.alloc h o
theorem TrB.drew (h : TrB w bt rd v lr) : TrB w.drew bt rd v lr := h
end

set_option maxHeartbeats 2000000 in
theorem tryGrow_yes (bt : Nat) (rd : Value) (g l c n : Nat) (lr : Int) (w : World) (h : TrB w bt rd (.slice (some ⟨g, 0, none⟩) l c) lr) (hfit : l + n ≤ c) (_ : c ≤ 9223372036854775807) :
    Calls Tryd.prog 72 #[.pointer (some ⟨bt, 1, none⟩), .int .i64 (n : Int)] w fun e w' => e = .returned (.tuple #[.int .i64 (l : Int), .bool true]) ∧ w.setCell ⟨bt, 1, none⟩ (.slice (some ⟨g, 0, none⟩) (l + n) c) = w' := by
  have c1 := h.c1
  have z1 := h.fz 1
  clear h
  go_enter Tryd.func72, Tryd.ntmps72
  go_wp2_with fail
  go_ret2
  exact ⟨rfl, rfl⟩

set_option maxHeartbeats 2000000 in
theorem tryGrow_no (bt : Nat) (rd : Value) (A : Option Addr) (l c n : Nat) (lr : Int) (w : World) (h : TrB w bt rd (.slice A l c) lr) (hlc : l ≤ c) (hfit : c < l + n) (hn : n ≤ 1000000000) (_ : c ≤ 1000000000) :
    Calls Tryd.prog 72 #[.pointer (some ⟨bt, 1, none⟩), .int .i64 (n : Int)] w fun e w' => e = .returned (.tuple #[.int .i64 0, .bool false]) ∧ w = w' := by
  have c1 := h.c1
  clear h
  go_enter Tryd.func72, Tryd.ntmps72
  go_wp2_with fail
  go_ret2
  exact ⟨rfl, rfl⟩

set_option maxHeartbeats 2000000 in
theorem bufLen (bt : Nat) (rd : Value) (A : Option Addr) (l c : Nat) (lr : Int) (w : World) (h : TrB w bt rd (.slice A l c) lr) (hl : l ≤ 1000000000) :
    Calls Tryd.prog 74 #[.pointer (some ⟨bt, 1, none⟩)] w fun e w' => e = .returned (.int .i64 (l : Int)) ∧ w.drew = w' := by
  have c1 := h.c1
  have c2 := h.c2
  clear h
  go_enter Tryd.func74, Tryd.ntmps74
  go_wp2_with fail
  go_region
  go_wp2_with fail
  go_ret
  exact ⟨rfl, rfl⟩

/-- What grow leaves: a new row that begins with the old bytes, and room. -/
def Roomy (w : World) (bt : Nat) (rd : Value) (lr : Int) (l n : Nat) (xs : List Value) (w' : World) : Prop :=
  ∃ N cap cells, TrB w' bt rd (.slice (some ⟨N, 0, none⟩) (l + n) cap) lr ∧ Blk w' N 5 cells ∧ cells.length = cap ∧ cells.take l = xs ∧ l + n ≤ cap ∧ cap ≤ maxLen ∧ w.heap.size ≤ N ∧ Fr (fun k => k = bt) w w'

theorem blk_new {w : World} {n : Nat} (h : w.heap.size = n) (t : TypeId) (Z : Array Value) : Blk (w.alloc (.cells Z t)) n t Z.toList := by
  subst h; exact heap_alloc_new w _
theorem len64 : (madeCells #[Value.int .u8 0] 64).toList.length = 64 := by rw [toList_madeCells_one]; simp

set_option maxHeartbeats 4000000 in
set_option maxRecDepth 100000 in
theorem grow_small (bt : Nat) (rd : Value) (n : Nat) (lr : Int) (w : World) (h : TrB w bt rd (.slice none 0 0) lr) (hn : 1 ≤ n) (h64 : n ≤ 64) :
    Calls Tryd.prog 73 #[.pointer (some ⟨bt, 1, none⟩), .int .i64 (n : Int)] w fun e w' => e = .returned (.int .i64 0) ∧ Roomy w bt rd lr 0 n [] w' := by
  have kl := bufLen bt rd none 0 0 lr w h (by omega)
  have kt := tryGrow_no bt rd none 0 0 n lr w.drew h.drew (Nat.le_refl _) (by omega) (by omega) (by omega)
  have hd := h.drew
  have c1 := h.c1
  have c2 := h.c2
  have z1 := fun o => (h.alloc o).fz 1
  have c1a := fun o => (h.alloc o).c1
  obtain ⟨iu, hiu, hzu, hsu, hbu⟩ := info_parts Tryd.info_u8
  have hmk := fun u => run_make (P := Tryd.prog) u 26 5 iu (.int .u8 0) Tryd.underlying26 hiu hzu .i64 .i64 (n : Int) 64 (by omega) (by omega) (by rw [hbu]; omega) (by omega)
  have hnil := fun w => Lib.run_eql_slice_nil (P := Tryd.prog) w 26 5 none 0 0 0 0 Tryd.underlying26
  have HL := hide kl
  have HT := hide kt
  have HB := hide h
  clear kl kt h hd
  go_enter Tryd.func73, Tryd.ntmps73
  go_wp2_with fail
  refine HL.out.mono ?_
  rintro e w' ⟨rfl, rfl⟩
  go_wp2_with fail
  refine HT.out.mono ?_
  rintro e w' ⟨rfl, rfl⟩
  go_wp2_with fail
  go_ret
  have hb := HB.out
  have hlt := hb.lt
  refine ⟨rfl, w.heap.size, 64, (madeCells #[Value.int .u8 0] 64).toList, ?_, ?_, ?_, rfl, by omega, by decide, Nat.le_refl _, ?_⟩
  · rw [Nat.zero_add]; exact ((hb.alloc _).set1 _).drew
  · exact (blk_new rfl _ _).far (by show w.heap.size ≠ bt; omega) _
  · exact len64
  · exact (((Fr.refl (fun k => k = bt) w).alloc _).setCell (p := ⟨bt, 1, none⟩) (fun _ => rfl) _).drew

set_option maxHeartbeats 4000000 in
set_option maxRecDepth 100000 in
theorem grow_nil (bt : Nat) (rd : Value) (n : Nat) (lr : Int) (w : World) (h : TrB w bt rd (.slice none 0 0) lr) (h64 : 64 < n) (hlim : n ≤ 1000000000) :
    Calls Tryd.prog 73 #[.pointer (some ⟨bt, 1, none⟩), .int .i64 (n : Int)] w fun e w' => e = .returned (.int .i64 0) ∧ Roomy w bt rd lr 0 n [] w' := by
  have kl := bufLen bt rd none 0 0 lr w h (by omega)
  have kt := tryGrow_no bt rd none 0 0 n lr w.drew h.drew (Nat.le_refl _) (by omega) (by omega) (by omega)
  have c1 := h.c1
  have c2 := h.c2
  have hlt := h.lt
  have hnil := fun w => Lib.run_eql_slice_nil (P := Tryd.prog) w 26 5 none 0 0 0 0 Tryd.underlying26
  have hwn : IntKind.i64.wrap (n : Int) = n := by rw [IntKind.wrap_i64]; omega
  have HL := hide kl
  have HT := hide kt
  have HB := hide h
  clear kl kt h
  go_enter Tryd.func73, Tryd.ntmps73
  go_wp2_with fail
  refine HL.out.mono ?_
  rintro e w' ⟨rfl, rfl⟩
  go_wp2_with fail
  refine HT.out.mono ?_
  rintro e w' ⟨rfl, rfl⟩
  go_wp2_with fail
  go_region_with (
      go_at_call 76
      refine (growSlice_nil n _ (by omega) hlim).mono ?_
      rintro e w2 ⟨cap2, cells, rfl, hN, hcsz, htk, hcap2, hcm2, hbel⟩
      have hb2 : TrB w2 bt rd (.slice none 0 0) lr := HB.out.drew.drew.below hbel hlt
      have d1 := hb2.c1
      have d2 := hb2.c2
      have e1 := hb2.fz 1
      have e2 := hb2.fz 2)
  all_goals (
    go_wp2_with fail
    go_ret
    refine ⟨rfl, w.heap.size, cap2, cells, ?_, ?_, hcsz, by simp, by omega, hcm2, Nat.le_refl _, ?_⟩
    · rw [Nat.zero_add]; exact ((hb2.set1 _).set2).set1 _
    · exact ((Blk.far hN (by show w.heap.size ≠ bt; omega) _).far (by show w.heap.size ≠ bt; omega) _).far (by show w.heap.size ≠ bt; omega) _
    · have h0 : Fr (fun k => k = bt) w w2 := ((Fr.refl _ w).drew.drew).then_ (below_fr hbel (fun _ => False)) (fun _ _ f => f.elim)
      exact ((h0.setCell (p := ⟨bt, 1, none⟩) (fun _ => rfl) _).setCell (p := ⟨bt, 2, none⟩) (fun _ => rfl) _).setCell (p := ⟨bt, 1, none⟩) (fun _ => rfl) _)

set_option maxHeartbeats 4000000 in
set_option maxRecDepth 100000 in
theorem grow_row (bt : Nat) (rd : Value) (g l c n : Nat) (lr : Int) (cs : List Value) (w : World) (h : TrB w bt rd (.slice (some ⟨g, 0, none⟩) l c) lr) (hg : Blk w g 5 cs) (hcs : cs.length = c) (hl1 : 1 ≤ l) (hlc : l ≤ c) (hn : 1 ≤ n) (hfit : c < l + n) (hlim : l + n ≤ 1000000000)
    (h1 : ∀ v ∈ cs.take l, v.oneCell' = true) :
    Calls Tryd.prog 73 #[.pointer (some ⟨bt, 1, none⟩), .int .i64 (n : Int)] w fun e w' => e = .returned (.int .i64 (l : Int)) ∧ Roomy w bt rd lr l n (cs.take l) w' := by
  have kl := bufLen bt rd _ l c lr w h (by omega)
  have kt := tryGrow_no bt rd _ l c n lr w.drew h.drew hlc (by omega) (by omega) (by omega)
  have c1 := h.c1
  have c2 := h.c2
  have hlt := h.lt
  have hnil := fun w => Lib.run_eql_slice_nil (P := Tryd.prog) w 26 5 (some ⟨g, 0, none⟩) l c 0 0 Tryd.underlying26
  have hwn : IntKind.i64.wrap (n : Int) = n := by rw [IntKind.wrap_i64]; omega
  have hl0 : ((l : Int) == 0) = false := beq_eq_false_iff_ne.2 (by omega)
  have hhalf : ¬ ((n : Int) ≤ (c : Int) / 2 - (l : Int)) := by omega
  have HL := hide kl
  have HT := hide kt
  have HB := hide h
  have HG := hide hg
  have HO := hide h1
  have HC := hide hcs
  clear kl kt h hg h1 hcs
  go_enter Tryd.func73, Tryd.ntmps73
  go_wp2_with fail
  refine HL.out.mono ?_
  rintro e w' ⟨rfl, rfl⟩
  go_wp2_with fail
  refine HT.out.mono ?_
  rintro e w' ⟨rfl, rfl⟩
  go_wp2_with fail
  go_region_with (
      go_at_call 76
      refine (growSlice_row g l c n _ cs _ ?_ HC.out hlc hn hlim (by omega) HO.out rfl).mono ?_
      exact HG.out
      rintro e w2 ⟨cap2, cells, rfl, hN, hcsz, htk, hcap2, hcm2, hbel⟩
      have hb2 : TrB w2 bt rd (.slice (some ⟨g, 0, none⟩) l c) lr := HB.out.drew.drew.below hbel hlt
      have d1 := hb2.c1
      have d2 := hb2.c2
      have e1 := hb2.fz 1
      have e2 := hb2.fz 2)
  all_goals (
    go_wp2_with fail
    go_ret
    refine ⟨rfl, w.heap.size, cap2, cells, ?_, ?_, hcsz, htk, by omega, hcm2, Nat.le_refl _, ?_⟩
    · exact ((hb2.set1 _).set2).set1 _
    · exact ((Blk.far hN (by show w.heap.size ≠ bt; omega) _).far (by show w.heap.size ≠ bt; omega) _).far (by show w.heap.size ≠ bt; omega) _
    · have h0 : Fr (fun k => k = bt) w w2 := ((Fr.refl _ w).drew.drew).then_ (below_fr hbel (fun _ => False)) (fun _ _ f => f.elim)
      exact ((h0.setCell (p := ⟨bt, 1, none⟩) (fun _ => rfl) _).setCell (p := ⟨bt, 2, none⟩) (fun _ => rfl) _).setCell (p := ⟨bt, 1, none⟩) (fun _ => rfl) _)
end Go.Proofs.YtjjahfhnebicjaaDoor

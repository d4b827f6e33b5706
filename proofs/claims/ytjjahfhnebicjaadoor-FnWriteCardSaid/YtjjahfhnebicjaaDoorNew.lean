/- masks, bytes.NewReader, bufio.NewReaderSize, newConn. -/
import Derived.Test.YtjjahfhnebicjaaDoorPut2
namespace Go.Proofs.YtjjahfhnebicjaaDoor
open Go.ChangeShapes Go.WideShapes Go.ChangeAt Go.RowKit

set_option maxHeartbeats 1000000 in
set_option maxRecDepth 10000 in
theorem masksNew (w : World) (A : Option Addr) (n c : Nat) :
    Calls Tryd.prog 22 #[.slice A n c] w fun e w' => e = .returned (.func (.func 29) #[] #[.pointer (some ⟨w.heap.size, 0, none⟩), .pointer (some ⟨w.heap.size + 1, 0, none⟩)]) ∧
      Blk w' w.heap.size 22 [.slice A n c] ∧ Blk w' (w.heap.size + 1) 3 [.int .i64 0] ∧ w'.heap.size = w.heap.size + 2 ∧ Below w.heap.size w w' := by
  go_enter Tryd.func22, Tryd.ntmps22
  go_wp2_with fail
  go_ret
  refine ⟨rfl, (Blk.new w _ _).alloc _, ?_, by simp, ((Below.refl _ _).alloc (Nat.le_refl _) _).alloc (by simp) _⟩
  have := Blk.new (w.alloc (.cells #[.slice A n c] 22)) 3 [.int .i64 0]
  simpa using this

set_option maxHeartbeats 1000000 in
set_option maxRecDepth 10000 in
theorem readerNew (w : World) :
    Calls Tryd.prog 20 #[.slice none 0 0] w fun e w' => e = .returned (.pointer (some ⟨w.heap.size, 0, none⟩)) ∧ w'.heap.size = w.heap.size + 1 ∧ Below w.heap.size w w' := by
  go_enter Tryd.func20, Tryd.ntmps20
  go_wp2_with fail
  go_ret
  exact ⟨rfl, by simp, (Below.refl _ _).alloc (Nat.le_refl _) _⟩

set_option maxHeartbeats 1000000 in
set_option maxRecDepth 10000 in
theorem brReset (w : World) (g : Nat) (a0 a1 a2 a3 a4 a5 a6 : Value) (A : Option Addr) (n c : Nat) (u : TypeId) (r : Value) (hb : Blk w g 104 [a0, a1, a2, a3, a4, a5, a6]) :
    Calls Tryd.prog 44 #[.pointer (some ⟨g, 0, none⟩), .slice A n c, .iface u r] w fun e w' => e = .returned (.tuple #[]) ∧ Fr (fun k => k = g) w w' := by
  have hf0 : Fr (fun k => k = g) w w := Fr.refl _ _
  have hb0 := hb
  have q0 : (w).cell? ⟨g, 0, none⟩ = some a0 := hb0.cell 0
  have z0 : (w).frozen? ⟨g, 0, none⟩ = false := hb0.frozen 0
  have hb1 : Blk ((w).setCell ⟨g, 0, none⟩ (.slice A n c)) g 104 _ := hb0.set 0 (.slice A n c)
  have hf1 := hf0.setCell (p := ⟨g, 0, none⟩) (fun _ => rfl) (.slice A n c)
  have q1 : ((w).setCell ⟨g, 0, none⟩ (.slice A n c)).cell? ⟨g, 1, none⟩ = some a1 := hb1.cell 1
  have z1 : ((w).setCell ⟨g, 0, none⟩ (.slice A n c)).frozen? ⟨g, 1, none⟩ = false := hb1.frozen 1
  have hb2 : Blk (((w).setCell ⟨g, 0, none⟩ (.slice A n c)).setCell ⟨g, 1, none⟩ (.iface u r)) g 104 _ := hb1.set 1 (.iface u r)
  have hf2 := hf1.setCell (p := ⟨g, 1, none⟩) (fun _ => rfl) (.iface u r)
  have q2 : (((w).setCell ⟨g, 0, none⟩ (.slice A n c)).setCell ⟨g, 1, none⟩ (.iface u r)).cell? ⟨g, 2, none⟩ = some a2 := hb2.cell 2
  have z2 : (((w).setCell ⟨g, 0, none⟩ (.slice A n c)).setCell ⟨g, 1, none⟩ (.iface u r)).frozen? ⟨g, 2, none⟩ = false := hb2.frozen 2
  have hb3 : Blk ((((w).setCell ⟨g, 0, none⟩ (.slice A n c)).setCell ⟨g, 1, none⟩ (.iface u r)).setCell ⟨g, 2, none⟩ (.int .i64 0)) g 104 _ := hb2.set 2 (.int .i64 0)
  have hf3 := hf2.setCell (p := ⟨g, 2, none⟩) (fun _ => rfl) (.int .i64 0)
  have q3 : ((((w).setCell ⟨g, 0, none⟩ (.slice A n c)).setCell ⟨g, 1, none⟩ (.iface u r)).setCell ⟨g, 2, none⟩ (.int .i64 0)).cell? ⟨g, 3, none⟩ = some a3 := hb3.cell 3
  have z3 : ((((w).setCell ⟨g, 0, none⟩ (.slice A n c)).setCell ⟨g, 1, none⟩ (.iface u r)).setCell ⟨g, 2, none⟩ (.int .i64 0)).frozen? ⟨g, 3, none⟩ = false := hb3.frozen 3
  have hb4 : Blk (((((w).setCell ⟨g, 0, none⟩ (.slice A n c)).setCell ⟨g, 1, none⟩ (.iface u r)).setCell ⟨g, 2, none⟩ (.int .i64 0)).setCell ⟨g, 3, none⟩ (.int .i64 0)) g 104 _ := hb3.set 3 (.int .i64 0)
  have hf4 := hf3.setCell (p := ⟨g, 3, none⟩) (fun _ => rfl) (.int .i64 0)
  have q4 : (((((w).setCell ⟨g, 0, none⟩ (.slice A n c)).setCell ⟨g, 1, none⟩ (.iface u r)).setCell ⟨g, 2, none⟩ (.int .i64 0)).setCell ⟨g, 3, none⟩ (.int .i64 0)).cell? ⟨g, 4, none⟩ = some a4 := hb4.cell 4
  have z4 : (((((w).setCell ⟨g, 0, none⟩ (.slice A n c)).setCell ⟨g, 1, none⟩ (.iface u r)).setCell ⟨g, 2, none⟩ (.int .i64 0)).setCell ⟨g, 3, none⟩ (.int .i64 0)).frozen? ⟨g, 4, none⟩ = false := hb4.frozen 4
  have hb5 : Blk ((((((w).setCell ⟨g, 0, none⟩ (.slice A n c)).setCell ⟨g, 1, none⟩ (.iface u r)).setCell ⟨g, 2, none⟩ (.int .i64 0)).setCell ⟨g, 3, none⟩ (.int .i64 0)).setCell ⟨g, 4, none⟩ (.nilIface)) g 104 _ := hb4.set 4 (.nilIface)
  have hf5 := hf4.setCell (p := ⟨g, 4, none⟩) (fun _ => rfl) (.nilIface)
  have q5 : ((((((w).setCell ⟨g, 0, none⟩ (.slice A n c)).setCell ⟨g, 1, none⟩ (.iface u r)).setCell ⟨g, 2, none⟩ (.int .i64 0)).setCell ⟨g, 3, none⟩ (.int .i64 0)).setCell ⟨g, 4, none⟩ (.nilIface)).cell? ⟨g, 5, none⟩ = some a5 := hb5.cell 5
  have z5 : ((((((w).setCell ⟨g, 0, none⟩ (.slice A n c)).setCell ⟨g, 1, none⟩ (.iface u r)).setCell ⟨g, 2, none⟩ (.int .i64 0)).setCell ⟨g, 3, none⟩ (.int .i64 0)).setCell ⟨g, 4, none⟩ (.nilIface)).frozen? ⟨g, 5, none⟩ = false := hb5.frozen 5
  have hb6 : Blk (((((((w).setCell ⟨g, 0, none⟩ (.slice A n c)).setCell ⟨g, 1, none⟩ (.iface u r)).setCell ⟨g, 2, none⟩ (.int .i64 0)).setCell ⟨g, 3, none⟩ (.int .i64 0)).setCell ⟨g, 4, none⟩ (.nilIface)).setCell ⟨g, 5, none⟩ (.int .i64 (-1))) g 104 _ := hb5.set 5 (.int .i64 (-1))
  have hf6 := hf5.setCell (p := ⟨g, 5, none⟩) (fun _ => rfl) (.int .i64 (-1))
  have q6 : (((((((w).setCell ⟨g, 0, none⟩ (.slice A n c)).setCell ⟨g, 1, none⟩ (.iface u r)).setCell ⟨g, 2, none⟩ (.int .i64 0)).setCell ⟨g, 3, none⟩ (.int .i64 0)).setCell ⟨g, 4, none⟩ (.nilIface)).setCell ⟨g, 5, none⟩ (.int .i64 (-1))).cell? ⟨g, 6, none⟩ = some a6 := hb6.cell 6
  have z6 : (((((((w).setCell ⟨g, 0, none⟩ (.slice A n c)).setCell ⟨g, 1, none⟩ (.iface u r)).setCell ⟨g, 2, none⟩ (.int .i64 0)).setCell ⟨g, 3, none⟩ (.int .i64 0)).setCell ⟨g, 4, none⟩ (.nilIface)).setCell ⟨g, 5, none⟩ (.int .i64 (-1))).frozen? ⟨g, 6, none⟩ = false := hb6.frozen 6
  have hb7 : Blk ((((((((w).setCell ⟨g, 0, none⟩ (.slice A n c)).setCell ⟨g, 1, none⟩ (.iface u r)).setCell ⟨g, 2, none⟩ (.int .i64 0)).setCell ⟨g, 3, none⟩ (.int .i64 0)).setCell ⟨g, 4, none⟩ (.nilIface)).setCell ⟨g, 5, none⟩ (.int .i64 (-1))).setCell ⟨g, 6, none⟩ (.int .i64 (-1))) g 104 _ := hb6.set 6 (.int .i64 (-1))
  have hf7 := hf6.setCell (p := ⟨g, 6, none⟩) (fun _ => rfl) (.int .i64 (-1))
  have HF := hide hf7
  clear hb hb0 hb1 hb2 hb3 hb4 hb5 hb6 hb7 hf0 hf1 hf2 hf3 hf4 hf5 hf6 hf7
  go_enter Tryd.func44, Tryd.ntmps44
  go_wp2_with fail
  go_end0
  exact ⟨rfl, HF.out⟩

theorem notReader (bt : Nat) (w : World) : (Instr.typeAssert (.iface 45 (.pointer (some ⟨bt, 0, none⟩))) 101 71 true).run Tryd.prog w = .ok (.tuple #[.pointer none, .bool false]) w := by kernel_rfl

set_option maxHeartbeats 1000000 in
set_option maxRecDepth 10000 in
theorem readerSize (w : World) (bt : Nat) :
    Calls Tryd.prog 33 #[.iface 45 (.pointer (some ⟨bt, 0, none⟩)), .int .i64 4096] w fun e w' => ∃ r, e = .returned (.pointer (some r)) ∧ Below w.heap.size w w' := by
  obtain ⟨i0, hi0, hz0, hz1, hz2⟩ := info_parts Tryd.info_u8
  have hmk := run_mk (P := Tryd.prog) 26 5 i0 Tryd.underlying26 hi0 hz0 hz1 hz2 4096 (by omega)
  rw [show ((4096 : Nat) : Int) = 4096 from rfl] at hmk
  have hnr := notReader bt
  generalize zb 4096 = zs at *
  go_enter Tryd.func33, Tryd.ntmps33
  go_wp2_with fail
  have hB := (Blk.new w 104 [.slice none 0 0, .nilIface, .int .i64 0, .int .i64 0, .nilIface, .int .i64 0, .int .i64 0]).alloc (.cells zs.toArray 5)
  refine (brReset _ _ _ _ _ _ _ _ _ _ _ _ _ _ hB).mono ?_
  rintro e w2 ⟨rfl, hf⟩
  have hb2 : Below w.heap.size w w2 := by
    have h1 : Fr (fun _ => False) w w2 := (((Fr.refl (fun _ => False) w).alloc _).alloc _).then_ hf (fun k hk e => by omega)
    exact h1.toBelow (Nat.le_refl _) (fun k e => e.elim)
  have HB2 := hide hb2
  clear hb2 hf hB
  go_wp2_with fail
  go_ret
  exact ⟨_, rfl, HB2.out⟩

@[go_sem] theorem run_store_fn {P : Program} (w : World) (a : Addr) (m : Mode) (fn : Fn) (first captured : Array Value) : (store a (.func fn first captured) m).run P w = stored P w a (.func fn first captured) m := run_store P w a _ m rfl

set_option maxHeartbeats 1000000 in
set_option maxRecDepth 10000 in
theorem setClose (w : World) (g : Nat) (cs : List Value) (hl : cs.length = 26) (hb : Blk w g 81 cs) :
    Calls Tryd.prog 34 #[.pointer (some ⟨g, 0, none⟩), .nilFunc] w fun e w' => e = .returned (.tuple #[]) ∧ ∃ u, Blk w' g 81 (cs.set 23 u) ∧ Fr (fun k => k = g) w w' := by
  have hq : ∀ o, (w.alloc o).cell? ⟨g, 23, none⟩ = some cs[23] := fun o => ((hb.alloc o).cell 23).trans (List.getElem?_eq_getElem (by omega))
  have hz := fun o => (hb.alloc o).frozen 23
  generalize cs[23] = old at hq
  have hn : ∀ w : World, (binOp .eql 78 .nilFunc .nilFunc).run Tryd.prog w = .ok (.bool true) w := fun w => by kernel_rfl
  have HB := hide hb
  clear hb
  go_enter Tryd.func34, Tryd.ntmps34
  go_wp2_with fail
  go_end0
  exact ⟨rfl, _, (HB.out.alloc _).set 23 _, ((Fr.refl (fun k => k = g) w).alloc _).setCell (p := ⟨g, 23, none⟩) (fun _ => rfl) _⟩

set_option maxHeartbeats 1000000 in
set_option maxRecDepth 10000 in
theorem setPing (w : World) (g : Nat) (cs : List Value) (hl : cs.length = 26) (hb : Blk w g 81 cs) :
    Calls Tryd.prog 35 #[.pointer (some ⟨g, 0, none⟩), .nilFunc] w fun e w' => e = .returned (.tuple #[]) ∧ ∃ u, Blk w' g 81 (cs.set 22 u) ∧ Fr (fun k => k = g) w w' := by
  have hq : ∀ o, (w.alloc o).cell? ⟨g, 22, none⟩ = some cs[22] := fun o => ((hb.alloc o).cell 22).trans (List.getElem?_eq_getElem (by omega))
  have hz := fun o => (hb.alloc o).frozen 22
  generalize cs[22] = old at hq
  have hn : ∀ w : World, (binOp .eql 77 .nilFunc .nilFunc).run Tryd.prog w = .ok (.bool true) w := fun w => by kernel_rfl
  have HB := hide hb
  clear hb
  go_enter Tryd.func35, Tryd.ntmps35
  go_wp2_with fail
  go_end0
  exact ⟨rfl, _, (HB.out.alloc _).set 22 _, ((Fr.refl (fun k => k = g) w).alloc _).setCell (p := ⟨g, 22, none⟩) (fun _ => rfl) _⟩

set_option maxHeartbeats 1000000 in
set_option maxRecDepth 10000 in
theorem setPong (w : World) (g : Nat) (cs : List Value) (hl : cs.length = 26) (hb : Blk w g 81 cs) :
    Calls Tryd.prog 36 #[.pointer (some ⟨g, 0, none⟩), .nilFunc] w fun e w' => e = .returned (.tuple #[]) ∧ ∃ u, Blk w' g 81 (cs.set 21 u) ∧ Fr (fun k => k = g) w w' := by
  have hq : w.cell? ⟨g, 21, none⟩ = some cs[21] := (hb.cell 21).trans (List.getElem?_eq_getElem (by omega))
  have hz := hb.frozen 21
  generalize cs[21] = old at hq
  have hn : ∀ w : World, (binOp .eql 77 .nilFunc .nilFunc).run Tryd.prog w = .ok (.bool true) w := fun w => by kernel_rfl
  have HB := hide hb
  clear hb
  go_enter Tryd.func36, Tryd.ntmps36
  go_wp2_with fail
  go_end0
  exact ⟨rfl, _, HB.out.set 21 _, (Fr.refl (fun k => k = g) w).setCell (p := ⟨g, 21, none⟩) (fun _ => rfl) _⟩

theorem set_behind {α : Type} (a b : List α) (j : Nat) (u : α) (hj : a.length ≤ j) : (a ++ b).set j u = a ++ b.set (j - a.length) u := by
  rw [List.set_append, if_neg (by omega)]

set_option maxHeartbeats 1000000 in
set_option maxRecDepth 10000 in
theorem connNew (w : World) (bt : Nat) (srv : Bool) (size : Nat) (h1 : 1 ≤ size) (h2 : size ≤ 60000) (bk bi : Nat) :
    Calls Tryd.prog 28 #[.iface 45 (.pointer (some ⟨bt, 0, none⟩)), .bool srv, .int .i64 0, .int .i64 (size : Int), .func (.func 29) #[] #[.pointer (some ⟨bk, 0, none⟩), .pointer (some ⟨bi, 0, none⟩)]] w fun e w' =>
      ∃ bc bw T sub, e = .returned (.pointer (some ⟨bc, 0, none⟩)) ∧ w.heap.size ≤ bw ∧ bw < bc ∧
        Blk w' bc 81 ([.iface 45 (.pointer (some ⟨bt, 0, none⟩)), .bool srv, sub, .slice (some ⟨bw, 0, none⟩) (size + 14) (size + 14), .int .i64 ((size + 14 : Nat) : Int), .nilIface, .bool false, .nilIface, .func (.func 29) #[] #[.pointer (some ⟨bk, 0, none⟩), .pointer (some ⟨bi, 0, none⟩)]] ++ T) ∧
        (∃ cs, Blk w' bw 5 cs ∧ cs.length = size + 14) ∧ Below w.heap.size w w' := by
  obtain ⟨i0, hi0, hz0, hz1, hz2⟩ := info_parts Tryd.info_u8
  have hmk := run_mk (P := Tryd.prog) 26 5 i0 Tryd.underlying26 hi0 hz0 hz1 hz2 (size + 14) (by omega)
  rw [show ((size + 14 : Nat) : Int) = (size : Int) + 14 by omega] at hmk
  have hzl := zb_length (size + 14)
  generalize zb (size + 14) = zs at *
  have hsz : decide ((size : Int) ≤ 0) = false := decide_eq_false (by omega)
  have kr := readerSize w bt
  have KR := hide kr
  have HZl := hide hzl
  clear kr hzl
  go_enter Tryd.func28, Tryd.ntmps28
  go_wp2_with fail
  refine KR.out.mono ?_
  rintro e w1 ⟨r, rfl, hb1⟩
  have HB1 := hide hb1
  clear hb1
  go_wp2_with fail
  have hC := Blk.new (w1.alloc (.cells zs.toArray 5)) 81 [.iface 45 (.pointer (some ⟨bt, 0, none⟩)), .bool srv, .string { data := #[] }, .slice (some ⟨w1.heap.size, 0, none⟩) (size + 14) (size + 14), .int .i64 ((size : Int) + 14), .nilIface, .bool false, .nilIface, .func (.func 29) #[] #[.pointer (some ⟨bk, 0, none⟩), .pointer (some ⟨bi, 0, none⟩)], .nilIface, .nilIface, .pointer (some r), .int .i64 0, .bool true, .int .i64 0, .int .i64 0, .int .i64 0, .int .u8 0, .int .u8 0, .int .u8 0, .int .u8 0, .nilFunc, .nilFunc, .nilFunc, .int .i64 0, .pointer none]
  rw [show (w1.alloc (.cells zs.toArray 5)).heap.size = w1.heap.size + 1 by simp] at hC
  have hW := (Blk.new w1 5 zs).alloc (.cells #[.iface 45 (.pointer (some ⟨bt, 0, none⟩)), .bool srv, .string { data := #[] }, .slice (some ⟨w1.heap.size, 0, none⟩) (size + 14) (size + 14), .int .i64 ((size : Int) + 14), .nilIface, .bool false, .nilIface, .func (.func 29) #[] #[.pointer (some ⟨bk, 0, none⟩), .pointer (some ⟨bi, 0, none⟩)], .nilIface, .nilIface, .pointer (some r), .int .i64 0, .bool true, .int .i64 0, .int .i64 0, .int .i64 0, .int .u8 0, .int .u8 0, .int .u8 0, .int .u8 0, .nilFunc, .nilFunc, .nilFunc, .int .i64 0, .pointer none] 81)
  refine (setClose _ _ _ rfl hC).mono ?_
  rintro e w2 ⟨rfl, u2, hC2, hf2⟩
  have HC2 := hide hC2
  have HF2 := hide hf2
  have HW := hide hW
  clear hC2 hf2 hW hC
  go_wp2_with fail
  refine (setPing _ _ _ (by simp) HC2.out).mono ?_
  rintro e w3 ⟨rfl, u3, hC3, hf3⟩
  have HC3 := hide hC3
  have HF3 := hide hf3
  clear hC3 hf3
  go_wp2_with fail
  refine (setPong _ _ _ (by simp) HC3.out).mono ?_
  rintro e w4 ⟨rfl, u4, hC4, hf4⟩
  have HC4 := hide hC4
  have HF4 := hide hf4
  clear hC4 hf4
  go_wp2_with fail
  go_ret
  have hne : ¬ w1.heap.size = w1.heap.size + 1 := by omega
  have hf24 := (HF2.out.trans HF3.out).trans HF4.out
  have hw4 := HW.out.kept hf24 hne
  refine ⟨w1.heap.size + 1, w1.heap.size, _, _, rfl, HB1.out.size, by omega, HC4.out, ⟨_, hw4, HZl.out⟩, ?_⟩
  have hfa : Fr (fun _ => False) w1 w4 := (((Fr.refl (fun _ => False) w1).alloc _).alloc _).then_ hf24 (fun k hk e => by omega)
  exact HB1.out.trans ((hfa.toBelow (Nat.le_refl _) (fun k e => e.elim)).mono HB1.out.size)

theorem zzNew (w : World) (bt : Nat) (srv : Bool) (size : Nat) (h1 : 1 ≤ size) (h2 : size ≤ 60000) (bk bi : Nat) :
    Calls Tryd.prog 21 #[.iface 45 (.pointer (some ⟨bt, 0, none⟩)), .bool srv, .int .i64 0, .int .i64 (size : Int), .func (.func 29) #[] #[.pointer (some ⟨bk, 0, none⟩), .pointer (some ⟨bi, 0, none⟩)]] w fun e w' =>
      ∃ bc bw T sub, e = .returned (.pointer (some ⟨bc, 0, none⟩)) ∧ w.heap.size ≤ bw ∧ bw < bc ∧
        Blk w' bc 81 ([.iface 45 (.pointer (some ⟨bt, 0, none⟩)), .bool srv, sub, .slice (some ⟨bw, 0, none⟩) (size + 14) (size + 14), .int .i64 ((size + 14 : Nat) : Int), .nilIface, .bool false, .nilIface, .func (.func 29) #[] #[.pointer (some ⟨bk, 0, none⟩), .pointer (some ⟨bi, 0, none⟩)]] ++ T) ∧
        (∃ cs, Blk w' bw 5 cs ∧ cs.length = size + 14) ∧ Below w.heap.size w w' := by
  have kc := connNew w bt srv size h1 h2 bk bi
  have KC := hide kc
  clear kc
  go_enter Tryd.func21, Tryd.ntmps21
  go_wp2_with fail
  refine KC.out.mono ?_
  rintro e w1 ⟨bc, bw, T, sub, rfl, h⟩
  have H := hide h
  clear h
  go_wp2_with fail
  go_ret
  exact ⟨bc, bw, T, sub, rfl, H.out⟩
end Go.Proofs.YtjjahfhnebicjaaDoor

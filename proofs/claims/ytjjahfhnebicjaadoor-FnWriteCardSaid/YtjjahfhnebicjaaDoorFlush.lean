/- (*Conn).write of two pieces; beginMessage. -/
import Derived.Test.YtjjahfhnebicjaaDoorControl2
import Derived.Test.YtjjahfhnebicjaaDoorClosew
namespace Go.Proofs.YtjjahfhnebicjaaDoor
open Go.ChangeShapes Go.WideShapes Go.ChangeAt Go.RowKit

set_option maxHeartbeats 2000000 in
set_option maxRecDepth 100000 in
theorem connWrite_two (E : Env) (ok : E.Ok) (w : World) (wr v : Value) (iw : Bool) (xs ys zs : List UInt8) (i : Nat) (ft : Int) (A : Option Addr) (c : Nat) (A1 : Option Addr) (c1 : Nat) (h : St E w wr iw .nilIface v xs i) (hft : ft ≠ 8) (hy : 1 ≤ ys.length) (hz : 1 ≤ zs.length) (hlim : xs.length + ys.length + zs.length ≤ 1000000000)
    (hr : Rd w w.heap.size A (bv ys)) (hr1 : Rd w w.heap.size A1 (bv zs)) (hA : ∀ g o, A = some ⟨g, o, none⟩ → g ≠ E.bt ∧ v.ownBlock ≠ some g) (hA1 : ∀ g o, A1 = some ⟨g, o, none⟩ → g ≠ E.bt ∧ v.ownBlock ≠ some g) :
    Calls Tryd.prog 52 #[.pointer (some ⟨E.bc, 0, none⟩), .int .i64 ft, .slice A ys.length c, .slice A1 zs.length c1] w fun en w' => en = .returned .nilIface ∧ Left E w wr iw v (xs ++ (ys ++ zs)) i w' := by
  have c7 : w.cell? ⟨E.bc, 7, none⟩ = some .nilIface := h.conn.cell 7
  have he := errNe
  have h8 : (ft == 8) = false := beq_eq_false_iff_ne.2 hft
  have hz0 : ((zs.length : Int) == 0) = false := beq_eq_false_iff_ne.2 (by omega)
  have hb1 : Below w.heap.size w (w.alloc (.cells #[.slice A ys.length c, .slice A1 zs.length c1] 26)) := (Below.refl _ _).alloc (Nat.le_refl _) _
  have hG := Blk.new w 26 [.slice A ys.length c, .slice A1 zs.length c1]
  have kw := writeBufs E ok (w.alloc (.cells #[.slice A ys.length c, .slice A1 zs.length c1] 26)) wr v iw xs ys zs i w.heap.size A c A1 c1 w.heap.size (h.below ok hb1) hy hz hlim (hr.below hb1) (hr1.below hb1) hb1.size hA hA1 hG
    ⟨by have := h.size; have := ok.bt; omega, fun e => by have := (h.buf.own_ge e).2; omega⟩
  have K := hide kw
  have H := hide h
  clear kw h hr hr1 hA hA1 hG hb1
  go_enter Tryd.func52, Tryd.ntmps52
  go_wp2_with fail
  refine K.out.mono ?_
  rintro e w1 ⟨rfl, v1, hst, hf, hv⟩
  have HS := hide (And.intro hst (And.intro hf hv))
  clear hst hf hv
  go_wp2_with fail
  go_ret
  refine ⟨rfl, v1, HS.out.1, ?_, ?_⟩
  · exact ((Fr.refl _ w).alloc _).then_ HS.out.2.1 (fun k _ e => e)
  · rcases HS.out.2.2 with h | ⟨N, h, hN⟩
    · exact .inl h
    · exact .inr ⟨N, h, by simp at hN; omega⟩

set_option maxHeartbeats 2000000 in
set_option maxRecDepth 100000 in
theorem beginMessage (E : Env) (w : World) (v : Value) (xs : List UInt8) (i bm : Nat) (t : Nat) (ht : t = 1 ∨ t = 2) (h : St E w .nilIface false .nilIface v xs i) (hm : Blk w bm 93 [.pointer none, .int .i64 0, .int .i64 0, .nilIface]) :
    Calls Tryd.prog 41 #[.pointer (some ⟨E.bc, 0, none⟩), .pointer (some ⟨bm, 0, none⟩), .int .i64 (t : Int)] w fun en w' => en = .returned .nilIface ∧
      Blk w' bm 93 [.pointer (some ⟨E.bc, 0, none⟩), .int .i64 14, .int .i64 (t : Int), .nilIface] ∧ Fr (fun k => k = bm) w w' := by
  have c5 : w.cell? ⟨E.bc, 5, none⟩ = some .nilIface := h.conn.cell 5
  have c7 : w.cell? ⟨E.bc, 7, none⟩ = some .nilIface := h.conn.cell 7
  have m0 : w.cell? ⟨bm, 0, none⟩ = some (.pointer none) := hm.cell 0
  have m1 : w.cell? ⟨bm, 1, none⟩ = some (.int .i64 0) := hm.cell 1
  have m2 : w.cell? ⟨bm, 2, none⟩ = some (.int .i64 0) := hm.cell 2
  have z0 := hm.frozen 0
  have z1 := hm.frozen 1
  have z2 := hm.frozen 2
  have he := errNe
  have hew : ∀ w : World, (binOp .neq 74 .nilIface .nilIface).run Tryd.prog w = .ok (.bool false) w := fun w => Lib.run_neq_nil_nil w Tryd.underlying74
  have hctl : isControlN (t : Int) = false := by unfold isControlN; rcases ht with rfl | rfl <;> rfl
  have hdat : isDataN (t : Int) = true := by unfold isDataN; rcases ht with rfl | rfl <;> rfl
  have kc := wsIsControl (t : Int)
  have kd := wsIsData (t : Int)
  rw [hctl] at kc
  rw [hdat] at kd
  have KC := hide kc
  have KD := hide kd
  have HM := hide hm
  clear kc kd hm h hctl hdat ht
  go_enter Tryd.func41, Tryd.ntmps41
  go_wp2_with fail
  refine (KC.out _).mono ?_
  rintro e w' ⟨rfl, rfl⟩
  go_wp2_with fail
  refine (KD.out _).mono ?_
  rintro e w' ⟨rfl, rfl⟩
  go_wp2_with fail
  go_ret
  refine ⟨rfl, ?_, ?_⟩
  · exact (((HM.out.set 0 (.pointer (some ⟨E.bc, 0, none⟩))).set 2 (.int .i64 (t : Int))).set 1 (.int .i64 14))
  · exact (((Fr.refl (fun k => k = bm) w).setCell (p := ⟨bm, 0, none⟩) (fun _ => rfl) _).setCell (p := ⟨bm, 2, none⟩) (fun _ => rfl) _).setCell (p := ⟨bm, 1, none⟩) (fun _ => rfl) _
end Go.Proofs.YtjjahfhnebicjaaDoor

/- put: a close message; put of any message. -/
import Derived.Test.YtjjahfhnebicjaaDoorPut
namespace Go.Proofs.YtjjahfhnebicjaaDoor
open Go.ChangeShapes Go.WideShapes Go.ChangeAt Go.RowKit

set_option maxHeartbeats 1000000 in
set_option maxRecDepth 10000 in
theorem putClose (E : Env) (ok : E.Ok) (w : World) (v : Value) (xs : List UInt8) (i : Nat) (data text : List UInt8) (code : Nat) (hcode : code < 65536) (hdl : data.length ≤ 4096) (htl : text.length ≤ 100000) (hpl : (closeL code text).length ≤ 125) (A : Option Addr) (c : Nat) (u : TypeId) (x : Value)
    (h : St E w .nilIface false .nilIface v xs i) (hg3 : w.cell? ⟨3, 0, none⟩ = some (.iface u x)) (X : List UInt8) (K : Nat)
    (hX : xs ++ fmsOut E.srv E.keys i (msgFms E.srv (E.M - 14) ⟨8, data, code, text⟩) = X) (hK : i + keysUsed E.srv (msgFms E.srv (E.M - 14) ⟨8, data, code, text⟩) = K) (hlX : X.length + 60100 ≤ 1000000000) (hlK : K ≤ 1000000) (hr : Rd w w.heap.size A (bv data)) (hc0 : A = none → data.length = 0 ∧ c = 0) :
    Calls Tryd.prog 23 #[.pointer (some ⟨E.bc, 0, none⟩), .agg #[.int .i64 8, .slice A data.length c, .int .i64 (code : Int), .string (strOf text)]] w fun en w' => en = .returned .nilIface ∧ CtlLeft E w X K 8 w' := by
  have hpay : Msg.pay ⟨8, data, code, text⟩ = closeL code text := if_pos rfl
  have hm : msgFms E.srv (E.M - 14) ⟨8, data, code, text⟩ = [⟨true, 8, closeL code text⟩] := by unfold msgFms; rw [if_neg (by rintro ⟨_, q⟩; have q : 8 = 1 ∨ 8 = 2 := q; omega), hpay]
  rw [hm, fmsOut_one] at hX
  rw [hm] at hK
  have hxl : xs.length ≤ X.length := by rw [← hX, List.length_append]; omega
  have hiK : i ≤ K := by omega
  have hb1 : ∀ o, Below w.heap.size w (w.alloc o) := fun o => (Below.refl _ _).alloc (Nat.le_refl _) _
  have st1 := fun o => h.below ok (hb1 o)
  have hr1 := fun o => (hr.below (hb1 o)).more (hb1 o).size
  have hbase := h.size
  have kc := fun o => clone_any A c data (w.alloc o) (by omega) (hr1 o) hc0
  have hc1 : decide ((code : Int) < 0) = false := decide_eq_false (by omega)
  have hc2 : decide ((65535 : Int) < (code : Int)) = false := decide_eq_false (by omega)
  have KC := hide kc
  have ST1 := hide st1
  have HX := hide hX
  have HK := hide hK
  clear kc st1 hr1 hX hK h hr hc0 hb1 hm hpay
  go_enter Tryd.func23, Tryd.ntmps23
  go_wp2_with fail
  refine (KC.out _).mono ?_
  rintro e w1 ⟨r, rfl, hown, hbel⟩
  have hB := (Blk.new w 35 [.int .i64 8, .slice A data.length c, .int .i64 (code : Int), .string (strOf text)]).below hbel (by simp)
  have q0 : w1.cell? ⟨w.heap.size, 0, none⟩ = some (.int .i64 8) := hB.cell 0
  have q2 : w1.cell? ⟨w.heap.size, 2, none⟩ = some (.int .i64 (code : Int)) := hB.cell 2
  have q3 : w1.cell? ⟨w.heap.size, 3, none⟩ = some (.string (strOf text)) := hB.cell 3
  have st2 := (ST1.out _).below ok hbel
  have hbw : Below w.heap.size w w1 := ((Below.refl w.heap.size w).alloc (Nat.le_refl _) _).trans (hbel.mono (by simp))
  have hbx : w.heap.size < w1.heap.size := hB.lt
  have kf := formatClose code hcode text htl w1.drew
  have hctl : ∀ (w3 : World) (A3 : Option Addr) (c3 : Nat), Below w1.heap.size w1.drew w3 → w3.ownsRow w1.heap.size 5 1 (.slice A3 (closeL code text).length c3) (closeL code text).length (bv (closeL code text)) →
      Calls Tryd.prog 30 #[.pointer (some ⟨E.bc, 0, none⟩), .int .i64 8, .slice A3 (closeL code text).length c3] w3 fun en w' => en = .returned .nilIface ∧ CtlLeft E w3 X K 8 w' := by
    intro w3 A3 c3 hb3 ho3
    have hb3' : Below w1.heap.size w1 w3 := (Below.refl _ _).drew.trans hb3
    have st3 := st2.below ok hb3'
    have hlo := ho3.lt
    obtain ⟨A', c', hv, hn0, hcap, hrd⟩ := own_shape ho3
    injection hv with y1 y2 y3
    subst y1 y3
    have hg33 : w3.cell? ⟨3, 0, none⟩ = some (.iface u x) := by
      rw [hb3'.cell (by have := ok.one; have := ok.c0; have := ok.bc; show 3 < _; omega), hbw.cell (by have := ok.one; have := ok.c0; have := ok.bc; show 3 < _; omega)]; exact hg3
    have kw := writeControl E ok w3 v xs i 8 (.inl rfl) u x hg33 (closeL code text) A3 c3 hpl (by omega) (by omega) st3 hrd (fun e => (hn0 e).2) (fun g o e => by
      subst e
      have h9 := hlo g rfl
      have := h9.1
      omega)
    rw [show frameL E.srv true 8 (closeL code text).length (E.key i) (closeL code text) = frameL E.srv true 8 (closeL code text).length (keyOf E.keys i) (closeL code text) from rfl, HX.out, HK.out] at kw
    exact kw
  have hcell : ∀ w3, Below w1.heap.size w1.drew w3 → w3.cell? ⟨w.heap.size, 0, none⟩ = some (.int .i64 8) := fun w3 hb3 => ((Below.refl _ _).drew.trans hb3).cell (p := ⟨w.heap.size, 0, none⟩) hbx |>.trans q0
  have KF := hide kf
  have HCtl := hide hctl
  have HBw := hide hbw
  have HCell := hide hcell
  clear kf hctl st2 hB hown hbel hbw hcell
  go_wp2_with fail
  go_region_with (
      first
        | (go_at_call 31
           refine KF.out.mono ?_
           rintro e w3 ⟨r3, xs3, rfl, rfl, hown3, _, hbel3⟩
           obtain ⟨A3, c3, rfl, _, _, _⟩ := own_shape hown3
           have d0 := HCell.out w3 hbel3
           have KW := hide (HCtl.out w3 A3 c3 hbel3 hown3)
           have HB3 := hide hbel3
           clear hown3 hbel3)
        | (go_at_call 30
           refine KW.out.mono ?_
           rintro e w4 ⟨rfl, v2, er2, st3, her, hb2⟩
           have HS3 := hide (And.intro st3 (And.intro her hb2))
           clear st3 her hb2))
  all_goals (
    go_wp2_with fail
    go_ret
    have hW : E.W0 ≤ w.heap.size := by have := ok.c0; have := ok.bc; omega
    exact ⟨rfl, v2, er2, HS3.out.1, HS3.out.2.1, ((HBw.out.mono hW).trans (((Below.refl w1.heap.size w1).drew.trans HB3.out).mono (by omega))).trans HS3.out.2.2⟩)

theorem putMsg (E : Env) (ok : E.Ok) (w : World) (v : Value) (xs : List UInt8) (i : Nat) (m : Msg) (hok : MsgOk m) (hM : E.M ≤ 60000) (A : Option Addr) (c : Nat) (u3 u5 : TypeId) (x3 x5 : Value)
    (h : St E w .nilIface false .nilIface v xs i) (hg3 : w.cell? ⟨3, 0, none⟩ = some (.iface u3 x3)) (hg5 : w.cell? ⟨5, 0, none⟩ = some (.iface u5 x5)) (X : List UInt8) (K : Nat)
    (hX : xs ++ fmsOut E.srv E.keys i (msgFms E.srv (E.M - 14) m) = X) (hK : i + keysUsed E.srv (msgFms E.srv (E.M - 14) m) = K) (hlX : X.length + 60100 ≤ 1000000000) (hlK : K ≤ 1000000) (hr : Rd w w.heap.size A (bv m.data)) (hc0 : A = none → m.data.length = 0 ∧ c = 0) :
    Calls Tryd.prog 23 #[.pointer (some ⟨E.bc, 0, none⟩), .agg #[.int .i64 (m.ty : Int), .slice A m.data.length c, .int .i64 (m.code : Int), .string (strOf m.text)]] w fun en w' => en = .returned .nilIface ∧ CtlLeft E w X K m.ty w' := by
  obtain ⟨ty, data, code, text⟩ := m
  rcases hok with ⟨h1, h2⟩ | ⟨h1, h2⟩ | ⟨h1, h2, h3, h4, h5⟩
  · exact putData E ok w v xs i ty h1 data text code h2 hM A c u5 x5 h hg5 X K hX hK hlX hlK hr hc0
  · exact putControl E ok w v xs i ty h1 data text code h2 A c u3 x3 h hg3 X K hX hK hlX hlK hr hc0
  · have h1 : ty = 8 := h1
    subst h1
    exact putClose E ok w v xs i data text code h3 h2 h4 h5 A c u3 x3 h hg3 X K hX hK hlX hlK hr hc0
end Go.Proofs.YtjjahfhnebicjaaDoor

/- put: a message of any kind. -/
import Derived.Test.YtjjahfhnebicjaaDoorMsg5
import Derived.Test.YtjjahfhnebicjaaDoorClone
import Derived.Deep.RegionHeld
namespace Go.Proofs.YtjjahfhnebicjaaDoor
open Go.ChangeShapes Go.WideShapes Go.ChangeAt Go.RowKit

/-- A message, as the code of the program has it. -/
structure Msg where
  ty : Nat
  data : List UInt8
  code : Nat
  text : List UInt8
def Msg.pay (m : Msg) : List UInt8 := if m.ty = 8 then closeL m.code m.text else m.data
def msgFms (srv : Bool) (S : Nat) (m : Msg) : List Fm := if srv = false ∧ (m.ty = 1 ∨ m.ty = 2) then cutL S m.ty m.pay else [⟨true, m.ty, m.pay⟩]
/-- What may be written. -/
def MsgOk (m : Msg) : Prop :=
  ((m.ty = 1 ∨ m.ty = 2) ∧ m.data.length ≤ 4096) ∨ ((m.ty = 9 ∨ m.ty = 10) ∧ m.data.length ≤ 125) ∨ (m.ty = 8 ∧ m.data.length ≤ 4096 ∧ m.code < 65536 ∧ m.text.length ≤ 100000 ∧ (closeL m.code m.text).length ≤ 125)
/-- How many keys are used. -/
def keysUsed (srv : Bool) (fs : List Fm) : Nat := if srv then 0 else fs.length

theorem frameL_ctlS (mt : Nat) (key ds : List UInt8) (h : ds.length ≤ 125) : frameL true true mt ds.length key ds = [UInt8.ofNat (mt + 128), UInt8.ofNat ds.length] ++ ds := by
  unfold frameL hdrL
  rw [if_pos h]
  rfl
theorem frameL_ctlC (mt : Nat) (key ds : List UInt8) (h : ds.length ≤ 125) : frameL false true mt ds.length key ds = [UInt8.ofNat (mt + 128), UInt8.ofNat (ds.length + 128)] ++ key ++ maskL key 0 ds := by
  unfold frameL hdrL
  rw [if_pos h, List.append_assoc]
  rfl

theorem writeControl (E : Env) (ok : E.Ok) (w : World) (v : Value) (xs : List UInt8) (i mt : Nat) (hmt : mt = 8 ∨ mt = 9 ∨ mt = 10) (u : TypeId) (x : Value) (hg3 : w.cell? ⟨3, 0, none⟩ = some (.iface u x)) (ds : List UInt8) (A : Option Addr) (c : Nat) (hn : ds.length ≤ 125) (hlim : xs.length + 131 ≤ 1000000000) (hi : i ≤ 1000000)
    (h : St E w .nilIface false .nilIface v xs i) (hr : Rd w w.heap.size A (bv ds)) (hc0 : A = none → c = 0) (hA : ∀ g o, A = some ⟨g, o, none⟩ → E.base ≤ g) :
    Calls Tryd.prog 30 #[.pointer (some ⟨E.bc, 0, none⟩), .int .i64 (mt : Int), .slice A ds.length c] w fun en w' => en = .returned .nilIface ∧ CtlLeft E w (xs ++ frameL E.srv true mt ds.length (E.key i) ds) (i + keysUsed E.srv [⟨true, mt, ds⟩]) mt w' := by
  cases hsrv : E.srv with
  | true =>
    rw [frameL_ctlS mt _ ds hn]
    by_cases h8 : mt = 8
    · exact wcServerClose E ok hsrv w v xs i mt h8 u x hg3 ds A c _ rfl hn (by omega) h hr hc0
    · exact wcServer E ok hsrv w v xs i mt (by omega) ds A c _ rfl hn (by omega) h hr hc0
  | false =>
    obtain ⟨k0, k1, k2, k3, hkey, _⟩ := nextKey E ok hsrv w .nilIface .nilIface v false xs i hi h
    rw [frameL_ctlC mt _ ds hn, hkey]
    by_cases h8 : mt = 8
    · exact wcClientClose E ok hsrv w v xs i mt h8 u x hg3 ds A c _ k0 k1 k2 k3 hkey rfl hn hlim hi h hr hc0 hA
    · exact wcClient E ok hsrv w v xs i mt (by omega) ds A c _ k0 k1 k2 k3 hkey rfl hn hlim hi h hr hc0 hA

theorem fmsOut_one (srv : Bool) (keys : List (List UInt8)) (i : Nat) (f : Fm) : fmsOut srv keys i [f] = frameL srv f.last f.op f.data.length (keyOf keys i) f.data := by
  simp [fmsOut]

theorem writeMessage (E : Env) (ok : E.Ok) (w : World) (v : Value) (xs : List UInt8) (i t : Nat) (ht : t = 1 ∨ t = 2) (u : TypeId) (x : Value) (ds : List UInt8) (A : Option Addr) (c : Nat) (hdl : ds.length ≤ 60000) (hM : E.M ≤ 60000)
    (h : St E w .nilIface false .nilIface v xs i) (hg5 : w.cell? ⟨5, 0, none⟩ = some (.iface u x)) (X : List UInt8) (K : Nat) (code : Nat) (text : List UInt8)
    (hX : xs ++ fmsOut E.srv E.keys i (msgFms E.srv (E.M - 14) ⟨t, ds, code, text⟩) = X) (hK : i + keysUsed E.srv (msgFms E.srv (E.M - 14) ⟨t, ds, code, text⟩) = K) (hlX : X.length + 60100 ≤ 1000000000) (hlK : K ≤ 1000000) (hr : Rd w w.heap.size A (bv ds)) (hc : ds.length ≤ c)
    (hA : ∀ a, A = some a → E.base ≤ a.block ∧ v.ownBlock ≠ some a.block ∧ a.block < w.heap.size) :
    Calls Tryd.prog 32 #[.pointer (some ⟨E.bc, 0, none⟩), .int .i64 (t : Int), .slice A ds.length c] w fun en w' => en = .returned .nilIface ∧ CtlLeft E w X K t w' := by
  have hpay : Msg.pay ⟨t, ds, code, text⟩ = ds := if_neg (by show ¬ t = 8; omega)
  have hxl : xs.length ≤ X.length := by rw [← hX, List.length_append]; omega
  have hiK : i ≤ K := by omega
  cases hsrv : E.srv with
  | true =>
    rw [hsrv] at hX hK
    have hm : msgFms true (E.M - 14) ⟨t, ds, code, text⟩ = [⟨true, t, ds⟩] := by unfold msgFms; rw [if_neg (by simp), hpay]
    rw [hm, fmsOut_one] at hX
    rw [hm] at hK
    have hK : i = K := hK
    refine (writeServer E ok hsrv w v xs i t ht u x ds A c hdl _ rfl h hg5 (by omega) (by omega) hr hc hA).mono ?_
    rintro e w' ⟨rfl, v', st, hb⟩
    refine ⟨rfl, v', .nilIface, ?_, fun _ => rfl, hb⟩
    rw [← hX, ← hK]
    exact st
  | false =>
    rw [hsrv] at hX hK
    have hm : msgFms false (E.M - 14) ⟨t, ds, code, text⟩ = cutL (E.M - 14) t ds := by unfold msgFms; rw [if_pos ⟨rfl, ht⟩, hpay]
    rw [hm] at hX hK
    refine (writeClient E ok hsrv w v xs i t ht u x X K ds A c (by omega) hM h hg5 ⟨hX, hK⟩ hlX hlK hr hc hA).mono ?_
    rintro e w' ⟨rfl, v', st, hb⟩
    exact ⟨rfl, v', .nilIface, st, fun _ => rfl, hb⟩

set_option maxHeartbeats 1000000 in
set_option maxRecDepth 10000 in
theorem putData (E : Env) (ok : E.Ok) (w : World) (v : Value) (xs : List UInt8) (i : Nat) (ty : Nat) (ht : ty = 1 ∨ ty = 2) (data text : List UInt8) (code : Nat) (hdl : data.length ≤ 4096) (hM : E.M ≤ 60000) (A : Option Addr) (c : Nat) (u : TypeId) (x : Value)
    (h : St E w .nilIface false .nilIface v xs i) (hg5 : w.cell? ⟨5, 0, none⟩ = some (.iface u x)) (X : List UInt8) (K : Nat)
    (hX : xs ++ fmsOut E.srv E.keys i (msgFms E.srv (E.M - 14) ⟨ty, data, code, text⟩) = X) (hK : i + keysUsed E.srv (msgFms E.srv (E.M - 14) ⟨ty, data, code, text⟩) = K) (hlX : X.length + 60100 ≤ 1000000000) (hlK : K ≤ 1000000) (hr : Rd w w.heap.size A (bv data)) (hc0 : A = none → data.length = 0 ∧ c = 0) :
    Calls Tryd.prog 23 #[.pointer (some ⟨E.bc, 0, none⟩), .agg #[.int .i64 (ty : Int), .slice A data.length c, .int .i64 (code : Int), .string (strOf text)]] w fun en w' => en = .returned .nilIface ∧ CtlLeft E w X K ty w' := by
  have hb8 : ((ty : Int) == 8) = false := beq_eq_false_iff_ne.2 (by omega)
  have hb9 : ((ty : Int) == 9) = false := beq_eq_false_iff_ne.2 (by omega)
  have hb10 : ((ty : Int) == 10) = false := beq_eq_false_iff_ne.2 (by omega)
  have hb1 : ∀ o, Below w.heap.size w (w.alloc o) := fun o => (Below.refl _ _).alloc (Nat.le_refl _) _
  have st1 := fun o => h.below ok (hb1 o)
  have hr1 := fun o => (hr.below (hb1 o)).more (hb1 o).size
  have hbase := h.size
  have hvl : ∀ k, v.ownBlock = some k → k < w.heap.size := fun k e => (h.buf.own_ge e).2
  have kc := fun o => clone_any A c data (w.alloc o) (by omega) (hr1 o) hc0
  have KC := hide kc
  have ST1 := hide st1
  have HX := hide hX
  have HK := hide hK
  have HVl := hide hvl
  have HT := hide ht
  clear kc st1 hr1 hX hK h hr hc0 hvl hb1 ht
  go_enter Tryd.func23, Tryd.ntmps23
  go_wp2_with fail
  refine (KC.out _).mono ?_
  rintro e w1 ⟨r, rfl, hown, hbel⟩
  have hB := (Blk.new w 35 [.int .i64 (ty : Int), .slice A data.length c, .int .i64 (code : Int), .string (strOf text)]).below hbel (by simp)
  have q0 : w1.cell? ⟨w.heap.size, 0, none⟩ = some (.int .i64 (ty : Int)) := hB.cell 0
  have st2 := (ST1.out _).below ok hbel
  have hbw : Below w.heap.size w w1 := ((Below.refl w.heap.size w).alloc (Nat.le_refl _) _).trans (hbel.mono (by simp))
  have hlo := hown.lt
  obtain ⟨A', c', rfl, hn0, hcap, hrd⟩ := own_shape hown
  have hg52 : w1.cell? ⟨5, 0, none⟩ = some (.iface u x) := by
    rw [hbw.cell (by have := ok.one; have := ok.c0; have := ok.bc; show 5 < _; omega)]; exact hg5
  have kw := writeMessage E ok w1 v xs i ty HT.out u x data A' c' (by omega) hM st2 hg52 X K code text HX.out HK.out hlX hlK hrd hcap (fun a e => by
    subst e
    have h9 := hlo a.block rfl
    have h8 : w.heap.size < a.block := by have := h9.1; simp at this; omega
    exact ⟨by omega, fun e => by have := HVl.out _ e; omega, h9.2⟩)
  have KW := hide kw
  have HBw := hide hbw
  clear kw st2 hB hown hbel hlo hrd hbw
  go_wp2_with fail
  refine KW.out.mono ?_
  rintro e w2 ⟨rfl, v2, er2, st3, her, hb2⟩
  have HS3 := hide (And.intro st3 (And.intro her hb2))
  clear st3 her hb2
  go_wp2_with fail
  go_ret
  exact ⟨rfl, v2, er2, HS3.out.1, HS3.out.2.1, (HBw.out.mono (by have := ok.c0; have := ok.bc; omega)).trans HS3.out.2.2⟩

set_option maxHeartbeats 1000000 in
set_option maxRecDepth 10000 in
theorem putControl (E : Env) (ok : E.Ok) (w : World) (v : Value) (xs : List UInt8) (i : Nat) (ty : Nat) (ht : ty = 9 ∨ ty = 10) (data text : List UInt8) (code : Nat) (hdl : data.length ≤ 125) (A : Option Addr) (c : Nat) (u : TypeId) (x : Value)
    (h : St E w .nilIface false .nilIface v xs i) (hg3 : w.cell? ⟨3, 0, none⟩ = some (.iface u x)) (X : List UInt8) (K : Nat)
    (hX : xs ++ fmsOut E.srv E.keys i (msgFms E.srv (E.M - 14) ⟨ty, data, code, text⟩) = X) (hK : i + keysUsed E.srv (msgFms E.srv (E.M - 14) ⟨ty, data, code, text⟩) = K) (hlX : X.length + 60100 ≤ 1000000000) (hlK : K ≤ 1000000) (hr : Rd w w.heap.size A (bv data)) (hc0 : A = none → data.length = 0 ∧ c = 0) :
    Calls Tryd.prog 23 #[.pointer (some ⟨E.bc, 0, none⟩), .agg #[.int .i64 (ty : Int), .slice A data.length c, .int .i64 (code : Int), .string (strOf text)]] w fun en w' => en = .returned .nilIface ∧ CtlLeft E w X K ty w' := by
  have hpay : Msg.pay ⟨ty, data, code, text⟩ = data := if_neg (by show ¬ ty = 8; omega)
  have hm : msgFms E.srv (E.M - 14) ⟨ty, data, code, text⟩ = [⟨true, ty, data⟩] := by unfold msgFms; rw [if_neg (by rintro ⟨_, q⟩; have q : ty = 1 ∨ ty = 2 := q; omega), hpay]
  rw [hm, fmsOut_one] at hX
  rw [hm] at hK
  have hxl : xs.length ≤ X.length := by rw [← hX, List.length_append]; omega
  have hiK : i ≤ K := by omega
  have hb8 : ((ty : Int) == 8) = false := beq_eq_false_iff_ne.2 (by omega)
  have hb1 : ∀ o, Below w.heap.size w (w.alloc o) := fun o => (Below.refl _ _).alloc (Nat.le_refl _) _
  have st1 := fun o => h.below ok (hb1 o)
  have hr1 := fun o => (hr.below (hb1 o)).more (hb1 o).size
  have hbase := h.size
  have kc := fun o => clone_any A c data (w.alloc o) (by omega) (hr1 o) hc0
  have KC := hide kc
  have ST1 := hide st1
  have HX := hide hX
  have HK := hide hK
  have HT := hide ht
  clear kc st1 hr1 hX hK h hr hc0 hb1 ht hm hpay
  go_enter Tryd.func23, Tryd.ntmps23
  go_wp2_with fail
  refine (KC.out _).mono ?_
  rintro e w1 ⟨r, rfl, hown, hbel⟩
  have hB := (Blk.new w 35 [.int .i64 (ty : Int), .slice A data.length c, .int .i64 (code : Int), .string (strOf text)]).below hbel (by simp)
  have q0 : w1.cell? ⟨w.heap.size, 0, none⟩ = some (.int .i64 (ty : Int)) := hB.cell 0
  have st2 := (ST1.out _).below ok hbel
  have hbw : Below w.heap.size w w1 := ((Below.refl w.heap.size w).alloc (Nat.le_refl _) _).trans (hbel.mono (by simp))
  have hlo := hown.lt
  obtain ⟨A', c', rfl, hn0, hcap, hrd⟩ := own_shape hown
  have hg32 : w1.cell? ⟨3, 0, none⟩ = some (.iface u x) := by
    rw [hbw.cell (by have := ok.one; have := ok.c0; have := ok.bc; show 3 < _; omega)]; exact hg3
  have kw := writeControl E ok w1 v xs i ty (by have := HT.out; omega) u x hg32 data A' c' hdl (by omega) (by omega) st2 hrd (fun e => (hn0 e).2) (fun g o e => by
    subst e
    have h9 := hlo g rfl
    have := h9.1
    simp at this
    omega)
  rw [show frameL E.srv true ty data.length (E.key i) data = frameL E.srv true ty data.length (keyOf E.keys i) data from rfl, HX.out, HK.out] at kw
  have KW := hide kw
  have HBw := hide hbw
  clear kw st2 hB hown hbel hlo hrd hbw
  rcases HT.out with rfl | rfl
  all_goals (
    go_wp2_with fail
    refine KW.out.mono ?_
    rintro e w2 ⟨rfl, v2, er2, st3, her, hb2⟩
    have HS3 := hide (And.intro st3 (And.intro her hb2))
    clear st3 her hb2
    go_wp2_with fail
    go_ret
    exact ⟨rfl, v2, er2, HS3.out.1, HS3.out.2.1, (HBw.out.mono (by have := ok.c0; have := ok.bc; omega)).trans HS3.out.2.2⟩)
end Go.Proofs.YtjjahfhnebicjaaDoor

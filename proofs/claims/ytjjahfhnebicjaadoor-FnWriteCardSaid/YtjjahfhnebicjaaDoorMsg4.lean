/- NextWriter and (*Conn).WriteMessage. -/
import Derived.Test.YtjjahfhnebicjaaDoorMsg3
namespace Go.Proofs.YtjjahfhnebicjaaDoor
open Go.ChangeShapes Go.WideShapes Go.ChangeAt Go.RowKit

theorem methodWriteM (b : Nat) (w : World) : (method 240 95 (.pointer (some ⟨b, 0, none⟩)) "Write").run Tryd.prog w = .ok (89, .pointer (some ⟨b, 0, none⟩)) w := by kernel_rfl
theorem methodCloseM (b : Nat) (w : World) : (method 240 95 (.pointer (some ⟨b, 0, none⟩)) "Close").run Tryd.prog w = .ok (88, .pointer (some ⟨b, 0, none⟩)) w := by kernel_rfl

/-- The writer's interface value. -/
def mwV (bm : Nat) : Value := .iface 95 (.pointer (some ⟨bm, 0, none⟩))

set_option maxHeartbeats 1000000 in
set_option maxRecDepth 10000 in
theorem nextWriter (E : Env) (ok : E.Ok) (w : World) (v : Value) (xs : List UInt8) (i t : Nat) (ht : t = 1 ∨ t = 2) (h : St E w .nilIface false .nilIface v xs i) :
    Calls Tryd.prog 43 #[.pointer (some ⟨E.bc, 0, none⟩), .int .i64 (t : Int)] w fun en w' => en = .returned (.tuple #[mwV w.heap.size, .nilIface]) ∧
      St E w' (mwV w.heap.size) false .nilIface v xs i ∧ Blk w' w.heap.size 93 [.pointer (some ⟨E.bc, 0, none⟩), .int .i64 14, .int .i64 (t : Int), .nilIface] ∧ Fr (fun b => b = E.bc) w w' := by
  have hb1 : Below w.heap.size w (w.alloc (.cells #[.pointer none, .int .i64 0, .int .i64 0, .nilIface] 93)) := (Below.refl _ _).alloc (Nat.le_refl _) _
  have hG := Blk.new w 93 [.pointer none, .int .i64 0, .int .i64 0, .nilIface]
  have st1 := h.below ok hb1
  have kb := beginMessage E _ v xs i w.heap.size t ht st1 hG
  have hbc := h.conn.lt
  have hbase := h.size
  have hvo : v.ownBlock ≠ some w.heap.size := fun e => by have := (h.buf.own_ge e).2; omega
  have he := errNe
  have KB := hide kb
  have ST1 := hide st1
  clear kb st1 h hG hb1
  go_enter Tryd.func43, Tryd.ntmps43
  go_wp2_with fail
  refine KB.out.mono ?_
  rintro e w2 ⟨rfl, hm2, hf2⟩
  have st2 := ST1.out.keep ok hf2 (fun k e => by subst e; exact ⟨hbase, hvo⟩)
  have c5 : w2.cell? ⟨E.bc, 5, none⟩ = some .nilIface := st2.conn.cell 5
  have z5 := st2.conn.frozen 5
  have st3 := st2.conn_store ok 5 (mwV w.heap.size) (cells_5 E .nilIface false .nilIface (mwV w.heap.size))
  have hm3 := hm2.far (p := ⟨E.bc, 5, none⟩) (by show w.heap.size ≠ E.bc; omega) (mwV w.heap.size)
  have hf3 : Fr (fun b => b = E.bc) w (w2.setCell ⟨E.bc, 5, none⟩ (mwV w.heap.size)) :=
    (((Fr.refl (fun b => b = E.bc) w).alloc _).then_ hf2 (fun k hk e => by omega)).setCell (p := ⟨E.bc, 5, none⟩) (fun _ => rfl) _
  have q5 : (w2.setCell ⟨E.bc, 5, none⟩ (.iface 95 (.pointer (some ⟨w.heap.size, 0, none⟩)))).cell? ⟨E.bc, 5, none⟩ = some (.iface 95 (.pointer (some ⟨w.heap.size, 0, none⟩))) := st3.conn.cell 5
  have ST3 := hide st3
  have HM3 := hide hm3
  have HF3 := hide hf3
  clear st2 st3 hm2 hm3 hf2 hf3
  go_wp2_with fail
  go_ret2
  exact ⟨rfl, ST3.out, HM3.out, HF3.out⟩

theorem Fr.toBelow {S : Nat → Prop} {w w' : World} {B : Nat} (h : Fr S w w') (hB : B ≤ w.heap.size) (hS : ∀ k, S k → B ≤ k) : Below B w w' :=
  ⟨h.os, h.tape, h.output, h.size, fun k hk => h.block k (by omega) (fun e => by have := hS k e; omega)⟩
theorem wet_ge {E : Env} (ok : E.Ok) {bm : Nat} {v : Value} (hbm : E.base ≤ bm) (hv : ∀ k, v.ownBlock = some k → E.base ≤ k) (k : Nat) (h : Wet E bm v k) : E.W0 ≤ k := by
  have o2 := ok.c0
  have o3 := ok.w0
  have o4 := ok.t0
  have o6 := ok.i0
  have o7 := ok.bc
  rcases h with e | e | e | e | e | e
  · omega
  · omega
  · omega
  · omega
  · omega
  · have := hv k e; omega

set_option maxHeartbeats 1000000 in
set_option maxRecDepth 10000 in
theorem writeClient (E : Env) (ok : E.Ok) (hsrv : E.srv = false) (w : World) (v : Value) (xs : List UInt8) (i t : Nat) (ht : t = 1 ∨ t = 2) (u : TypeId) (x : Value) (X : List UInt8) (K : Nat) (ds : List UInt8) (A : Option Addr) (c : Nat) (hdl : ds.length ≤ 100000) (hM : E.M ≤ 60000)
    (h : St E w .nilIface false .nilIface v xs i) (hg5 : w.cell? ⟨5, 0, none⟩ = some (.iface u x)) (hinv : Inv E X K xs i t ds) (hX : X.length + 60100 ≤ 1000000000) (hK : K ≤ 1000000) (hr : Rd w w.heap.size A (bv ds)) (hc : ds.length ≤ c)
    (hA : ∀ a, A = some a → E.base ≤ a.block ∧ v.ownBlock ≠ some a.block ∧ a.block < w.heap.size) :
    Calls Tryd.prog 32 #[.pointer (some ⟨E.bc, 0, none⟩), .int .i64 (t : Int), .slice A ds.length c] w fun en w' => en = .returned .nilIface ∧ ∃ v', St E w' .nilIface false .nilIface v' X K ∧ Below E.W0 w w' := by
  have c1 : w.cell? ⟨E.bc, 1, none⟩ = some (.bool false) := by rw [← hsrv]; exact h.conn.cell 1
  have kn := nextWriter E ok w v xs i t ht h
  have he := errNe
  have hbase := h.size
  have hbcl := h.conn.lt
  have hvo : v.ownBlock ≠ some w.heap.size := fun e => by have := (h.buf.own_ge e).2; omega
  have hvg : ∀ k, v.ownBlock = some k → E.base ≤ k := fun k e => (h.buf.own_ge e).1
  have hmw := methodWriteM w.heap.size
  have hmc := methodCloseM w.heap.size
  have KN := hide kn
  have HInv := hide hinv
  have HR := hide hr
  have HA := hide hA
  have HVo := hide hvo
  have HVg := hide hvg
  clear kn h hinv hr hA hvo hvg
  go_enter Tryd.func32, Tryd.ntmps32
  go_wp2_with fail
  refine KN.out.mono ?_
  rintro e w1 ⟨rfl, st1, hm1, hf1⟩
  have hw1 : WSt E w1 w.heap.size (mwV w.heap.size) v xs i t [] u x := by
    obtain ⟨cs, hcs, hcl⟩ := st1.wbuf
    refine ⟨st1, hm1, ⟨cs, hcs, hcl, rfl⟩, Nat.zero_le _, by omega, hbase, HVo.out, ?_⟩
    have o1 := ok.one
    have o2 := ok.c0
    rw [hf1.cell (by show 5 < _; omega) (by show ¬ 5 = E.bc; omega)]
    exact hg5
  have hr1 : Rd w1 w1.heap.size A (bv ds) := (HR.out.kept hf1 (Nat.le_refl _) (fun g o e q => by
    have := (HA.out _ e).1
    have h9 : E.base ≤ g := this
    have := ok.bc
    have q : g = E.bc := q
    omega)).more hf1.size
  have kw := mwWrite E ok hsrv w1 w.heap.size (mwV w.heap.size) v xs i t u x X K ds A c hdl hw1 hM HInv.out hX hK hr1 hc (fun a e => by
    have hf := HA.out a e
    have := hf1.size
    exact ⟨hf.1, hf.2.1, by omega, by omega⟩)
  have KW := hide kw
  have HF1 := hide hf1
  clear kw st1 hm1 hf1 hw1 hr1
  unfold mwV at *
  go_wp2_with fail
  refine KW.out.mono ?_
  rintro e w2 ⟨rfl, v2, xs2, i2, t2, b2, hwe⟩
  have kc := mwClose E ok hsrv w2 w.heap.size _ v2 xs2 i2 t2 b2 u x X K hwe.wst hM (by have := hwe.inv; rwa [List.append_nil] at this) hX hK
  have KC := hide kc
  have HWe := hide hwe
  clear kc hwe
  go_wp2_with fail
  refine KC.out.mono ?_
  rintro e w3 ⟨rfl, v3, st3, hf3⟩
  have HSt3 := hide st3
  have HF3 := hide hf3
  clear st3 hf3
  go_wp2_with fail
  go_ret
  refine ⟨rfl, v3, HSt3.out, ?_⟩
  have hW : E.W0 ≤ w.heap.size := by have := ok.c0; have := ok.bc; omega
  have b1 : Below E.W0 w w1 := HF1.out.toBelow hW (fun k e => by subst e; exact ok.c0)
  have b2' : Below E.W0 w1 w2 := HWe.out.fr.toBelow (Nat.le_trans hW HF1.out.size) (wet_ge ok hbase HVg.out)
  have b3 : Below E.W0 w2 w3 := HF3.out.toBelow (Nat.le_trans (Nat.le_trans hW HF1.out.size) HWe.out.fr.size) (wet_ge ok hbase (fun k e => (HWe.out.wst.st.buf.own_ge e).1))
  exact (b1.trans b2').trans b3
end Go.Proofs.YtjjahfhnebicjaaDoor

/- impl.Write: plain words; fits; the deferred function. -/
import Derived.Test.YtjjahfhnebicjaaDoorNew
import Derived.Defers
import Derived.Recover
namespace Go.Proofs.YtjjahfhnebicjaaDoor
open Go.ChangeShapes Go.WideShapes Go.ChangeAt Go.RowKit

/-- A message in memory. -/
def MsgAt (w : World) (B g o : Nat) (m : Msg) : Prop := ∃ A c, w.cell? ⟨g, o, none⟩ = some (.int .i64 (m.ty : Int)) ∧ w.cell? ⟨g, o + 1, none⟩ = some (.slice A m.data.length c) ∧ w.cell? ⟨g, o + 2, none⟩ = some (.int .i64 (m.code : Int)) ∧ w.cell? ⟨g, o + 3, none⟩ = some (.string (strOf m.text)) ∧
  Rd w B A (bv m.data) ∧ (A = none → m.data.length = 0 ∧ c = 0) ∧ m.data.length ≤ c
def MsgsAt (w : World) (B : Nat) (AL : Option Addr) (ms : List Msg) : Prop := 0 < ms.length → ∃ g o, AL = some ⟨g, o, none⟩ ∧ g < B ∧ ∀ (j : Nat) (h : j < ms.length), MsgAt w B g (o + j * 4) ms[j]
theorem MsgAt.below {w w' : World} {B g o : Nat} {m : Msg} (h : MsgAt w B g o m) (hg : g < B) (hb : Below B w w') : MsgAt w' B g o m := by
  obtain ⟨A, c, h0, h1, h2, h3, hr, hn⟩ := h
  exact ⟨A, c, (hb.cell (p := ⟨g, o, none⟩) hg).trans h0, (hb.cell (p := ⟨g, o + 1, none⟩) hg).trans h1, (hb.cell (p := ⟨g, o + 2, none⟩) hg).trans h2, (hb.cell (p := ⟨g, o + 3, none⟩) hg).trans h3, hr.below hb, hn⟩
theorem MsgsAt.below {w w' : World} {B : Nat} {AL : Option Addr} {ms : List Msg} (h : MsgsAt w B AL ms) (hb : Below B w w') : MsgsAt w' B AL ms := by
  intro hp
  obtain ⟨g, o, e, hg, hc⟩ := h hp
  exact ⟨g, o, e, hg, fun j hj => (hc j hj).below hg hb⟩
def Msg.size (m : Msg) : Nat := m.data.length + m.text.length
def sizes (ms : List Msg) : Nat := (ms.map Msg.size).sum
theorem sizes_take (ms : List Msg) (j : Nat) (h : j < ms.length) : sizes (ms.take (j + 1)) = sizes (ms.take j) + ms[j].size := by
  unfold sizes
  rw [← List.take_append_getElem h, List.map_append, List.sum_append]
  simp
theorem sizes_le (ms : List Msg) (j : Nat) : sizes (ms.take j) ≤ sizes ms := by
  conv => rhs; rw [← List.take_append_drop j ms]
  unfold sizes
  rw [List.map_append, List.sum_append]
  omega
/-- The frames of messages. -/
def frs (srv : Bool) (S : Nat) (ms : List Msg) : List Fm := ms.flatMap (msgFms srv S)
theorem frs_take (srv : Bool) (S : Nat) (ms : List Msg) (j : Nat) (h : j < ms.length) : frs srv S (ms.take (j + 1)) = frs srv S (ms.take j) ++ msgFms srv S ms[j] := by
  unfold frs
  rw [← List.take_append_getElem h, List.flatMap_append]
  simp
theorem fmsOut_srv (keys keys' : List (List UInt8)) : ∀ (fs : List Fm) (i j : Nat), fmsOut true keys i fs = fmsOut true keys' j fs
  | [], _, _ => rfl
  | f :: fs, i, j => by
    simp only [fmsOut, fmsOut_srv keys keys' fs (i + 1) (j + 1)]
    rfl
theorem fmsOut_step (srv : Bool) (keys : List (List UInt8)) (fs gs : List Fm) : fmsOut srv keys 0 (fs ++ gs) = fmsOut srv keys 0 fs ++ fmsOut srv keys (keysUsed srv fs) gs := by
  rw [fmsOut_append]
  cases srv with
  | true => rw [fmsOut_srv keys keys gs (0 + fs.length) (keysUsed true fs)]
  | false => rw [Nat.zero_add]; rfl
theorem keysUsed_append (srv : Bool) (fs gs : List Fm) : keysUsed srv (fs ++ gs) = keysUsed srv fs + keysUsed srv gs := by
  cases srv <;> simp [keysUsed]
theorem fmsOut_take (srv : Bool) (keys : List (List UInt8)) (S : Nat) (ms : List Msg) (j : Nat) : (fmsOut srv keys 0 (frs srv S (ms.take j))).length ≤ (fmsOut srv keys 0 (frs srv S ms)).length := by
  have h : frs srv S ms = frs srv S (ms.take j) ++ frs srv S (ms.drop j) := by
    unfold frs
    rw [← List.flatMap_append, List.take_append_drop]
  rw [h, fmsOut_step, List.length_append]
  omega
theorem keysUsed_take (srv : Bool) (S : Nat) (ms : List Msg) (j : Nat) : keysUsed srv (frs srv S (ms.take j)) ≤ keysUsed srv (frs srv S ms) := by
  have h : frs srv S ms = frs srv S (ms.take j) ++ frs srv S (ms.drop j) := by
    unfold frs
    rw [← List.flatMap_append, List.take_append_drop]
  rw [h, keysUsed_append]
  omega

set_option maxHeartbeats 1000000 in
set_option maxRecDepth 10000 in
theorem fitsYes (size n b : Nat) (h1 : 1 ≤ size) (h2 : size ≤ 60000) (h3 : n ≤ 100) (h4 : b ≤ 131072) (w : World) :
    Calls Tryd.prog 18 #[.int .i64 (size : Int), .int .i64 (n : Int), .int .i64 (b : Int)] w fun e w' => e = .returned (.bool true) ∧ w = w' := by
  have d1 : decide ((1 : Int) ≤ (size : Int)) = true := decide_eq_true (by omega)
  have d2 : decide ((size : Int) ≤ 65536) = true := decide_eq_true (by omega)
  have d3 : decide ((n : Int) ≤ 100) = true := decide_eq_true (by omega)
  have d4 : decide ((b : Int) ≤ 131072) = true := decide_eq_true (by omega)
  clear h1 h2 h3 h4
  go_enter Tryd.func18, Tryd.ntmps18
  go_wp2_with fail
  go_ret
  exact ⟨rfl, rfl⟩

theorem writeCatch (a b : Value) (w : World) : CallsD Tryd.prog 19 #[a, b] .returning w fun e u' w' => e = .returned (.tuple #[]) ∧ u' = .returning ∧ w' = w := by
  have hnn : ∀ w, (binOp .neq 20 .nilIface .nilIface).run Tryd.prog w = .ok (.bool false) w := fun w => Lib.run_neq_nil_nil w Tryd.underlying20
  refine callsD_of_wpS Tryd.func19 rfl fun c₀ cs hu => ?_
  apply wpS_seq
  apply wpS_region
  simp [wpOpsS, go_sem, recoverD, hu, hnn]
  refine wpS_cond (t := false) (by simp [Act.eval, Array.replicate]) ?_
  simp only [Bool.false_eq_true, if_false]
  refine wpS_of_wp (wp_skip ?_)
  cases c₀
  simp_all [bodyPostS, results]

/-- The connection as it is made. -/
theorem envStart (srv : Bool) (keys : List (List UInt8)) (KA : Option Addr) (kc : Nat) (w5 : World) (bt bk bi bc bw size W0 B : Nat) (rd sub : Value) (T : List Value) (hsz : size ≤ 60000) (h1 : 1 ≤ size)
    (hconn : Blk w5 bc 81 ([.iface 45 (.pointer (some ⟨bt, 0, none⟩)), .bool srv, sub, .slice (some ⟨bw, 0, none⟩) (size + 14) (size + 14), .int .i64 ((size + 14 : Nat) : Int), .nilIface, .bool false, .nilIface, .func (.func 29) #[] #[.pointer (some ⟨bk, 0, none⟩), .pointer (some ⟨bi, 0, none⟩)]] ++ T))
    (hwb : ∃ cs, Blk w5 bw 5 cs ∧ cs.length = size + 14) (hT : Blk w5 bt 53 [rd, .slice none 0 0, .int .i64 0, .int .i8 0]) (hk : Blk w5 bk 22 [.slice KA keys.length kc]) (hi : Blk w5 bi 3 [.int .i64 0]) (hkr : KeysRd w5 KA B keys)
    (o1 : bt < bk) (o2 : bk < bi) (o3 : bi < bw) (o4 : bw < bc) (hW : W0 ≤ bt) (hB : B ≤ W0) (h7 : 7 ≤ W0) (hks : keys.length ≤ 100) (hkl : srv = false → 0 < keys.length) :
    ∃ E : Env, E.srv = srv ∧ E.bc = bc ∧ E.bt = bt ∧ E.M = size + 14 ∧ E.keys = keys ∧ E.W0 = W0 ∧ E.Ok ∧ St E w5 .nilIface false .nilIface (.slice none 0 0) [] 0 := by
  have hlt := hconn.lt
  refine ⟨⟨srv, bc, bt, bw, bk, bi, size + 14, w5.heap.size, B, W0, rd, sub, KA, kc, keys, T⟩, rfl, rfl, rfl, rfl, rfl, rfl, ?_, ?_⟩
  · constructor <;> first | exact hkl | (dsimp only; omega)
  · exact ⟨hconn, hwb, ⟨⟨0, hT⟩, World.ownsRow_nil _ _ _ _, fun _ => rfl, by show bt < w5.heap.size; omega⟩, hk, hi, hkr, Nat.le_refl _⟩
end Go.Proofs.YtjjahfhnebicjaaDoor

/- writeBufs and (*Conn).write of two pieces. -/
import Derived.Test.YtjjahfhnebicjaaDoorConn
namespace Go.Proofs.YtjjahfhnebicjaaDoor
open Go.ChangeShapes Go.WideShapes Go.ChangeAt Go.RowKit

/-- What a call leaves that wrote zs: the state, and that all but the transport, its buffer and new blocks stayed. -/
def Left (E : Env) (w : World) (wr : Value) (iw : Bool) (v : Value) (xs : List UInt8) (i : Nat) (w' : World) : Prop :=
  ∃ v', St E w' wr iw .nilIface v' xs i ∧ Fr (fun k => k = E.bt ∨ v.ownBlock = some k) w w' ∧ (v'.ownBlock = v.ownBlock ∨ ∃ N, v'.ownBlock = some N ∧ w.heap.size ≤ N)

theorem left_then {E : Env} {w w1 w2 : World} {v v1 v2 : Value} (hf : Fr (fun k => k = E.bt ∨ v.ownBlock = some k) w w1) (hv : v1.ownBlock = v.ownBlock ∨ ∃ N, v1.ownBlock = some N ∧ w.heap.size ≤ N)
    (hf2 : Fr (fun k => k = E.bt ∨ v1.ownBlock = some k) w1 w2) (hv2 : v2.ownBlock = v1.ownBlock ∨ ∃ N, v2.ownBlock = some N ∧ w1.heap.size ≤ N) :
    Fr (fun k => k = E.bt ∨ v.ownBlock = some k) w w2 ∧ (v2.ownBlock = v.ownBlock ∨ ∃ N, v2.ownBlock = some N ∧ w.heap.size ≤ N) := by
  constructor
  · refine hf.then_ hf2 (fun k hk e => ?_)
    rcases e with e | e
    · exact .inl e
    · rcases hv with h | ⟨N, h, hN⟩
      · exact .inr (h ▸ e)
      · rw [h] at e; injection e with e; omega
  · rcases hv2 with h | ⟨N, h, hN⟩
    · rw [h]; exact hv
    · exact .inr ⟨N, h, Nat.le_trans hf.size hN⟩
theorem Rd.kept {w w' : World} {B : Nat} {A : Option Addr} {xs : List Value} {S : Nat → Prop} (h : Rd w B A xs) (hf : Fr S w w') (hB : B ≤ w.heap.size) (hS : ∀ g o, A = some ⟨g, o, none⟩ → ¬ S g) : Rd w' B A xs := by
  intro hp
  obtain ⟨g, o, rfl, hg, hc⟩ := h hp
  exact ⟨g, o, rfl, hg, fun j u hu => (hf.cell (p := ⟨g, o + j, none⟩) (by show g < _; omega) (hS g o rfl)).trans (hc j u hu)⟩

set_option maxHeartbeats 1000000 in
set_option maxRecDepth 100000 in
theorem writeBufs (E : Env) (ok : E.Ok) (w : World) (wrt v : Value) (iw : Bool) (xs ys zs : List UInt8) (i g : Nat) (A : Option Addr) (c : Nat) (A1 : Option Addr) (c1 B : Nat) (h : St E w wrt iw .nilIface v xs i) (hy : 1 ≤ ys.length) (hz : 1 ≤ zs.length) (hlim : xs.length + ys.length + zs.length ≤ 1000000000)
    (hr : Rd w B A (bv ys)) (hr1 : Rd w B A1 (bv zs)) (hB : B ≤ w.heap.size) (hA : ∀ g o, A = some ⟨g, o, none⟩ → g ≠ E.bt ∧ v.ownBlock ≠ some g) (hA1 : ∀ g o, A1 = some ⟨g, o, none⟩ → g ≠ E.bt ∧ v.ownBlock ≠ some g)
    (hg : Blk w g 26 [.slice A ys.length c, .slice A1 zs.length c1]) (hgt : g ≠ E.bt ∧ v.ownBlock ≠ some g) :
    Calls Tryd.prog 53 #[.pointer (some ⟨E.bc, 0, none⟩), .slice (some ⟨g, 0, none⟩) 2 2] w fun en w' => en = .returned .nilIface ∧ Left E w wrt iw v (xs ++ (ys ++ zs)) i w' := by
  have he := errNe
  have hmw := methodWrite E.bt
  have H := hide h
  have HR := hide hr
  have HR1 := hide hr1
  have HA := hide hA
  have HA1 := hide hA1
  have HG := hide hg
  have HGT := hide hgt
  have hbt : v.ownBlock ≠ some E.bt := fun e => by have := (h.buf.own_ge e).1; have := ok.bt; omega
  clear h hr hr1 hA hA1 hg hgt
  go_enter Tryd.func53, Tryd.ntmps53
  go_wp2_with fail
  go_loopw [11] (fun x wr' => ∃ (j : Nat), j ≤ 2 ∧ x = .int .i64 (j : Int) ∧ Hid (Left E w wrt iw v (xs ++ (if j = 0 then [] else if j = 1 then ys else ys ++ zs)) i wr')) (fun x _ => 2 - (intOf x).toNat)
  case atStart => exact ⟨0, by omega, rfl, hide ⟨v, by simpa using H.out, Fr.refl _ _, .inl rfl⟩⟩
  case round =>
    obtain ⟨j, hj, rfl, hleft⟩ := hrel
    obtain ⟨v1, hst, hf, hv⟩ := hleft.out
    have hG1 : Blk wr g 26 [.slice A ys.length c, .slice A1 zs.length c1] := HG.out.kept hf (fun e => e.elim HGT.out.1 HGT.out.2)
    have hne : ∀ q o (P : Option Addr), P = some ⟨q, o, none⟩ → (q ≠ E.bt ∧ v.ownBlock ≠ some q) → ¬ (q = E.bt ∨ v.ownBlock = some q) := fun q o P _ h e => e.elim h.1 h.2
    have c0 : wr.cell? ⟨E.bc, 0, none⟩ = some (.iface 45 (.pointer (some ⟨E.bt, 0, none⟩))) := hst.conn.cell 0
    have hsz := hf.size
    have HF := hide hf
    have HV := hide hv
    match j, hj, hleft with
    | 0, _, hleft =>
      have d1 : wr.cell? ⟨g, 0, none⟩ = some (.slice A ys.length c) := hG1.cell 0
      have kw := trWrite E.bt E.rd v1 E.base xs ys A c B wr (by simpa using hst.buf) hy (by omega) (HR.out.kept hf hB (fun q o e => hne q o A e (HA.out q o e))) (by omega) (fun q o e => (HA.out q o e).1) hst.size
      have hst0 : St E wr wrt iw .nilIface v1 xs i := by simpa using hst
      have K := hide kw
      have HS := hide hst0
      clear kw hst0 hst hG1 hf hv hne
      go_wp2_with fail
      refine K.out.mono ?_
      rintro e w1 hw
      obtain ⟨v2, rfl, hst2, hf2, hv2⟩ := HS.out.wrote ok hw
      have HS2 := hide (And.intro hst2 (And.intro hf2 hv2))
      clear hst2 hf2 hv2 hw
      go_wp2_with fail
      go_roundw
      case rel => exact ⟨1, by omega, by go_num, hide ⟨v2, by simpa using HS2.out.1, left_then HF.out HV.out HS2.out.2.1 HS2.out.2.2⟩⟩
      case measure => simp [intOf]
    | 1, _, hleft =>
      have d1 : wr.cell? ⟨g, 1, none⟩ = some (.slice A1 zs.length c1) := hG1.cell 1
      have hst0 : St E wr wrt iw .nilIface v1 (xs ++ ys) i := by simpa using hst
      have kw := trWrite E.bt E.rd v1 E.base (xs ++ ys) zs A1 c1 B wr hst0.buf hz (by rw [List.length_append]; omega) (HR1.out.kept hf hB (fun q o e => hne q o A1 e (HA1.out q o e))) (by omega) (fun q o e => (HA1.out q o e).1) hst0.size
      have K := hide kw
      have HS := hide hst0
      clear kw hst0 hst hG1 hf hv hne
      go_wp2_with fail
      refine K.out.mono ?_
      rintro e w1 hw
      obtain ⟨v2, rfl, hst2, hf2, hv2⟩ := HS.out.wrote ok hw
      have HS2 := hide (And.intro hst2 (And.intro hf2 hv2))
      clear hst2 hf2 hv2 hw
      go_wp2_with fail
      go_roundw
      case rel => exact ⟨2, by omega, by go_num, hide ⟨v2, by simpa using HS2.out.1, left_then HF.out HV.out HS2.out.2.1 HS2.out.2.2⟩⟩
      case measure => simp [intOf]
    | 2, _, hleft =>
      clear hst hG1 hf hv hne
      go_wp2_with fail
      go_ret
      exact ⟨rfl, by simpa using hleft.out⟩
    | j + 3, hj, _ => omega
end Go.Proofs.YtjjahfhnebicjaaDoor

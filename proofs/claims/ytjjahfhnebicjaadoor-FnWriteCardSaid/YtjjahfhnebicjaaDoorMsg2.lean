/- ncopy. -/
import Derived.Test.YtjjahfhnebicjaaDoorMsg
import Derived.Deep.CutBlock
namespace Go.Proofs.YtjjahfhnebicjaaDoor
open Go.ChangeShapes Go.WideShapes Go.ChangeAt Go.RowKit

set_option maxHeartbeats 4000000 in
set_option maxRecDepth 10000 in
theorem ncopy (E : Env) (ok : E.Ok) (hsrv : E.srv = false) (w : World) (bm : Nat) (wr v : Value) (xs : List UInt8) (i t : Nat) (buf : List UInt8) (u : TypeId) (x : Value) (X : List UInt8) (K : Nat) (p : List UInt8) (m : Nat) (hm : 1 ≤ m) (hmp : p.length = m)
    (h : WSt E w bm wr v xs i t buf u x) (hM : E.M ≤ 60000) (hinv : Inv E X K xs i t (buf ++ p)) (hX : X.length + 60100 ≤ 1000000000) (hK : K ≤ 1000000) :
    Calls Tryd.prog 90 #[.pointer (some ⟨bm, 0, none⟩), .int .i64 (m : Int)] w fun en w' => ∃ v' xs' i' t' buf', en = .returned (.tuple #[.int .i64 ((min (E.M - 14 - buf'.length) m : Nat) : Int), .nilIface]) ∧ buf'.length < E.M - 14 ∧ Went E w v bm wr X K p u x w' v' xs' i' t' buf' := by
  have hm14 := ok.m
  have hle := h.le
  have m0 : w.cell? ⟨bm, 0, none⟩ = some (.pointer (some ⟨E.bc, 0, none⟩)) := h.mw.cell 0
  have m1 : w.cell? ⟨bm, 1, none⟩ = some (.int .i64 ((14 + buf.length : Nat) : Int)) := h.mw.cell 1
  have c3 : w.cell? ⟨E.bc, 3, none⟩ = some (.slice (some ⟨E.bw, 0, none⟩) E.M E.M) := h.st.conn.cell 3
  obtain ⟨r, hr⟩ : ∃ r : Nat, E.M - 14 - buf.length = r := ⟨_, rfl⟩
  have hw1 : wrap64 ((E.M : Int) - (14 + (buf.length : Int))) = (r : Int) := by unfold wrap64; omega
  have hw2 : IntKind.i64.wrap ((E.M : Int) - (14 + (buf.length : Int))) = (r : Int) := by rw [IntKind.wrap_i64]; omega
  have hw3 : wrap64 ((E.M : Int) - 14) = ((E.M - 14 : Nat) : Int) := by unfold wrap64; omega
  have hw4 : IntKind.i64.wrap ((E.M : Int) - 14) = ((E.M - 14 : Nat) : Int) := by rw [IntKind.wrap_i64]; omega
  obtain ⟨S, hS⟩ : ∃ S : Nat, E.M - 14 = S := ⟨_, rfl⟩
  rw [hS] at hw3 hw4
  have he := errNe
  have H := hide h
  have HInv := hide hinv
  have HR := hide hr
  have HS := hide hS
  have HLe := hide hle
  clear h hinv hr hS hle
  go_enter Tryd.func90, Tryd.ntmps90
  go_upto_region 1 with fail
  go_quiet (fail)
  go_upto_if 22 with fail
  go_cut [6] from 8 (fun v1 wx => ∃ v' xs' i' t' buf', v1 = .int .i64 ((E.M - 14 - List.length buf' : Nat) : Int) ∧ Hid (List.length buf' < E.M - 14) ∧ Hid (Went E w v bm wr X K p u x wx v' xs' i' t' buf'))
  case first =>
    by_cases hfull : buf.length = S
    · have hr0 : r = 0 := by have := HR.out; have := HS.out; omega
      subst hr0
      have HFull := hide hfull
      clear hfull
      go_wp2_with fail
      refine (flushFull E ok hsrv _ bm wr v xs i t buf u x X K p (by omega) (H.out.drewN _) (by rw [HS.out]; exact HFull.out) hM HInv.out hX hK).mono ?_
      rintro e w2 ⟨rfl, v', xs', i', hwe⟩
      have q0 : w2.cell? ⟨bm, 0, none⟩ = some (.pointer (some ⟨E.bc, 0, none⟩)) := hwe.wst.mw.cell 0
      have q1 : w2.cell? ⟨bm, 1, none⟩ = some (.int .i64 14) := hwe.wst.mw.cell 1
      have q3 : w2.cell? ⟨E.bc, 3, none⟩ = some (.slice (some ⟨E.bw, 0, none⟩) E.M E.M) := hwe.wst.st.conn.cell 3
      have HW := hide hwe
      clear hwe
      go_wp2_with fail
      go_quiet (fail)
      go_wp2_with fail
      go_meet
      case rel => exact ⟨v', xs', i', 0, [], by rw [← HS.out]; rfl, hide (by show 0 < _; omega), hide (HW.out.drew0.drew1 _)⟩
    · have hrn : ¬ r = 0 := by have := HR.out; have := HS.out; have := HLe.out; omega
      have hri : decide ((r : Int) ≤ 0) = false := decide_eq_false (by omega)
      have HN := hide hfull
      clear hfull
      go_wp2_with fail
      go_meet
      case rel => exact ⟨v, xs, i, t, buf, by rw [HR.out], hide (by have := HN.out; have := HS.out; have := HLe.out; omega), hide ((Went.start H.out HInv.out).drew1 _)⟩
  case rest =>
  obtain ⟨v', xs', i', t', buf', rfl, hlt, hw⟩ := hcut
  obtain ⟨q, hq⟩ : ∃ q : Nat, E.M - 14 - buf'.length = q := ⟨_, rfl⟩
  rw [hq]
  by_cases hqm : q ≤ m
  · have hd : decide ((m : Int) < (q : Int)) = false := decide_eq_false (by omega)
    have HQ := hide hq
    have HQm := hide hqm
    clear hq
    go_wp2_with fail
    go_ret2
    exact ⟨v', xs', i', t', buf', by rw [HQ.out, Nat.min_eq_left HQm.out]; rfl, hlt.out, hw.out⟩
  · have hd : decide ((m : Int) < (q : Int)) = true := decide_eq_true (by omega)
    have HQ := hide hq
    have HQm := hide hqm
    clear hq
    go_wp2_with fail
    go_ret2
    exact ⟨v', xs', i', t', buf', by rw [HQ.out, Nat.min_eq_right (by have := HQm.out; omega)]; rfl, hlt.out, hw.out⟩
end Go.Proofs.YtjjahfhnebicjaaDoor

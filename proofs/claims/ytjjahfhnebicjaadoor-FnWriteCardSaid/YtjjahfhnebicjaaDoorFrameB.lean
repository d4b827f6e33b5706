/- flushFrame of a server: a frame of more than 125 bytes, the last one. -/
import Derived.Test.YtjjahfhnebicjaaDoorFrame2
import Derived.Deep.CutRange
import Derived.StillTailTactics
namespace Go.Proofs.YtjjahfhnebicjaaDoor
open Go.ChangeShapes Go.WideShapes Go.ChangeAt Go.RowKit

set_option maxHeartbeats 20000000 in
set_option maxRecDepth 10000 in
theorem flushFrame_B (E : Env) (ok : E.Ok) (hs : E.srv = true) (w : World) (wr v : Value) (xs zs : List UInt8) (i bm k t L : Nat) (hLk : L = k + zs.length) (hL : ¬ L ≤ 125) (ht : t ≤ 2) (cs : List Value) (d1 : List UInt8) (A1 : Option Addr) (c1 : Nat) (u : TypeId) (x : Value)
    (hz : E.srv = false → zs = []) (hk : d1.length = k) (hlen : L ≤ 60000) (hkM : 14 + k ≤ E.M) (hlim : xs.length + 60100 ≤ 1000000000) (_ : i ≤ 1000000) (fr : List UInt8) (hfr : frameL true true t L (E.key i) d1 = fr) (i2 : Nat) (hi2 : i = i2)
    (h : St E w wr false .nilIface v xs i) (hcs : Blk w E.bw 5 cs) (hcl : cs.length = E.M) (hd : (cs.drop 14).take k = bv d1)
    (hm : Blk w bm 93 [.pointer (some ⟨E.bc, 0, none⟩), .int .i64 ((14 + k : Nat) : Int), .int .i64 (t : Int), .nilIface]) (hbm : E.base ≤ bm) (hbv : v.ownBlock ≠ some bm)
    (hg5 : w.cell? ⟨5, 0, none⟩ = some (.iface u x))
    (hr1 : Rd w w.heap.size A1 (bv zs)) (hA1 : ∀ g o, A1 = some ⟨g, o, none⟩ → E.base ≤ g ∧ v.ownBlock ≠ some g ∧ g ≠ bm) :
    Calls Tryd.prog 42 #[.pointer (some ⟨bm, 0, none⟩), .bool true, .slice A1 zs.length c1] w fun en w' => en = .returned .nilIface ∧ Flushed E true w wr v (xs ++ (fr ++ zs)) i2 bm k t u x w' := by
  have HFr := hide hfr
  have HI2 := hide hi2
  clear hfr hi2
  have hctl : isControlN (t : Int) = false := by unfold isControlN; simp; omega
  have kc := wsIsControl (t : Int)
  rw [hctl] at kc
  obtain ⟨b0, hb0⟩ : ∃ b : Int, (b0N true t : Int) = b := ⟨_, rfl⟩
  have ho : bits .or .u8 (t : Int) 128 = b0 := by rw [or128 t (by omega), ← hb0]; rfl
  have m0 : w.cell? ⟨bm, 0, none⟩ = some (.pointer (some ⟨E.bc, 0, none⟩)) := hm.cell 0
  have m1 : w.cell? ⟨bm, 1, none⟩ = some (.int .i64 ((14 + k : Nat) : Int)) := hm.cell 1
  have m2 : w.cell? ⟨bm, 2, none⟩ = some (.int .i64 (t : Int)) := hm.cell 2
  have e1 : w.cell? ⟨E.bc, 1, none⟩ = some (.bool true) := by rw [← hs]; exact h.conn.cell 1
  have e3 : w.cell? ⟨E.bc, 3, none⟩ = some (.slice (some ⟨E.bw, 0, none⟩) E.M E.M) := h.conn.cell 3
  have hM1 := ok.m
  have hc15 : 15 ≤ cs.length := by omega
  obtain ⟨xa, xb, r1, r2, r3, r4⟩ := spots hcs 10 11 rfl (by omega)
  have f3 : ∀ q, (w.setCell ⟨E.bw, 10, none⟩ q).cell? ⟨E.bc, 3, none⟩ = some (.slice (some ⟨E.bw, 0, none⟩) E.M E.M) := fun q => (h.conn.far (p := ⟨E.bw, 10, none⟩) ok.cw q).cell 3
  have y1 : decide ((65536 : Int) ≤ (L : Int)) = false := decide_eq_false (by omega)
  have hb1 : (b1N true : Int) = 0 := rfl
  have y2 : decide ((125 : Int) < (L : Int)) = true := decide_eq_true (by omega)
  have y4 : (L : Int) % 65536 = (L : Int) := by omega
  obtain ⟨bL, hbL⟩ : ∃ b : Int, ((126 + b1N true : Nat) : Int) = b := ⟨_, rfl⟩
  have hor := or_lo true 126 (by omega)
  rw [hbL, hb1, show ((126 : Nat) : Int) = 126 from rfl] at hor
  have hfp : 10 = fpN true L := by unfold fpN; rw [if_neg hL]; rfl
  have hA2 := Hdr.two (w := w) (E := E) (srv := true) (final := true) (t := t) 10 (by omega) ht hcs hc15
  rw [hb0, hbL] at hA2
  have hfA : Fr (fun k => k = E.bw) w ((w.setCell ⟨E.bw, 10, none⟩ (.int .u8 b0)).setCell ⟨E.bw, 11, none⟩ (.int .u8 bL)) := ((Fr.refl (fun k => k = E.bw) w).setCell (p := ⟨E.bw, 10, none⟩) (fun _ => rfl) _).setCell (p := ⟨E.bw, 11, none⟩) (fun _ => rfl) _
  have HA2 := hide hA2
  have HFA := hide hfA
  clear hA2 hfA
  have HHk := hide hk
  have hLK := hide hLk
  have KC := hide kc
  have H := hide h
  have HM := hide hm
  have HCs := hide hcs
  have HD := hide hd
  have HR1 := hide hr1
  have HA1 := hide hA1
  have HS := hide hs
  have HZ := hide hz
  have HLen := hide hlen
  have HL := hide hL
  have HB0 := hide hb0
  clear hb1
  have HbL := hide hbL
  have HFp := hide hfp
  clear hLk kc h hm hcs hd hr1 hA1 hctl hk hs hz hlen hL hb0 hbL hfp
  go_enter Tryd.func42, Tryd.ntmps42
  go_upto_region 8 with (go_at_call 37; refine (KC.out _).mono ?_; rintro e w' ⟨rfl, rfl⟩)
  rw [show wrap64 (14 + (k : Int) - 14) = (k : Int) by have := hLK.out; have := HLen.out; unfold wrap64; omega, show wrap64 ((k : Int) + (zs.length : Int)) = (L : Int) by have := hLK.out; have := HLen.out; unfold wrap64; omega]
  go_upto_region 25 with fail
  obtain ⟨i0, hi0, hz0, hz1, hz2⟩ := info_parts Tryd.info_u8
  have hw2 : IntKind.i64.wrap 12 = 12 := by decide +kernel
  have hwL : IntKind.u16.wrap (L : Int) = (L : Int) := by have := HLen.out; unfold IntKind.wrap; simp [IntKind.bits, IntKind.signed]; omega
  generalize (w.setCell ⟨E.bw, 10, none⟩ (.int .u8 b0)).setCell ⟨E.bw, 11, none⟩ (.int .u8 bL) = wA at *
  have n3 : wA.cell? ⟨E.bc, 3, none⟩ = some (.slice (some ⟨E.bw, 0, none⟩) E.M E.M) := (H.out.conn.kept HFA.out ok.cw).cell 3
  have hcutA : ∀ w, (Instr.slice 26 (.slice (some ⟨E.bw, 0, none⟩) E.M E.M) (some (.int .i64 12)) none none).run Tryd.prog w = .ok (.slice (cutA (some ⟨E.bw, 0, none⟩) 12 E.M) (E.M - 12) (E.M - 12)) w :=
    run_cut_from (P := Tryd.prog) 26 5 i0 Tryd.underlying26 hi0 hz1 (some ⟨E.bw, 0, none⟩) E.M E.M 12 (by omega)
  rw [cutA_some E.bw 0 12 E.M (by omega), Nat.zero_add] at hcutA
  have kp := putUint16 E.bw 12 (E.M - 12) (E.M - 12) L (by have := HLen.out; omega) (by omega) _ wA.drew HA2.out (by rw [length_splice _ _ _ (by rw [bv_length]; show 10 + 2 ≤ _; omega)]; omega)
  have KP := hide kp
  clear kp
  go_still_tail 10, (by kernel_rfl)
  change wpList _ _ _ _ _ wA.drew
  go_wp2_with fail
  refine KP.out.mono ?_
  rintro e w1 ⟨rfl, hcsB, hfB⟩
  have hh : Hdr E true true t L cs w w1 := Hdr.mid (srv := true) 10 HFp.out HL.out hc15 HFA.out.drew hcsB hfB
  clear hcsB hfB hw2 hwL n3 hcutA i0 hi0 hz0 hz1 hz2
  go_upto_region 26 with fail
  have hl0 := hdrL_length true true t L
  have hsp := hdr_spot true L
  have hsp14 : fpN true L + (hdrL true true t L).length ≤ 14 := by rw [hl0, hsp]; decide
  have hcl2 : (splice cs (fpN true L) (bv (hdrL true true t L))).length = E.M := by rw [length_splice _ _ _ (by rw [bv_length]; omega)]; exact hcl
  have st2 := H.out.wb ok hh.blk hcl2 hh.fr
  have hm2 := HM.out.kept hh.fr (by show ¬ bm = E.bw; have := ok.bw; omega)
  have a1 : w1.cell? ⟨E.bc, 1, none⟩ = some (.bool true) := by rw [← HS.out]; exact st2.conn.cell 1
  have HH := hide hh
  have ST2 := hide st2
  have HM2 := hide hm2
  have HL0 := hide hl0
  have HSP := hide hsp
  have HSP14 := hide hsp14
  have HCL2 := hide hcl2
  clear hh st2 hm2 hl0 hsp hsp14 hcl2 y1 m0 m1 m2 e1 e3 y2 r1 r2 r3 r4 f3
  have hcut : Mskd E true true t L k d1 w wr v xs i w1 := by
    refine ⟨ST2.out, ⟨_, HH.out.blk, HCL2.out, ?_⟩, HH.out.fr.mono (fun _ _ e => .inl e)⟩
    have h14 : fpN true L + (hdrL true true t L).length = 14 := by rw [HL0.out]; exact HSP.out
    rw [show frameL true true t L (E.key i) d1 = hdrL true true t L ++ d1 from rfl, bv_append]
    exact join_at cs _ _ _ _ (by rw [bv_length, bv_length, h14, HHk.out]; exact HD.out) (by rw [bv_length]; omega) (by rw [bv_length, bv_length, HHk.out]; omega)
  obtain ⟨st3, ⟨cs3, hb3, hl3, hj3⟩, hf3⟩ := hcut
  have hbmb : E.bw < bm := by have := ok.bw; omega
  have hbmc : E.bc < bm := by have := ok.bc; omega
  have hbmi : E.bi < bm := by have := ok.bi; omega
  have hm3 := HM.out.kept hf3 (by show ¬ (bm = E.bw ∨ bm = E.bi); omega)
  have a6 : w1.cell? ⟨E.bc, 6, none⟩ = some (.bool false) := st3.conn.cell 6
  have z6 := st3.conn.frozen 6
  have st4 := st3.conn_store ok 6 (.bool true) (cells_6 E wr false .nilIface true)
  have hm4 := hm3.far (p := ⟨E.bc, 6, none⟩) (by show bm ≠ E.bc; omega) (.bool true)
  have hb4 := hb3.far (p := ⟨E.bc, 6, none⟩) (Ne.symm ok.cw) (.bool true)
  have hf4 : Fr (fun b => b = E.bw ∨ b = E.bi ∨ b = E.bc) w (w1.setCell ⟨E.bc, 6, none⟩ (.bool true)) := (hf3.mono (fun _ _ e => e.elim .inl (fun e => .inr (.inl e)))).setCell (p := ⟨E.bc, 6, none⟩) (fun _ => .inr (.inr rfl)) _
  have hf12 : fpN true L ≤ 12 := by rw [← HFp.out]; decide
  rw [← HFp.out] at hj3
  rw [HFr.out] at hj3
  rw [show (if (true : Bool) = true then i else i + 1) = i2 from HI2.out] at st3 st4
  have H3 := hide (And.intro st4 (And.intro hm4 (And.intro hb4 (And.intro hf4 (And.intro hl3 hj3)))))
  have H3s := hide st3
  clear st3 hm3 st4 hm4 hb4 hf4 hb3 hf3 hl3 hj3
  go_upto_region 35 with fail
  generalize w1.setCell ⟨E.bc, 6, none⟩ (.bool true) = w3 at *
  obtain ⟨st4, hm4, hb4, hf4, hl3, hj3⟩ := H3.out
  obtain ⟨i0, hi0, hz0, hz1, hz2⟩ := info_parts Tryd.info_u8
  have n1 : w3.cell? ⟨bm, 1, none⟩ = some (.int .i64 (14 + (k : Int))) := hm4.cell 1
  have n2 : w3.cell? ⟨bm, 2, none⟩ = some (.int .i64 (t : Int)) := hm4.cell 2
  have n3 : w3.cell? ⟨E.bc, 3, none⟩ = some (.slice (some ⟨E.bw, 0, none⟩) E.M E.M) := st4.conn.cell 3
  have hcutF : ∀ w, (Instr.slice 26 (.slice (some ⟨E.bw, 0, none⟩) E.M E.M) (some (.int .i64 10)) (some (.int .i64 (14 + (k : Int)))) none).run Tryd.prog w = .ok (.slice (cutA (some ⟨E.bw, 0, none⟩) 10 E.M) (14 + k - 10) (E.M - 10)) w :=
    run_cut_lh (P := Tryd.prog) 26 5 i0 Tryd.underlying26 hi0 hz1 (some ⟨E.bw, 0, none⟩) E.M E.M 10 (14 + k) (by omega) hkM
  rw [cutA_some E.bw 0 10 E.M (by omega), Nat.zero_add] at hcutF
  obtain ⟨nn, hnn⟩ : ∃ nn, 14 + k - 10 = nn := ⟨_, rfl⟩
  have hfl : fr.length = nn := by
    have := congrArg List.length hj3
    rw [bv_length, List.length_take, List.length_drop, hl3] at this
    omega
  rw [hnn] at hj3 hcutF
  have hrd : Rd w3 w3.heap.size (some ⟨E.bw, 10, none⟩) (bv fr) := by
    refine Rd.of_blk hb4 hb4.lt (fun j q hq => ?_)
    rw [← hj3, List.getElem?_take] at hq
    split at hq
    · rwa [List.getElem?_drop] at hq
    · cases hq
  have hr3 : Rd w3 w3.heap.size A1 (bv zs) := (HR1.out.kept hf4 (Nat.le_refl _) (fun g o e hb => by
    have := (HA1.out g o e).1
    have := ok.bw
    have := ok.bc
    have := ok.bi
    omega)).more hf4.size
  have st3d : St E w3.drew wr true .nilIface v xs i2 := ⟨st4.conn, st4.wbuf, st4.buf, st4.kbox, st4.kidx, st4.keys, st4.size⟩
  have kw := connWrite_any E ok w3.drew wr v true xs fr zs i2 (t : Int) (some ⟨E.bw, 10, none⟩) (E.M - 10) A1 c1 st3d (by omega) (by omega) (by have := hLK.out; have := HLen.out; omega) hrd hr3
    (fun g o e => by
      injection e with e
      injection e with e
      subst e
      refine ⟨Ne.symm ok.tw, fun hb => ?_⟩
      have := (st4.buf.own_ge hb).1
      have := ok.bw
      omega)
    (fun g o e => ⟨by have := (HA1.out g o e).1; have := ok.bt; omega, (HA1.out g o e).2.1⟩) nn zs.length hfl.symm rfl
  have KW := hide kw
  have HSt4 := hide st4
  have HHm4 := hide hm4
  have HHf4 := hide hf4
  have hnn := hide hnn
  clear kw hr3 hrd st4 hm4 hb4 hf4 hl3 hj3 H3 st3d hfl a6 z6
  have he := errNe
  go_still_tail 16, (by kernel_rfl)
  change wpList _ _ _ _ _ w3.drew
  go_wp2_with fail
  refine KW.out.mono ?_
  rintro e w4' ⟨rfl, v1, st5, hf5, hv5⟩
  have hf5' : Fr (fun k => k = E.bt ∨ v.ownBlock = some k) w3 w4' := (Fr.refl _ w3).drew.trans hf5
  have hv5' : v1.ownBlock = v.ownBlock ∨ ∃ N, v1.ownBlock = some N ∧ w3.heap.size ≤ N := hv5
  have x6 : w4'.cell? ⟨E.bc, 6, none⟩ = some (.bool true) := st5.conn.cell 6
  have xz6 := st5.conn.frozen 6
  have hst := st5.conn_store ok 6 (.bool false) (cells_6 E wr true .nilIface false)
  have hm5 := (HHm4.out.kept hf5' (fun e => e.elim (fun e => by have := ok.bt; omega) hbv)).far (p := ⟨E.bc, 6, none⟩) (by show bm ≠ E.bc; omega) (.bool false)
  have hf6 : Fr (fun b => b = E.bt ∨ b = E.bw ∨ b = E.bc ∨ b = E.bi ∨ b = bm ∨ v.ownBlock = some b) w (w4'.setCell ⟨E.bc, 6, none⟩ (.bool false)) :=
    ((HHf4.out.mono (fun _ _ e => e.elim (fun e => .inr (.inl e)) (fun e => e.elim (fun e => .inr (.inr (.inr (.inl e)))) (fun e => .inr (.inr (.inl e)))))).trans (hf5'.mono (fun _ _ e => e.elim .inl (fun e => .inr (.inr (.inr (.inr (.inr e)))))))).setCell (p := ⟨E.bc, 6, none⟩) (fun _ => .inr (.inr (.inl rfl))) _
  have hbml : bm < w3.heap.size := HHm4.out.lt
  have hv1m : v1.ownBlock ≠ some bm := by
    intro e
    rcases hv5' with h | ⟨N, h, hN⟩
    · exact hbv (h ▸ e)
    · rw [h] at e; injection e with e; omega
  have hown : v1.ownBlock = v.ownBlock ∨ ∃ N, v1.ownBlock = some N ∧ w.heap.size ≤ N := hv5'.imp id (fun ⟨N, h, hN⟩ => ⟨N, h, Nat.le_trans HHf4.out.size hN⟩)
  have HSt := hide hst
  have HM5 := hide hm5
  have HF6 := hide hf6
  have HOwn := hide hown
  clear st5 hf5 hv5 hf5' hv5' hst hm5 hf6 hown n1 n2 n3
  go_upto_if 218 with fail
  have g5 : (w4'.setCell ⟨E.bc, 6, none⟩ (.bool false)).cell? ⟨5, 0, none⟩ = some (.iface u x) := by
    have o1 := ok.one
    have o2 := ok.c0
    have o3 := ok.w0
    have o4 := ok.t0
    have o5 := H.out.conn.lt
    have o6 := ok.i0
    rw [HF6.out.cell (by show 5 < _; omega) (fun e => by
      rcases e with e | e | e | e | e | e
      · have e : 5 = E.bt := e; omega
      · have e : 5 = E.bw := e; omega
      · have e : 5 = E.bc := e; omega
      · have e : 5 = E.bi := e; omega
      · have e : 5 = bm := e; omega
      · have q := (H.out.buf.own_ge e).1; have h5 : E.base ≤ 5 := q; have := ok.bc; omega)]
    exact hg5
  generalize w4'.setCell ⟨E.bc, 6, none⟩ (.bool false) = w5' at *
  clear x6 xz6 hcutF
  have ke := endMessage E w5' wr false bm ((14 + k : Nat) : Int) (t : Int) u x .nilIface HM5.out HSt.out.conn (by omega)
  have KE := hide ke
  clear ke
  go_wp2_with fail
  refine KE.out.mono ?_
  rintro e w6 ⟨rfl, rfl⟩
  go_wp2_with fail
  go_ret
  refine ⟨rfl, v1, ?_, ?_, ?_, HOwn.out⟩
  · have s1 := HSt.out.keep ok ((Fr.refl (fun k => k = bm) w5').setCell (p := ⟨bm, 3, none⟩) (fun _ => rfl) (.iface u x)) (fun k e => by subst e; exact ⟨hbm, hv1m⟩)
    exact s1.conn_store ok 5 .nilIface (cells_5 E wr false .nilIface .nilIface)
  · exact (HM5.out.set 3 (.iface u x)).far (p := ⟨E.bc, 5, none⟩) (by show bm ≠ E.bc; omega) _
  · exact (HF6.out.setCell (p := ⟨bm, 3, none⟩) (fun _ => .inr (.inr (.inr (.inr (.inl rfl))))) _).setCell (p := ⟨E.bc, 5, none⟩) (fun _ => .inr (.inr (.inl rfl))) _
end Go.Proofs.YtjjahfhnebicjaaDoor

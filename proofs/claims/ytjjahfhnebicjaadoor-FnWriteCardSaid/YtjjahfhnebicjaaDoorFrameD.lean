/- flushFrame of a client: a frame of at most 125 bytes, not the last one. -/
import Derived.Test.YtjjahfhnebicjaaDoorFrame2
import Derived.Deep.CutRange
import Derived.StillTailTactics
namespace Go.Proofs.YtjjahfhnebicjaaDoor
open Go.ChangeShapes Go.WideShapes Go.ChangeAt Go.RowKit

set_option maxHeartbeats 20000000 in
set_option maxRecDepth 10000 in
theorem flushFrame_D (E : Env) (ok : E.Ok) (hs : E.srv = false) (w : World) (wr v : Value) (xs zs : List UInt8) (i bm k t L : Nat) (hLk : L = k + zs.length) (hL : L ≤ 125) (ht : t ≤ 2) (cs : List Value) (d1 : List UInt8) (A1 : Option Addr) (c1 : Nat) (u : TypeId) (x : Value)
    (hz : E.srv = false → zs = []) (hk : d1.length = k) (hlen : L ≤ 60000) (hkM : 14 + k ≤ E.M) (hlim : xs.length + 60100 ≤ 1000000000) (hi : i ≤ 1000000) (fr : List UInt8) (hfr : frameL false false t L (E.key i) d1 = fr) (i2 : Nat) (hi2 : i + 1 = i2)
    (h : St E w wr false .nilIface v xs i) (hcs : Blk w E.bw 5 cs) (hcl : cs.length = E.M) (hd : (cs.drop 14).take k = bv d1)
    (hm : Blk w bm 93 [.pointer (some ⟨E.bc, 0, none⟩), .int .i64 ((14 + k : Nat) : Int), .int .i64 (t : Int), .nilIface]) (hbm : E.base ≤ bm) (hbv : v.ownBlock ≠ some bm)
    (hg5 : w.cell? ⟨5, 0, none⟩ = some (.iface u x))
    (hr1 : Rd w w.heap.size A1 (bv zs)) (hA1 : ∀ g o, A1 = some ⟨g, o, none⟩ → E.base ≤ g ∧ v.ownBlock ≠ some g ∧ g ≠ bm) :
    Calls Tryd.prog 42 #[.pointer (some ⟨bm, 0, none⟩), .bool false, .slice A1 zs.length c1] w fun en w' => en = .returned .nilIface ∧ Flushed E false w wr v (xs ++ (fr ++ zs)) i2 bm k t u x w' := by
  obtain rfl : zs = [] := hz hs
  change L = k + 0 at hLk
  have HFr := hide hfr
  have HI2 := hide hi2
  clear hfr hi2
  have hctl : isControlN (t : Int) = false := by unfold isControlN; simp; omega
  have kc := wsIsControl (t : Int)
  rw [hctl] at kc
  have hb0 : (b0N false t : Int) = (t : Int) := rfl
  have ht256 : (t : Int) % 256 = (t : Int) := by omega
  have m0 : w.cell? ⟨bm, 0, none⟩ = some (.pointer (some ⟨E.bc, 0, none⟩)) := hm.cell 0
  have m1 : w.cell? ⟨bm, 1, none⟩ = some (.int .i64 ((14 + k : Nat) : Int)) := hm.cell 1
  have m2 : w.cell? ⟨bm, 2, none⟩ = some (.int .i64 (t : Int)) := hm.cell 2
  have e1 : w.cell? ⟨E.bc, 1, none⟩ = some (.bool false) := by rw [← hs]; exact h.conn.cell 1
  have e3 : w.cell? ⟨E.bc, 3, none⟩ = some (.slice (some ⟨E.bw, 0, none⟩) E.M E.M) := h.conn.cell 3
  have hM1 := ok.m
  have hc15 : 15 ≤ cs.length := by omega
  obtain ⟨xa, xb, r1, r2, r3, r4⟩ := spots hcs 8 9 rfl (by omega)
  have f3 : ∀ q, (w.setCell ⟨E.bw, 8, none⟩ q).cell? ⟨E.bc, 3, none⟩ = some (.slice (some ⟨E.bw, 0, none⟩) E.M E.M) := fun q => (h.conn.far (p := ⟨E.bw, 8, none⟩) ok.cw q).cell 3
  have y1 : decide ((65536 : Int) ≤ (L : Int)) = false := decide_eq_false (by omega)
  obtain ⟨b1, hb1⟩ : ∃ b : Int, (b1N false : Int) = b := ⟨_, rfl⟩
  have h128 : bits .or .u8 0 128 = b1 := by rw [← hb1]; decide +kernel
  have y2 : decide ((125 : Int) < (L : Int)) = false := decide_eq_false (by omega)
  have y3 : (L : Int) % 256 = (L : Int) := by omega
  obtain ⟨bL, hbL⟩ : ∃ b : Int, ((L + b1N false : Nat) : Int) = b := ⟨_, rfl⟩
  have hor := or_lo false L (by omega)
  rw [hbL, hb1] at hor
  have hfp : 8 = fpN false L := by unfold fpN; rw [if_pos hL]; rfl
  have hres := Hdr.small (w := w) (E := E) (srv := false) (final := false) (t := t) 8 hfp hL ht hcs hc15
  rw [hb0, hbL] at hres
  have HRes := hide hres
  clear hres
  have HHk := hide hk
  have hLK := hide hLk
  have KC := hide kc
  have H := hide h
  have HM := hide hm
  have HCs := hide hcs
  have HD := hide hd
  have HR1 := hide hr1
  have HA1 := hide hA1
  have HS := hide hs
  have HZ := hide hz
  have HLen := hide hlen
  have HL := hide hL
  have HB0 := hide hb0
  clear hb1
  have HbL := hide hbL
  have HFp := hide hfp
  clear hLk kc h hm hcs hd hr1 hA1 hctl hk hs hz hlen hL hb0 hbL hfp
  go_enter Tryd.func42, Tryd.ntmps42
  go_upto_region 8 with (go_at_call 37; refine (KC.out _).mono ?_; rintro e w' ⟨rfl, rfl⟩)
  first
    | rw [show wrap64 (wrap64 (14 + (k : Int) - 14)) = (L : Int) by have := hLK.out; have := HLen.out; unfold wrap64; omega]
    | rw [show (14 + (k : Int) - 14) = (L : Int) by have := hLK.out; have := HLen.out; omega]
  go_upto_region 26 with fail
  have hh : Hdr E false false t L cs w ((w.setCell ⟨E.bw, 8, none⟩ (.int .u8 (t : Int))).setCell ⟨E.bw, 9, none⟩ (.int .u8 bL)) := HRes.out
  generalize (w.setCell ⟨E.bw, 8, none⟩ (.int .u8 (t : Int))).setCell ⟨E.bw, 9, none⟩ (.int .u8 bL) = w1 at *
  have hl0 := hdrL_length false false t L
  have hsp := hdr_spot false L
  have hsp14 : fpN false L + (hdrL false false t L).length ≤ 14 := by rw [hl0, hsp]; decide
  have hcl2 : (splice cs (fpN false L) (bv (hdrL false false t L))).length = E.M := by rw [length_splice _ _ _ (by rw [bv_length]; omega)]; exact hcl
  have st2 := H.out.wb ok hh.blk hcl2 hh.fr
  have hm2 := HM.out.kept hh.fr (by show ¬ bm = E.bw; have := ok.bw; omega)
  have a1 : w1.cell? ⟨E.bc, 1, none⟩ = some (.bool false) := by rw [← HS.out]; exact st2.conn.cell 1
  have HH := hide hh
  have ST2 := hide st2
  have HM2 := hide hm2
  have HL0 := hide hl0
  have HSP := hide hsp
  have HSP14 := hide hsp14
  have HCL2 := hide hcl2
  clear hh st2 hm2 hl0 hsp hsp14 hcl2 y1 m0 m1 m2 e1 e3 y2 r1 r2 r3 r4 f3
  have e8 : w1.cell? ⟨E.bc, 8, none⟩ = some (.func (.func 29) #[] #[.pointer (some ⟨E.bk, 0, none⟩), .pointer (some ⟨E.bi, 0, none⟩)]) := ST2.out.conn.cell 8
  obtain ⟨k0, k1, k2, k3, hkey, kk⟩ := nextKey E ok HS.out w1 wr .nilIface v false xs i hi ST2.out
  have KK := hide kk
  have HKey := hide hkey
  clear kk hkey
  go_upto_region 28 with (
    refine KK.out.mono ?_
    rintro e w2 ⟨rfl, st3, hf3⟩
    have ST3 := hide st3
    have HF3 := hide hf3
    clear st3 hf3)
  have hK := Blk.new w2 42 (bv [k0, k1, k2, k3])
  have hfA : Fr (fun _ => False) w2 (w2.alloc (.cells (bv [k0, k1, k2, k3]).toArray 42)) := (Fr.refl _ w2).alloc _
  have hsz2 := HF3.out.size
  have hbwl : E.bw < w2.heap.size := by have := HH.out.blk.lt; omega
  have hbml : bm < w2.heap.size := by have := HM2.out.lt; omega
  have hbcl : E.bc < w2.heap.size := by have := ST2.out.conn.lt; omega
  have hK' : w2.alloc (.cells (bv [k0, k1, k2, k3]).toArray 42) = w2.alloc (.cells #[.int .u8 (k0.toNat : Int), .int .u8 (k1.toNat : Int), .int .u8 (k2.toNat : Int), .int .u8 (k3.toNat : Int)] 42) := rfl
  rw [← hK']
  generalize w2.alloc (.cells (bv [k0, k1, k2, k3]).toArray 42) = W2 at *
  have hsu : (Tryd.prog.info? 5).map (·.size) = some 1 := by
    obtain ⟨i0, hi0, hz0, hz1, hz2⟩ := info_parts Tryd.info_u8
    rw [hi0]; simp [hz1]
  obtain ⟨i0, hi0, hz0, hz1, hz2⟩ := info_parts Tryd.info_u8
  generalize hkb : w2.heap.size = kb at *
  have hB2 : Blk W2 E.bw 5 (splice cs (fpN false L) (bv (hdrL false false t L))) := ((HH.out.blk.kept HF3.out (Ne.symm ok.iw))).kept hfA (fun h => h)
  have hM2' := (HM2.out.kept HF3.out (by show ¬ bm = E.bi; have := ok.bi; omega)).kept hfA (fun h => h)
  have hcl3 := HCL2.out
  generalize hcs2 : splice cs (fpN false L) (bv (hdrL false false t L)) = cs2 at *
  have n3 : W2.cell? ⟨E.bc, 3, none⟩ = some (.slice (some ⟨E.bw, 0, none⟩) E.M E.M) := (ST3.out.conn.kept hfA (fun h => h)).cell 3
  have hcut10 : ∀ w, (Instr.slice 26 (.slice (some ⟨E.bw, 0, none⟩) E.M E.M) (some (.int .i64 10)) none none).run Tryd.prog w = .ok (.slice (cutA (some ⟨E.bw, 0, none⟩) 10 E.M) (E.M - 10) (E.M - 10)) w :=
    run_cut_from (P := Tryd.prog) 26 5 i0 Tryd.underlying26 hi0 hz1 (some ⟨E.bw, 0, none⟩) E.M E.M 10 (by omega)
  rw [cutA_some E.bw 0 10 E.M (by omega), Nat.zero_add] at hcut10
  have hrk : Rd W2 (kb + 1) (some ⟨kb, 0, none⟩) (bv [k0, k1, k2, k3]) := Rd.of_blk hK (by omega) (fun j u hu => by rwa [Nat.zero_add])
  have HK := hide hK
  have HFA' := hide hfA
  have HB2 := hide hB2
  have HM3 := hide hM2'
  have HRK := hide hrk
  have HCs2 := hide hcs2
  have HKb := hide hkb
  clear hK hfA hB2 hM2' hrk hcs2 hkb hK'
  have htk : (bv [k0, k1, k2, k3]).take (E.M - 10) = bv [k0, k1, k2, k3] := List.take_of_length_le (by rw [bv_length]; show 4 ≤ _; omega)
  have hfit : 10 + min 4 (E.M - 10) ≤ cs2.length := by
    have : min 4 (E.M - 10) ≤ 4 := Nat.min_le_left _ _
    omega
  have hfit := hide hfit
  go_still_tail 6, (by kernel_rfl)
  change wpList _ _ _ _ _ W2.drew
  refine (wpList_cp _ rfl (.tmp 157) (.tmp 158) 26 26 rfl 5 Tryd.underlying26 hsu (some ⟨E.bw, 10, none⟩) (some ⟨kb, 0, none⟩) (E.M - 10) (E.M - 10) 4 4 rfl rfl (kb + 1) E.bw 10 5 cs2 (bv [k0, k1, k2, k3]) rfl HB2.out HRK.out (bv_one _) (fun _ => rfl) hfit.out ?_)
  intro w4 hb4' hf4'
  have hb4 := hb4'.out
  rw [htk] at hb4
  have hf4 : Fr (fun b => b = E.bw) W2 w4 := (Fr.refl _ W2).drew.trans hf4'.out
  clear hb4' hf4'
  have hbkb : E.bw < kb := hbwl
  have hK4 := HK.out.kept hf4 (by show ¬ kb = E.bw; omega)
  have hM4 := HM3.out.kept hf4 (by show ¬ bm = E.bw; have := ok.bw; omega)
  have x0 : w4.cell? ⟨kb, 0, none⟩ = some (.int .u8 (k0.toNat : Int)) := hK4.cell 0
  have x1 : w4.cell? ⟨kb, 1, none⟩ = some (.int .u8 (k1.toNat : Int)) := hK4.cell 1
  have x2 : w4.cell? ⟨kb, 2, none⟩ = some (.int .u8 (k2.toNat : Int)) := hK4.cell 2
  have x3 : w4.cell? ⟨kb, 3, none⟩ = some (.int .u8 (k3.toNat : Int)) := hK4.cell 3
  have p1 : w4.cell? ⟨bm, 1, none⟩ = some (.int .i64 (14 + (k : Int))) := hM4.cell 1
  have n4 : w4.cell? ⟨E.bc, 3, none⟩ = some (.slice (some ⟨E.bw, 0, none⟩) E.M E.M) := ((ST3.out.conn.kept HFA'.out (fun h => h)).kept hf4 ok.cw).cell 3
  have hcut14 : ∀ w, (Instr.slice 26 (.slice (some ⟨E.bw, 0, none⟩) E.M E.M) (some (.int .i64 14)) (some (.int .i64 (14 + (k : Int)))) none).run Tryd.prog w = .ok (.slice (cutA (some ⟨E.bw, 0, none⟩) 14 E.M) (14 + k - 14) (E.M - 14)) w :=
    run_cut_lh (P := Tryd.prog) 26 5 i0 Tryd.underlying26 hi0 hz1 (some ⟨E.bw, 0, none⟩) E.M E.M 14 (14 + k) (by omega) hkM
  rw [Nat.add_sub_cancel_left, cutA_some E.bw 0 14 E.M (by omega), Nat.zero_add] at hcut14
  have hcsl : cs2.length = E.M := hcl3
  have hcs4 : (splice cs2 10 (bv [k0, k1, k2, k3])).length = E.M := by rw [length_splice _ _ _ (by rw [bv_length]; show 10 + 4 ≤ _; omega)]; exact hcsl
  have h10 : fpN false L + (hdrL false false t L).length = 10 := by rw [HL0.out]; exact HSP.out
  have hx14 : ((splice cs2 10 (bv [k0, k1, k2, k3])).drop 14).take d1.length = bv d1 := by
    rw [splice_drop cs2 _ 10 14 (by rw [bv_length]; exact Nat.le_refl 14) (by omega), ← HCs2.out, splice_drop cs _ _ 14 (by rw [bv_length]; omega) (by omega), HHk.out]
    exact HD.out
  have km := maskAt k0 k1 k2 k3 E.bw 14 (E.M - 14) k (some ⟨E.bw, 14, none⟩) (splice cs2 10 (bv [k0, k1, k2, k3])) d1 w4.drew HHk.out.symm (by have := HHk.out; have := HLen.out; have := hLK.out; omega) hb4 (by rw [hcs4, HHk.out]; omega) (fun _ => rfl) hx14
  have hjoin : ((splice (splice cs2 10 (bv [k0, k1, k2, k3])) 14 (bv (maskL [k0, k1, k2, k3] 0 d1))).drop (fpN false L)).take (14 + k - fpN false L) = bv (frameL false false t L (E.key i) d1) := by
    have e1 := splice_splice cs (bv (hdrL false false t L)) (bv [k0, k1, k2, k3]) (fpN false L) (by rw [bv_length, bv_length, h10]; show 10 + 4 ≤ _; omega)
    rw [bv_length, h10, HCs2.out] at e1
    have e2 := splice_splice cs (bv (hdrL false false t L) ++ bv [k0, k1, k2, k3]) (bv (maskL [k0, k1, k2, k3] 0 d1)) (fpN false L) (by rw [List.length_append, bv_length, bv_length, bv_length, maskL_length, HHk.out]; show fpN false L + (_ + 4) + _ ≤ _; omega)
    rw [List.length_append, bv_length, bv_length, ← Nat.add_assoc, h10] at e2
    rw [e1]
    rw [show 10 + [k0, k1, k2, k3].length = 14 from rfl] at e2
    rw [e2, HKey.out, show frameL false false t L [k0, k1, k2, k3] d1 = hdrL false false t L ++ ([k0, k1, k2, k3] ++ maskL [k0, k1, k2, k3] 0 d1) from rfl, bv_append, bv_append, ← List.append_assoc]
    have hlen : (bv (hdrL false false t L) ++ bv [k0, k1, k2, k3] ++ bv (maskL [k0, k1, k2, k3] 0 d1)).length = 14 + k - fpN false L := by
      rw [List.length_append, List.length_append, bv_length, bv_length, bv_length, maskL_length, HHk.out]
      show (hdrL false false t L).length + 4 + k = _
      omega
    rw [← hlen]
    exact splice_at cs _ _ (by rw [hlen]; omega)
  have KM := hide km
  have HJ := hide hjoin
  have HF4 := hide hf4
  have HC4 := hide hcs4
  clear km hjoin hf4 hcs4 hx14 hcsl h10 hb4 hK4 hM4 n3
  go_upto_region 29 with fail
  go_still_tail 10, (by kernel_rfl)
  change wpList _ _ _ _ _ w4.drew
  go_wp2_with fail
  refine KM.out.mono ?_
  rintro e w5 ⟨⟨r, rfl⟩, hb5, hf5⟩
  have HB5 := hide hb5
  have HF5 := hide hf5
  clear hb5 hf5
  go_upto_region 32 with fail
  have fw := ((HFA'.out.mono (fun _ _ e => e.elim)).trans HF4.out).trans ((Fr.refl _ w4).drew.trans HF5.out)
  have hcl5 : (splice (splice cs2 10 (bv [k0, k1, k2, k3])) 14 (bv (maskL [k0, k1, k2, k3] 0 d1))).length = E.M := by
    rw [length_splice _ _ _ (by rw [bv_length, maskL_length, HHk.out, HC4.out]; omega)]; exact HC4.out
  have hcut : Mskd E false false t L k d1 w wr v xs i w5 := ⟨ST3.out.wb ok HB5.out hcl5 fw, ⟨_, HB5.out, hcl5, HJ.out⟩, ((HH.out.fr.mono (fun _ _ e => .inl e)).trans (HF3.out.mono (fun _ _ e => .inr e))).trans (fw.mono (fun _ _ e => .inl e))⟩
  clear fw hcl5
  obtain ⟨st3, ⟨cs3, hb3, hl3, hj3⟩, hf3⟩ := hcut
  have hbmb : E.bw < bm := by have := ok.bw; omega
  have hbmc : E.bc < bm := by have := ok.bc; omega
  have hbmi : E.bi < bm := by have := ok.bi; omega
  have hm3 := HM.out.kept hf3 (by show ¬ (bm = E.bw ∨ bm = E.bi); omega)
  have a6 : w5.cell? ⟨E.bc, 6, none⟩ = some (.bool false) := st3.conn.cell 6
  have z6 := st3.conn.frozen 6
  have st4 := st3.conn_store ok 6 (.bool true) (cells_6 E wr false .nilIface true)
  have hm4 := hm3.far (p := ⟨E.bc, 6, none⟩) (by show bm ≠ E.bc; omega) (.bool true)
  have hb4 := hb3.far (p := ⟨E.bc, 6, none⟩) (Ne.symm ok.cw) (.bool true)
  have hf4 : Fr (fun b => b = E.bw ∨ b = E.bi ∨ b = E.bc) w (w5.setCell ⟨E.bc, 6, none⟩ (.bool true)) := (hf3.mono (fun _ _ e => e.elim .inl (fun e => .inr (.inl e)))).setCell (p := ⟨E.bc, 6, none⟩) (fun _ => .inr (.inr rfl)) _
  have hf12 : fpN false L ≤ 12 := by rw [← HFp.out]; decide
  rw [← HFp.out] at hj3
  rw [HFr.out] at hj3
  rw [show (if (false : Bool) = true then i else i + 1) = i2 from HI2.out] at st3 st4
  have H3 := hide (And.intro st4 (And.intro hm4 (And.intro hb4 (And.intro hf4 (And.intro hl3 hj3)))))
  have H3s := hide st3
  clear st3 hm3 st4 hm4 hb4 hf4 hb3 hf3 hl3 hj3
  go_upto_region 35 with fail
  generalize w5.setCell ⟨E.bc, 6, none⟩ (.bool true) = w3 at *
  obtain ⟨st4, hm4, hb4, hf4, hl3, hj3⟩ := H3.out
  obtain ⟨i0, hi0, hz0, hz1, hz2⟩ := info_parts Tryd.info_u8
  have n1 : w3.cell? ⟨bm, 1, none⟩ = some (.int .i64 (14 + (k : Int))) := hm4.cell 1
  have n2 : w3.cell? ⟨bm, 2, none⟩ = some (.int .i64 (t : Int)) := hm4.cell 2
  have n3 : w3.cell? ⟨E.bc, 3, none⟩ = some (.slice (some ⟨E.bw, 0, none⟩) E.M E.M) := st4.conn.cell 3
  have hcutF : ∀ w, (Instr.slice 26 (.slice (some ⟨E.bw, 0, none⟩) E.M E.M) (some (.int .i64 8)) (some (.int .i64 (14 + (k : Int)))) none).run Tryd.prog w = .ok (.slice (cutA (some ⟨E.bw, 0, none⟩) 8 E.M) (14 + k - 8) (E.M - 8)) w :=
    run_cut_lh (P := Tryd.prog) 26 5 i0 Tryd.underlying26 hi0 hz1 (some ⟨E.bw, 0, none⟩) E.M E.M 8 (14 + k) (by omega) hkM
  rw [cutA_some E.bw 0 8 E.M (by omega), Nat.zero_add] at hcutF
  obtain ⟨nn, hnn⟩ : ∃ nn, 14 + k - 8 = nn := ⟨_, rfl⟩
  have hfl : fr.length = nn := by
    have := congrArg List.length hj3
    rw [bv_length, List.length_take, List.length_drop, hl3] at this
    omega
  rw [hnn] at hj3 hcutF
  have hrd : Rd w3 w3.heap.size (some ⟨E.bw, 8, none⟩) (bv fr) := by
    refine Rd.of_blk hb4 hb4.lt (fun j q hq => ?_)
    rw [← hj3, List.getElem?_take] at hq
    split at hq
    · rwa [List.getElem?_drop] at hq
    · cases hq
  have hr3 : Rd w3 w3.heap.size A1 (bv []) := (HR1.out.kept hf4 (Nat.le_refl _) (fun g o e hb => by
    have := (HA1.out g o e).1
    have := ok.bw
    have := ok.bc
    have := ok.bi
    omega)).more hf4.size
  have st3d : St E w3.drew wr true .nilIface v xs i2 := ⟨st4.conn, st4.wbuf, st4.buf, st4.kbox, st4.kidx, st4.keys, st4.size⟩
  have kw := connWrite_any E ok w3.drew wr v true xs fr [] i2 (t : Int) (some ⟨E.bw, 8, none⟩) (E.M - 8) A1 c1 st3d (by omega) (by omega) (by have := hLK.out; have := HLen.out; simp only [List.length_nil]; omega) hrd hr3
    (fun g o e => by
      injection e with e
      injection e with e
      subst e
      refine ⟨Ne.symm ok.tw, fun hb => ?_⟩
      have := (st4.buf.own_ge hb).1
      have := ok.bw
      omega)
    (fun g o e => ⟨by have := (HA1.out g o e).1; have := ok.bt; omega, (HA1.out g o e).2.1⟩) nn 0 hfl.symm rfl
  have KW := hide kw
  have HSt4 := hide st4
  have HHm4 := hide hm4
  have HHf4 := hide hf4
  have hnn := hide hnn
  clear kw hr3 hrd st4 hm4 hb4 hf4 hl3 hj3 H3 st3d hfl a6 z6
  have he := errNe
  go_still_tail 16, (by kernel_rfl)
  change wpList _ _ _ _ _ w3.drew
  go_wp2_with fail
  refine KW.out.mono ?_
  rintro e w4' ⟨rfl, v1, st5, hf5, hv5⟩
  have hf5' : Fr (fun k => k = E.bt ∨ v.ownBlock = some k) w3 w4' := (Fr.refl _ w3).drew.trans hf5
  have hv5' : v1.ownBlock = v.ownBlock ∨ ∃ N, v1.ownBlock = some N ∧ w3.heap.size ≤ N := hv5
  have x6 : w4'.cell? ⟨E.bc, 6, none⟩ = some (.bool true) := st5.conn.cell 6
  have xz6 := st5.conn.frozen 6
  have hst := st5.conn_store ok 6 (.bool false) (cells_6 E wr true .nilIface false)
  have hm5 := (HHm4.out.kept hf5' (fun e => e.elim (fun e => by have := ok.bt; omega) hbv)).far (p := ⟨E.bc, 6, none⟩) (by show bm ≠ E.bc; omega) (.bool false)
  have hf6 : Fr (fun b => b = E.bt ∨ b = E.bw ∨ b = E.bc ∨ b = E.bi ∨ b = bm ∨ v.ownBlock = some b) w (w4'.setCell ⟨E.bc, 6, none⟩ (.bool false)) :=
    ((HHf4.out.mono (fun _ _ e => e.elim (fun e => .inr (.inl e)) (fun e => e.elim (fun e => .inr (.inr (.inr (.inl e)))) (fun e => .inr (.inr (.inl e)))))).trans (hf5'.mono (fun _ _ e => e.elim .inl (fun e => .inr (.inr (.inr (.inr (.inr e)))))))).setCell (p := ⟨E.bc, 6, none⟩) (fun _ => .inr (.inr (.inl rfl))) _
  have hbml : bm < w3.heap.size := HHm4.out.lt
  have hv1m : v1.ownBlock ≠ some bm := by
    intro e
    rcases hv5' with h | ⟨N, h, hN⟩
    · exact hbv (h ▸ e)
    · rw [h] at e; injection e with e; omega
  have hown : v1.ownBlock = v.ownBlock ∨ ∃ N, v1.ownBlock = some N ∧ w.heap.size ≤ N := hv5'.imp id (fun ⟨N, h, hN⟩ => ⟨N, h, Nat.le_trans HHf4.out.size hN⟩)
  have HSt := hide hst
  have HM5 := hide hm5
  have HF6 := hide hf6
  have HOwn := hide hown
  clear st5 hf5 hv5 hf5' hv5' hst hm5 hf6 hown n1 n2 n3
  go_upto_if 218 with fail
  have g5 : (w4'.setCell ⟨E.bc, 6, none⟩ (.bool false)).cell? ⟨5, 0, none⟩ = some (.iface u x) := by
    have o1 := ok.one
    have o2 := ok.c0
    have o3 := ok.w0
    have o4 := ok.t0
    have o5 := H.out.conn.lt
    have o6 := ok.i0
    rw [HF6.out.cell (by show 5 < _; omega) (fun e => by
      rcases e with e | e | e | e | e | e
      · have e : 5 = E.bt := e; omega
      · have e : 5 = E.bw := e; omega
      · have e : 5 = E.bc := e; omega
      · have e : 5 = E.bi := e; omega
      · have e : 5 = bm := e; omega
      · have q := (H.out.buf.own_ge e).1; have h5 : E.base ≤ 5 := q; have := ok.bc; omega)]
    exact hg5
  generalize w4'.setCell ⟨E.bc, 6, none⟩ (.bool false) = w5' at *
  clear x6 xz6 hcutF
  have zm1 := HM5.out.frozen 1
  have zm2 := fun q => (HM5.out.set 1 q).frozen 2
  have mm0 : w5'.cell? ⟨bm, 1, none⟩ = some (.int .i64 ((14 + k : Nat) : Int)) := HM5.out.cell 1
  have mm1 : ∀ q, (w5'.setCell ⟨bm, 1, none⟩ q).cell? ⟨bm, 2, none⟩ = some (.int .i64 (t : Int)) := fun q => (HM5.out.set 1 q).cell 2
  go_wp2_with fail
  go_ret
  refine ⟨rfl, v1, ?_, ?_, ?_, HOwn.out⟩
  · exact HSt.out.keep ok (((Fr.refl (fun k => k = bm) w5').setCell (p := ⟨bm, 1, none⟩) (fun _ => rfl) _).setCell (p := ⟨bm, 2, none⟩) (fun _ => rfl) _) (fun k e => by subst e; exact ⟨hbm, hv1m⟩)
  · exact (HM5.out.set 1 (.int .i64 14)).set 2 (.int .i64 0)
  · exact (HF6.out.setCell (p := ⟨bm, 1, none⟩) (fun _ => .inr (.inr (.inr (.inr (.inl rfl))))) _).setCell (p := ⟨bm, 2, none⟩) (fun _ => .inr (.inr (.inr (.inr (.inl rfl))))) _
end Go.Proofs.YtjjahfhnebicjaaDoor

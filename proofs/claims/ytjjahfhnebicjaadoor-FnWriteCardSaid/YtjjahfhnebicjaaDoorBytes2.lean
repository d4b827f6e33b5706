/- (spec.Frame).Bytes of a client. -/
import Derived.Test.YtjjahfhnebicjaaDoorBytes
import Derived.Deep.RegionLaw
namespace Go.Proofs.YtjjahfhnebicjaaDoor
open Go.ChangeShapes Go.WideShapes Go.ChangeAt Go.RowKit

set_option maxHeartbeats 2000000 in
set_option maxRecDepth 10000 in
theorem bytesClient (f : Fm) (A : Option Addr) (c : Nat) (k0 k1 k2 k3 : UInt8) (w : World) (hL : f.data.length ≤ 60000) (hop : f.op ≤ 10) (hr : Rd w w.heap.size A (bv f.data)) (hc0 : A = none → c = 0) :
    Calls Tryd.prog 17 #[.agg #[.bool f.last, .int .i64 (f.op : Int), .slice A f.data.length c], .bool false, .agg #[.int .u8 (k0.toNat : Int), .int .u8 (k1.toNat : Int), .int .u8 (k2.toNat : Int), .int .u8 (k3.toNat : Int)]] w fun e w' =>
      ∃ r xs, e = .returned r ∧ xs = frameL false f.last f.op f.data.length [k0, k1, k2, k3] f.data ∧ w'.ownsRow w.heap.size 5 1 r xs.length (bv xs) ∧ Below w.heap.size w w' := by
  obtain ⟨last, op, data⟩ := f
  obtain ⟨i0, hi0, hz0, hz1, hz2⟩ := info_parts Tryd.info_u8
  obtain ⟨L, hLe⟩ : ∃ L, data.length = L := ⟨_, rfl⟩
  obtain ⟨b0, hb0⟩ : ∃ b : Int, (b0N last op : Int) = b := ⟨_, rfl⟩
  dsimp only at hL hop hr ⊢
  rw [hLe] at hL ⊢
  have ho := or128 op (by omega)
  have hop256 : (op : Int) % 256 = (op : Int) := by omega
  have HLe := hide hLe
  have HB0 := hide hb0
  have HR := hide hr
  have HC0 := hide hc0
  clear hLe hb0 hr hc0
  go_enter Tryd.func17, Tryd.ntmps17
  go_upto_if 15 with fail
  have hB1 := (Blk.new w 41 [.bool last, .int .i64 (op : Int), .slice A L c]).alloc (.cells #[.int .u8 (k0.toNat : Int), .int .u8 (k1.toNat : Int), .int .u8 (k2.toNat : Int), .int .u8 (k3.toNat : Int)] 42)
  have hB2 := Blk.new (w.alloc (.cells #[.bool last, .int .i64 (op : Int), .slice A L c] 41)) 42 (bv [k0, k1, k2, k3])
  have hb0w : Below w.heap.size w ((w.alloc (.cells #[.bool last, .int .i64 (op : Int), .slice A L c] 41)).alloc (.cells #[.int .u8 (k0.toNat : Int), .int .u8 (k1.toNat : Int), .int .u8 (k2.toNat : Int), .int .u8 (k3.toNat : Int)] 42)) := ((Below.refl _ _).alloc (Nat.le_refl _) _).alloc (by simp) _
  have hs1 : ((w.alloc (.cells #[.bool last, .int .i64 (op : Int), .slice A L c] 41)).alloc (.cells #[.int .u8 (k0.toNat : Int), .int .u8 (k1.toNat : Int), .int .u8 (k2.toNat : Int), .int .u8 (k3.toNat : Int)] 42)).heap.size = w.heap.size + 2 := by simp
  simp only [World.size_alloc] at hB2
  have hB2 : Blk ((w.alloc (.cells #[.bool last, .int .i64 (op : Int), .slice A L c] 41)).alloc (.cells #[.int .u8 (k0.toNat : Int), .int .u8 (k1.toNat : Int), .int .u8 (k2.toNat : Int), .int .u8 (k3.toNat : Int)] 42)) (w.heap.size + 1) 42 (bv [k0, k1, k2, k3]) := hB2
  have hB1 : Blk ((w.alloc (.cells #[.bool last, .int .i64 (op : Int), .slice A L c] 41)).alloc (.cells #[.int .u8 (k0.toNat : Int), .int .u8 (k1.toNat : Int), .int .u8 (k2.toNat : Int), .int .u8 (k3.toNat : Int)] 42)) w.heap.size 41 [.bool last, .int .i64 (op : Int), .slice A L c] := hB1
  generalize (w.alloc (.cells #[.bool last, .int .i64 (op : Int), .slice A L c] 41)).alloc (.cells #[.int .u8 (k0.toNat : Int), .int .u8 (k1.toNat : Int), .int .u8 (k2.toNat : Int), .int .u8 (k3.toNat : Int)] 42) = w1 at *
  have d2 : w1.cell? ⟨w.heap.size, 2, none⟩ = some (.slice A L c) := hB1.cell 2
  have HBx1 := hide hB1
  have HBx2 := hide hB2
  have HBw := hide hb0w
  clear hB1 hB2 hb0w
  go_cut [7] from 11 (fun v wx => v = .int .u8 b0 ∧ w1 = wx)
  case first =>
    have hb := HB0.out
    cases last
    · go_wp2_with fail
      go_meet
      case rel => exact ⟨by rw [← hb]; rfl, rfl⟩
    · go_wp2_with fail
      go_meet
      case rel => exact ⟨by rw [← hb]; rfl, rfl⟩
  case rest =>
  obtain ⟨rfl, rfl⟩ := hcut
  have HLb := hide hL
  have hL4 : (w.heap.size + 2 : Nat) ≤ w1.heap.size := by omega
  have HS1 := hide hs1
  clear hs1
  by_cases hs : L ≤ 125
  · have y1 : decide ((L : Int) < 126) = true := decide_eq_true (by omega)
    have y2 : (L : Int) % 256 = (L : Int) := by omega
    obtain ⟨bL, hbL⟩ : ∃ b : Int, ((L + b1N false : Nat) : Int) = b := ⟨_, rfl⟩
    have hor := or_lo false L (by omega)
    clear hL
    rw [hbL, show (b1N false : Int) = 128 from rfl] at hor
    have hhd := hdr_small false last op L hop hs
    rw [HB0.out, hbL] at hhd
    have HHd := hide hhd
    have HS := hide hs
    have HbL := hide hbL
    clear hhd hs hbL
    go_upto_region 15 with (first
      | (at_builtin; go_loud (refine wpList_app _ rfl (.tmp 36) (.tmp 41) _ rfl (w.heap.size + 2) 5 i0 _ 1 Tryd.underlying26 hi0 hz0 hz1 hz2 rfl (.slice (some ⟨w1.heap.size, 0, none⟩) 1 1) 1 [.int .u8 b0] rfl ((own_one w1 (w.heap.size + 2) b0 (by omega)).alloc _) (w1.heap.size + 2) (some ⟨w1.heap.size + 1, 0, none⟩) 1 1 [.int .u8 bL] rfl rfl (by have := rd_one (w1.alloc (.cells #[.int .u8 b0] 5)) bL; simpa using this) (by intro h; cases h) (by intro u hu; simp at hu; subst hu; rfl) (by simp only [maxLen]; omega) (by omega) (by simp; omega) ?_)
         intro v1 w2 hown1 hg1 hat1))
    have hown : w2.ownsRow (w.heap.size + 2) 5 1 v1 2 (bv (hdrL false last op L)) := by rw [HHd.out]; exact hown1.out
    have hbel : Below (w.heap.size + 2) w1 w2 := ((((Below.refl (w.heap.size + 2) w1).alloc (by omega) _).alloc (by simp; omega) _)).grown hg1.out (by simp; omega) (fun k e => by have e : some w1.heap.size = some k := e; injection e with e; omega)
    have hhl : (hdrL false last op L).length = 2 := by rw [hdrL_length, if_pos HS.out]
    have HOwn := hide hown
    have HBel := hide hbel
    have HHl := hide hhl
    clear hown hbel hhl hg1 hat1 hown1
    have hbw2 : Below w.heap.size w w2 := HBw.out.trans (HBel.out.mono (by omega))
    have hs2 := HBel.out.size
    have hb1 := HBx1.out.below HBel.out (by omega)
    have hb2 := HBx2.out.below HBel.out (by omega)
    have dd : w2.cell? ⟨w.heap.size, 2, none⟩ = some (.slice A L c) := hb1.cell 2
    have x0 : w2.cell? ⟨w.heap.size + 1, 0, none⟩ = some (.int .u8 (k0.toNat : Int)) := hb2.cell 0
    have x1 : w2.cell? ⟨w.heap.size + 1, 1, none⟩ = some (.int .u8 (k1.toNat : Int)) := hb2.cell 1
    have x2 : w2.cell? ⟨w.heap.size + 1, 2, none⟩ = some (.int .u8 (k2.toNat : Int)) := hb2.cell 2
    have x3 : w2.cell? ⟨w.heap.size + 1, 3, none⟩ = some (.int .u8 (k3.toNat : Int)) := hb2.cell 3
    have hrk : Rd w2.drew w2.heap.size (some ⟨w.heap.size + 1, 0, none⟩) (bv [k0, k1, k2, k3]) := Rd.of_blk hb2.drew (by omega) (fun j u hu => by rwa [Nat.zero_add])
    have hrd : Rd w2.drew w2.drew.heap.size A (bv data) := (HR.out.below hbw2).more (by show w.heap.size ≤ w2.heap.size; omega)
    have km2 := specMasked k0 k1 k2 k3 0 (by omega) A c data w2.drew (by have := HLe.out; have := HLb.out; omega) hrd
    rw [HLe.out] at km2
    have hgr : ∀ v3 w3, Hid (w3.ownsRow (w.heap.size + 2) 5 1 v3 (2 + 4) (bv (hdrL false last op L) ++ bv [k0, k1, k2, k3])) → Hid (w2.drew.grownBy w3 v1.ownBlock) → Hid (Below (w.heap.size + 2) w2 w3) := fun v3 w3 _ h => hide ((Below.refl (w.heap.size + 2) w2).drew.grown h.out (by show w.heap.size + 2 ≤ w2.heap.size; omega) (fun k e => (HOwn.out.lt k e).1))
    have HHb1 := hide hb1
    have HHb2 := hide hb2
    have HBw2 := hide hbw2
    have HRk := hide hrk
    have KM2 := hide km2
    have HGr := hide hgr
    clear hb1 hb2 hbw2 hrk hrd km2 hgr
    go_region_law (first
      | (refine step_app _ rfl (.tmp 59) (.tmp 60) 26 rfl (w.heap.size + 2) 5 i0 _ 1 Tryd.underlying26 hi0 hz0 hz1 hz2 rfl v1 2 (bv (hdrL false last op L)) (by simp [Act.eval, Act.put]) (show w2.drew.ownsRow _ _ _ _ _ _ from HOwn.out) w2.heap.size (some ⟨w.heap.size + 1, 0, none⟩) 4 4 (bv [k0, k1, k2, k3]) (by simp [Act.eval, Act.put]) rfl HRk.out (by intro h; cases h) (bv_one _) (by simp only [maxLen]; omega) (by omega) (by show w.heap.size + 2 ≤ w2.heap.size; omega) ?_
         intro v3 w3 hown3 hg3 hat3
         have hbA := HGr.out v3 w3 hown3 hg3
         have ddA : w3.cell? ⟨w.heap.size, 2, none⟩ = some (.slice A L c) := (hbA.out.cell (p := ⟨w.heap.size, 2, none⟩) (by show w.heap.size < _; omega)).trans dd
         have xA0 : w3.cell? ⟨w.heap.size + 1, 0, none⟩ = some (.int .u8 (k0.toNat : Int)) := (hbA.out.cell (p := ⟨w.heap.size + 1, 0, none⟩) (by show w.heap.size + 1 < _; omega)).trans x0
         have xA1 : w3.cell? ⟨w.heap.size + 1, 1, none⟩ = some (.int .u8 (k1.toNat : Int)) := (hbA.out.cell (p := ⟨w.heap.size + 1, 1, none⟩) (by show w.heap.size + 1 < _; omega)).trans x1
         have xA2 : w3.cell? ⟨w.heap.size + 1, 2, none⟩ = some (.int .u8 (k2.toNat : Int)) := (hbA.out.cell (p := ⟨w.heap.size + 1, 2, none⟩) (by show w.heap.size + 1 < _; omega)).trans x2
         have xA3 : w3.cell? ⟨w.heap.size + 1, 3, none⟩ = some (.int .u8 (k3.toNat : Int)) := (hbA.out.cell (p := ⟨w.heap.size + 1, 3, none⟩) (by show w.heap.size + 1 < _; omega)).trans x3
         have kmA := specMasked k0 k1 k2 k3 0 (by omega) A c data w3 (by have := HLe.out; have := HLb.out; omega) (((HR.out.below (HBw2.out.trans (hbA.out.mono (by omega))))).more (by have := hbA.out.size; omega))
         have kmA := hide (HLe.out ▸ kmA))
      | (go_simp
         go_at_call 27
         refine kmA.out.mono ?_
         rintro e w4 ⟨rM, rfl, hownM, hbM⟩
         obtain ⟨Ar, cr, rfl, hnr, _, hrdr⟩ := own_shape hownM
         have HFA := hide (own_below hown3.out hbM)
         have HRA := hide hrdr
         have HNA := hide hnr
         have HEA := hide (hbA.out.trans (hbM.mono (by have := hbA.out.size; omega)))
         clear hownM hbM hnr hrdr)
      | (refine step_app _ rfl (.tmp 61) (.tmp 65) 26 rfl (w.heap.size + 2) 5 i0 _ 1 Tryd.underlying26 hi0 hz0 hz1 hz2 rfl v3 (2 + 4) (bv (hdrL false last op L) ++ bv [k0, k1, k2, k3]) (by simp [Act.eval]) HFA.out w4.heap.size Ar L cr (bv (maskL [k0, k1, k2, k3] 0 data)) (by simp [Act.eval]) (by rw [bv_length, maskL_length]; exact HLe.out) HRA.out (fun e => (HNA.out e).2) (bv_one _) (by simp only [maxLen]; have := HLb.out; omega) (by have := HLb.out; omega) (by have := HEA.out.size; omega) ?_
         intro v5 w5 hown5 hg5 hat5
         have HEnd := hide (HEA.out.grown hg5.out (by have := HEA.out.size; omega) (fun k e => (HFA.out.lt k e).1)))
      | (go_simp
         go_at_call 27
         refine KM2.out.mono ?_
         rintro e w3 ⟨rM, rfl, hownM, hbM⟩
         have hbM2 : Below w2.heap.size w2 w3 := (Below.refl w2.heap.size w2).drew.trans hbM
         have HOB := hide (own_below (w := w2.drew) HOwn.out hbM)
         have HKB := hide (HRk.out.below hbM)
         have HMB := hide hownM
         have HEB := hide hbM2
         clear hownM hbM hbM2)
      | (refine step_app _ rfl (.tmp 59) (.tmp 60) 26 rfl (w.heap.size + 2) 5 i0 _ 1 Tryd.underlying26 hi0 hz0 hz1 hz2 rfl v1 2 (bv (hdrL false last op L)) (by simp [Act.eval, Act.put]) HOB.out w2.heap.size (some ⟨w.heap.size + 1, 0, none⟩) 4 4 (bv [k0, k1, k2, k3]) (by simp [Act.eval, Act.put]) rfl HKB.out (by intro h; cases h) (bv_one _) (by simp only [maxLen]; omega) (by omega) (by have := HEB.out.size; omega) ?_
         intro v3 w4 hown3 hg3 hat3
         have hownM2 := own_fr HMB.out ((Fr.refl (fun k => v1.ownBlock = some k) w3).grown hg3.out (fun k e _ => e)) (fun k hk e => by have := (HMB.out.lt k hk).1; have h9 : w2.heap.size ≤ k := this; have := (HOwn.out.lt k e).2; omega)
         obtain ⟨Ar, cr, rfl, hnr, _, hrdr⟩ := own_shape hownM2
         have HRA := hide hrdr
         have HNA := hide hnr
         have HFB := hown3
         have HEC := hide ((HEB.out.mono (by omega : w.heap.size + 2 ≤ w2.heap.size)).grown hg3.out (by have := HEB.out.size; omega) (fun k e => (HOwn.out.lt k e).1))
         clear hownM2 hnr hrdr)
      | (refine step_app _ rfl (.tmp 61) (.tmp 65) 26 rfl (w.heap.size + 2) 5 i0 _ 1 Tryd.underlying26 hi0 hz0 hz1 hz2 rfl v3 (2 + 4) (bv (hdrL false last op L) ++ bv [k0, k1, k2, k3]) (by simp [Act.eval, Act.put]) HFB.out w4.heap.size Ar L cr (bv (maskL [k0, k1, k2, k3] 0 data)) (by simp [Act.eval, Act.put]) (by rw [bv_length, maskL_length]; exact HLe.out) HRA.out (fun e => (HNA.out e).2) (bv_one _) (by simp only [maxLen]; have := HLb.out; omega) (by have := HLb.out; omega) (by have := HEC.out.size; omega) ?_
         intro v5 w5 hown5 hg5 hat5
         have HEnd := hide (HEC.out.grown hg5.out (by have := HEC.out.size; omega) (fun k e => (HFB.out.lt k e).1))))
    all_goals (
      go_wp2_with fail
      go_ret
      refine ⟨v5, _, rfl, rfl, ?_, HBw2.out.trans (HEnd.out.mono (by omega))⟩
      have h9 := hown5.out
      rw [← bv_append, ← bv_append, List.append_assoc, show 2 + 4 + L = (hdrL false last op L ++ ([k0, k1, k2, k3] ++ maskL [k0, k1, k2, k3] 0 data)).length by rw [List.length_append, List.length_append, HHl.out, maskL_length, HLe.out]; show _ = 2 + (4 + L); omega] at h9
      exact own_base h9 (by omega))
  · have y1 : decide ((L : Int) < 126) = false := decide_eq_false (by omega)
    have y3 : decide ((L : Int) < 65536) = true := decide_eq_true (by omega)
    obtain ⟨bL, hbL⟩ : ∃ b : Int, ((126 + b1N false : Nat) : Int) = b := ⟨_, rfl⟩
    have hor := or_lo false 126 (by omega)
    rw [hbL, show (b1N false : Int) = 128 from rfl, show ((126 : Nat) : Int) = 126 from rfl] at hor
    have hhd := hdr_mid false last op L hop hs
    rw [HB0.out, hbL] at hhd
    have kfx := fixed_2 L (by omega)
    clear hL
    have HHd := hide hhd
    have HS := hide hs
    have HbL := hide hbL
    have KFx := hide kfx
    clear hhd hs hbL kfx
    go_upto_region 15 with (first
      | (at_builtin; refine (wpList_app _ rfl (.tmp 46) (.tmp 49) _ rfl (w.heap.size + 2) 5 i0 _ 1 Tryd.underlying26 hi0 hz0 hz1 hz2 rfl (.slice (some ⟨w1.heap.size, 0, none⟩) 1 1) 1 [.int .u8 b0] rfl ((own_one w1 (w.heap.size + 2) b0 (by omega)).alloc _) (w1.heap.size + 2) (some ⟨w1.heap.size + 1, 0, none⟩) 1 1 [.int .u8 bL] rfl rfl (by have := rd_one (w1.alloc (.cells #[.int .u8 b0] 5)) bL; simpa using this) (by intro h; cases h) (by intro u hu; simp at hu; subst hu; rfl) (by simp only [maxLen]; omega) (by omega) (by simp; omega) ?_)
         intro v0 w0 hown0 hg0 hat0)
      | (go_at_call 26; refine (KFx.out _).mono ?_; rintro e wf ⟨rf, rfl, hownf, hbelf⟩; obtain ⟨Af, cf, rfl, hnf, hcf, hrdf⟩ := own_shape hownf; have HOwnf := hide hownf; have HBelf := hide hbelf; have HRdf := hide hrdf; have HNf := hide hnf; clear hownf hbelf hrdf hnf)
      | (at_builtin; go_loud (refine wpList_app _ rfl (.tmp 50) (.tmp 52) _ rfl (w.heap.size + 2) 5 i0 _ 1 Tryd.underlying26 hi0 hz0 hz1 hz2 rfl v0 (1 + 1) ([.int .u8 b0] ++ [.int .u8 bL]) rfl (own_below hown0.out HBelf.out) wf.heap.size Af 2 cf (bv (be2 L)) rfl rfl HRdf.out (fun e => (HNf.out e).2) (bv_one _) (by simp only [maxLen]; omega) (by omega) (by have := hg0.out.size; have := HBelf.out.size; simp at *; omega) ?_)
         intro v1 w2 hown1 hg1 hat1))
    have hown : w2.ownsRow (w.heap.size + 2) 5 1 v1 4 (bv (hdrL false last op L)) := by rw [HHd.out]; exact hown1.out
    have hb10 : Below (w.heap.size + 2) w1 w0 := ((((Below.refl (w.heap.size + 2) w1).alloc (by omega) _).alloc (by simp; omega) _)).grown hg0.out (by simp; omega) (fun k e => by have e : some w1.heap.size = some k := e; injection e with e; omega)
    have hs10 := hb10.size
    have hbel : Below (w.heap.size + 2) w1 w2 := (hb10.trans (HBelf.out.mono (by omega))).grown hg1.out (by have := HBelf.out.size; omega) (fun k e => (hown0.out.lt k e).1)
    have hhl : (hdrL false last op L).length = 4 := by rw [hdrL_length, if_neg HS.out]
    have HOwn := hide hown
    have HBel := hide hbel
    have HHl := hide hhl
    clear hown hbel hhl hg1 hat1 hown1 hg0 hat0 hown0 hb10
    have hbw2 : Below w.heap.size w w2 := HBw.out.trans (HBel.out.mono (by omega))
    have hs2 := HBel.out.size
    have hb1 := HBx1.out.below HBel.out (by omega)
    have hb2 := HBx2.out.below HBel.out (by omega)
    have dd : w2.cell? ⟨w.heap.size, 2, none⟩ = some (.slice A L c) := hb1.cell 2
    have x0 : w2.cell? ⟨w.heap.size + 1, 0, none⟩ = some (.int .u8 (k0.toNat : Int)) := hb2.cell 0
    have x1 : w2.cell? ⟨w.heap.size + 1, 1, none⟩ = some (.int .u8 (k1.toNat : Int)) := hb2.cell 1
    have x2 : w2.cell? ⟨w.heap.size + 1, 2, none⟩ = some (.int .u8 (k2.toNat : Int)) := hb2.cell 2
    have x3 : w2.cell? ⟨w.heap.size + 1, 3, none⟩ = some (.int .u8 (k3.toNat : Int)) := hb2.cell 3
    have hrk : Rd w2.drew w2.heap.size (some ⟨w.heap.size + 1, 0, none⟩) (bv [k0, k1, k2, k3]) := Rd.of_blk hb2.drew (by omega) (fun j u hu => by rwa [Nat.zero_add])
    have hrd : Rd w2.drew w2.drew.heap.size A (bv data) := (HR.out.below hbw2).more (by show w.heap.size ≤ w2.heap.size; omega)
    have km2 := specMasked k0 k1 k2 k3 0 (by omega) A c data w2.drew (by have := HLe.out; have := HLb.out; omega) hrd
    rw [HLe.out] at km2
    have hgr : ∀ v3 w3, Hid (w3.ownsRow (w.heap.size + 2) 5 1 v3 (4 + 4) (bv (hdrL false last op L) ++ bv [k0, k1, k2, k3])) → Hid (w2.drew.grownBy w3 v1.ownBlock) → Hid (Below (w.heap.size + 2) w2 w3) := fun v3 w3 _ h => hide ((Below.refl (w.heap.size + 2) w2).drew.grown h.out (by show w.heap.size + 2 ≤ w2.heap.size; omega) (fun k e => (HOwn.out.lt k e).1))
    have HHb1 := hide hb1
    have HHb2 := hide hb2
    have HBw2 := hide hbw2
    have HRk := hide hrk
    have KM2 := hide km2
    have HGr := hide hgr
    clear hb1 hb2 hbw2 hrk hrd km2 hgr
    go_region_law (first
      | (refine step_app _ rfl (.tmp 59) (.tmp 60) 26 rfl (w.heap.size + 2) 5 i0 _ 1 Tryd.underlying26 hi0 hz0 hz1 hz2 rfl v1 4 (bv (hdrL false last op L)) (by simp [Act.eval, Act.put]) (show w2.drew.ownsRow _ _ _ _ _ _ from HOwn.out) w2.heap.size (some ⟨w.heap.size + 1, 0, none⟩) 4 4 (bv [k0, k1, k2, k3]) (by simp [Act.eval, Act.put]) rfl HRk.out (by intro h; cases h) (bv_one _) (by simp only [maxLen]; omega) (by omega) (by show w.heap.size + 2 ≤ w2.heap.size; omega) ?_
         intro v3 w3 hown3 hg3 hat3
         have hbA := HGr.out v3 w3 hown3 hg3
         have ddA : w3.cell? ⟨w.heap.size, 2, none⟩ = some (.slice A L c) := (hbA.out.cell (p := ⟨w.heap.size, 2, none⟩) (by show w.heap.size < _; omega)).trans dd
         have xA0 : w3.cell? ⟨w.heap.size + 1, 0, none⟩ = some (.int .u8 (k0.toNat : Int)) := (hbA.out.cell (p := ⟨w.heap.size + 1, 0, none⟩) (by show w.heap.size + 1 < _; omega)).trans x0
         have xA1 : w3.cell? ⟨w.heap.size + 1, 1, none⟩ = some (.int .u8 (k1.toNat : Int)) := (hbA.out.cell (p := ⟨w.heap.size + 1, 1, none⟩) (by show w.heap.size + 1 < _; omega)).trans x1
         have xA2 : w3.cell? ⟨w.heap.size + 1, 2, none⟩ = some (.int .u8 (k2.toNat : Int)) := (hbA.out.cell (p := ⟨w.heap.size + 1, 2, none⟩) (by show w.heap.size + 1 < _; omega)).trans x2
         have xA3 : w3.cell? ⟨w.heap.size + 1, 3, none⟩ = some (.int .u8 (k3.toNat : Int)) := (hbA.out.cell (p := ⟨w.heap.size + 1, 3, none⟩) (by show w.heap.size + 1 < _; omega)).trans x3
         have kmA := specMasked k0 k1 k2 k3 0 (by omega) A c data w3 (by have := HLe.out; have := HLb.out; omega) (((HR.out.below (HBw2.out.trans (hbA.out.mono (by omega))))).more (by have := hbA.out.size; omega))
         have kmA := hide (HLe.out ▸ kmA))
      | (go_simp
         go_at_call 27
         refine kmA.out.mono ?_
         rintro e w4 ⟨rM, rfl, hownM, hbM⟩
         obtain ⟨Ar, cr, rfl, hnr, _, hrdr⟩ := own_shape hownM
         have HFA := hide (own_below hown3.out hbM)
         have HRA := hide hrdr
         have HNA := hide hnr
         have HEA := hide (hbA.out.trans (hbM.mono (by have := hbA.out.size; omega)))
         clear hownM hbM hnr hrdr)
      | (refine step_app _ rfl (.tmp 61) (.tmp 65) 26 rfl (w.heap.size + 2) 5 i0 _ 1 Tryd.underlying26 hi0 hz0 hz1 hz2 rfl v3 (4 + 4) (bv (hdrL false last op L) ++ bv [k0, k1, k2, k3]) (by simp [Act.eval]) HFA.out w4.heap.size Ar L cr (bv (maskL [k0, k1, k2, k3] 0 data)) (by simp [Act.eval]) (by rw [bv_length, maskL_length]; exact HLe.out) HRA.out (fun e => (HNA.out e).2) (bv_one _) (by simp only [maxLen]; have := HLb.out; omega) (by have := HLb.out; omega) (by have := HEA.out.size; omega) ?_
         intro v5 w5 hown5 hg5 hat5
         have HEnd := hide (HEA.out.grown hg5.out (by have := HEA.out.size; omega) (fun k e => (HFA.out.lt k e).1)))
      | (go_simp
         go_at_call 27
         refine KM2.out.mono ?_
         rintro e w3 ⟨rM, rfl, hownM, hbM⟩
         have hbM2 : Below w2.heap.size w2 w3 := (Below.refl w2.heap.size w2).drew.trans hbM
         have HOB := hide (own_below (w := w2.drew) HOwn.out hbM)
         have HKB := hide (HRk.out.below hbM)
         have HMB := hide hownM
         have HEB := hide hbM2
         clear hownM hbM hbM2)
      | (refine step_app _ rfl (.tmp 59) (.tmp 60) 26 rfl (w.heap.size + 2) 5 i0 _ 1 Tryd.underlying26 hi0 hz0 hz1 hz2 rfl v1 4 (bv (hdrL false last op L)) (by simp [Act.eval, Act.put]) HOB.out w2.heap.size (some ⟨w.heap.size + 1, 0, none⟩) 4 4 (bv [k0, k1, k2, k3]) (by simp [Act.eval, Act.put]) rfl HKB.out (by intro h; cases h) (bv_one _) (by simp only [maxLen]; omega) (by omega) (by have := HEB.out.size; omega) ?_
         intro v3 w4 hown3 hg3 hat3
         have hownM2 := own_fr HMB.out ((Fr.refl (fun k => v1.ownBlock = some k) w3).grown hg3.out (fun k e _ => e)) (fun k hk e => by have := (HMB.out.lt k hk).1; have h9 : w2.heap.size ≤ k := this; have := (HOwn.out.lt k e).2; omega)
         obtain ⟨Ar, cr, rfl, hnr, _, hrdr⟩ := own_shape hownM2
         have HRA := hide hrdr
         have HNA := hide hnr
         have HFB := hown3
         have HEC := hide ((HEB.out.mono (by omega : w.heap.size + 2 ≤ w2.heap.size)).grown hg3.out (by have := HEB.out.size; omega) (fun k e => (HOwn.out.lt k e).1))
         clear hownM2 hnr hrdr)
      | (refine step_app _ rfl (.tmp 61) (.tmp 65) 26 rfl (w.heap.size + 2) 5 i0 _ 1 Tryd.underlying26 hi0 hz0 hz1 hz2 rfl v3 (4 + 4) (bv (hdrL false last op L) ++ bv [k0, k1, k2, k3]) (by simp [Act.eval, Act.put]) HFB.out w4.heap.size Ar L cr (bv (maskL [k0, k1, k2, k3] 0 data)) (by simp [Act.eval, Act.put]) (by rw [bv_length, maskL_length]; exact HLe.out) HRA.out (fun e => (HNA.out e).2) (bv_one _) (by simp only [maxLen]; have := HLb.out; omega) (by have := HLb.out; omega) (by have := HEC.out.size; omega) ?_
         intro v5 w5 hown5 hg5 hat5
         have HEnd := hide (HEC.out.grown hg5.out (by have := HEC.out.size; omega) (fun k e => (HFB.out.lt k e).1))))
    all_goals (
      go_wp2_with fail
      go_ret
      refine ⟨v5, _, rfl, rfl, ?_, HBw2.out.trans (HEnd.out.mono (by omega))⟩
      have h9 := hown5.out
      rw [← bv_append, ← bv_append, List.append_assoc, show 4 + 4 + L = (hdrL false last op L ++ ([k0, k1, k2, k3] ++ maskL [k0, k1, k2, k3] 0 data)).length by rw [List.length_append, List.length_append, HHl.out, maskL_length, HLe.out]; show _ = 4 + (4 + L); omega] at h9
      exact own_base h9 (by omega))
theorem frameBytes (srv : Bool) (f : Fm) (A : Option Addr) (c : Nat) (k0 k1 k2 k3 : UInt8) (w : World) (hL : f.data.length ≤ 60000) (hop : f.op ≤ 10) (hr : Rd w w.heap.size A (bv f.data)) (hc0 : A = none → c = 0) :
    Calls Tryd.prog 17 #[.agg #[.bool f.last, .int .i64 (f.op : Int), .slice A f.data.length c], .bool srv, .agg #[.int .u8 (k0.toNat : Int), .int .u8 (k1.toNat : Int), .int .u8 (k2.toNat : Int), .int .u8 (k3.toNat : Int)]] w fun e w' =>
      ∃ r xs, e = .returned r ∧ xs = frameL srv f.last f.op f.data.length [k0, k1, k2, k3] f.data ∧ w'.ownsRow w.heap.size 5 1 r xs.length (bv xs) ∧ Below w.heap.size w w' := by
  cases srv with
  | true => exact bytesServer f A c k0 k1 k2 k3 w hL hop hr hc0
  | false => exact bytesClient f A c k0 k1 k2 k3 w hL hop hr hc0
end Go.Proofs.YtjjahfhnebicjaaDoor

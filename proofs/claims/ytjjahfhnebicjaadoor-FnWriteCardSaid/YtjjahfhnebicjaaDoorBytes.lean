/- (spec.Frame).Bytes. -/
import Derived.Test.YtjjahfhnebicjaaDoorImpl2
namespace Go.Proofs.YtjjahfhnebicjaaDoor
open Go.ChangeShapes Go.WideShapes Go.ChangeAt Go.RowKit

theorem hdr_small (srv final : Bool) (t L : Nat) (ht : t ≤ 10) (hL : L ≤ 125) : bv (hdrL srv final t L) = [.int .u8 (b0N final t : Int), .int .u8 ((L + b1N srv : Nat) : Int)] := by
  have e1 : ((UInt8.ofNat (b0N final t)).toNat : Int) = (b0N final t : Int) := by
    have : b0N final t ≤ 138 := by unfold b0N; split <;> omega
    rw [UInt8.toNat_ofNat']; omega
  have e2 : ((UInt8.ofNat (L + b1N srv)).toNat : Int) = ((L + b1N srv : Nat) : Int) := by
    have : b1N srv ≤ 128 := by unfold b1N; split <;> omega
    rw [UInt8.toNat_ofNat']; omega
  unfold hdrL
  rw [if_pos hL]
  simp only [bv, List.map_cons, List.map_nil, e1, e2]
theorem hdr_mid (srv final : Bool) (t L : Nat) (ht : t ≤ 10) (hL : ¬ L ≤ 125) : bv (hdrL srv final t L) = [.int .u8 (b0N final t : Int), .int .u8 ((126 + b1N srv : Nat) : Int)] ++ bv (be2 L) := by
  have e1 : ((UInt8.ofNat (b0N final t)).toNat : Int) = (b0N final t : Int) := by
    have : b0N final t ≤ 138 := by unfold b0N; split <;> omega
    rw [UInt8.toNat_ofNat']; omega
  have e2 : ((UInt8.ofNat (126 + b1N srv)).toNat : Int) = ((126 + b1N srv : Nat) : Int) := by
    have : b1N srv ≤ 128 := by unfold b1N; split <;> omega
    rw [UInt8.toNat_ofNat']; omega
  unfold hdrL
  rw [if_neg hL, bv_append]
  simp only [bv, List.map_cons, List.map_nil, e1, e2]
/-- A row of one byte that was just made. -/
theorem own_one (w : World) (base : Nat) (b : Int) (hb : base ≤ w.heap.size) : (w.alloc (.cells #[.int .u8 b] 5)).ownsRow base 5 1 (.slice (some ⟨w.heap.size, 0, none⟩) 1 1) 1 [.int .u8 b] :=
  own_of_blk (n := 1) (Blk.new w 5 [.int .u8 b]) hb (Nat.le_refl _) rfl (by decide)
theorem own_below {w w' : World} {base : Nat} {e : TypeId} {v : Value} {n : Nat} {xs : List Value} (h : w.ownsRow base e 1 v n xs) (hb : Below w.heap.size w w') : w'.ownsRow base e 1 v n xs :=
  own_fr h (below_fr hb (fun _ => False)) (fun _ _ f => f)
theorem rd_one (w : World) (b : Int) : Rd (w.alloc (.cells #[.int .u8 b] 5)) (w.heap.size + 1) (some ⟨w.heap.size, 0, none⟩) [.int .u8 b] :=
  Rd.of_blk (Blk.new w 5 [.int .u8 b]) (by omega) (fun j u hu => by rwa [Nat.zero_add])

set_option maxHeartbeats 2000000 in
set_option maxRecDepth 10000 in
theorem bytesServer (f : Fm) (A : Option Addr) (c : Nat) (k0 k1 k2 k3 : UInt8) (w : World) (hL : f.data.length ≤ 60000) (hop : f.op ≤ 10) (hr : Rd w w.heap.size A (bv f.data)) (hc0 : A = none → c = 0) :
    Calls Tryd.prog 17 #[.agg #[.bool f.last, .int .i64 (f.op : Int), .slice A f.data.length c], .bool true, .agg #[.int .u8 (k0.toNat : Int), .int .u8 (k1.toNat : Int), .int .u8 (k2.toNat : Int), .int .u8 (k3.toNat : Int)]] w fun e w' =>
      ∃ r xs, e = .returned r ∧ xs = frameL true f.last f.op f.data.length [k0, k1, k2, k3] f.data ∧ w'.ownsRow w.heap.size 5 1 r xs.length (bv xs) ∧ Below w.heap.size w w' := by
  obtain ⟨last, op, data⟩ := f
  obtain ⟨i0, hi0, hz0, hz1, hz2⟩ := info_parts Tryd.info_u8
  obtain ⟨L, hLe⟩ : ∃ L, data.length = L := ⟨_, rfl⟩
  obtain ⟨b0, hb0⟩ : ∃ b : Int, (b0N last op : Int) = b := ⟨_, rfl⟩
  dsimp only at hL hop hr ⊢
  rw [hLe] at hL ⊢
  have ho := or128 op (by omega)
  have hop256 : (op : Int) % 256 = (op : Int) := by omega
  have HLe := hide hLe
  have HB0 := hide hb0
  have HR := hide hr
  have HC0 := hide hc0
  clear hLe hb0 hr hc0
  go_enter Tryd.func17, Tryd.ntmps17
  go_upto_if 15 with fail
  have hB1 := (Blk.new w 41 [.bool last, .int .i64 (op : Int), .slice A L c]).alloc (.cells #[.int .u8 (k0.toNat : Int), .int .u8 (k1.toNat : Int), .int .u8 (k2.toNat : Int), .int .u8 (k3.toNat : Int)] 42)
  have hB2 := Blk.new (w.alloc (.cells #[.bool last, .int .i64 (op : Int), .slice A L c] 41)) 42 (bv [k0, k1, k2, k3])
  have hb0w : Below w.heap.size w ((w.alloc (.cells #[.bool last, .int .i64 (op : Int), .slice A L c] 41)).alloc (.cells #[.int .u8 (k0.toNat : Int), .int .u8 (k1.toNat : Int), .int .u8 (k2.toNat : Int), .int .u8 (k3.toNat : Int)] 42)) := ((Below.refl _ _).alloc (Nat.le_refl _) _).alloc (by simp) _
  have hs1 : ((w.alloc (.cells #[.bool last, .int .i64 (op : Int), .slice A L c] 41)).alloc (.cells #[.int .u8 (k0.toNat : Int), .int .u8 (k1.toNat : Int), .int .u8 (k2.toNat : Int), .int .u8 (k3.toNat : Int)] 42)).heap.size = w.heap.size + 2 := by simp
  simp only [World.size_alloc] at hB2
  have hB2 : Blk ((w.alloc (.cells #[.bool last, .int .i64 (op : Int), .slice A L c] 41)).alloc (.cells #[.int .u8 (k0.toNat : Int), .int .u8 (k1.toNat : Int), .int .u8 (k2.toNat : Int), .int .u8 (k3.toNat : Int)] 42)) (w.heap.size + 1) 42 (bv [k0, k1, k2, k3]) := hB2
  have hB1 : Blk ((w.alloc (.cells #[.bool last, .int .i64 (op : Int), .slice A L c] 41)).alloc (.cells #[.int .u8 (k0.toNat : Int), .int .u8 (k1.toNat : Int), .int .u8 (k2.toNat : Int), .int .u8 (k3.toNat : Int)] 42)) w.heap.size 41 [.bool last, .int .i64 (op : Int), .slice A L c] := hB1
  generalize (w.alloc (.cells #[.bool last, .int .i64 (op : Int), .slice A L c] 41)).alloc (.cells #[.int .u8 (k0.toNat : Int), .int .u8 (k1.toNat : Int), .int .u8 (k2.toNat : Int), .int .u8 (k3.toNat : Int)] 42) = w1 at *
  have d2 : w1.cell? ⟨w.heap.size, 2, none⟩ = some (.slice A L c) := hB1.cell 2
  have HBx1 := hide hB1
  have HBx2 := hide hB2
  have HBw := hide hb0w
  clear hB1 hB2 hb0w
  go_cut [7] from 11 (fun v wx => v = .int .u8 b0 ∧ w1 = wx)
  case first =>
    have hb := HB0.out
    cases last
    · go_wp2_with fail
      go_meet
      case rel => exact ⟨by rw [← hb]; rfl, rfl⟩
    · go_wp2_with fail
      go_meet
      case rel => exact ⟨by rw [← hb]; rfl, rfl⟩
  case rest =>
  obtain ⟨rfl, rfl⟩ := hcut
  have HLb := hide hL
  have hL4 : (w.heap.size + 2 : Nat) ≤ w1.heap.size := by omega
  have HS1 := hide hs1
  clear hs1
  by_cases hs : L ≤ 125
  · have y1 : decide ((L : Int) < 126) = true := decide_eq_true (by omega)
    have y2 : (L : Int) % 256 = (L : Int) := by omega
    obtain ⟨bL, hbL⟩ : ∃ b : Int, ((L + b1N true : Nat) : Int) = b := ⟨_, rfl⟩
    have hor := or_lo true L (by omega)
    clear hL
    rw [hbL, show (b1N true : Int) = 0 from rfl] at hor
    have hhd := hdr_small true last op L hop hs
    rw [HB0.out, hbL] at hhd
    have HHd := hide hhd
    have HS := hide hs
    have HbL := hide hbL
    clear hhd hs hbL
    go_upto_region 14 with (first
      | (at_builtin; go_loud (refine wpList_app _ rfl (.tmp 36) (.tmp 41) _ rfl (w.heap.size + 2) 5 i0 _ 1 Tryd.underlying26 hi0 hz0 hz1 hz2 rfl (.slice (some ⟨w1.heap.size, 0, none⟩) 1 1) 1 [.int .u8 b0] rfl ((own_one w1 (w.heap.size + 2) b0 (by omega)).alloc _) (w1.heap.size + 2) (some ⟨w1.heap.size + 1, 0, none⟩) 1 1 [.int .u8 bL] rfl rfl (by have := rd_one (w1.alloc (.cells #[.int .u8 b0] 5)) bL; simpa using this) (by intro h; cases h) (by intro u hu; simp at hu; subst hu; rfl) (by simp only [maxLen]; omega) (by omega) (by simp; omega) ?_)
         intro v1 w2 hown1 hg1 hat1))
    have hown : w2.ownsRow (w.heap.size + 2) 5 1 v1 2 (bv (hdrL true last op L)) := by rw [HHd.out]; exact hown1.out
    have hbel : Below (w.heap.size + 2) w1 w2 := ((((Below.refl (w.heap.size + 2) w1).alloc (by omega) _).alloc (by simp; omega) _)).grown hg1.out (by simp; omega) (fun k e => by have e : some w1.heap.size = some k := e; injection e with e; omega)
    have hhl : (hdrL true last op L).length = 2 := by rw [hdrL_length, if_pos HS.out]
    have HOwn := hide hown
    have HBel := hide hbel
    have HHl := hide hhl
    clear hown hbel hhl hg1 hat1 hown1
    have hbw2 : Below w.heap.size w w2 := HBw.out.trans (HBel.out.mono (by omega))
    have dd : w2.cell? ⟨w.heap.size, 2, none⟩ = some (.slice A L c) := (HBel.out.cell (p := ⟨w.heap.size, 2, none⟩) (by show w.heap.size < _; omega)).trans d2
    have hs2 := HBel.out.size
    have HBw2 := hide hbw2
    clear hbw2
    go_wp2_with (at_builtin; refine wpList_app _ rfl (.tmp 55) (.tmp 57) _ rfl (w.heap.size + 2) 5 i0 _ 1 Tryd.underlying26 hi0 hz0 hz1 hz2 rfl v1 2 (bv (hdrL true last op L)) rfl HOwn.out w.heap.size A L c (bv data) rfl (by rw [bv_length]; exact HLe.out) (HR.out.below HBw2.out) HC0.out (bv_one _) (by simp only [maxLen]; have := HLb.out; omega) (by have := HLb.out; omega) (by omega) ?_; intro v2 w3 hown2 hg2 hat2)
    go_ret
    refine ⟨v2, _, rfl, rfl, ?_, HBw2.out.grown hg2.out (by have := HBw2.out.size; omega) (fun k e => by have := (HOwn.out.lt k e).1; omega)⟩
    have h9 := hown2.out
    rw [← bv_append, show 2 + L = (hdrL true last op L ++ data).length by rw [List.length_append, HHl.out, HLe.out]] at h9
    exact own_base h9 (by omega)
  · have y1 : decide ((L : Int) < 126) = false := decide_eq_false (by omega)
    have y3 : decide ((L : Int) < 65536) = true := decide_eq_true (by omega)
    obtain ⟨bL, hbL⟩ : ∃ b : Int, ((126 + b1N true : Nat) : Int) = b := ⟨_, rfl⟩
    have hor := or_lo true 126 (by omega)
    rw [hbL, show (b1N true : Int) = 0 from rfl, show ((126 : Nat) : Int) = 126 from rfl] at hor
    have hhd := hdr_mid true last op L hop hs
    rw [HB0.out, hbL] at hhd
    have kfx := fixed_2 L (by omega)
    clear hL
    have HHd := hide hhd
    have HS := hide hs
    have HbL := hide hbL
    have KFx := hide kfx
    clear hhd hs hbL kfx
    go_upto_region 14 with (first
      | (at_builtin; refine (wpList_app _ rfl (.tmp 46) (.tmp 49) _ rfl (w.heap.size + 2) 5 i0 _ 1 Tryd.underlying26 hi0 hz0 hz1 hz2 rfl (.slice (some ⟨w1.heap.size, 0, none⟩) 1 1) 1 [.int .u8 b0] rfl ((own_one w1 (w.heap.size + 2) b0 (by omega)).alloc _) (w1.heap.size + 2) (some ⟨w1.heap.size + 1, 0, none⟩) 1 1 [.int .u8 bL] rfl rfl (by have := rd_one (w1.alloc (.cells #[.int .u8 b0] 5)) bL; simpa using this) (by intro h; cases h) (by intro u hu; simp at hu; subst hu; rfl) (by simp only [maxLen]; omega) (by omega) (by simp; omega) ?_)
         intro v0 w0 hown0 hg0 hat0)
      | (go_at_call 26; refine (KFx.out _).mono ?_; rintro e wf ⟨rf, rfl, hownf, hbelf⟩; obtain ⟨Af, cf, rfl, hnf, hcf, hrdf⟩ := own_shape hownf; have HOwnf := hide hownf; have HBelf := hide hbelf; have HRdf := hide hrdf; have HNf := hide hnf; clear hownf hbelf hrdf hnf)
      | (at_builtin; go_loud (refine wpList_app _ rfl (.tmp 50) (.tmp 52) _ rfl (w.heap.size + 2) 5 i0 _ 1 Tryd.underlying26 hi0 hz0 hz1 hz2 rfl v0 (1 + 1) ([.int .u8 b0] ++ [.int .u8 bL]) rfl (own_below hown0.out HBelf.out) wf.heap.size Af 2 cf (bv (be2 L)) rfl rfl HRdf.out (fun e => (HNf.out e).2) (bv_one _) (by simp only [maxLen]; omega) (by omega) (by have := hg0.out.size; have := HBelf.out.size; simp at *; omega) ?_)
         intro v1 w2 hown1 hg1 hat1))
    have hown : w2.ownsRow (w.heap.size + 2) 5 1 v1 4 (bv (hdrL true last op L)) := by rw [HHd.out]; exact hown1.out
    have hb10 : Below (w.heap.size + 2) w1 w0 := ((((Below.refl (w.heap.size + 2) w1).alloc (by omega) _).alloc (by simp; omega) _)).grown hg0.out (by simp; omega) (fun k e => by have e : some w1.heap.size = some k := e; injection e with e; omega)
    have hs10 := hb10.size
    have hbel : Below (w.heap.size + 2) w1 w2 := (hb10.trans (HBelf.out.mono (by omega))).grown hg1.out (by have := HBelf.out.size; omega) (fun k e => (hown0.out.lt k e).1)
    have hhl : (hdrL true last op L).length = 4 := by rw [hdrL_length, if_neg HS.out]
    have HOwn := hide hown
    have HBel := hide hbel
    have HHl := hide hhl
    clear hown hbel hhl hg1 hat1 hown1 hg0 hat0 hown0 hb10
    have hbw2 : Below w.heap.size w w2 := HBw.out.trans (HBel.out.mono (by omega))
    have dd : w2.cell? ⟨w.heap.size, 2, none⟩ = some (.slice A L c) := (HBel.out.cell (p := ⟨w.heap.size, 2, none⟩) (by show w.heap.size < _; omega)).trans d2
    have hs2 := HBel.out.size
    have HBw2 := hide hbw2
    clear hbw2
    go_wp2_with (at_builtin; refine wpList_app _ rfl (.tmp 55) (.tmp 57) _ rfl (w.heap.size + 2) 5 i0 _ 1 Tryd.underlying26 hi0 hz0 hz1 hz2 rfl v1 4 (bv (hdrL true last op L)) rfl HOwn.out w.heap.size A L c (bv data) rfl (by rw [bv_length]; exact HLe.out) (HR.out.below HBw2.out) HC0.out (bv_one _) (by simp only [maxLen]; have := HLb.out; omega) (by have := HLb.out; omega) (by omega) ?_; intro v2 w3 hown2 hg2 hat2)
    go_ret
    refine ⟨v2, _, rfl, rfl, ?_, HBw2.out.grown hg2.out (by have := HBw2.out.size; omega) (fun k e => by have := (HOwn.out.lt k e).1; omega)⟩
    have h9 := hown2.out
    rw [← bv_append, show 4 + L = (hdrL true last op L ++ data).length by rw [List.length_append, HHl.out, HLe.out]] at h9
    exact own_base h9 (by omega)
end Go.Proofs.YtjjahfhnebicjaaDoor

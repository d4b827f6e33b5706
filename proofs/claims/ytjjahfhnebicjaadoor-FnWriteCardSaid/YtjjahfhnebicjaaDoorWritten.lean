/- spec.Written. -/
import Derived.Test.YtjjahfhnebicjaaDoorBytes2
namespace Go.Proofs.YtjjahfhnebicjaaDoor
open Go.ChangeShapes Go.WideShapes Go.ChangeAt Go.RowKit

/-- A frame in memory. -/
def FmAt (w : World) (B g o : Nat) (f : Fm) : Prop := ∃ A c, w.cell? ⟨g, o, none⟩ = some (.bool f.last) ∧ w.cell? ⟨g, o + 1, none⟩ = some (.int .i64 (f.op : Int)) ∧ w.cell? ⟨g, o + 2, none⟩ = some (.slice A f.data.length c) ∧ Rd w B A (bv f.data) ∧ (A = none → c = 0)
def FmsAt (w : World) (B : Nat) (FA : Option Addr) (fs : List Fm) : Prop := 0 < fs.length → ∃ g o, FA = some ⟨g, o, none⟩ ∧ g < B ∧ ∀ (j : Nat) (h : j < fs.length), FmAt w B g (o + j * 3) fs[j]
theorem FmAt.below {w w' : World} {B g o : Nat} {f : Fm} (h : FmAt w B g o f) (hg : g < B) (hb : Below B w w') : FmAt w' B g o f := by
  obtain ⟨A, c, h0, h1, h2, hr, hn⟩ := h
  exact ⟨A, c, (hb.cell (p := ⟨g, o, none⟩) hg).trans h0, (hb.cell (p := ⟨g, o + 1, none⟩) hg).trans h1, (hb.cell (p := ⟨g, o + 2, none⟩) hg).trans h2, hr.below hb, hn⟩
theorem FmsAt.below {w w' : World} {B : Nat} {FA : Option Addr} {fs : List Fm} (h : FmsAt w B FA fs) (hb : Below B w w') : FmsAt w' B FA fs := by
  intro hp
  obtain ⟨g, o, e, hg, hc⟩ := h hp
  exact ⟨g, o, e, hg, fun j hj => (hc j hj).below hg hb⟩
theorem fmsOut_snoc (srv : Bool) (keys : List (List UInt8)) (fs : List Fm) (j : Nat) (h : j < fs.length) : fmsOut srv keys 0 (fs.take (j + 1)) = fmsOut srv keys 0 (fs.take j) ++ frameL srv fs[j].last fs[j].op fs[j].data.length (keyOf keys j) fs[j].data := by
  rw [← List.take_append_getElem h, fmsOut_append, fmsOut_one, List.length_take, Nat.min_eq_left (by omega), Nat.zero_add]
theorem fmsOut_pre (srv : Bool) (keys : List (List UInt8)) (fs : List Fm) (j : Nat) : (fmsOut srv keys 0 (fs.take j)).length ≤ (fmsOut srv keys 0 fs).length := by
  conv => rhs; rw [← List.take_append_drop j fs]
  rw [fmsOut_append, List.length_append]
  omega

set_option maxHeartbeats 2000000 in
set_option maxRecDepth 10000 in
theorem specWritten (srv : Bool) (keys : List (List UInt8)) (KA : Option Addr) (kc : Nat) (fs : List Fm) (FA : Option Addr) (fc : Nat) (w : World) (hkn : 0 < keys.length) (hks : keys.length ≤ 100) (hkr : KeysRd w KA w.heap.size keys) (hfs : FmsAt w w.heap.size FA fs) (hfn : fs.length ≤ 1000000)
    (hall : ∀ f ∈ fs, f.data.length ≤ 60000 ∧ f.op ≤ 10) (hlen : (fmsOut srv keys 0 fs).length ≤ 1000000000) :
    Calls Tryd.prog 7 #[.bool srv, .slice KA keys.length kc, .slice FA fs.length fc] w fun e w' => ∃ r xs, e = .returned r ∧ xs = fmsOut srv keys 0 fs ∧ w'.ownsRow w.heap.size 5 1 r xs.length (bv xs) ∧ Below w.heap.size w w' := by
  obtain ⟨i0, hi0, hz0, hz1, hz2⟩ := info_parts Tryd.info_u8
  have h00 : (w.alloc (.cells #[] 5)).ownsRow w.heap.size 5 1 (.slice (some ⟨w.heap.size, 0, none⟩) 0 0) 0 (bv (fmsOut srv keys 0 (fs.take 0))) := own_empty w 5 (Nat.le_refl _) rfl
  have H00 := hide h00
  have HK := hide hkr
  have HF := hide hfs
  have HAll := hide hall
  have HLen := hide hlen
  clear h00 hkr hfs hall hlen
  go_enter Tryd.func7, Tryd.ntmps7
  go_wp2_with fail
  go_loopw [7, 14] (fun r jv wr => ∃ j : Nat, j ≤ fs.length ∧ jv = .int .i64 (j : Int) ∧ Hid (wr.ownsRow w.heap.size 5 1 r (fmsOut srv keys 0 (fs.take j)).length (bv (fmsOut srv keys 0 (fs.take j)))) ∧ Hid (Below w.heap.size w wr)) (fun _ jv _ => fs.length - (intOf jv).toNat)
  case atStart => exact ⟨0, Nat.zero_le _, rfl, H00, hide ((Below.refl _ _).alloc (Nat.le_refl _) _)⟩
  case round =>
    obtain ⟨j, hj, rfl, hown, hbel⟩ := hrel
    have hsz := hbel.out.size
    rcases Nat.lt_or_eq_of_le hj with hlt | rfl
    · obtain ⟨g, o, rfl, hg, hc⟩ := HF.out (by omega)
      obtain ⟨A, c, d0, d1, d2, hrA, hnA⟩ := (hc j hlt).below hg hbel.out
      obtain ⟨gk, ok, rfl, hgk, hck⟩ := HK.out hkn
      have hjm : j % keys.length < keys.length := Nat.mod_lt _ hkn
      obtain ⟨h4, hq⟩ := hck (j % keys.length) hjm
      have hkey : keyOf keys j = keys[j % keys.length] := by simp [keyOf, List.getD, hjm]
      obtain ⟨k0, k1, k2, k3, hk⟩ := key_cells (keyOf keys j) (by rw [hkey]; exact h4)
      rw [← hkey, hk] at hq
      have hn0 : ((keys.length : Int) == 0) = false := beq_eq_false_iff_ne.2 (by omega)
      have hmod : Int.tmod (j : Int) (keys.length : Int) = ((j % keys.length : Nat) : Int) := (Int.ofNat_tmod j keys.length).symm
      have hkp : decide ((0 : Int) < (keys.length : Int)) = true := decide_eq_true (by omega)
      have hfj := HAll.out fs[j] (List.getElem_mem hlt)
      have hsn := fmsOut_snoc srv keys fs j hlt
      have hpre := fmsOut_pre srv keys fs (j + 1)
      rw [hsn, List.length_append] at hpre
      have hfl := HLen.out
      have HSn := hide hsn
      generalize hff : fs[j] = f at *
      have hkc : ∀ q, q < 4 → ∀ wx, Below w.heap.size wr wx → wx.cell? ⟨gk, ok + j % keys.length * 4 + q, none⟩ = some (.int .u8 ((([k0, k1, k2, k3] : List UInt8).getD q 0).toNat : Int)) := fun q hq4 wx hb => by
        rw [hb.cell (p := ⟨gk, ok + j % keys.length * 4 + q, none⟩) hgk, hbel.out.cell (p := ⟨gk, ok + j % keys.length * 4 + q, none⟩) hgk]
        exact hq q hq4
      have hb2 : ∀ o1 o2, Below w.heap.size wr ((wr.alloc o1).alloc o2) := fun o1 o2 => ((Below.refl _ _).alloc hsz _).alloc (by simp; omega) _
      have q0 : ∀ o1 o2, ((wr.alloc o1).alloc o2).cell? ⟨gk, ok + j % keys.length * 4, none⟩ = some (.int .u8 (k0.toNat : Int)) := fun o1 o2 => hkc 0 (by omega) _ (hb2 o1 o2)
      have q1 : ∀ o1 o2, ((wr.alloc o1).alloc o2).cell? ⟨gk, ok + j % keys.length * 4 + 1, none⟩ = some (.int .u8 (k1.toNat : Int)) := fun o1 o2 => hkc 1 (by omega) _ (hb2 o1 o2)
      have q2 : ∀ o1 o2, ((wr.alloc o1).alloc o2).cell? ⟨gk, ok + j % keys.length * 4 + 2, none⟩ = some (.int .u8 (k2.toNat : Int)) := fun o1 o2 => hkc 2 (by omega) _ (hb2 o1 o2)
      have q3 : ∀ o1 o2, ((wr.alloc o1).alloc o2).cell? ⟨gk, ok + j % keys.length * 4 + 3, none⟩ = some (.int .u8 (k3.toNat : Int)) := fun o1 o2 => hkc 3 (by omega) _ (hb2 o1 o2)
      have HKC := hide hkc
      have HRA := hide hrA
      have HNA := hide hnA
      clear hkc hq hck hc hkey hsn hb2 hrA hnA
      have hbw : ∀ o1 o2, Below wr.heap.size wr ((wr.alloc o1).alloc o2) := fun o1 o2 => ((Below.refl _ _).alloc (Nat.le_refl _) _).alloc (by simp) _
      have kb := fun o1 o2 => frameBytes srv f A c k0 k1 k2 k3 ((wr.alloc o1).alloc o2) hfj.1 hfj.2 ((HRA.out.below ((hbw o1 o2).mono hsz)).more (by have := (hbw o1 o2).size; omega)) HNA.out
      have KB := hide kb
      have HBw := hide hbw
      have HFj := hide hfj
      clear kb hbw hfj
      go_wp2_with fail
      refine (KB.out _ _).mono ?_
      rintro e w3 ⟨rb, xb, rfl, hxb, hownb, hbb⟩
      have hb3 := (HBw.out _ _).trans (hbb.mono (by simp; omega))
      obtain ⟨Ab, cb, rfl, hnb, _, hrdb⟩ := own_shape hownb
      have hown3 := own_below hown.out hb3
      have hs3 := hb3.size
      have HOwn3 := hide hown3
      have HB3 := hide hb3
      have HRb := hide hrdb
      have HNb := hide hnb
      have HXb := hide hxb
      have hlb : xb.length ≤ 1000000000 := by
        have : xb.length = (frameL srv f.last f.op f.data.length (keyOf keys j) f.data).length := by rw [hxb, hk]
        omega
      have hlt3 : (fmsOut srv keys 0 (fs.take j)).length ≤ 1000000000 := by omega
      clear hownb hbb hrdb hnb hown3 hb3 hxb
      go_wp2_with (at_builtin; refine wpList_app _ rfl (.tmp 30) (.tmp 34) _ rfl w.heap.size 5 i0 _ 1 Tryd.underlying26 hi0 hz0 hz1 hz2 rfl u7 (fmsOut srv keys 0 (fs.take j)).length (bv (fmsOut srv keys 0 (fs.take j))) rfl HOwn3.out w3.heap.size Ab xb.length cb (bv xb) rfl (bv_length _) HRb.out (fun e => (HNb.out e).2) (bv_one _) (by simp only [maxLen]; omega) (by omega) (by omega) ?_; intro v4 w4 hown4 hg4 hat4)
      go_roundw
      case rel =>
        refine ⟨j + 1, by omega, by go_num, hide ?_, hide ?_⟩
        · have h9 := hown4.out
          rw [← bv_append, ← List.length_append, HXb.out, ← hk, ← HSn.out] at h9
          exact h9
        · exact (hbel.out.trans (HB3.out.mono hsz)).grown hg4.out (by omega) (fun k e => (hown.out.lt k e).1)
      case measure => simp [intOf]; omega
    · go_wp2_with fail
      go_ret
      exact ⟨_, _, rfl, rfl, by have := hown.out; rwa [List.take_of_length_le (Nat.le_refl _)] at this, hbel.out⟩
end Go.Proofs.YtjjahfhnebicjaaDoor

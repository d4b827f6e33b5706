/- The law on what is written: its walk. -/
import Derived.Test.YtjjahfhnebicjaaDoorLaw2
namespace Go.Proofs.YtjjahfhnebicjaaDoor
open Go.ChangeShapes Go.WideShapes Go.ChangeAt Go.RowKit

/-- What the law leaves. -/
def LawLeft (w : World) (e : Ending) (w' : World) : Prop := e = .returned (.bool true) ∧ Below w.heap.size w w'

theorem key_len {w : World} {KA : Option Addr} {B : Nat} {keys : List (List UInt8)} (h : KeysRd w KA B keys) (i : Nat) : (keyOf keys i).length ≤ 4 := by
  by_cases hn : 0 < keys.length
  · obtain ⟨_, _, _, _, hc⟩ := h hn
    have hm := Nat.mod_lt i hn
    have := (hc _ hm).1
    have e : keyOf keys i = keys[i % keys.length] := by simp [keyOf, List.getD, hm]
    rw [e, this]
    omega
  · have e : keys = [] := List.eq_nil_of_length_eq_zero (by omega)
    subst e
    simp [keyOf]
theorem KeysRd.below {w w' : World} {A : Option Addr} {B : Nat} {keys : List (List UInt8)} (h : KeysRd w A B keys) (hb : Below B w w') : KeysRd w' A B keys := h.keep fun _ hp => hb.cell hp
theorem KeysRd.more {w : World} {A : Option Addr} {B B' : Nat} {keys : List (List UInt8)} (h : KeysRd w A B keys) (hB : B ≤ B') : KeysRd w A B' keys := by
  intro hn
  obtain ⟨g, o, e, hg, hc⟩ := h hn
  exact ⟨g, o, e, Nat.lt_of_lt_of_le hg hB, hc⟩
theorem MsgAt.more {w : World} {B B' g o : Nat} {m : Msg} (h : MsgAt w B g o m) (hB : B ≤ B') : MsgAt w B' g o m := by
  obtain ⟨A, c, h0, h1, h2, h3, hr, hn⟩ := h
  exact ⟨A, c, h0, h1, h2, h3, hr.more hB, hn⟩
theorem MsgsAt.more {w : World} {B B' : Nat} {AL : Option Addr} {ms : List Msg} (h : MsgsAt w B AL ms) (hB : B ≤ B') : MsgsAt w B' AL ms := by
  intro hp
  obtain ⟨g, o, e, hg, hc⟩ := h hp
  exact ⟨g, o, e, Nat.lt_of_lt_of_le hg hB, fun j hj => (hc j hj).more hB⟩
theorem RawsAt.more {w : World} {B B' : Nat} {AL : Option Addr} {rs : List RawM} (h : RawsAt w B AL rs) (hB : B ≤ B') : RawsAt w B' AL rs := by
  intro hp
  obtain ⟨g, o, e, hg, hc⟩ := h hp
  refine ⟨g, o, e, Nat.lt_of_lt_of_le hg hB, fun j hj => ?_⟩
  obtain ⟨A, c, h0, h1, h2, h3, hr, hn⟩ := hc j hj
  exact ⟨A, c, h0, h1, h2, h3, hr.more hB, hn⟩

set_option maxHeartbeats 2000000 in
set_option maxRecDepth 10000 in
theorem lawWalk (srv : Bool) (sz : Int) (keys : List (List UInt8)) (KA : Option Addr) (kc : Nat) (rs : List RawM) (AL : Option Addr) (ac : Nat) (w : World) (u3 u5 : TypeId) (x3 x5 : Value) (hB : 7 ≤ w.heap.size) (hkr : KeysRd w KA w.heap.size keys) (hrs : RawsAt w w.heap.size AL rs)
    (hg3 : w.cell? ⟨3, 0, none⟩ = some (.iface u3 x3)) (hg5 : w.cell? ⟨5, 0, none⟩ = some (.iface u5 x5)) :
    Calls Tryd.prog 3 #[.bool srv, .int .i64 sz, .slice KA keys.length kc, .slice AL rs.length ac] w (LawLeft w) := by
  have hlen := fun i => key_len hkr i
  have HKR := hide hkr
  have HRs := hide hrs
  have HLen := hide hlen
  by_cases hk1 : 2147483647 < keys.length
  · have d1 : decide ((2147483647 : Int) < (keys.length : Int)) = true := decide_eq_true (by omega)
    clear hkr hrs hlen
    go_enter Tryd.func3, Tryd.ntmps3
    go_wp2_with fail
    all_goals (
      go_ret
      exact ⟨rfl, Below.refl _ _⟩)
  have d1 : decide ((2147483647 : Int) < (keys.length : Int)) = false := decide_eq_false (by omega)
  have kz := zzFits3 rs AL ac w hrs
  have KZ := hide kz
  clear hkr hrs kz hlen
  go_enter Tryd.func3, Tryd.ntmps3
  go_wp2_with fail
  refine KZ.out.mono ?_
  rintro e w1 ⟨b1, rfl, hz, hb1⟩
  cases b1 with
  | false =>
    have HB1 := hide hb1
    clear hb1 hz
    go_wp2_with fail
    all_goals (
      go_ret
      exact ⟨rfl, HB1.out⟩)
  | true =>
  have hz' := hz rfl
  have ki := isBuffer sz KA keys.length kc w1
  have KI := hide ki
  have HZ := hide hz'
  have HB1 := hide hb1
  clear hz hz' hb1 ki
  go_wp2_with fail
  refine KI.out.mono ?_
  rintro e w2 ⟨b2, rfl, hi, hb2⟩
  have hb12 := HB1.out.trans (hb2.mono HB1.out.size)
  cases b2 with
  | false =>
    have HB2 := hide hb12
    clear hb2 hb12 hi
    go_wp2_with fail
    all_goals (
      go_ret
      exact ⟨rfl, HB2.out⟩)
  | true =>
  have hi' := hi rfl
  obtain ⟨hs1, hs2, hk20⟩ := hi'
  have HB2 := hide hb12
  clear hb2 hb12 hi
  by_cases hk0 : keys.length = 0
  · have HK0 := hide hk0
    have dk : ((keys.length : Int) == 0) = true := by rw [hk0]; rfl
    clear hk0 hs1 hs2
    go_wp2_with fail
    all_goals (
      go_ret
      exact ⟨rfl, HB2.out⟩)
  have dk : ((keys.length : Int) == 0) = false := beq_eq_false_iff_ne.2 (by omega)
  have hkp : 0 < keys.length := by omega
  have hsz2 := HB2.out.size
  have ka := areMessages rs AL ac w2 ((HRs.out.below HB2.out).more hsz2) HZ.out.1 HZ.out.2
  obtain ⟨size, hsize⟩ : ∃ n : Nat, sz = (n : Int) := ⟨sz.toNat, by omega⟩
  subst hsize
  have HS1 := hide (show 1 ≤ size by omega)
  have HS2 := hide (show size ≤ 4096 by omega)
  have KA2 := hide ka
  clear ka hs1 hs2 hk0
  go_wp2_with fail
  refine KA2.out.mono ?_
  rintro e w3 ⟨b3, rfl, hgd, hb3⟩
  have hb13 := HB2.out.trans (hb3.mono hsz2)
  cases b3 with
  | false =>
    have HB3 := hide hb13
    clear hb3 hb13 hgd
    go_wp2_with fail
    all_goals (
      go_ret
      exact ⟨rfl, HB3.out⟩)
  | true =>
  have hgood := hgd rfl
  have HB3 := hide hb13
  have HGood := hide hgood
  clear hb3 hb13 hgd hgood
  have hsz3 := HB3.out.size
  obtain ⟨ms, hms⟩ : ∃ ms, rs.map toMsg = ms := ⟨_, rfl⟩
  have hml : ms.length = rs.length := by rw [← hms, List.length_map]
  have hrs20 := HGood.out.1
  have hparts : ∀ m ∈ ms, MsgOk m ∧ m.size ≤ 4200 ∧ m.pay.length ≤ 4096 ∧ m.ty ≤ 10 := by
    intro m hm
    rw [← hms] at hm
    obtain ⟨r, hr, rfl⟩ := List.mem_map.1 hm
    obtain ⟨i, hi, e⟩ := List.getElem_of_mem hr
    have := goodM_parts (HGood.out.2 i hi)
    rw [e] at this
    exact ⟨this.2.2.1, this.2.2.2.1, this.2.2.2.2.1, by show r.ty.toNat ≤ 10; have := this.2.2.2.2.2.2; omega⟩
  have hlast : ∀ (j : Nat) (h : j < ms.length), j + 1 < ms.length → ms[j].ty ≠ 8 := by
    intro j hj hj2 h8
    have hjr : j < rs.length := by omega
    obtain ⟨p1, _, _, _, _, p6, _⟩ := goodM_parts (HGood.out.2 j hjr)
    have e : ms[j] = toMsg rs[j] := by subst hms; rw [List.getElem_map]
    rw [e] at h8
    have h8 : rs[j].ty.toNat = 8 := h8
    have := p6 (by omega)
    omega
  have hsizes := sizes_bound ms 4200 (fun m hm => (hparts m hm).2.1)
  have hmsAt : MsgsAt w w.heap.size AL ms := by rw [← hms]; exact msgsOf HRs.out HGood.out
  obtain ⟨hfr1, hfr2⟩ := frs_facts srv size 4096 10 ms (fun m hm => ⟨(hparts m hm).2.2.1, (hparts m hm).2.2.2⟩)
  have hmul1 : ms.length * (4096 + 1) ≤ 20 * (4096 + 1) := Nat.mul_le_mul_right _ (by omega)
  have hmul2 : ms.length * 4200 ≤ 20 * 4200 := Nat.mul_le_mul_right _ (by omega)
  have kf := specFrames srv size HS1.out HS2.out ms AL ac w3 ((hmsAt.below HB3.out).more hsz3) (by omega) (fun m hm => (hparts m hm).1) (by omega)
  rw [hml] at kf
  have hbd := fmsOut_bound srv keys 4096 HLen.out (frs srv size ms) 0 (fun f hf => (hfr2 f hf).1)
  have hmul3 : (frs srv size ms).length * (4096 + 8) ≤ 81940 * (4096 + 8) := Nat.mul_le_mul_right _ (by omega)
  have hfn : (frs srv size ms).length ≤ 1000000 := by omega
  have hXb : (fmsOut srv keys 0 (frs srv size ms)).length ≤ 1000000000 := by omega
  have hsz : sizes ms ≤ 131072 := by omega
  have hms100 : ms.length ≤ 100 := by omega
  have KF := hide kf
  have HAllF := hide (fun f hf => (⟨by have := (hfr2 f hf).1; omega, (hfr2 f hf).2⟩ : f.data.length ≤ 60000 ∧ f.op ≤ 10))
  have HOkM := hide (fun m hm => (hparts m hm).1)
  have HLastM := hide hlast
  have HMsAt := hide hmsAt
  have HMl := hide hml
  have HXb := hide hXb
  have HSz := hide hsz
  have HFn := hide hfn
  have HM100 := hide hms100
  clear kf hparts hlast hmsAt hml hXb hsz hfn hms100 hfr1 hfr2 hmul1 hmul2 hmul3 hbd hsizes hrs20 hms
  go_wp2_with fail
  refine KF.out.mono ?_
  rintro e w4 ⟨FA, fc, rfl, hfms, hb4⟩
  have hb14 := HB3.out.trans (hb4.mono hsz3)
  have hsz4 := hb14.size
  have kw := specWritten srv keys KA kc (frs srv size ms) FA fc w4 hkp (by omega) ((HKR.out.below hb14).more hsz4) hfms HFn.out HAllF.out HXb.out
  have KW := hide kw
  have HB4 := hide hb14
  clear kw hb4 hb14 hfms
  go_wp2_with fail
  refine KW.out.mono ?_
  rintro e w5 ⟨r5, X, rfl, hX, hown5, hb5⟩
  have hb15 := HB4.out.trans (hb5.mono hsz4)
  have hsz5 := hb15.size
  obtain ⟨A5, c5, rfl, _, _, hrd5⟩ := own_shape hown5
  have HB5 := hide hb15
  have HX := hide hX
  have HRd5 := hide hrd5
  clear hb5 hb15 hown5 hX hrd5
  by_cases hbig : 131072 < X.length
  · have db : decide ((131072 : Int) < (X.length : Int)) = true := decide_eq_true (by omega)
    go_wp2_with fail
    all_goals (
      go_ret
      exact ⟨rfl, HB5.out⟩)
  have db : decide ((131072 : Int) < (X.length : Int)) = false := decide_eq_false (by omega)
  have ki := implWrite srv size HS1.out HS2.out keys KA kc ms AL ac w5 u3 u5 x3 x5 (by omega) (by omega) (fun _ => hkp) ((HKR.out.below HB5.out).more hsz5) ((HMsAt.out.below HB5.out).more hsz5) HM100.out HOkM.out HLastM.out HSz.out
    (by rw [HB5.out.cell (by show 3 < _; omega)]; exact hg3) (by rw [HB5.out.cell (by show 5 < _; omega)]; exact hg5) X HX.out.symm (by omega)
  rw [HMl.out] at ki
  have KI5 := hide ki
  have HBig := hide hbig
  clear ki hbig
  go_wp2_with fail
  refine KI5.out.mono ?_
  rintro e w6 ⟨r6, rfl, hown6, hb6⟩
  have hb16 := HB5.out.trans (hb6.mono hsz5)
  have hsz6 := hb16.size
  obtain ⟨A6, c6, rfl, _, _, hrd6⟩ := own_shape hown6
  have hcv6 := run_conv (P := Tryd.prog) w6 26 9 5 Tryd.underlying26 Tryd.underlying5 Tryd.underlying9 _ A6 c6 X hrd6 X.length rfl
  have hcv5 := run_conv (P := Tryd.prog) w6 26 9 5 Tryd.underlying26 Tryd.underlying5 Tryd.underlying9 _ A5 c5 X (HRd5.out.below hb6) X.length rfl
  have kr := writesYes w6 u3 u5 x3 x5 (by omega) (by rw [hb16.cell (by show 3 < _; omega)]; exact hg3) (by rw [hb16.cell (by show 5 < _; omega)]; exact hg5)
  have KR := hide kr
  have HB6 := hide hb16
  clear kr hb6 hb16 hown6 hrd6
  go_wp2_with fail
  refine KR.out.mono ?_
  rintro e w7 ⟨rfl, hb7⟩
  have HB7 := hide (HB6.out.trans (hb7.mono hsz6))
  clear hb7
  go_wp2_with fail
  go_ret
  exact ⟨rfl, HB7.out⟩
end Go.Proofs.YtjjahfhnebicjaaDoor

/- The law FnMaskTwice answers true for every input. No condition. -/
import Derived.Test.YtcmfbbldojhbeaaMasks
import Derived.Test.YtcmfbbldojhbeaaOpen
import Derived.Deep.RegionHeld
namespace Go.Proofs.Ytcmfbbldojhbeaa.fnMaskTwice
open Go.ChangeShapes Go.WideShapes Go.ChangeAt Go.RowKit

theorem step_out (k0 k1 k2 k3 : UInt8) (cut : Int) (A : Option Addr) (n c : Nat) (w : World) (h : 2147483647 < n ∨ 4096 < n ∨ cut < 0 ∨ (n : Int) < cut) :
    Calls Try.prog 5 #[.agg #[.int .u8 (k0.toNat : Int), .int .u8 (k1.toNat : Int), .int .u8 (k2.toNat : Int), .int .u8 (k3.toNat : Int)], .slice A n c, .int .i64 cut] w fun e w' => e = .returned (.bool true) ∧ Below w.heap.size w w' := by
  by_cases h0 : 2147483647 < n
  · clear h
    go_enter Try.func5, Try.ntmps5
    go_wp2_with fail
    go_ret
    exact ⟨rfl, (Below.refl _ _).alloc (Nat.le_refl _) _⟩
  · by_cases h1 : 4096 < n
    · clear h
      go_enter Try.func5, Try.ntmps5
      go_wp2_with fail
      go_ret
      exact ⟨rfl, (Below.refl _ _).alloc (Nat.le_refl _) _⟩
    · by_cases h2 : cut < 0
      · clear h
        go_enter Try.func5, Try.ntmps5
        go_wp2_with fail
        go_ret
        exact ⟨rfl, (Below.refl _ _).alloc (Nat.le_refl _) _⟩
      · have h3 : (n : Int) < cut := by omega
        clear h
        go_enter Try.func5, Try.ntmps5
        go_wp2_with fail
        go_ret
        exact ⟨rfl, (Below.refl _ _).alloc (Nat.le_refl _) _⟩

set_option maxHeartbeats 2000000 in
theorem step_main (k0 k1 k2 k3 : UInt8) (A : Option Addr) (c : Nat) (xs : List UInt8) (cut : Nat) (hcut : cut ≤ xs.length) (w : World)
    (hn : xs.length ≤ 4096) (hr : Rd w w.heap.size A (bv xs)) (h0 : A = none → xs.length = 0 ∧ c = 0) :
    Calls Try.prog 5 #[.agg #[.int .u8 (k0.toNat : Int), .int .u8 (k1.toNat : Int), .int .u8 (k2.toNat : Int), .int .u8 (k3.toNat : Int)], .slice A xs.length c, .int .i64 (cut : Int)] w fun e w' => e = .returned (.bool true) ∧ Below w.heap.size w w' := by
  have HR := hide hr
  have H0 := hide h0
  clear hr h0
  go_enter Try.func5, Try.ntmps5
  go_wp2_with fail
  refine (implMask k0 k1 k2 k3 0 (by omega) A c xs _ (by omega) ((HR.out.below ((Below.refl _ _).alloc (Nat.le_refl _) _)).more (by simp)) H0.out).mono ?_
  rintro e w1 ⟨v, rfl, hown, hbel⟩
  obtain ⟨A1, c1, rfl, hA1, hnc1, hrd⟩ := own_shape hown
  have HRD := hide hrd
  have HA1 := hide hA1
  have hb1 : Below w.heap.size w w1 := ((Below.refl _ _).alloc (Nat.le_refl _) _).trans (hbel.mono (by simp))
  have HB1 := hide hb1
  have hkc : ∀ w', Below w1.heap.size w1 w' → Hid (Below w1.heap.size w1 w') ∧ w'.cell? ⟨w.heap.size, 0, none⟩ = some (.int .u8 (k0.toNat : Int)) ∧ w'.cell? ⟨w.heap.size, 1, none⟩ = some (.int .u8 (k1.toNat : Int)) ∧
      w'.cell? ⟨w.heap.size, 2, none⟩ = some (.int .u8 (k2.toNat : Int)) ∧ w'.cell? ⟨w.heap.size, 3, none⟩ = some (.int .u8 (k3.toNat : Int)) := by
    intro w' hb
    have hlt := hbel.size
    simp only [World.size_alloc] at hlt
    refine ⟨hide hb, ?_, ?_, ?_, ?_⟩
    · rw [hb.cell (by show w.heap.size < _; omega), hbel.cell (by simp)]; simp
    · rw [hb.cell (by show w.heap.size < _; omega), hbel.cell (by simp)]; simp
    · rw [hb.cell (by show w.heap.size < _; omega), hbel.cell (by simp)]; simp
    · rw [hb.cell (by show w.heap.size < _; omega), hbel.cell (by simp)]; simp
  have HS := hide hkc
  have hlt1 : ((maskL [k0, k1, k2, k3] 0 xs).take cut).length = cut := by rw [List.length_take, maskL_length]; omega
  have hlt2 : ((maskL [k0, k1, k2, k3] 0 xs).drop cut).length = xs.length - cut := by rw [List.length_drop, maskL_length]
  have e1 : maskL [k0, k1, k2, k3] 0 ((maskL [k0, k1, k2, k3] 0 xs).take cut) = xs.take cut := by rw [maskL_take, maskL_twice]
  have e2 : maskL [k0, k1, k2, k3] (cut % 4) ((maskL [k0, k1, k2, k3] 0 xs).drop cut) = xs.drop cut := by rw [maskL_drop, maskL_mod, Nat.zero_add, maskL_twice]
  have hc1 : ∀ W, Below w1.heap.size w1 W → Calls Try.prog 12 #[.agg #[.int .u8 (k0.toNat : Int), .int .u8 (k1.toNat : Int), .int .u8 (k2.toNat : Int), .int .u8 (k3.toNat : Int)], .int .i64 0, .slice A1 cut c1] W fun e w' =>
      ∃ v, e = .returned (.tuple #[v, .int .i64 ((cut % 4 : Nat) : Int)]) ∧ w'.ownsRow W.heap.size 5 1 v cut (bv (xs.take cut)) ∧ Below W.heap.size W w' := by
    intro W hW
    have hrd1 : Rd W W.heap.size A1 (bv ((maskL [k0, k1, k2, k3] 0 xs).take cut)) := by rw [bv_take]; exact ((hrd.below hW).more hW.size).take cut
    have h := implMask k0 k1 k2 k3 0 (by omega) A1 c1 _ W (by rw [hlt1]; omega) hrd1 (fun e => by have := hA1 e; rw [hlt1]; omega)
    rw [hlt1, e1, Nat.zero_add] at h
    exact h
  have hc2 : ∀ W, Below w1.heap.size w1 W → Calls Try.prog 12 #[.agg #[.int .u8 (k0.toNat : Int), .int .u8 (k1.toNat : Int), .int .u8 (k2.toNat : Int), .int .u8 (k3.toNat : Int)], .int .i64 ((cut % 4 : Nat) : Int), .slice (cutA A1 cut c1) (xs.length - cut) (c1 - cut)] W fun e w' =>
      ∃ v q, e = .returned (.tuple #[v, .int .i64 q]) ∧ w'.ownsRow W.heap.size 5 1 v (xs.length - cut) (bv (xs.drop cut)) ∧ Below W.heap.size W w' := by
    intro W hW
    have hrd1 : Rd W W.heap.size (cutA A1 cut c1) (bv ((maskL [k0, k1, k2, k3] 0 xs).drop cut)) := by rw [bv_drop]; exact ((hrd.below hW).more hW.size).cutA (by rw [bv_length, maskL_length]; exact hnc1)
    have h := implMask k0 k1 k2 k3 (cut % 4) (by omega) (cutA A1 cut c1) (c1 - cut) _ W (by rw [hlt2]; omega) hrd1 (fun e => by
      rw [hlt2]
      have := hA1 (cutA_none e)
      omega)
    rw [hlt2, e2] at h
    exact h.mono fun e w' ⟨v, a, b, c⟩ => ⟨v, _, a, b, c⟩
  have HC1 := hide hc1
  have HC2 := hide hc2
  clear hkc hown hrd hbel hb1 hA1 hlt1 hlt2 e1 e2 hc1 hc2
  go_wp2_with fail
  go_region_held (fun w' => Hid (Below w1.heap.size w1 w') ∧ w'.cell? ⟨w.heap.size, 0, none⟩ = some (.int .u8 (k0.toNat : Int)) ∧ w'.cell? ⟨w.heap.size, 1, none⟩ = some (.int .u8 (k1.toNat : Int)) ∧
      w'.cell? ⟨w.heap.size, 2, none⟩ = some (.int .u8 (k2.toNat : Int)) ∧ w'.cell? ⟨w.heap.size, 3, none⟩ = some (.int .u8 (k3.toNat : Int)))
    (first | exact HS.out _ (Below.refl _ _).drew | exact HS.out _ ((Below.refl _ _).drew.trans HB2.out))
    (first | (go_at_call 12; refine (HC1.out _ (Below.refl _ _).drew).mono ?_; rintro e w2 ⟨v2, rfl, hown2, hbel2⟩; obtain ⟨A2, c2, rfl, _, _, hrd2⟩ := own_shape hown2; have HRD2 := hide hrd2; have HB2 := hide hbel2; clear hown2 hrd2 hbel2))
  have hb12 : Below w1.heap.size w1 w2 := (Below.refl _ _).drew.trans HB2.out
  have HB12 := hide hb12
  clear hb12
  obtain ⟨i0, hi0, _, hz1, _⟩ := info_parts Try.info_u8
  have hsl := run_cut_from (P := Try.prog) 24 5 i0 Try.underlying24 hi0 hz1 A1 xs.length c1 cut hcut
  go_wp2_with fail
  go_region_held (fun w' => Hid (Below w2.heap.size w2 w') ∧ w'.cell? ⟨w.heap.size, 0, none⟩ = some (.int .u8 (k0.toNat : Int)) ∧ w'.cell? ⟨w.heap.size, 1, none⟩ = some (.int .u8 (k1.toNat : Int)) ∧
      w'.cell? ⟨w.heap.size, 2, none⟩ = some (.int .u8 (k2.toNat : Int)) ∧ w'.cell? ⟨w.heap.size, 3, none⟩ = some (.int .u8 (k3.toNat : Int)))
    (first | exact ⟨hide (Below.refl _ _).drew, (HS.out _ HB12.out.drew).2⟩ | exact ⟨hide ((Below.refl _ _).drew.trans HB3.out), (HS.out _ (HB12.out.drew.trans (HB3.out.mono HB12.out.size))).2⟩)
    (first | (go_at_call 12; refine (HC2.out _ HB12.out.drew).mono ?_; rintro e w3 ⟨v3, q3, rfl, hown3, hbel3⟩; obtain ⟨A3, c3, rfl, _, _, hrd3⟩ := own_shape hown3; have HRD3 := hide hrd3; have HB3 := hide hbel3; clear hown3 hrd3 hbel3))
  go_wp2_with fail
  refine (masks_true _).mono ?_
  rintro e w4 ⟨rfl, hbel4⟩
  have hb4 : Below w.heap.size w w4 := ((HB1.out.trans (HB12.out.mono HB1.out.size)).trans ((Below.refl _ _).drew.trans (HB3.out.mono (Nat.le_trans HB1.out.size HB12.out.size)))).trans (hbel4.mono (Nat.le_trans (Nat.le_trans HB1.out.size HB12.out.size) HB3.out.size))
  have HB4 := hide hb4
  have hcv1 := run_conv (P := Try.prog) w4 24 9 5 Try.underlying24 Try.underlying5 Try.underlying9 _ A2 c2 (xs.take cut) ((HRD2.out.below ((Below.refl _ _).drew.trans (HB3.out))).below (hbel4.mono HB3.out.size)) cut (by rw [List.length_take]; omega)
  have hcv2 := run_conv (P := Try.prog) w4 24 9 5 Try.underlying24 Try.underlying5 Try.underlying9 _ A3 c3 (xs.drop cut) (HRD3.out.below hbel4) (xs.length - cut) (by rw [List.length_drop])
  have hcv3 := run_conv (P := Try.prog) w4 24 9 5 Try.underlying24 Try.underlying5 Try.underlying9 _ A c xs (HR.out.below hb4) xs.length rfl
  have hadd := run_add_str (P := Try.prog) (xs.take cut) (xs.drop cut) (by rw [List.length_take, List.length_drop]; omega)
  rw [List.take_append_drop] at hadd
  clear hb4 hbel4
  go_wp2_with fail
  go_ret
  exact ⟨rfl, HB4.out⟩

theorem walk (k0 k1 k2 k3 : UInt8) (cut : Int) (A : Option Addr) (c : Nat) (xs : List UInt8) (w : World)
    (hr : Rd w w.heap.size A (bv xs)) (h0 : A = none → xs.length = 0 ∧ c = 0) :
    Calls Try.prog 5 #[.agg #[.int .u8 (k0.toNat : Int), .int .u8 (k1.toNat : Int), .int .u8 (k2.toNat : Int), .int .u8 (k3.toNat : Int)], .slice A xs.length c, .int .i64 cut] w fun e w' => e = .returned (.bool true) ∧ Below w.heap.size w w' := by
  by_cases h2 : 2147483647 < xs.length ∨ 4096 < xs.length ∨ cut < 0 ∨ (xs.length : Int) < cut
  · exact step_out k0 k1 k2 k3 cut A _ c w h2
  · obtain ⟨p, rfl⟩ := Int.eq_ofNat_of_zero_le (show 0 ≤ cut by omega)
    exact step_main k0 k1 k2 k3 A c xs p (by omega) w (by omega) hr h0

theorem own : ownKnob Try.prog.godebug = none := by kernel_rfl
theorem laidOut : laidOutB Try.prog = true := by kernel_rfl

theorem contract (H : Type) (enc : TypeId × Value → H) (W : World) (base : Nat) (args : Array Value) (ds gs : List (DataW H)) (before : List MemPlace)
    (hval : ∀ (j : Nat) t v, Try.f5.params[j]? = some t → args[j]? = some v → Value.okWide Try.prog W .any base t v)
    (hW : DataW.Whole enc Try.prog Try.f5.params.toList Rows.fnMaskTwiceSpec.vars false W args.toList ds gs before) :
    Calls Try.prog 5 args W fun e W' => ∃ v, e = .returned v ∧ Rows.fnMaskTwiceSpec.post enc Try.prog Try.f5 false true false false W args v W' := by
  have hW' := hW
  obtain ⟨p, q, hA0, hV, rfl, hfz, hnd⟩ := hW
  have hA : DataW.TrodAll enc Try.prog W 0 (fun _ => true) true Try.f5.params.toList args.toList ds p := hA0
  rw [Try.params5] at hA hval
  obtain ⟨v0, vs0, d0, ds0, p0, q0, hargs, rfl, rfl, h0, r0⟩ := trodAll_cons hA
  obtain ⟨v1, vs1, d1, ds1, p1, q1, rfl, rfl, rfl, h1, r1⟩ := trodAll_cons r0
  obtain ⟨v2, vs2, d2, ds2, p2, q2, rfl, rfl, rfl, h2, r2⟩ := trodAll_cons r1
  obtain ⟨rfl, rfl, rfl⟩ := trodAll_nil r2
  obtain rfl : args = #[v0, v1, v2] := by cases args; simp_all
  obtain ⟨rfl, rfl⟩ := trodVars_none hV
  obtain ⟨k0, k1, k2, k3, rfl⟩ := open_key Try.underlying23 Try.underlying5 (by kernel_rfl) (by kernel_rfl) (hval 0 23 v0 rfl rfl) h0
  obtain ⟨A, c, xs, rfl, hA0', _, hrd⟩ := open_bytes Try.underlying24 Try.underlying5 (by kernel_rfl) (hval 1 24 v1 rfl rfl) h1
  obtain ⟨cut, rfl, rfl, rfl, _⟩ := open_int Try.underlying3 (hval 2 3 v2 rfl rfl) h2
  refine (walk k0 k1 k2 k3 cut A c xs W hrd hA0').mono fun e W' ⟨he, hb⟩ => ?_
  exact ⟨_, he, law_post laidOut (by kernel_rfl) (by kernel_rfl) rfl Try.underlying4 hW' rfl hb⟩

set_option maxRecDepth 100000 in
theorem lifted (os : Os) (started : os.Started) (H : Type) (enc : TypeId × Value → H) :
    ReturnsInHanded {} Try.checked os 5 .any (Rows.fnMaskTwiceSpec.pre6 enc Try.prog Try.f5 Rows.fnMaskTwiceRow.domain false) (Rows.fnMaskTwiceSpec.post enc Try.prog Try.f5 false true false false) := by
  refine returnsInHanded_of_change (C := Try.checked) own started (by kernel_rfl) Try.func5
    (ChangeSpec.witness6 (enc := enc) (C := Try.checked) false ⟨#[], #[.agg #[.int .u8 0, .int .u8 0, .int .u8 0, .int .u8 0], .slice none 0 0, .int .i64 0], []⟩ 8 (by kernel_rfl) (by kernel_rfl) (by kernel_rfl) (by kernel_rfl)) ?_
  intro W base args ds gs before hval hW _ _
  exact contract H enc W base args ds gs before hval hW

theorem proved : Rows.FnMaskTwiceSaid :=
  OpenClaim.holds_of_wide 5 Try.f5 rfl rfl rfl rfl rfl rfl rfl ⟨rfl, rfl, rfl, rfl, rfl⟩ rfl rfl rfl rfl rfl (by kernel_rfl) Try.func5 (by kernel_rfl)
    (of_decide_eq_true (by kernel_rfl)) (by unfold Func.isWrapper; first | (rw [if_pos (by decide +kernel)]; kernel_rfl) | (rw [if_neg (by decide +kernel)]; exact ⟨rfl, rfl⟩))
    (fun os started H enc _ => lifted os started H enc)
end Go.Proofs.Ytcmfbbldojhbeaa.fnMaskTwice
namespace Go.Proofs.Ytcmfbbldojhbeaa
theorem fnMaskTwice_holds : Rows.FnMaskTwiceSaid := fnMaskTwice.proved
#print axioms fnMaskTwice_holds
end Go.Proofs.Ytcmfbbldojhbeaa

/- The law FnMask answers true for every input. No condition. -/
import Derived.Test.YtcmfbbldojhbeaaMasks
import Derived.Test.YtcmfbbldojhbeaaOpen
import Derived.Deep.RegionHeld
namespace Go.Proofs.Ytcmfbbldojhbeaa.fnMask
open Go.ChangeShapes Go.WideShapes Go.ChangeAt Go.RowKit

theorem step_big (k0 k1 k2 k3 : UInt8) (pos : Int) (A : Option Addr) (n c : Nat) (w : World) (h : 2147483647 < n) :
    Calls Try.prog 4 #[.agg #[.int .u8 (k0.toNat : Int), .int .u8 (k1.toNat : Int), .int .u8 (k2.toNat : Int), .int .u8 (k3.toNat : Int)], .int .i64 pos, .slice A n c] w fun e w' => e = .returned (.bool true) ∧ Below w.heap.size w w' := by
  go_enter Try.func4, Try.ntmps4
  go_wp2_with fail
  go_ret
  exact ⟨rfl, (Below.refl _ _).alloc (Nat.le_refl _) _⟩

theorem step_out (k0 k1 k2 k3 : UInt8) (pos : Int) (A : Option Addr) (n c : Nat) (w : World) (h : n ≤ 2147483647) (ho : pos < 0 ∨ 3 < pos ∨ 4096 < n) :
    Calls Try.prog 4 #[.agg #[.int .u8 (k0.toNat : Int), .int .u8 (k1.toNat : Int), .int .u8 (k2.toNat : Int), .int .u8 (k3.toNat : Int)], .int .i64 pos, .slice A n c] w fun e w' => e = .returned (.bool true) ∧ Below w.heap.size w w' := by
  by_cases h1 : pos < 0
  · clear ho
    go_enter Try.func4, Try.ntmps4
    go_wp2_with fail
    go_ret
    exact ⟨rfl, (Below.refl _ _).alloc (Nat.le_refl _) _⟩
  · by_cases h2 : 3 < pos
    · clear ho
      go_enter Try.func4, Try.ntmps4
      go_wp2_with fail
      go_ret
      exact ⟨rfl, (Below.refl _ _).alloc (Nat.le_refl _) _⟩
    · have h3 : 4096 < n := by omega
      clear ho
      go_enter Try.func4, Try.ntmps4
      go_wp2_with fail
      go_ret
      exact ⟨rfl, (Below.refl _ _).alloc (Nat.le_refl _) _⟩

set_option maxHeartbeats 2000000 in
theorem step_main (k0 k1 k2 k3 : UInt8) (pos : Nat) (hpos : pos ≤ 3) (A : Option Addr) (c : Nat) (xs : List UInt8) (w : World)
    (hn : xs.length ≤ 4096) (hr : Rd w w.heap.size A (bv xs)) (h0 : A = none → xs.length = 0 ∧ c = 0) :
    Calls Try.prog 4 #[.agg #[.int .u8 (k0.toNat : Int), .int .u8 (k1.toNat : Int), .int .u8 (k2.toNat : Int), .int .u8 (k3.toNat : Int)], .int .i64 (pos : Int), .slice A xs.length c] w fun e w' => e = .returned (.bool true) ∧ Below w.heap.size w w' := by
  have HR := hide hr
  have H0 := hide h0
  clear hr h0
  go_enter Try.func4, Try.ntmps4
  go_wp2_with fail
  refine (implMask k0 k1 k2 k3 pos hpos A c xs _ (by omega) ((HR.out.below ((Below.refl _ _).alloc (Nat.le_refl _) _)).more (by simp)) H0.out).mono ?_
  rintro e w1 ⟨v, rfl, hown, hbel⟩
  obtain ⟨A1, c1, rfl, _, _, hrd⟩ := own_shape hown
  have HOWN := hide hown
  have HRD := hide hrd
  have hb1 : Below w.heap.size w w1 := ((Below.refl _ _).alloc (Nat.le_refl _) _).trans (hbel.mono (by simp))
  have HB1 := hide hb1
  have hkc : ∀ w', Below w1.heap.size w1 w' → w'.cell? ⟨w.heap.size, 0, none⟩ = some (.int .u8 (k0.toNat : Int)) ∧ w'.cell? ⟨w.heap.size, 1, none⟩ = some (.int .u8 (k1.toNat : Int)) ∧
      w'.cell? ⟨w.heap.size, 2, none⟩ = some (.int .u8 (k2.toNat : Int)) ∧ w'.cell? ⟨w.heap.size, 3, none⟩ = some (.int .u8 (k3.toNat : Int)) := by
    intro w' hb
    have hlt := hbel.size
    simp only [World.size_alloc] at hlt
    refine ⟨?_, ?_, ?_, ?_⟩
    · rw [hb.cell (by show w.heap.size < _; omega), hbel.cell (by simp)]; simp
    · rw [hb.cell (by show w.heap.size < _; omega), hbel.cell (by simp)]; simp
    · rw [hb.cell (by show w.heap.size < _; omega), hbel.cell (by simp)]; simp
    · rw [hb.cell (by show w.heap.size < _; omega), hbel.cell (by simp)]; simp
  have hS : ∀ w', Below w1.heap.size w1 w' → Hid (Below w1.heap.size w1 w') ∧ (convert 24 9 (.slice A1 xs.length c1)).run Try.prog w' = .ok (.string (strOf (maskL [k0, k1, k2, k3] pos xs))) w' ∧
      w'.cell? ⟨w.heap.size, 0, none⟩ = some (.int .u8 (k0.toNat : Int)) ∧ w'.cell? ⟨w.heap.size, 1, none⟩ = some (.int .u8 (k1.toNat : Int)) ∧
      w'.cell? ⟨w.heap.size, 2, none⟩ = some (.int .u8 (k2.toNat : Int)) ∧ w'.cell? ⟨w.heap.size, 3, none⟩ = some (.int .u8 (k3.toNat : Int)) := by
    intro w' hb
    refine ⟨hide hb, ?_, hkc w' hb⟩
    exact run_conv (P := Try.prog) w' 24 9 5 Try.underlying24 Try.underlying5 Try.underlying9 _ A1 c1 _ (hrd.below hb) _ (maskL_length _ _ _).symm
  have HS := hide hS
  clear hS hkc hown hrd hbel hb1
  have hsum : IntKind.i64.wrap ((pos : Int) + (xs.length : Int)) = (pos : Int) + (xs.length : Int) := IntWalk.i64_in _ (by omega)
  go_wp2_with fail
  go_region_held (fun w' => Hid (Below w1.heap.size w1 w') ∧ (convert 24 9 (.slice A1 xs.length c1)).run Try.prog w' = .ok (.string (strOf (maskL [k0, k1, k2, k3] pos xs))) w' ∧
      w'.cell? ⟨w.heap.size, 0, none⟩ = some (.int .u8 (k0.toNat : Int)) ∧ w'.cell? ⟨w.heap.size, 1, none⟩ = some (.int .u8 (k1.toNat : Int)) ∧
      w'.cell? ⟨w.heap.size, 2, none⟩ = some (.int .u8 (k2.toNat : Int)) ∧ w'.cell? ⟨w.heap.size, 3, none⟩ = some (.int .u8 (k3.toNat : Int)))
    (first | exact HS.out _ (Below.refl _ _).drew | exact HS.out _ ((Below.refl _ _).drew.trans HB2.out) | exact HS.out _ (((Below.refl _ _).drew.trans HB2.out).trans (HB3.out.mono HB2.out.size)))
    (first
      | (go_at_call 13; refine (specMasked k0 k1 k2 k3 pos hpos A c xs _ (by omega) ?_).mono ?_; exact (HR.out.below HB1.out).more HB1.out.size; rintro e w2 ⟨v2, rfl, hown2, hbel2⟩; obtain ⟨A2, c2, rfl, _, _, hrd2⟩ := own_shape hown2; have hcv2 := run_conv (P := Try.prog) w2 24 9 5 Try.underlying24 Try.underlying5 Try.underlying9 _ A2 c2 (maskL [k0, k1, k2, k3] pos xs) hrd2 xs.length (maskL_length _ _ _).symm; have HB2 := hide hbel2; clear hown2 hrd2 hbel2)
      | (go_at_call 14; refine (masks_true _).mono ?_; rintro e w3 ⟨rfl, hbel3⟩; have HB3 := hide hbel3; clear hbel3))
  go_wp2_with fail
  go_ret
  exact ⟨rfl, ((HB1.out.drew.trans (HB2.out.mono HB1.out.size)).trans (HB3.out.mono (Nat.le_trans HB1.out.size HB2.out.size)))⟩

theorem walk (k0 k1 k2 k3 : UInt8) (pos : Int) (A : Option Addr) (c : Nat) (xs : List UInt8) (w : World)
    (hr : Rd w w.heap.size A (bv xs)) (h0 : A = none → xs.length = 0 ∧ c = 0) :
    Calls Try.prog 4 #[.agg #[.int .u8 (k0.toNat : Int), .int .u8 (k1.toNat : Int), .int .u8 (k2.toNat : Int), .int .u8 (k3.toNat : Int)], .int .i64 pos, .slice A xs.length c] w fun e w' => e = .returned (.bool true) ∧ Below w.heap.size w w' := by
  by_cases h1 : 2147483647 < xs.length
  · exact step_big k0 k1 k2 k3 pos A _ c w h1
  · by_cases h2 : pos < 0 ∨ 3 < pos ∨ 4096 < xs.length
    · exact step_out k0 k1 k2 k3 pos A _ c w (by omega) h2
    · obtain ⟨p, rfl⟩ := Int.eq_ofNat_of_zero_le (show 0 ≤ pos by omega)
      exact step_main k0 k1 k2 k3 p (by omega) A c xs w (by omega) hr h0

theorem own : ownKnob Try.prog.godebug = none := by kernel_rfl
theorem laidOut : laidOutB Try.prog = true := by kernel_rfl

theorem contract (H : Type) (enc : TypeId × Value → H) (W : World) (base : Nat) (args : Array Value) (ds gs : List (DataW H)) (before : List MemPlace)
    (hval : ∀ (j : Nat) t v, Try.f4.params[j]? = some t → args[j]? = some v → Value.okWide Try.prog W .any base t v)
    (hW : DataW.Whole enc Try.prog Try.f4.params.toList Rows.fnMaskSpec.vars false W args.toList ds gs before) :
    Calls Try.prog 4 args W fun e W' => ∃ v, e = .returned v ∧ Rows.fnMaskSpec.post enc Try.prog Try.f4 false true false false W args v W' := by
  have hW' := hW
  obtain ⟨p, q, hA0, hV, rfl, hfz, hnd⟩ := hW
  have hA : DataW.TrodAll enc Try.prog W 0 (fun _ => true) true Try.f4.params.toList args.toList ds p := hA0
  rw [Try.params4] at hA hval
  obtain ⟨v0, vs0, d0, ds0, p0, q0, hargs, rfl, rfl, h0, r0⟩ := trodAll_cons hA
  obtain ⟨v1, vs1, d1, ds1, p1, q1, rfl, rfl, rfl, h1, r1⟩ := trodAll_cons r0
  obtain ⟨v2, vs2, d2, ds2, p2, q2, rfl, rfl, rfl, h2, r2⟩ := trodAll_cons r1
  obtain ⟨rfl, rfl, rfl⟩ := trodAll_nil r2
  obtain rfl : args = #[v0, v1, v2] := by cases args; simp_all
  obtain ⟨rfl, rfl⟩ := trodVars_none hV
  obtain ⟨k0, k1, k2, k3, rfl⟩ := open_key Try.underlying23 Try.underlying5 (by kernel_rfl) (by kernel_rfl) (hval 0 23 v0 rfl rfl) h0
  obtain ⟨pos, rfl, rfl, rfl, _⟩ := open_int Try.underlying3 (hval 1 3 v1 rfl rfl) h1
  obtain ⟨A, c, xs, rfl, hA0', _, hrd⟩ := open_bytes Try.underlying24 Try.underlying5 (by kernel_rfl) (hval 2 24 v2 rfl rfl) h2
  refine (walk k0 k1 k2 k3 pos A c xs W hrd hA0').mono fun e W' ⟨he, hb⟩ => ?_
  exact ⟨_, he, law_post laidOut (by kernel_rfl) (by kernel_rfl) rfl Try.underlying4 hW' rfl hb⟩

set_option maxRecDepth 100000 in
theorem lifted (os : Os) (started : os.Started) (H : Type) (enc : TypeId × Value → H) :
    ReturnsInHanded {} Try.checked os 4 .any (Rows.fnMaskSpec.pre6 enc Try.prog Try.f4 Rows.fnMaskRow.domain false) (Rows.fnMaskSpec.post enc Try.prog Try.f4 false true false false) := by
  refine returnsInHanded_of_change (C := Try.checked) own started (by kernel_rfl) Try.func4
    (ChangeSpec.witness6 (enc := enc) (C := Try.checked) false ⟨#[], #[.agg #[.int .u8 0, .int .u8 0, .int .u8 0, .int .u8 0], .int .i64 0, .slice none 0 0], []⟩ 8 (by kernel_rfl) (by kernel_rfl) (by kernel_rfl) (by kernel_rfl)) ?_
  intro W base args ds gs before hval hW _ _
  exact contract H enc W base args ds gs before hval hW

theorem proved : Rows.FnMaskSaid :=
  OpenClaim.holds_of_wide 4 Try.f4 rfl rfl rfl rfl rfl rfl rfl ⟨rfl, rfl, rfl, rfl, rfl⟩ rfl rfl rfl rfl rfl (by kernel_rfl) Try.func4 (by kernel_rfl)
    (of_decide_eq_true (by kernel_rfl)) (by unfold Func.isWrapper; first | (rw [if_pos (by decide +kernel)]; kernel_rfl) | (rw [if_neg (by decide +kernel)]; exact ⟨rfl, rfl⟩))
    (fun os started H enc _ => lifted os started H enc)
end Go.Proofs.Ytcmfbbldojhbeaa.fnMask
namespace Go.Proofs.Ytcmfbbldojhbeaa
theorem fnMask_holds : Rows.FnMaskSaid := fnMask.proved
#print axioms fnMask_holds
end Go.Proofs.Ytcmfbbldojhbeaa

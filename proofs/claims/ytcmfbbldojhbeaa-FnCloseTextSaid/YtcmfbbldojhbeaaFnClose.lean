/- The law FnCloseText answers true for every input. No condition. -/
import Derived.Test.YtcmfbbldojhbeaaClose
import Derived.Deep.RegionHeld
import Derived.Deep.RegionWith
namespace Go.Proofs.Ytcmfbbldojhbeaa.fnCloseText
open Go.ChangeShapes Go.WideShapes Go.ChangeAt Go.RowKit
open Go.ChangeMaps (open_string shut_string)

theorem step_out (code : Int) (s : ByteArray) (w : World) (h : 2147483647 < s.size ∨ code < 0 ∨ 65535 < code ∨ 4096 < s.size) :
    Calls Try.prog 7 #[.int .i64 code, .string s] w fun e w' => e = .returned (.bool true) ∧ Below w.heap.size w w' := by
  by_cases h1 : 2147483647 < s.size
  · clear h
    go_enter Try.func7, Try.ntmps7
    go_wp2_with fail
    go_ret
    exact ⟨rfl, Below.refl _ _⟩
  · by_cases h2 : code < 0
    · clear h
      go_enter Try.func7, Try.ntmps7
      go_wp2_with fail
      go_ret
      exact ⟨rfl, Below.refl _ _⟩
    · by_cases h3 : 65535 < code
      · clear h
        go_enter Try.func7, Try.ntmps7
        go_wp2_with fail
        go_ret
        exact ⟨rfl, Below.refl _ _⟩
      · have h4 : 4096 < s.size := by omega
        clear h
        go_enter Try.func7, Try.ntmps7
        go_wp2_with fail
        go_ret
        exact ⟨rfl, Below.refl _ _⟩

set_option maxHeartbeats 2000000 in
theorem step_main (code : Nat) (hcode : code < 65536) (ys : List UInt8) (hy : ys.length ≤ 4096) (w : World) :
    Calls Try.prog 7 #[.int .i64 (code : Int), .string (strOf ys)] w fun e w' => e = .returned (.bool true) ∧ Below w.heap.size w w' := by
  obtain ⟨L, hL⟩ : ∃ L, L = closeL code ys := ⟨_, rfl⟩
  have hc1 : ∀ W, Calls Try.prog 17 #[.int .i64 (code : Int), .string (strOf ys)] W fun e w' => ∃ r, e = .returned r ∧ w'.ownsRow W.heap.size 5 1 r L.length (bv L) ∧ Below W.heap.size W w' := fun W =>
    (implCloseText code hcode ys (by omega) W).mono (by rintro e w' ⟨r, xs, rfl, rfl, h1, h2⟩; exact ⟨r, rfl, by rw [hL]; exact h1, h2⟩)
  have hc2 : ∀ W, Calls Try.prog 18 #[.int .i64 (code : Int), .string (strOf ys)] W fun e w' => ∃ r, e = .returned r ∧ w'.ownsRow W.heap.size 5 1 r L.length (bv L) ∧ Below W.heap.size W w' := fun W =>
    (specCloseData code hcode ys (by omega) W).mono (by rintro e w' ⟨r, xs, rfl, rfl, h1, h2⟩; exact ⟨r, rfl, by rw [hL]; exact h1, h2⟩)
  have hc3 : ∀ W, Calls Try.prog 17 #[.int .i64 1000, .string { data := #[] }] W fun e w' => ∃ A c, e = .returned (.slice A 2 c) ∧ Below W.heap.size W w' := fun W =>
    (implCloseText 1000 (by omega) [] (by simp) W).mono (by rintro e w' ⟨r, xs, rfl, rfl, h1, h2⟩; obtain ⟨A, c, rfl, _⟩ := own_shape h1; exact ⟨A, c, rfl, h2⟩)
  have HC1 := hide hc1
  have HC2 := hide hc2
  have HC3 := hide hc3
  clear hc1 hc2 hc3 hL
  go_enter Try.func7, Try.ntmps7
  go_wp2_with fail
  go_region_held (fun _ => True) (trivial)
    (first
      | (go_at_call_of 17 (Value.int .i64 (code : Int)); refine (HC1.out _).mono ?_; rintro e w1 ⟨r1, rfl, hown1, hbel1⟩; obtain ⟨A1, c1, rfl, _, _, hrd1⟩ := own_shape hown1; have hcv1 := run_conv (P := Try.prog) w1 24 9 5 Try.underlying24 Try.underlying5 Try.underlying9 _ A1 c1 L hrd1 L.length rfl; have HR1 := hide hrd1; have HB1 := hide hbel1; clear hown1 hrd1 hbel1)
      | (go_at_call 18; refine (HC2.out _).mono ?_; rintro e w2 ⟨r2, rfl, hown2, hbel2⟩; obtain ⟨A2, c2, rfl, _, _, hrd2⟩ := own_shape hown2; have hcv2 := run_conv (P := Try.prog) w2 24 9 5 Try.underlying24 Try.underlying5 Try.underlying9 _ A2 c2 L hrd2 L.length rfl; have hcv12 := run_conv (P := Try.prog) w2 24 9 5 Try.underlying24 Try.underlying5 Try.underlying9 _ A1 c1 L (HR1.out.below hbel2) L.length rfl; have HB2 := hide hbel2; clear hown2 hrd2 hbel2)
      | (go_at_call 17; refine (HC3.out _).mono ?_; rintro e w3 ⟨A3, c3, rfl, hbel3⟩; have HB3 := hide hbel3; clear hbel3))
  all_goals go_wp2_with fail
  all_goals go_ret
  all_goals exact ⟨rfl, ((Below.refl _ _).drew.trans (HB1.out.trans (HB2.out.mono HB1.out.size))).trans (HB3.out.mono (Nat.le_trans HB1.out.size HB2.out.size))⟩

theorem walk (code : Int) (s : ByteArray) (w : World) :
    Calls Try.prog 7 #[.int .i64 code, .string s] w fun e w' => e = .returned (.bool true) ∧ Below w.heap.size w w' := by
  by_cases h : 2147483647 < s.size ∨ code < 0 ∨ 65535 < code ∨ 4096 < s.size
  · exact step_out code s w h
  · obtain ⟨p, rfl⟩ := Int.eq_ofNat_of_zero_le (show 0 ≤ code by omega)
    have hs : s = strOf s.data.toList := by cases s; rfl
    have hl : s.data.toList.length = s.size := by rw [Array.length_toList]; rfl
    rw [hs]
    exact step_main p (by omega) s.data.toList (by omega) w

theorem own : ownKnob Try.prog.godebug = none := by kernel_rfl
theorem laidOut : laidOutB Try.prog = true := by kernel_rfl

theorem contract (H : Type) (enc : TypeId × Value → H) (W : World) (base : Nat) (args : Array Value) (ds gs : List (DataW H)) (before : List MemPlace)
    (hval : ∀ (j : Nat) t v, Try.f7.params[j]? = some t → args[j]? = some v → Value.okWide Try.prog W .any base t v)
    (hW : DataW.Whole enc Try.prog Try.f7.params.toList Rows.fnCloseTextSpec.vars false W args.toList ds gs before) :
    Calls Try.prog 7 args W fun e W' => ∃ v, e = .returned v ∧ Rows.fnCloseTextSpec.post enc Try.prog Try.f7 false true false false W args v W' := by
  have hW' := hW
  obtain ⟨p, q, hA0, hV, rfl, hfz, hnd⟩ := hW
  have hA : DataW.TrodAll enc Try.prog W 0 (fun _ => true) true Try.f7.params.toList args.toList ds p := hA0
  rw [Try.params7] at hA hval
  obtain ⟨v0, vs0, d0, ds0, p0, q0, hargs, rfl, rfl, h0, r0⟩ := trodAll_cons hA
  obtain ⟨v1, vs1, d1, ds1, p1, q1, rfl, rfl, rfl, h1, r1⟩ := trodAll_cons r0
  obtain ⟨rfl, rfl, rfl⟩ := trodAll_nil r1
  obtain rfl : args = #[v0, v1] := by cases args; simp_all
  obtain ⟨rfl, rfl⟩ := trodVars_none hV
  obtain ⟨code, rfl, rfl, rfl, _⟩ := open_int Try.underlying3 (hval 0 3 v0 rfl rfl) h0
  obtain ⟨s, rfl, rfl, rfl, _⟩ := open_string Try.underlying9 (hval 1 9 v1 rfl rfl) h1
  refine (walk code s W).mono fun e W' ⟨he, hb⟩ => ?_
  exact ⟨_, he, law_post laidOut (by kernel_rfl) (by kernel_rfl) rfl Try.underlying4 hW' rfl hb⟩

set_option maxRecDepth 100000 in
theorem lifted (os : Os) (started : os.Started) (H : Type) (enc : TypeId × Value → H) :
    ReturnsInHanded {} Try.checked os 7 .any (Rows.fnCloseTextSpec.pre6 enc Try.prog Try.f7 Rows.fnCloseTextRow.domain false) (Rows.fnCloseTextSpec.post enc Try.prog Try.f7 false true false false) := by
  refine returnsInHanded_of_change (C := Try.checked) own started (by kernel_rfl) Try.func7
    (ChangeSpec.witness6 (enc := enc) (C := Try.checked) false ⟨#[], #[.int .i64 0, .string .empty], []⟩ 8 (by kernel_rfl) (by kernel_rfl) (by kernel_rfl) (by kernel_rfl)) ?_
  intro W base args ds gs before hval hW _ _
  exact contract H enc W base args ds gs before hval hW

theorem proved : Rows.FnCloseTextSaid :=
  OpenClaim.holds_of_wide 7 Try.f7 rfl rfl rfl rfl rfl rfl rfl ⟨rfl, rfl, rfl, rfl, rfl⟩ rfl rfl rfl rfl rfl (by kernel_rfl) Try.func7 (by kernel_rfl)
    (of_decide_eq_true (by kernel_rfl)) (by unfold Func.isWrapper; first | (rw [if_pos (by decide +kernel)]; kernel_rfl) | (rw [if_neg (by decide +kernel)]; exact ⟨rfl, rfl⟩))
    (fun os started H enc _ => lifted os started H enc)
end Go.Proofs.Ytcmfbbldojhbeaa.fnCloseText
namespace Go.Proofs.Ytcmfbbldojhbeaa
theorem fnCloseText_holds : Rows.FnCloseTextSaid := fnCloseText.proved
#print axioms fnCloseText_holds
end Go.Proofs.Ytcmfbbldojhbeaa

/- The law FnFold answers true for every input. No condition beyond the tables that the row lists. -/
import Derived.Test.YtcmfbbldojhbeaaDoorCards
import Derived.Test.YtcmfbbldojhbeaaDoorTie
import Derived.Test.YtcmfbbldojhbeaaDoorLower
import Derived.Deep.DeepHandedRow
import Derived.Lib.LaidTab
namespace Go.Proofs.YtcmfbbldojhbeaaDoor.fnFold
open Go.ChangeShapes Go.WideShapes Go.ChangeAt Go.RowKit
open Go.ChangeMaps (open_string shut_string)

theorem step_out (xs ys : List UInt8) (w : World) (h : 100 < xs.length ∨ 100 < ys.length) :
    Calls Tryd.prog 5 #[.string (strOf xs), .string (strOf ys)] w fun e w' => e = .returned (.bool true) ∧ Below w.heap.size w w' := by
  by_cases h1 : 2147483647 < xs.length
  · clear h
    go_enter Tryd.func5, Tryd.ntmps5
    go_wp2_with fail
    go_ret
    exact ⟨rfl, Below.refl _ _⟩
  · by_cases h2 : 2147483647 < ys.length
    · clear h
      go_enter Tryd.func5, Tryd.ntmps5
      go_wp2_with fail
      go_ret
      exact ⟨rfl, Below.refl _ _⟩
    · by_cases h3 : 100 < xs.length
      · clear h
        go_enter Tryd.func5, Tryd.ntmps5
        go_wp2_with fail
        go_ret
        exact ⟨rfl, Below.refl _ _⟩
      · have h4 : 100 < ys.length := by omega
        clear h
        go_enter Tryd.func5, Tryd.ntmps5
        go_wp2_with fail
        go_ret
        exact ⟨rfl, Below.refl _ _⟩

set_option maxHeartbeats 2000000 in
theorem step_main (xs ys : List UInt8) (w : World) (hx : xs.length ≤ 100) (hy : ys.length ≤ 100) :
    Calls Tryd.prog 5 #[.string (strOf xs), .string (strOf ys)] w fun e w' => e = .returned (.bool true) ∧ Below w.heap.size w w' := by
  cases hpx : plainL xs with
  | false =>
    have HP := hide hpx
    clear hpx
    go_enter Tryd.func5, Tryd.ntmps5
    go_wp2_with fail
    refine (specIsPlain xs (by omega) _).mono ?_
    rintro e w' ⟨rfl, rfl⟩
    rw [HP.out]
    go_wp2_with fail
    go_ret
    exact ⟨rfl, Below.refl _ _⟩
  | true =>
    have HP := hide hpx
    clear hpx
    cases hpy : plainL ys with
    | false =>
      have HQ := hide hpy
      clear hpy
      go_enter Tryd.func5, Tryd.ntmps5
      go_wp2_with fail
      refine (specIsPlain xs (by omega) _).mono ?_
      rintro e w' ⟨rfl, rfl⟩
      rw [HP.out]
      go_wp2_with fail
      refine (specIsPlain ys (by omega) _).mono ?_
      rintro e w' ⟨rfl, rfl⟩
      rw [HQ.out]
      go_wp2_with fail
      go_ret
      exact ⟨rfl, Below.refl _ _⟩
    | true =>
      have HQ := hide hpy
      clear hpy
      have hq := equalFold xs ys (plainL_ascii HP.out) (plainL_ascii HQ.out)
      have hq1 : ∀ w, Calls Tryd.prog 27 #[.string { data := #[97] }, .string { data := #[65] }] w fun e w' => e = .returned (.bool true) ∧ w = w' := by
        intro w
        have h := equalFold [97] [65] (by intro x hx; simp at hx; subst hx; decide) (by intro x hx; simp at hx; subst hx; decide) w
        have e1 : decide (lowL [97] = lowL [65]) = true := by decide
        rw [e1] at h
        exact h
      have hdec : decide (lowL xs = lowL ys) = (lowL xs == lowL ys) := by
        by_cases h : lowL xs = lowL ys <;> simp [h]
      have HE := hide hq
      have HE1 := hide hq1
      clear hq hq1
      go_enter Tryd.func5, Tryd.ntmps5
      go_wp2_with fail
      refine (specIsPlain xs (by omega) _).mono ?_
      rintro e w' ⟨rfl, rfl⟩
      rw [HP.out]
      go_wp2_with fail
      refine (specIsPlain ys (by omega) _).mono ?_
      rintro e w' ⟨rfl, rfl⟩
      rw [HQ.out]
      go_wp2_with (first | (go_at_call 14; go_in) | (go_at_call 21; go_in) | (go_at_call_of 27 (Value.string (strOf xs)); refine (HE.out _).mono ?_; rintro e w' ⟨rfl, rfl⟩) | (go_at_call_of 15 (Value.string (strOf xs)); refine (specLower xs (by omega) _).mono ?_; rintro e w1 ⟨rfl, hb1⟩; have HB1 := hide hb1; clear hb1) | (go_at_call_of 15 (Value.string (strOf ys)); refine (specLower ys (by omega) _).mono ?_; rintro e w2 ⟨rfl, hb2⟩; have HB2 := hide hb2; clear hb2) | (go_at_call 27; refine (HE1.out _).mono ?_; rintro e w' ⟨rfl, rfl⟩))
      go_ret
      exact ⟨rfl, HB1.out.trans (HB2.out.mono HB1.out.size)⟩

theorem walk (s t : ByteArray) (w : World) :
    Calls Tryd.prog 5 #[.string s, .string t] w fun e w' => e = .returned (.bool true) ∧ Below w.heap.size w w' := by
  obtain ⟨xs, rfl, _, _⟩ := eq_strOf s
  obtain ⟨ys, rfl, _, _⟩ := eq_strOf t
  by_cases h : 100 < xs.length ∨ 100 < ys.length
  · exact step_out xs ys w h
  · exact step_main xs ys w (by omega) (by omega)

theorem own : ownKnob Tryd.prog.godebug = none := by kernel_rfl
theorem laidOut : laidOutB Tryd.prog = true := by kernel_rfl

theorem contract (H : Type) (enc : TypeId × Value → H) (W : World) (base : Nat) (args : Array Value) (ds gs : List (DataW H)) (before : List MemPlace)
    (hval : ∀ (j : Nat) t v, Tryd.f5.params[j]? = some t → args[j]? = some v → Value.okWide Tryd.prog W .any base t v)
    (hW : DataW.Whole enc Tryd.prog Tryd.f5.params.toList Rows.fnFoldSpec.vars false W args.toList ds gs before) :
    Calls Tryd.prog 5 args W fun e W' => ∃ v, e = .returned v ∧ Rows.fnFoldSpec.post enc Tryd.prog Tryd.f5 false true false false W args v W' := by
  have hW' := hW
  obtain ⟨p, q, hA0, hV, rfl, hfz, hnd⟩ := hW
  have hA : DataW.TrodAll enc Tryd.prog W 0 (fun _ => true) true Tryd.f5.params.toList args.toList ds p := hA0
  rw [Tryd.params5] at hA hval
  obtain ⟨v0, vs0, d0, ds0, p0, q0, hargs, rfl, rfl, h0, r0⟩ := trodAll_cons hA
  obtain ⟨v1, vs1, d1, ds1, p1, q1, rfl, rfl, rfl, h1, r1⟩ := trodAll_cons r0
  obtain ⟨rfl, rfl, rfl⟩ := trodAll_nil r1
  obtain rfl : args = #[v0, v1] := by cases args; simp_all
  obtain ⟨rfl, rfl⟩ := trodVars_none hV
  obtain ⟨s, rfl, rfl, rfl, _⟩ := open_string Tryd.underlying9 (hval 0 9 v0 rfl rfl) h0
  obtain ⟨t, rfl, rfl, rfl, _⟩ := open_string Tryd.underlying9 (hval 1 9 v1 rfl rfl) h1
  refine (walk s t W).mono fun e W' ⟨he, hb⟩ => ?_
  exact ⟨_, he, law_post laidOut (by kernel_rfl) (by kernel_rfl) rfl Tryd.underlying4 hW' rfl hb⟩

/-- A datum's cells, to the depth of a table of pairs. -/
def flat1 : DataW Unit → List Value
  | .lit l => [l.value]
  | _ => []
def flat2 : DataW Unit → List Value
  | .lit l => [l.value]
  | .agg ps => ps.flatMap flat1
  | _ => []
def flat3 : DataW Unit → List Value
  | .agg ps => ps.flatMap flat2
  | _ => []
/-- A world for the witness: the settled one, the tables holding what is laid. -/
noncomputable def laidWorld (os : Os) : World :=
  { World.holding Tryd.prog os ⟨#[], #[], []⟩ with heap := (((World.holding Tryd.prog os ⟨#[], #[], []⟩).heap.modify 1 fun
      | .cells _ t frozen => .cells (flat3 Rows.laid_unicode_utf8_first).toArray t frozen
      | o => o).modify 2 fun
      | .cells _ t frozen => .cells (flat3 (Rows.laid_unicode_utf8_acceptRanges : DataW Unit)).toArray t frozen
      | o => o) }
theorem laid_met (os : Os) : laidMet Tryd.prog Rows.fnFoldRow.laid ((laidWorld os).forCall (fun _ _ => 0) ⟨#[], #[.string .empty, .string .empty], []⟩).memory :=
  laidMet_of_run' 8 (by kernel_rfl) (by kernel_rfl)
theorem reads (os : Os) {H : Type} (enc : TypeId × Value → H) : ∃ places, DataW.whole enc Tryd.prog ((laidWorld os).forCall (fun _ _ => 0) ⟨#[], #[.string .empty, .string .empty], []⟩).memory Tryd.f5.params.toList Rows.fnFoldSpec.vars false #[Value.string .empty, Value.string .empty].toList 8 = some ([.lit (.string []), .lit (.string [])], [], places) :=
  ⟨[], by kernel_rfl⟩

set_option maxRecDepth 100000 in
theorem lifted (os : Os) (started : os.Started) (H : Type) (enc : TypeId × Value → H) (F : Stop.Interp) :
    ReturnsInHanded {} Tryd.checked os 5 .any ((OpenSpec.ofChange Rows.fnFoldSpec).preRow enc Tryd.prog Tryd.f5 Rows.fnFoldRow.domain false Rows.fnFoldRow.laid) (((OpenSpec.ofChange Rows.fnFoldSpec).at F).post enc Tryd.prog Tryd.f5 false true false false) := by
  obtain ⟨places, hx⟩ := reads os enc
  refine returnsInHanded_of_row (C := Tryd.checked) (s := OpenSpec.ofChange Rows.fnFoldSpec) own started (by kernel_rfl) Tryd.func5
    (witness_row_at (enc := enc) (C := Tryd.checked) false (laidWorld os) #[.string .empty, .string .empty] rfl (by kernel_rfl) (by kernel_rfl) (by kernel_rfl)
      (OpenSpec.preRow_of_cond 8 hx (by kernel_rfl) (fun k hk => by cases hk) (by kernel_rfl) (laid_met os))) ?_
  intro W base args ds gs before hval hW _ _ _ _ _ _
  exact contract H enc W base args ds gs before hval hW

theorem said : Rows.FnFoldSaid :=
  OpenClaim.holds_of_cond 5 Tryd.f5 rfl rfl rfl rfl rfl rfl rfl ⟨rfl, rfl, rfl, rfl, rfl⟩ rfl rfl rfl rfl rfl (by kernel_rfl) Tryd.func5 (by kernel_rfl)
    (of_decide_eq_true (by kernel_rfl)) (by unfold Func.isWrapper; first | (rw [if_pos (by decide +kernel)]; kernel_rfl) | (rw [if_neg (by decide +kernel)]; exact ⟨rfl, rfl⟩))
    (fun os started H enc _ F => by rw [OpenClaim.pre_eq_preRow]; exact lifted os started H enc F)

theorem plain (f : FuncId) (fn : Func) (hf : Tryd.pinned.checked.prog.funcNamed "loop.example/pub-g03069/laws.FnFold" = some f) (hfn : Tryd.pinned.checked.prog.funcs[f]? = some fn) :
    false = Tryd.pinned.checked.prog.looks [] ∧ ∀ (j : Nat) t, fn.params[j]? = some t → Tryd.pinned.checked.prog.wantsStandIn t = false := by
  obtain rfl : f = 5 := Option.some.inj ((show Tryd.prog.funcNamed "loop.example/pub-g03069/laws.FnFold" = some 5 by kernel_rfl).symm.trans hf) |>.symm
  obtain rfl : fn = Tryd.f5 := (Option.some.inj (Tryd.func5.symm.trans hfn)).symm
  refine ⟨by kernel_rfl, fun j t ht => ?_⟩
  have hall : Tryd.f5.params.all (fun t => !Tryd.prog.wantsStandIn t) = true := by kernel_rfl
  have := Array.all_eq_true.1 hall
  obtain ⟨hj, rfl⟩ := Array.getElem?_eq_some_iff.1 ht
  have h2 := this j hj
  simp only [Bool.not_eq_true'] at h2
  exact h2

theorem card : Rows.FnFoldCardSaid :=
  Claim7.holds_tied_plain_at .later [] _ _ _ _ said (fun _ h => by cases h) (by kernel_rfl) (fun _ h => by cases h) fnFold_row_tie rfl ⟨rfl, rfl⟩ (by kernel_rfl) rfl plain (by kernel_rfl)
end Go.Proofs.YtcmfbbldojhbeaaDoor.fnFold
namespace Go.Proofs.YtcmfbbldojhbeaaDoor
theorem fnFold_card : Rows.FnFoldCardSaid := fnFold.card
#print axioms fnFold_card
end Go.Proofs.YtcmfbbldojhbeaaDoor

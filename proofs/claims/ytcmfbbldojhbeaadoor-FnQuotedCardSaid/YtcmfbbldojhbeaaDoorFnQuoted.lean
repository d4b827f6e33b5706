/- The law FnQuoted answers true for every input. No condition beyond the table that the row lists. -/
import Derived.Test.YtcmfbbldojhbeaaDoorCards
import Derived.Test.YtcmfbbldojhbeaaDoorTie
import Derived.Test.YtcmfbbldojhbeaaDoorQuoted
import Derived.Test.YtcmfbbldojhbeaaDoorLower
import Derived.Test.YtcmfbbldojhbeaaDoorLine
import Derived.Deep.DeepHandedRow
namespace Go.Proofs.YtcmfbbldojhbeaaDoor.fnQuoted
open Go.ChangeShapes Go.WideShapes Go.ChangeAt Go.RowKit
open Go.ChangeMaps (open_string shut_string)

theorem implQ (s a b : ByteArray) (hs : s.size ≤ 4096) (w : World) (h : Calls Tryd.prog 26 #[.string s] w fun e w' => e = .returned (.tuple #[.string a, .string b]) ∧ Below w.heap.size w w') :
    Calls Tryd.prog 12 #[.string s] w fun e w' => e = .returned (.tuple #[.string a, .string b]) ∧ Below w.heap.size w w' := by
  have H := hide h
  clear h
  go_enter Tryd.func12, Tryd.ntmps12
  go_wp2_with (first | (go_at_call 20; go_in) | (go_at_call 26; refine H.out.mono ?_; rintro e w' ⟨rfl, hb⟩; have HB := hide hb; clear hb))
  go_ret2
  exact ⟨rfl, HB.out⟩

theorem step_out (xs ys : List UInt8) (w : World) (h : 100 < xs.length ∨ 100 < ys.length) :
    Calls Tryd.prog 4 #[.string (strOf xs), .string (strOf ys)] w fun e w' => e = .returned (.bool true) ∧ Below w.heap.size w w' := by
  by_cases h1 : 2147483647 < xs.length
  · clear h
    go_enter Tryd.func4, Tryd.ntmps4
    go_wp2_with fail
    go_ret
    exact ⟨rfl, Below.refl _ _⟩
  · by_cases h2 : 2147483647 < ys.length
    · clear h
      go_enter Tryd.func4, Tryd.ntmps4
      go_wp2_with fail
      go_ret
      exact ⟨rfl, Below.refl _ _⟩
    · by_cases h3 : 100 < xs.length
      · clear h
        go_enter Tryd.func4, Tryd.ntmps4
        go_wp2_with fail
        go_ret
        exact ⟨rfl, Below.refl _ _⟩
      · have h4 : 100 < ys.length := by omega
        clear h
        go_enter Tryd.func4, Tryd.ntmps4
        go_wp2_with fail
        go_ret
        exact ⟨rfl, Below.refl _ _⟩

set_option maxHeartbeats 2000000 in
theorem step_main (xs ys : List UInt8) (w : World) (hT : Tok w) (hx : xs.length ≤ 100) (hy : ys.length ≤ 100) :
    Calls Tryd.prog 4 #[.string (strOf xs), .string (strOf ys)] w fun e w' => e = .returned (.bool true) ∧ Below w.heap.size w w' := by
  have HT := hide hT
  clear hT
  cases hpx : plainL xs with
  | false =>
    have HP := hide hpx
    clear hpx
    go_enter Tryd.func4, Tryd.ntmps4
    go_wp2_with fail
    refine (specIsPlain xs (by omega) _).mono ?_
    rintro e w' ⟨rfl, rfl⟩
    rw [HP.out]
    go_wp2_with fail
    go_ret
    exact ⟨rfl, Below.refl _ _⟩
  | true =>
    have HP := hide hpx
    clear hpx
    cases hpy : plainL ys with
    | false =>
      have HQ := hide hpy
      clear hpy
      go_enter Tryd.func4, Tryd.ntmps4
      go_wp2_with fail
      refine (specIsPlain xs (by omega) _).mono ?_
      rintro e w' ⟨rfl, rfl⟩
      rw [HP.out]
      go_wp2_with fail
      refine (specIsPlain ys (by omega) _).mono ?_
      rintro e w' ⟨rfl, rfl⟩
      rw [HQ.out]
      go_wp2_with fail
      go_ret
      exact ⟨rfl, Below.refl _ _⟩
    | true =>
      have HQ := hide hpy
      clear hpy
      have hel := esc_length xs
      obtain ⟨Z1, a1, e1⟩ := add_named (P := Tryd.prog) [34] (esc xs) (by simp; omega)
      obtain ⟨Z2, a2, e2⟩ := add_named (P := Tryd.prog) Z1 [34] (by rw [e1.out]; simp; omega)
      obtain ⟨Z3, a3, e3⟩ := add_named (P := Tryd.prog) Z2 ys (by rw [e2.out, e1.out]; simp; omega)
      have hz : Z3 = 34 :: (esc xs ++ 34 :: ys) := by rw [e3.out, e2.out, e1.out]; simp
      have b1 : ∀ w, (Op.stringOp .add { data := #[34] } (strOf (esc xs))).run Tryd.prog w = .ok (.string (strOf Z1)) w := a1
      have b2 : ∀ w, (Op.stringOp .add (strOf Z1) { data := #[34] }).run Tryd.prog w = .ok (.string (strOf Z2)) w := a2
      have k1 : ∀ w, Calls Tryd.prog 12 #[.string (strOf Z3)] w fun e w' => e = .returned (.tuple #[.string (strOf xs), .string (strOf ys)]) ∧ Below w.heap.size w w' := by
        intro w
        refine implQ _ _ _ (by rw [strOf_size, hz]; simp; omega) w ?_
        rw [hz]
        exact nextQuoted xs ys (by omega) (by omega) w
      have K1 := hide k1
      have hes := specEscaped xs (by omega)
      have HES := hide hes
      clear k1 a1 a2 hz e1 e2 e3 hel hes
      have p1 : ∀ w, Calls Tryd.prog 11 #[.string (strOf xs)] w fun e w' => e = .returned (.bool true) ∧ w = w' := fun w => by have h := specIsPlain xs (by omega) w; rwa [HP.out] at h
      have p2 : ∀ w, Calls Tryd.prog 11 #[.string (strOf ys)] w fun e w' => e = .returned (.bool true) ∧ w = w' := fun w => by have h := specIsPlain ys (by omega) w; rwa [HQ.out] at h
      have P1 := hide p1
      have P2 := hide p2
      have z1 : (strOf xs).size = xs.length := strOf_size xs
      have z2 : (strOf ys).size = ys.length := strOf_size ys
      clear p1 p2
      generalize esc xs = ex at *
      generalize strOf xs = sx at *
      generalize strOf ys = sy at *
      go_enter Tryd.func4, Tryd.ntmps4
      go_wp2_with fail
      refine (P1.out _).mono ?_
      rintro e w' ⟨rfl, rfl⟩
      go_wp2_with fail
      refine (P2.out _).mono ?_
      rintro e w' ⟨rfl, rfl⟩
      go_wp2_with fail
      refine (HES.out _).mono ?_
      rintro e w1 ⟨rfl, hb1⟩
      have HB1 := hide hb1
      clear hb1
      go_wp2_with fail
      refine (K1.out _).mono ?_
      rintro e w2 ⟨rfl, hb2⟩
      have hb12 := HB1.out.trans (hb2.mono HB1.out.size)
      have HB2 := hide hb12
      clear hb2 hb12
      go_wp2_with fail
      refine (implQ _ { data := #[97] } { data := #[32, 98] } (by decide) _ (nextAB _ (HT.out.below HB2.out))).mono ?_
      rintro e w3 ⟨rfl, hb3⟩
      have HB3 := hide hb3
      clear hb3
      go_wp2_with fail
      go_ret
      exact ⟨rfl, HB2.out.trans (HB3.out.mono HB2.out.size)⟩

theorem walk (s t : ByteArray) (w : World) (hT : Tok w) :
    Calls Tryd.prog 4 #[.string s, .string t] w fun e w' => e = .returned (.bool true) ∧ Below w.heap.size w w' := by
  obtain ⟨xs, rfl, _, _⟩ := eq_strOf s
  obtain ⟨ys, rfl, _, _⟩ := eq_strOf t
  by_cases h : 100 < xs.length ∨ 100 < ys.length
  · exact step_out xs ys w h
  · exact step_main xs ys w hT (by omega) (by omega)

theorem own : ownKnob Tryd.prog.godebug = none := by kernel_rfl
theorem laidOut : laidOutB Tryd.prog = true := by kernel_rfl

theorem contract (H : Type) (enc : TypeId × Value → H) (W : World) (base : Nat) (args : Array Value) (ds gs : List (DataW H)) (before : List MemPlace)
    (hval : ∀ (j : Nat) t v, Tryd.f4.params[j]? = some t → args[j]? = some v → Value.okWide Tryd.prog W .any base t v)
    (hW : DataW.Whole enc Tryd.prog Tryd.f4.params.toList Rows.fnQuotedSpec.vars false W args.toList ds gs before) (hT : Tok W) :
    Calls Tryd.prog 4 args W fun e W' => ∃ v, e = .returned v ∧ Rows.fnQuotedSpec.post enc Tryd.prog Tryd.f4 false true false false W args v W' := by
  have hW' := hW
  obtain ⟨p, q, hA0, hV, rfl, hfz, hnd⟩ := hW
  have hA : DataW.TrodAll enc Tryd.prog W 0 (fun _ => true) true Tryd.f4.params.toList args.toList ds p := hA0
  rw [Tryd.params4] at hA hval
  obtain ⟨v0, vs0, d0, ds0, p0, q0, hargs, rfl, rfl, h0, r0⟩ := trodAll_cons hA
  obtain ⟨v1, vs1, d1, ds1, p1, q1, rfl, rfl, rfl, h1, r1⟩ := trodAll_cons r0
  obtain ⟨rfl, rfl, rfl⟩ := trodAll_nil r1
  obtain rfl : args = #[v0, v1] := by cases args; simp_all
  obtain ⟨_, _, _, _, dg, _, rfl, _, _, _, _, _⟩ := trodVars_one hV
  obtain ⟨s, rfl, rfl, rfl, _⟩ := open_string Tryd.underlying9 (hval 0 9 v0 rfl rfl) h0
  obtain ⟨t, rfl, rfl, rfl, _⟩ := open_string Tryd.underlying9 (hval 1 9 v1 rfl rfl) h1
  refine (walk s t W hT).mono fun e W' ⟨he, hb⟩ => ?_
  exact ⟨_, he, law_post laidOut (by kernel_rfl) (by kernel_rfl) rfl Tryd.underlying4 hW' rfl hb⟩

/-- A datum's cells. -/
def flat1 : DataW Unit → List Value
  | .lit l => [l.value]
  | _ => []
def flat3 : DataW Unit → List Value
  | .agg ps => ps.flatMap flat1
  | _ => []
/-- A world for the witness: the settled one, the table holding what is laid. -/
noncomputable def laidWorld (os : Os) : World :=
  { World.holding Tryd.prog os ⟨#[], #[], []⟩ with heap := ((World.holding Tryd.prog os ⟨#[], #[], []⟩).heap.modify 0 fun
      | .cells _ t frozen => .cells (flat3 Rows.laid_loop_example_pub_g03069_pub_ws_isTokenOctet).toArray t frozen
      | o => o) }
theorem laid_met (os : Os) : laidMet Tryd.prog Rows.fnQuotedRow.laid ((laidWorld os).forCall (fun _ _ => 0) ⟨#[], #[.string .empty, .string .empty], []⟩).memory :=
  laidMet_of_run' 8 (by kernel_rfl) (by kernel_rfl)
theorem reads (os : Os) {H : Type} (enc : TypeId × Value → H) : ∃ places, DataW.whole enc Tryd.prog ((laidWorld os).forCall (fun _ _ => 0) ⟨#[], #[.string .empty, .string .empty], []⟩).memory Tryd.f4.params.toList Rows.fnQuotedSpec.vars false #[Value.string .empty, Value.string .empty].toList 8 = some ([.lit (.string []), .lit (.string [])], [Rows.laid_loop_example_pub_g03069_pub_ws_isTokenOctet], places) :=
  ⟨MemPlace.row ⟨0, 0, none⟩ 256, by kernel_rfl⟩

set_option maxRecDepth 100000 in
theorem lifted (os : Os) (started : os.Started) (H : Type) (enc : TypeId × Value → H) (F : Stop.Interp) :
    ReturnsInHanded {} Tryd.checked os 4 .any ((OpenSpec.ofChange Rows.fnQuotedSpec).preRow enc Tryd.prog Tryd.f4 Rows.fnQuotedRow.domain false Rows.fnQuotedRow.laid) (((OpenSpec.ofChange Rows.fnQuotedSpec).at F).post enc Tryd.prog Tryd.f4 false true false false) := by
  obtain ⟨places, hx⟩ := reads os enc
  refine returnsInHanded_of_row (C := Tryd.checked) (s := OpenSpec.ofChange Rows.fnQuotedSpec) own started (by kernel_rfl) Tryd.func4
    (witness_row_at (enc := enc) (C := Tryd.checked) false (laidWorld os) #[.string .empty, .string .empty] rfl (by kernel_rfl) (by kernel_rfl) (by kernel_rfl)
      (OpenSpec.preRow_of_cond 8 hx (by kernel_rfl) (fun k hk => by cases hk) (by kernel_rfl) (laid_met os))) ?_
  intro W base args ds gs before hval hW _ _ _ hL _ _
  exact contract H enc W base args ds gs before hval hW (tok_of_laid (l := Rows.fnQuotedRow.laid) hL (List.mem_singleton.2 rfl))

theorem said : Rows.FnQuotedSaid :=
  OpenClaim.holds_of_cond 4 Tryd.f4 rfl rfl rfl rfl rfl rfl rfl ⟨rfl, rfl, rfl, rfl, rfl⟩ rfl rfl rfl rfl rfl (by kernel_rfl) Tryd.func4 (by kernel_rfl)
    (of_decide_eq_true (by kernel_rfl)) (by unfold Func.isWrapper; first | (rw [if_pos (by decide +kernel)]; kernel_rfl) | (rw [if_neg (by decide +kernel)]; exact ⟨rfl, rfl⟩))
    (fun os started H enc _ F => by rw [OpenClaim.pre_eq_preRow]; exact lifted os started H enc F)

theorem plain (f : FuncId) (fn : Func) (hf : Tryd.pinned.checked.prog.funcNamed "loop.example/pub-g03069/laws.FnQuoted" = some f) (hfn : Tryd.pinned.checked.prog.funcs[f]? = some fn) :
    false = Tryd.pinned.checked.prog.looks [] ∧ ∀ (j : Nat) t, fn.params[j]? = some t → Tryd.pinned.checked.prog.wantsStandIn t = false := by
  obtain rfl : f = 4 := Option.some.inj ((show Tryd.prog.funcNamed "loop.example/pub-g03069/laws.FnQuoted" = some 4 by kernel_rfl).symm.trans hf) |>.symm
  obtain rfl : fn = Tryd.f4 := (Option.some.inj (Tryd.func4.symm.trans hfn)).symm
  refine ⟨by kernel_rfl, fun j t ht => ?_⟩
  have hall : Tryd.f4.params.all (fun t => !Tryd.prog.wantsStandIn t) = true := by kernel_rfl
  have := Array.all_eq_true.1 hall
  obtain ⟨hj, rfl⟩ := Array.getElem?_eq_some_iff.1 ht
  have h2 := this j hj
  simp only [Bool.not_eq_true'] at h2
  exact h2

theorem card : Rows.FnQuotedCardSaid :=
  Claim7.holds_tied_plain_at .later [] _ _ _ _ said (fun _ h => by cases h) (by kernel_rfl) (fun _ h => by cases h) fnQuoted_row_tie rfl ⟨rfl, rfl⟩ (by kernel_rfl) rfl plain (by kernel_rfl)
end Go.Proofs.YtcmfbbldojhbeaaDoor.fnQuoted
namespace Go.Proofs.YtcmfbbldojhbeaaDoor
theorem fnQuoted_card : Rows.FnQuotedCardSaid := fnQuoted.card
#print axioms fnQuoted_card
end Go.Proofs.YtcmfbbldojhbeaaDoor

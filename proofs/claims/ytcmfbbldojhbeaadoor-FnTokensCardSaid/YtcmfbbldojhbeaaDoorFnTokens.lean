/- The law FnTokens answers true for every input. No condition beyond the table that the row lists. -/
import Derived.Test.YtcmfbbldojhbeaaDoorCards
import Derived.Test.YtcmfbbldojhbeaaDoorTie
import Derived.Test.YtcmfbbldojhbeaaDoorTokLaw
import Derived.Deep.DeepHandedRow
import Derived.Deep.RegionHeld
namespace Go.Proofs.YtcmfbbldojhbeaaDoor.fnTokens
open Go.ChangeShapes Go.WideShapes Go.ChangeAt Go.RowKit

/-- What the two tests answer, the length under a name. -/
def TestsAt (V : Value) (w : World) (x y : Bool) : Prop :=
  Calls Tryd.prog 7 #[V] w (fun e w' => e = .returned (.bool x) ∧ w = w') ∧
  (x = true → Calls Tryd.prog 8 #[V] w (fun e w' => e = .returned (.bool y) ∧ w = w'))

set_option maxHeartbeats 2000000 in
theorem step_fits (A : Option Addr) (c n : Nat) (y : Bool) (b : Int) (w : World) (h : TestsAt (.slice A n c) w false y) :
    Calls Tryd.prog 3 #[.slice A n c, .int .i64 b] w fun e w' => e = .returned (.bool true) ∧ Below w.heap.size w w' := by
  have H := hide h
  clear h
  go_enter Tryd.func3, Tryd.ntmps3
  go_wp2_with fail
  refine H.out.1.mono ?_
  rintro e w' ⟨rfl, rfl⟩
  go_wp2_with fail
  go_ret
  exact ⟨rfl, Below.refl _ _⟩

set_option maxHeartbeats 2000000 in
theorem step_toks (A : Option Addr) (c n : Nat) (b : Int) (w : World) (h : TestsAt (.slice A n c) w true false) :
    Calls Tryd.prog 3 #[.slice A n c, .int .i64 b] w fun e w' => e = .returned (.bool true) ∧ Below w.heap.size w w' := by
  have H := hide h
  clear h
  go_enter Tryd.func3, Tryd.ntmps3
  go_wp2_with fail
  refine H.out.1.mono ?_
  rintro e w' ⟨rfl, rfl⟩
  go_wp2_with fail
  refine (H.out.2 rfl).mono ?_
  rintro e w' ⟨rfl, rfl⟩
  go_wp2_with fail
  go_ret
  exact ⟨rfl, Below.refl _ _⟩

set_option maxHeartbeats 2000000 in
theorem step_none (A : Option Addr) (c : Nat) (b : Int) (w : World) (h : TestsAt (.slice A 0 c) w true true) :
    Calls Tryd.prog 3 #[.slice A 0 c, .int .i64 b] w fun e w' => e = .returned (.bool true) ∧ Below w.heap.size w w' := by
  have H := hide h
  clear h
  go_enter Tryd.func3, Tryd.ntmps3
  go_wp2_with fail
  refine H.out.1.mono ?_
  rintro e w' ⟨rfl, rfl⟩
  go_wp2_with fail
  refine (H.out.2 rfl).mono ?_
  rintro e w' ⟨rfl, rfl⟩
  go_wp2_with fail
  go_ret
  exact ⟨rfl, Below.refl _ _⟩

set_option maxHeartbeats 2000000 in
theorem step_under (A : Option Addr) (c n : Nat) (b : Int) (w : World) (hn : ((n : Int) == 0) = false) (hb : b < 0) (h : TestsAt (.slice A n c) w true true) :
    Calls Tryd.prog 3 #[.slice A n c, .int .i64 b] w fun e w' => e = .returned (.bool true) ∧ Below w.heap.size w w' := by
  have H := hide h
  clear h
  go_enter Tryd.func3, Tryd.ntmps3
  go_wp2_with fail
  refine H.out.1.mono ?_
  rintro e w' ⟨rfl, rfl⟩
  go_wp2_with fail
  refine (H.out.2 rfl).mono ?_
  rintro e w' ⟨rfl, rfl⟩
  go_wp2_with fail
  go_ret
  exact ⟨rfl, Below.refl _ _⟩

set_option maxHeartbeats 2000000 in
theorem step_over (A : Option Addr) (c n : Nat) (b : Int) (w : World) (hn : ((n : Int) == 0) = false) (hb0 : 0 ≤ b) (hb : 5 < b) (h : TestsAt (.slice A n c) w true true) :
    Calls Tryd.prog 3 #[.slice A n c, .int .i64 b] w fun e w' => e = .returned (.bool true) ∧ Below w.heap.size w w' := by
  have H := hide h
  clear h
  go_enter Tryd.func3, Tryd.ntmps3
  go_wp2_with fail
  refine H.out.1.mono ?_
  rintro e w' ⟨rfl, rfl⟩
  go_wp2_with fail
  refine (H.out.2 rfl).mono ?_
  rintro e w' ⟨rfl, rfl⟩
  go_wp2_with fail
  go_ret
  exact ⟨rfl, Below.refl _ _⟩

theorem step_out (A : Option Addr) (c : Nat) (ls : List (List UInt8)) (b : Int) (w : World) (hr : Rd w w.heap.size A (sv ls)) (h : fits1 ls = false ∨ areTok ls = false ∨ ls.length = 0 ∨ b < 0 ∨ 5 < b) :
    Calls Tryd.prog 3 #[.slice A ls.length c, .int .i64 b] w fun e w' => e = .returned (.bool true) ∧ Below w.heap.size w w' := by
  have ht : TestsAt (.slice A ls.length c) w (fits1 ls) (areTok ls) := ⟨zzFits1 A c ls w hr, fun hf => areTokens A c ls w hr hf⟩
  cases hf : fits1 ls with
  | false => rw [hf] at ht; exact step_fits A c _ _ b w ht
  | true =>
    cases ha : areTok ls with
    | false => rw [hf, ha] at ht; exact step_toks A c _ b w ht
    | true =>
      rw [hf, ha] at ht
      have h' : ls.length = 0 ∨ (¬ ls.length = 0 ∧ b < 0) ∨ (¬ ls.length = 0 ∧ 0 ≤ b ∧ 5 < b) := by
        rcases h with h | h | h
        · rw [hf] at h; cases h
        · rw [ha] at h; cases h
        · omega
      rcases h' with h | ⟨h, hb⟩ | ⟨h, hb, hb'⟩
      · rw [h] at ht ⊢; exact step_none A c b w ht
      · exact step_under A c _ b w (beq_eq_false_iff_ne.2 (by omega)) hb ht
      · exact step_over A c _ b w (beq_eq_false_iff_ne.2 (by omega)) hb hb' ht

theorem areTok_parts {ls : List (List UInt8)} (h : areTok ls = true) : (∀ s ∈ ls, okTok s = true) ∧ ls.length ≤ 20 := by
  unfold areTok at h
  simp only [Bool.and_eq_true, decide_eq_true_eq, List.all_eq_true] at h
  exact h

set_option maxHeartbeats 8000000 in
theorem step_main (A : Option Addr) (c : Nat) (ls : List (List UInt8)) (b : Nat) (w : World) (hr : Rd w w.heap.size A (sv ls)) (hT : Tok w) (hf : fits1 ls = true) (ha : areTok ls = true) (hn : 1 ≤ ls.length) (hb : b ≤ 5) :
    Calls Tryd.prog 3 #[.slice A ls.length c, .int .i64 (b : Int)] w fun e w' => e = .returned (.bool true) ∧ Below w.heap.size w w' := by
  obtain ⟨hall, h20⟩ := areTok_parts ha
  have h30 : ∀ s ∈ ls, s.length ≤ 30 := fun s hs => (okTok_parts (hall s hs)).2.2
  have hll := lineL_length b hb ls h30
  obtain ⟨g, o, rfl, hg, hcells⟩ := hr (by rw [sv_length]; omega)
  have h0 : 0 < ls.length := by omega
  have hc0 : w.cell? ⟨g, o, none⟩ = some (.string (strOf ls[0])) := by have := hcells 0 _ (sv_get ls 0 h0); rwa [Nat.add_zero] at this
  have hl0 := h30 ls[0] (List.getElem_mem h0)
  have hne : ls ≠ [] := by intro e; rw [e] at hn; simp at hn
  have k1 : ∀ w, Tok w → Calls Tryd.prog 9 #[.string (strOf (lineL b ls))] w (TokensPost w (some ls)) := by
    intro w hT
    have h := implTokens (lineL b ls) (by omega) w hT
    have e := toks_line b [] (.inl rfl) ls hne hall ((lineL b ls).length + 1) [] (by simp)
    rw [List.append_nil] at e
    rw [e] at h
    exact h
  obtain ⟨Z1, a1, e1⟩ := add_named (P := Tryd.prog) (lineL b ls) [59] (by simp; omega)
  obtain ⟨Z2, a2, e2⟩ := add_named (P := Tryd.prog) Z1 ls[0] (by rw [e1.out]; simp; omega)
  have k2 : ∀ w, Tok w → Calls Tryd.prog 9 #[.string (strOf Z2)] w (TokensPost w none) := by
    intro w hT
    have e : Z2 = lineL b ls ++ (59 : UInt8) :: ls[0] := by rw [e2.out, e1.out]; simp
    have h := implTokens Z2 (by rw [e]; simp; omega) w hT
    have e' := toks_line b ((59 : UInt8) :: ls[0]) (.inr ⟨_, rfl⟩) ls hne hall (Z2.length + 1) [] (by rw [e]; exact Nat.lt_succ_self _)
    rw [← e, if_neg (by simp)] at e'
    rw [e'] at h
    exact h
  have a1' : ∀ w, (Op.stringOp .add (strOf (lineL b ls)) { data := #[59] }).run Tryd.prog w = .ok (.string (strOf Z1)) w := a1
  have hR : Rd w w.heap.size (some ⟨g, o, none⟩) (sv ls) := fun _ => ⟨g, o, rfl, hg, hcells⟩
  have kz := zzFits1 (some ⟨g, o, none⟩) c ls w hR
  have ka := areTokens (some ⟨g, o, none⟩) c ls w hR hf
  rw [hf] at kz
  rw [ha] at ka
  have kl : ∀ w' B, Rd w' B (some ⟨g, o, none⟩) (sv ls) → Calls Tryd.prog 10 #[.slice (some ⟨g, o, none⟩) ls.length c, .int .i64 (b : Int)] w' fun e w'' => e = .returned (.string (strOf (lineL b ls))) ∧ w' = w'' :=
    fun w' B h => specLine _ c ls b hb w' B h h20 h30
  have hpos : 1 ≤ w.heap.size := hT.1
  have K1 := hide k1
  have K2 := hide k2
  have KZ := hide kz
  have KA := hide ka
  have KL := hide kl
  have HR := hide hR
  have HT := hide hT
  have HC := hide hcells
  clear k1 k2 kz ka kl hR hT a1 hr hf ha hall h30 hne hcells
  have hnz : ((ls.length : Int) == 0) = false := beq_eq_false_iff_ne.2 (by omega)
  generalize lineL b ls = LL at *
  generalize hs0 : strOf ls[0] = s0 at *
  go_enter Tryd.func3, Tryd.ntmps3
  go_wp2_with fail
  refine KZ.out.mono ?_
  rintro e w' ⟨rfl, rfl⟩
  go_wp2_with fail
  refine KA.out.mono ?_
  rintro e w' ⟨rfl, rfl⟩
  go_wp2_with fail
  refine (KL.out _ _ HR.out).mono ?_
  rintro e w' ⟨rfl, rfl⟩
  go_wp2_with fail
  refine (K1.out _ HT.out).mono ?_
  rintro e w1 ⟨v1, rfl, hown, hb1⟩
  have hown1 := hown ls rfl
  clear hown
  obtain ⟨A1, c1, rfl, _, _, hrd1⟩ := own_shape hown1
  have hS : ∀ w', Below w1.heap.size w1 w' → Hid (Below w1.heap.size w1 w') ∧ w'.cell? ⟨g, o, none⟩ = some (.string s0) := by
    intro w' hb
    refine ⟨hide hb, ?_⟩
    rw [hb.cell (by have := hb1.size; show g < w1.heap.size; omega), hb1.cell hg]
    exact hc0
  have hT1 : Tok w1 := HT.out.below hb1
  have hR1 : Rd w1 w1.heap.size (some ⟨g, o, none⟩) (sv ls) := (HR.out.below hb1).more hb1.size
  have HS := hide hS
  have HB1 := hide hb1
  have HT1 := hide hT1
  have HR1 := hide hR1
  have HRD := hide hrd1
  clear hS hb1 hT1 hR1 hrd1 hown1
  go_wp2_with fail
  go_region_held (fun w' => Hid (Below w1.heap.size w1 w') ∧ w'.cell? ⟨g, o, none⟩ = some (.string s0))
    (first | exact HS.out _ (Below.refl _ _).drew | exact HS.out _ ((Below.refl _ _).drew.trans HB3.out))
    (first
      | (go_at_call 10; refine (KL.out _ w1.heap.size ?_).mono ?_; exact HR1.out.below (Below.refl _ _).drew; rintro e w2 ⟨rfl, rfl⟩)
      | (go_at_call 9; refine (K2.out _ (HT1.out.below (Below.refl _ _).drew)).mono ?_; rintro e w3 ⟨v3, rfl, _, hb3⟩; have HB3 := hide hb3; clear hb3))
  go_wp2_with fail
  have hb13 : Below w1.heap.size w1 w3 := (Below.refl _ _).drew.trans HB3.out
  have HB13 := hide hb13
  clear hb13
  go_loopw [62] (fun i wr => ∃ j : Nat, j ≤ ls.length ∧ i = .int .i64 j ∧ Hid (Below w1.heap.size w1 wr)) (fun i _ => ls.length - (intOf i).toNat)
  case atStart => exact ⟨0, Nat.zero_le _, rfl, HB13⟩
  case round =>
    obtain ⟨j, hj, rfl, hbel⟩ := hrel
    by_cases hlt : j < ls.length
    · obtain ⟨g1, o1, hA1, hg1, hc1⟩ := HRD.out (by rw [sv_length]; omega)
      subst hA1
      have x1 : wr.cell? ⟨g1, o1 + j, none⟩ = some (.string (strOf ls[j])) := by rw [hbel.out.cell hg1]; exact hc1 j _ (sv_get ls j hlt)
      have x2 : wr.cell? ⟨g, o + j, none⟩ = some (.string (strOf ls[j])) := by
        rw [hbel.out.cell (by have := HB1.out.size; show g < w1.heap.size; omega), HB1.out.cell hg]; exact HC.out j _ (sv_get ls j hlt)
      clear hc1
      generalize strOf ls[j] = sj at *
      go_wp2_with fail
      go_region
      go_wp2_with fail
      go_roundw
      case rel => exact ⟨j + 1, by omega, by go_num, hide hbel.out.drew⟩
      case measure => simp [intOf]; omega
    · go_wp2_with fail
      go_ret
      exact ⟨rfl, HB1.out.trans (hbel.out.mono HB1.out.size)⟩

theorem walk (A : Option Addr) (c : Nat) (ls : List (List UInt8)) (b : Int) (w : World) (hr : Rd w w.heap.size A (sv ls)) (hT : Tok w) :
    Calls Tryd.prog 3 #[.slice A ls.length c, .int .i64 b] w fun e w' => e = .returned (.bool true) ∧ Below w.heap.size w w' := by
  by_cases h : fits1 ls = false ∨ areTok ls = false ∨ ls.length = 0 ∨ b < 0 ∨ 5 < b
  · exact step_out A c ls b w hr h
  · have hf : fits1 ls = true := by cases hf : fits1 ls with
      | true => rfl
      | false => exact absurd (.inl hf) h
    have ha : areTok ls = true := by cases ha : areTok ls with
      | true => rfl
      | false => exact absurd (.inr (.inl ha)) h
    have h3 : ¬ ls.length = 0 := fun e => h (.inr (.inr (.inl e)))
    have h4 : ¬ b < 0 := fun e => h (.inr (.inr (.inr (.inl e))))
    have h5 : ¬ 5 < b := fun e => h (.inr (.inr (.inr (.inr e))))
    obtain ⟨k, rfl⟩ : ∃ k : Nat, b = k := ⟨b.toNat, by omega⟩
    exact step_main A c ls k w hr hT hf ha (by omega) (by omega)

theorem own : ownKnob Tryd.prog.godebug = none := by kernel_rfl
theorem laidOut : laidOutB Tryd.prog = true := by kernel_rfl

theorem contract (H : Type) (enc : TypeId × Value → H) (W : World) (base : Nat) (args : Array Value) (ds gs : List (DataW H)) (before : List MemPlace)
    (hval : ∀ (j : Nat) t v, Tryd.f3.params[j]? = some t → args[j]? = some v → Value.okWide Tryd.prog W .any base t v)
    (hW : DataW.Whole enc Tryd.prog Tryd.f3.params.toList Rows.fnTokensSpec.vars false W args.toList ds gs before) (hT : Tok W) :
    Calls Tryd.prog 3 args W fun e W' => ∃ v, e = .returned v ∧ Rows.fnTokensSpec.post enc Tryd.prog Tryd.f3 false true false false W args v W' := by
  have hW' := hW
  obtain ⟨p, q, hA0, hV, rfl, hfz, hnd⟩ := hW
  have hA : DataW.TrodAll enc Tryd.prog W 0 (fun _ => true) true Tryd.f3.params.toList args.toList ds p := hA0
  rw [Tryd.params3] at hA hval
  obtain ⟨v0, vs0, d0, ds0, p0, q0, hargs, rfl, rfl, h0, r0⟩ := trodAll_cons hA
  obtain ⟨v1, vs1, d1, ds1, p1, q1, rfl, rfl, rfl, h1, r1⟩ := trodAll_cons r0
  obtain ⟨rfl, rfl, rfl⟩ := trodAll_nil r1
  obtain rfl : args = #[v0, v1] := by cases args; simp_all
  obtain ⟨_, _, _, _, dg, _, rfl, _, _, _, _, _⟩ := trodVars_one hV
  obtain ⟨A, c, ls, rfl, _, _, hr⟩ := open_texts Tryd.underlying22 Tryd.underlying9 (by kernel_rfl) (hval 0 22 v0 rfl rfl) h0
  obtain ⟨n, rfl, rfl, rfl, _⟩ := open_int Tryd.underlying3 (hval 1 3 v1 rfl rfl) h1
  refine (walk A c ls n W hr hT).mono fun e W' ⟨he, hb⟩ => ?_
  exact ⟨_, he, law_post laidOut (by kernel_rfl) (by kernel_rfl) rfl Tryd.underlying4 hW' rfl hb⟩

/-- A datum's cells. -/
def flat1 : DataW Unit → List Value
  | .lit l => [l.value]
  | _ => []
def flat3 : DataW Unit → List Value
  | .agg ps => ps.flatMap flat1
  | _ => []
/-- A world for the witness: the settled one, the table holding what is laid. -/
noncomputable def laidWorld (os : Os) : World :=
  { World.holding Tryd.prog os ⟨#[], #[], []⟩ with heap := ((World.holding Tryd.prog os ⟨#[], #[], []⟩).heap.modify 0 fun
      | .cells _ t frozen => .cells (flat3 Rows.laid_loop_example_pub_g03069_pub_ws_isTokenOctet).toArray t frozen
      | o => o) }
theorem laid_met (os : Os) : laidMet Tryd.prog Rows.fnTokensRow.laid ((laidWorld os).forCall (fun _ _ => 0) ⟨#[], #[.slice none 0 0, .int .i64 0], []⟩).memory :=
  laidMet_of_run' 8 (by kernel_rfl) (by kernel_rfl)
theorem reads (os : Os) {H : Type} (enc : TypeId × Value → H) : ∃ places, DataW.whole enc Tryd.prog ((laidWorld os).forCall (fun _ _ => 0) ⟨#[], #[.slice none 0 0, .int .i64 0], []⟩).memory Tryd.f3.params.toList Rows.fnTokensSpec.vars false #[Value.slice none 0 0, Value.int .i64 0].toList 8 = some ([.nil, .lit (.int .i64 0)], [Rows.laid_loop_example_pub_g03069_pub_ws_isTokenOctet], places) :=
  ⟨MemPlace.row ⟨0, 0, none⟩ 256, by kernel_rfl⟩

set_option maxRecDepth 100000 in
theorem lifted (os : Os) (started : os.Started) (H : Type) (enc : TypeId × Value → H) (F : Stop.Interp) :
    ReturnsInHanded {} Tryd.checked os 3 .any ((OpenSpec.ofChange Rows.fnTokensSpec).preRow enc Tryd.prog Tryd.f3 Rows.fnTokensRow.domain false Rows.fnTokensRow.laid) (((OpenSpec.ofChange Rows.fnTokensSpec).at F).post enc Tryd.prog Tryd.f3 false true false false) := by
  obtain ⟨places, hx⟩ := reads os enc
  refine returnsInHanded_of_row (C := Tryd.checked) (s := OpenSpec.ofChange Rows.fnTokensSpec) own started (by kernel_rfl) Tryd.func3
    (witness_row_at (enc := enc) (C := Tryd.checked) false (laidWorld os) #[.slice none 0 0, .int .i64 0] rfl (by kernel_rfl) (by kernel_rfl) (by kernel_rfl)
      (OpenSpec.preRow_of_cond 8 hx (by kernel_rfl) (fun k hk => by cases hk) (by kernel_rfl) (laid_met os))) ?_
  intro W base args ds gs before hval hW _ _ _ hL _ _
  exact contract H enc W base args ds gs before hval hW (tok_of_laid (l := Rows.fnTokensRow.laid) hL (List.mem_singleton.2 rfl))

theorem said : Rows.FnTokensSaid :=
  OpenClaim.holds_of_cond 3 Tryd.f3 rfl rfl rfl rfl rfl rfl rfl ⟨rfl, rfl, rfl, rfl, rfl⟩ rfl rfl rfl rfl rfl (by kernel_rfl) Tryd.func3 (by kernel_rfl)
    (of_decide_eq_true (by kernel_rfl)) (by unfold Func.isWrapper; first | (rw [if_pos (by decide +kernel)]; kernel_rfl) | (rw [if_neg (by decide +kernel)]; exact ⟨rfl, rfl⟩))
    (fun os started H enc _ F => by rw [OpenClaim.pre_eq_preRow]; exact lifted os started H enc F)

theorem plain (f : FuncId) (fn : Func) (hf : Tryd.pinned.checked.prog.funcNamed "loop.example/pub-g03069/laws.FnTokens" = some f) (hfn : Tryd.pinned.checked.prog.funcs[f]? = some fn) :
    false = Tryd.pinned.checked.prog.looks [] ∧ ∀ (j : Nat) t, fn.params[j]? = some t → Tryd.pinned.checked.prog.wantsStandIn t = false := by
  obtain rfl : f = 3 := Option.some.inj ((show Tryd.prog.funcNamed "loop.example/pub-g03069/laws.FnTokens" = some 3 by kernel_rfl).symm.trans hf) |>.symm
  obtain rfl : fn = Tryd.f3 := (Option.some.inj (Tryd.func3.symm.trans hfn)).symm
  refine ⟨by kernel_rfl, fun j t ht => ?_⟩
  have hall : Tryd.f3.params.all (fun t => !Tryd.prog.wantsStandIn t) = true := by kernel_rfl
  have := Array.all_eq_true.1 hall
  obtain ⟨hj, rfl⟩ := Array.getElem?_eq_some_iff.1 ht
  have h2 := this j hj
  simp only [Bool.not_eq_true'] at h2
  exact h2

theorem card : Rows.FnTokensCardSaid :=
  Claim7.holds_tied_plain_at .later [] _ _ _ _ said (fun _ h => by cases h) (by kernel_rfl) (fun _ h => by cases h) fnTokens_row_tie rfl ⟨rfl, rfl⟩ (by kernel_rfl) rfl plain (by kernel_rfl)
end Go.Proofs.YtcmfbbldojhbeaaDoor.fnTokens
namespace Go.Proofs.YtcmfbbldojhbeaaDoor
theorem fnTokens_card : Rows.FnTokensCardSaid := fnTokens.card
#print axioms fnTokens_card
end Go.Proofs.YtcmfbbldojhbeaaDoor

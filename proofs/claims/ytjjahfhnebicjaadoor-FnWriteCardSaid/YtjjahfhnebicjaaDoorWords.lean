/- spec.IsCode and spec.IsPlain: which codes, which texts. -/
import Derived.Test.YtjjahfhnebicjaaDoorText
import Derived.Test.YtjjahfhnebicjaaDoorRows
namespace Go.Proofs.YtjjahfhnebicjaaDoor
open Go.ChangeShapes Go.WideShapes Go.ChangeAt Go.RowKit

/-- Which codes the map tells. -/
def inMap (code : Int) : Bool := decide (1000 ≤ code) && decide (code ≤ 1013) && !decide (1004 ≤ code && code ≤ 1006)
/-- Which codes may be heard. -/
def okCode (code : Int) : Bool := inMap code || (decide (3000 ≤ code) && decide (code ≤ 4999))

/-- spec.IsCode tells the same. -/
theorem specIsCode (code : Int) (w : World) : Calls Tryd.prog 12 #[.int .i64 code] w fun e w' => e = .returned (.bool (okCode code)) ∧ w = w' := by
  by_cases h4 : code = 1004
  · subst h4
    go_enter Tryd.func12, Tryd.ntmps12
    go_wp2
    go_ret
    exact ⟨rfl, rfl⟩
  by_cases h5 : code = 1005
  · subst h5
    clear h4
    go_enter Tryd.func12, Tryd.ntmps12
    go_wp2
    go_ret
    exact ⟨rfl, rfl⟩
  by_cases h6 : code = 1006
  · subst h6
    clear h4 h5
    go_enter Tryd.func12, Tryd.ntmps12
    go_wp2
    go_ret
    exact ⟨rfl, rfl⟩
  have e4 : (code == 1004) = false := beq_eq_false_iff_ne.2 h4
  have e5 : (code == 1005) = false := beq_eq_false_iff_ne.2 h5
  have e6 : (code == 1006) = false := beq_eq_false_iff_ne.2 h6
  have hin : inMap code = (decide (1000 ≤ code) && decide (code ≤ 1013)) := by
    unfold inMap
    by_cases h : 1004 ≤ code ∧ code ≤ 1006
    · omega
    · have : (decide (1004 ≤ code) && decide (code ≤ 1006)) = false := by
        rw [Bool.and_eq_false_iff, decide_eq_false_iff_not, decide_eq_false_iff_not]
        omega
      simp [this]
  have hok : okCode code = (decide (1000 ≤ code) && decide (code ≤ 1013) || (decide (3000 ≤ code) && decide (code ≤ 4999))) := by rw [okCode, hin]
  rw [hok]
  clear hok hin h4 h5 h6
  by_cases h1 : 1000 ≤ code
  · by_cases h2 : code ≤ 1013
    · rw [show (decide (1000 ≤ code) && decide (code ≤ 1013) || (decide (3000 ≤ code) && decide (code ≤ 4999))) = true by simp [h1, h2]]
      go_enter Tryd.func12, Tryd.ntmps12
      go_wp2
      go_ret
      exact ⟨rfl, rfl⟩
    · by_cases h3 : 3000 ≤ code
      · by_cases h7 : code ≤ 4999
        · rw [show (decide (1000 ≤ code) && decide (code ≤ 1013) || (decide (3000 ≤ code) && decide (code ≤ 4999))) = true by simp [h3, h7]]
          go_enter Tryd.func12, Tryd.ntmps12
          go_wp2
          go_ret
          exact ⟨rfl, rfl⟩
        · rw [show (decide (1000 ≤ code) && decide (code ≤ 1013) || (decide (3000 ≤ code) && decide (code ≤ 4999))) = false by simp [h2, h7]]
          go_enter Tryd.func12, Tryd.ntmps12
          go_wp2
          go_ret
          exact ⟨rfl, rfl⟩
      · rw [show (decide (1000 ≤ code) && decide (code ≤ 1013) || (decide (3000 ≤ code) && decide (code ≤ 4999))) = false by simp [h2, h3]]
        go_enter Tryd.func12, Tryd.ntmps12
        go_wp2
        go_ret
        exact ⟨rfl, rfl⟩
  · have h3 : ¬ 3000 ≤ code := by omega
    rw [show (decide (1000 ≤ code) && decide (code ≤ 1013) || (decide (3000 ≤ code) && decide (code ≤ 4999))) = false by simp [h1, h3]]
    go_enter Tryd.func12, Tryd.ntmps12
    go_wp2
    go_ret
    exact ⟨rfl, rfl⟩

/-- Visible signs of ASCII and blanks. -/
def plainL (xs : List UInt8) : Bool := xs.all fun x => decide (32 ≤ x.toNat) && decide (x.toNat ≤ 126)
set_option maxHeartbeats 2000000 in
theorem specIsPlain (xs : List UInt8) (hn : xs.length ≤ 2000000000) (w : World) :
    Calls Tryd.prog 13 #[.string (strOf xs)] w fun e w' => e = .returned (.bool (plainL xs)) ∧ w = w' := by
  go_enter Tryd.func13, Tryd.ntmps13
  go_wp2_with fail
  go_loop [3] (fun i => ∃ j : Nat, j ≤ xs.length ∧ i = .int .i64 j ∧ Hid (plainL xs = plainL (xs.drop j))) (fun i => xs.length - (intOf i).toNat)
  case atStart => exact ⟨0, Nat.zero_le _, rfl, hide rfl⟩
  case round =>
    obtain ⟨j, hj, rfl, hp⟩ := hrel
    by_cases hlt : j < xs.length
    · have hi := run_str_idx (P := Tryd.prog) 9 Tryd.underlying9 xs j hlt
      have hstep : plainL xs = ((decide (32 ≤ (xs[j]).toNat) && decide ((xs[j]).toNat ≤ 126)) && plainL (xs.drop (j + 1))) := by
        rw [hp.out, List.drop_eq_getElem_cons hlt]
        rfl
      have HStep := hide hstep
      have hm : (xs[j]).toNat ≤ 255 := by have := (xs[j]).toNat_lt; omega
      clear hstep hp
      generalize (xs[j]).toNat = m at *
      have hsz : (strOf xs).size = xs.length := strOf_size xs
      by_cases h1 : m ≤ 31
      · go_wp2_with fail
        go_ret
        exact ⟨ret_bool (by rw [HStep.out, decide_eq_false (by omega : ¬ 32 ≤ m)]; rfl), rfl⟩
      · by_cases h2 : 127 ≤ m
        · go_wp2_with fail
          go_ret
          exact ⟨ret_bool (by rw [HStep.out, decide_eq_false (by omega : ¬ m ≤ 126)]; simp), rfl⟩
        · go_wp2_with fail
          go_round
          case rel => exact ⟨j + 1, by omega, by go_num, hide (by rw [HStep.out, decide_eq_true (by omega : 32 ≤ m), decide_eq_true (by omega : m ≤ 126)]; rfl)⟩
          case measure => simp [intOf]; omega
    · have hjx : j = xs.length := by omega
      have hfin := hp.out
      rw [hjx, List.drop_length] at hfin
      have HF := hide hfin
      clear hjx hfin
      go_wp2_with fail
      go_ret
      exact ⟨ret_bool (by rw [HF.out]; rfl), rfl⟩
end Go.Proofs.YtjjahfhnebicjaaDoor

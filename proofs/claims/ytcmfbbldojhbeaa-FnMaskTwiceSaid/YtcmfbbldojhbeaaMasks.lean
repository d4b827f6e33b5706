/- laws.masks: a byte is masked. No condition. -/
import Derived.Test.YtcmfbbldojhbeaaImplMask
namespace Go.Proofs.Ytcmfbbldojhbeaa
open Go.ChangeShapes Go.WideShapes Go.ChangeAt Go.RowKit

set_option maxHeartbeats 1000000 in
theorem masks_true (w : World) :
    Calls Try.prog 14 #[] w fun e w' => e = .returned (.bool true) ∧ Below w.heap.size w w' := by
  go_enter Try.func14, Try.ntmps14
  go_wp2_with fail
  refine (implMask 1 2 3 4 0 (by omega) (some ⟨w.heap.size, 0, none⟩) 2 [0, 0] _ (by simp) (Rd.of_blk (Blk.new w 5 (bv [0, 0])) (by simp) (fun j u h => by rw [Nat.zero_add]; exact h)) (by intro h; cases h)).mono ?_
  rintro e w1 ⟨v, rfl, hown, hbel⟩
  obtain ⟨A, c, rfl, _, _, hrd⟩ := own_shape hown
  have hcv := run_conv (P := Try.prog) w1 24 9 5 Try.underlying24 Try.underlying5 Try.underlying9 _ A c [1, 2] hrd 2 rfl
  have HB := hide hbel
  clear hbel hown hrd
  go_wp2_with fail
  go_ret
  refine ⟨?_, ?_⟩
  · rfl
  · exact ((Below.refl _ _).alloc (Nat.le_refl _) _).trans (HB.out.mono (by simp))
end Go.Proofs.Ytcmfbbldojhbeaa

/- slices.Clone of bytes: a row of the call's own that reads as what came in. -/
import Derived.Test.YtjjahfhnebicjaaDoorRows
import Derived.Test.YtjjahfhnebicjaaDoorMem
namespace Go.Proofs.YtjjahfhnebicjaaDoor
open Go.ChangeShapes Go.WideShapes Go.ChangeAt Go.RowKit

theorem Tryd.info_u8 : (Tryd.prog.info? 5).map (fun i => (i.zero, i.size, i.bytes)) = some (some (.int .u8 0), 1, 1) := by kernel_rfl

set_option maxHeartbeats 1000000 in
theorem clone_nil (w : World) :
    Calls Tryd.prog 24 #[.slice none 0 0] w fun e w' => e = .returned (.slice none 0 0) ∧ w = w' := by
  have hnil := fun w => Lib.run_eql_slice_nil (P := Tryd.prog) w 26 5 none 0 0 0 0 Tryd.underlying26
  go_enter Tryd.func24, Tryd.ntmps24
  go_wp2
  go_ret
  exact ⟨rfl, rfl⟩

set_option maxHeartbeats 1000000 in
theorem clone_some (ad : Addr) (c : Nat) (xs : List UInt8) (w : World) (hn : xs.length ≤ 140737488355328) (hr : Rd w w.heap.size (some ad) (bv xs)) :
    Calls Tryd.prog 24 #[.slice (some ad) xs.length c] w fun e w' => ∃ v, e = .returned v ∧ w'.ownsRow w.heap.size 5 1 v xs.length (bv xs) ∧ Below w.heap.size w w' := by
  have hnil := fun w => Lib.run_eql_slice_nil (P := Tryd.prog) w 26 5 (some ad) xs.length c 0 0 Tryd.underlying26
  obtain ⟨i0, hi0, hz0, hz1, hz2⟩ := info_parts Tryd.info_u8
  have HR := hide hr
  clear hr
  go_enter Tryd.func24, Tryd.ntmps24
  go_wp2_with (at_builtin; refine wpList_app _ rfl (.tmp 5) (.tmp 6) _ rfl w.heap.size 5 i0 _ 1 Tryd.underlying26 hi0 hz0 hz1 hz2 rfl (.slice (some ⟨w.heap.size, 0, none⟩) 0 0) 0 [] rfl (World.ownsRow_lit w #[] 0 (Nat.le_refl _) (by simp [maxLen]) rfl) w.heap.size (some ad) xs.length c (bv xs) rfl (bv_length xs) (HR.out.below ((Below.refl _ _).alloc (Nat.le_refl _) _)) (by intro h; cases h) (bv_one xs) (by simp only [maxLen]; omega) (by omega) (by simp) ?_; intro v1 w1 hown1 hg1 hat1)
  go_ret
  refine ⟨v1, rfl, by simpa using hown1.out, ?_⟩
  exact ((Below.refl _ _).alloc (Nat.le_refl _) _).grown hg1.out (by simp) (by simp [Value.ownBlock])
/-- Both: nil or not. -/
theorem clone_any (A : Option Addr) (c : Nat) (xs : List UInt8) (w : World) (hn : xs.length ≤ 140737488355328) (hr : Rd w w.heap.size A (bv xs)) (h0 : A = none → xs.length = 0 ∧ c = 0) :
    Calls Tryd.prog 24 #[.slice A xs.length c] w fun e w' => ∃ v, e = .returned v ∧ w'.ownsRow w.heap.size 5 1 v xs.length (bv xs) ∧ Below w.heap.size w w' := by
  cases A with
  | some ad => exact clone_some ad c xs w hn hr
  | none =>
    obtain ⟨h1, h2⟩ := h0 rfl
    have hx : xs = [] := List.eq_nil_of_length_eq_zero h1
    subst hx; subst h2
    refine (clone_nil w).mono ?_
    rintro e w' ⟨rfl, rfl⟩
    exact ⟨_, rfl, World.ownsRow_nil _ _ _ _, Below.refl _ _⟩
end Go.Proofs.YtjjahfhnebicjaaDoor

/-
  DERIVED. slices.Sort at []uint16, part 0: cmp.isNaN, cmp.Less. Turned by program from the kit's worked walk over its own toy (slices.Sort at []int: Derived/Sort/Walk0.lean) to this program's numbers and to uint16; the plain lemmas are the kit's, by import.
-/
import Derived.Test.Qxb6629043aProg
import Derived.Sort.Walk0
import Derived.WalkKit
namespace Go.Proofs.Qxb6629043a
open Go.RowKit Go.Sort

abbrev encU : Int → Value := Value.int .u16

set_option maxHeartbeats 1000000 in
theorem U.cmp_isNaN_u (x : Int) (w : World) : Calls Try.prog 31 #[.int .u16 x] w fun e w' => e = .returned (.bool false) ∧ w' = w := by
  go_enter Try.func31, Try.ntmps31
  go_wp2
  go_ret
  exact ⟨by simp, rfl⟩

set_option maxHeartbeats 1000000 in
theorem U.cmp_Less_u (x y : Int) (w : World) : Calls Try.prog 21 #[.int .u16 x, .int .u16 y] w fun e w' => e = .returned (.bool (Sort.ltInt x y)) ∧ w' = w := by
  go_enter Try.func21, Try.ntmps21
  go_wp2_with (go_at_call 31; refine (U.cmp_isNaN_u _ _).mono ?_; rintro e w' ⟨rfl, rfl⟩)
  go_ret
  exact ⟨rfl, rfl⟩


end Go.Proofs.Qxb6629043a

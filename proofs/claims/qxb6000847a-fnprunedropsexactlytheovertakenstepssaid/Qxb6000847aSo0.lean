/- slices.Sort at uint64, walked over this program: turned by program from the kit's own walks at int and string (other numbers, another element kind). -/
import Derived.Test.Qxb6000847aSoLen
import Derived.Sort.Walk13
import Derived.Sort.Walk11
import Derived.Sort.WalkC4
import Derived.Sort.Walk7
import Derived.Sort.AssemblyPlain
namespace Go.Proofs.Qxb6000847a
open Go.RowKit Go.Sort

set_option maxHeartbeats 1000000 in
theorem so_isNaN (x : Int) (w : World) : Calls Try.prog 43 #[.int .u64 x] w fun e w' => e = .returned (.bool false) ∧ w' = w := by
  go_enter Try.func43, Try.ntmps43
  go_wp2
  go_ret
  exact ⟨by simp, rfl⟩

set_option maxHeartbeats 1000000 in
theorem so_Less (x y : Int) (w : World) : Calls Try.prog 33 #[.int .u64 x, .int .u64 y] w fun e w' => e = .returned (.bool (Sort.ltInt x y)) ∧ w' = w := by
  go_enter Try.func33, Try.ntmps33
  go_wp2_with (go_at_call 43; refine (so_isNaN _ _).mono ?_; rintro e w' ⟨rfl, rfl⟩)
  go_ret
  exact ⟨rfl, rfl⟩

abbrev encU : Int → Value := fun x => Value.int .u64 x

end Go.Proofs.Qxb6000847a

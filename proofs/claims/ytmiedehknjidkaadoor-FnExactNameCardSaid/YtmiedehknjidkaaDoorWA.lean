/-
  The leaf functions of math/bits and of bigall's words, in seat D: each returns words and leaves the world as it is.
-/
import Derived.Test.YtmiedehknjidkaaDoorRows
import Derived.WalkKit
import Derived.WalkSpells
import Derived.WalkLawsBesides
import Derived.Laws.Externs
import Derived.Lib.Hide
namespace Go.Proofs.YtmiedehknjidkaaDoor
open Go.RowKit

/-- two words come back, the world is as it was -/
def TwoW (w : World) (e : Ending) (w' : World) : Prop := ∃ a b : Int, e = .returned (.tuple #[.int .u64 a, .int .u64 b]) ∧ w = w'
/-- one word comes back, the world is as it was -/
def OneW (w : World) (e : Ending) (w' : World) : Prop := ∃ a : Int, e = .returned (.int .u64 a) ∧ w = w'

def add0 (x y : Int) : Int × Int := (((x.toNat + y.toNat + 0) % Extern.MathBitsCarry.m64 : Nat), ((x.toNat + y.toNat + 0) / Extern.MathBitsCarry.m64 : Nat))

theorem run_add (x y : Int) (w : World) : (callFunc 49 #[.int .u64 x, .int .u64 y, .int .u64 0]).run Tryd.prog w =
    .ok (.value (.tuple #[.int .u64 (add0 x y).1, .int .u64 (add0 x y).2])) w := by
  rw [run_callFunc_extern Tryd.func49 (by kernel_rfl) (by kernel_rfl) (by kernel_rfl) (e := add64Entry) (by kernel_rfl)]
  have : (add64Entry #[.int .u64 x, .int .u64 y, .int .u64 0]).run Tryd.prog w = .ok (.tuple #[.int .u64 (add0 x y).1, .int .u64 (add0 x y).2]) w := rfl
  rw [this]
  rfl

set_option maxHeartbeats 400000 in
theorem add_any (x y : Int) (w : World) : Calls Tryd.prog 45 #[.int .u64 x, .int .u64 y, .int .u64 0] w (TwoW w) := by
  have hadd := run_add x y
  go_enter Tryd.func45, Tryd.ntmps45
  go_wp2
  go_ret2
  exact ⟨_, _, rfl, rfl⟩

set_option maxHeartbeats 400000 in
theorem mul64_any (x y : Int) (w : World) : Calls Tryd.prog 47 #[.int .u64 x, .int .u64 y] w (TwoW w) := by
  go_enter Tryd.func47, Tryd.ntmps47
  go_wp2
  go_ret2
  exact ⟨_, _, rfl, rfl⟩

set_option maxHeartbeats 400000 in
theorem mul_any (x y : Int) (w : World) : Calls Tryd.prog 44 #[.int .u64 x, .int .u64 y] w (TwoW w) := by
  go_enter Tryd.func44, Tryd.ntmps44
  go_wp2_with (go_at_call 47; refine (mul64_any _ _ _).mono ?_; rintro e w' ⟨a, b, rfl, rfl⟩)
  go_ret2
  exact ⟨_, _, rfl, rfl⟩

set_option maxHeartbeats 400000 in
theorem mulAddWWW_any (x y c : Int) (w : World) : Calls Tryd.prog 43 #[.int .u64 x, .int .u64 y, .int .u64 c] w (TwoW w) := by
  go_enter Tryd.func43, Tryd.ntmps43
  go_wp2_with (first | (go_at_call 44; refine (mul_any _ _ _).mono ?_; rintro e w' ⟨a, b, rfl, rfl⟩) | (go_at_call 45; refine (add_any _ _ _).mono ?_; rintro e w' ⟨a', b', rfl, rfl⟩))
  go_ret2
  exact ⟨_, _, rfl, rfl⟩
end Go.Proofs.YtmiedehknjidkaaDoor

/-
  maxPow at the base 10, and pow, in seat D.
-/
import Derived.Test.YtmiedehknjidkaaDoorWA
namespace Go.Proofs.YtmiedehknjidkaaDoor
open Go.RowKit

/-- what maxPow tells: a word that is not 0, and a count from 1 on -/
def PowW (w : World) (e : Ending) (w' : World) : Prop := ∃ p n : Int, e = .returned (.tuple #[.int .u64 p, .int .i64 n]) ∧ 10 ≤ p ∧ 1 ≤ n ∧ n ≤ 9223372036854775807 ∧ w = w'

set_option maxHeartbeats 400000 in
theorem maxPow_ten (w : World) : Calls Tryd.prog 28 #[.int .u64 10] w (PowW w) := by
  go_enter Tryd.func28, Tryd.ntmps28
  go_wp2
  go_loop [2, 3] (fun p n => ∃ a k : Int, p = .int .u64 a ∧ n = .int .i64 k ∧ 10 ≤ a ∧ a ≤ 18446744073709551615 ∧ 1 ≤ k ∧ k ≤ a ∧ k ≤ 9223372036854775807) (fun p _ => (18446744073709551615 - intOf p).toNat)
  case atStart => exact ⟨10, 1, rfl, rfl, by omega, by omega, by omega, by omega, by omega⟩
  case round =>
    obtain ⟨a, k, rfl, rfl, h1, h2, h3, h4, h5⟩ := hrel
    go_wp2
    · exact ⟨⟨_, _, rfl, rfl, by omega, by omega, by omega, by omega, by omega⟩, by simp [intOf]; omega⟩
    · go_ret2
      exact ⟨a, k, rfl, h1, h3, h5, rfl⟩

set_option maxHeartbeats 400000 in
theorem pow_any (x n : Int) (h0 : 0 ≤ n) (h1 : n ≤ 9223372036854775807) (w : World) : Calls Tryd.prog 30 #[.int .u64 x, .int .i64 n] w (OneW w) := by
  go_enter Tryd.func30, Tryd.ntmps30
  go_wp2
  go_loop [4, 0, 1] (fun p y m => ∃ a b k : Int, p = .int .u64 a ∧ y = .int .u64 b ∧ m = .int .i64 k ∧ 0 ≤ k ∧ k ≤ 9223372036854775807) (fun _ _ m => (intOf m).toNat)
  case atStart => exact ⟨1, x, n, rfl, rfl, rfl, h0, h1⟩
  case round =>
    obtain ⟨a, b, k, rfl, rfl, rfl, h2, h3⟩ := hrel
    go_wp2
    · exact ⟨⟨_, _, _, rfl, rfl, rfl, by omega, by omega⟩, by simp [intOf]; omega⟩
    · exact ⟨⟨_, _, _, rfl, rfl, rfl, by omega, by omega⟩, by simp [intOf]; omega⟩
    · go_ret
      exact ⟨a, rfl, rfl⟩
end Go.Proofs.YtmiedehknjidkaaDoor

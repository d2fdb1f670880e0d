/-
  slices.Reverse over words, in seat D: in place.
-/
import Derived.Test.YtmiedehknjidkaaDoorWE
namespace Go.Proofs.YtmiedehknjidkaaDoor
open Go.RowKit

/-- the row of words is still one, and nothing else has turned -/
def Kept (w : World) (g cap n : Nat) (w' : World) : Prop := (∃ cur, Row w' g cap n cur) ∧ w.grownBy w' (some g)

theorem grownBy_setCell {w w' : World} {g k : Nat} (h : w.grownBy w' (some g)) (v : Value) : w.grownBy (w'.setCell ⟨g, k, none⟩ v) (some g) :=
  ⟨h.os, h.tape, h.output, by have := h.size; simpa [World.setCell] using this, fun j hj hne => by
      rw [Below.heap_setCell _ _ _ _ (by intro e; apply hne; rw [e])]; exact h.block j hj hne⟩

theorem Kept.set {w w' : World} {g cap n k : Nat} (h : Kept w g cap n w') (hk : k < cap) (b : Int) : Kept w g cap n (w'.setCell ⟨g, k, none⟩ (.int .u64 b)) := by
  obtain ⟨⟨cur, hr⟩, hg⟩ := h
  exact ⟨⟨_, hr.set hk b⟩, grownBy_setCell hg _⟩
theorem Kept.drew {w w' : World} {g cap n : Nat} (h : Kept w g cap n w') : Kept w g cap n w'.drew := by
  obtain ⟨⟨cur, hr⟩, hg⟩ := h
  exact ⟨⟨cur, hr.at_, hr.size, hr.small, hr.words⟩, ⟨hg.os, hg.tape, hg.output, hg.size, hg.block⟩⟩
theorem Kept.start {w : World} {g cap n : Nat} {cur : Array Value} (h : Row w g cap n cur) : Kept w g cap n w := ⟨⟨cur, h⟩, ⟨rfl, rfl, rfl, Nat.le_refl _, fun _ _ _ => rfl⟩⟩
theorem Kept.cell {w w' : World} {g cap n k : Nat} (h : Kept w g cap n w') (hk : k < n) : ∃ c : Int, w'.cell? ⟨g, k, none⟩ = some (.int .u64 c) := by
  obtain ⟨⟨cur, hr⟩, _⟩ := h
  exact hr.cell hk
theorem Kept.free {w w' : World} {g cap n : Nat} (h : Kept w g cap n w') (k : Nat) : w'.frozen? ⟨g, k, none⟩ = false := by
  obtain ⟨⟨cur, hr⟩, _⟩ := h
  exact hr.free k

set_option maxHeartbeats 400000 in
theorem reverse_nil (w : World) : Calls Tryd.prog 31 #[.slice none 0 0] w fun e w' => e = .returned (.tuple #[]) ∧ w = w' := by
  go_enter Tryd.func31, Tryd.ntmps31
  go_wp2
  go_loop [2, 3] (fun i j => i = .int .i64 0 ∧ j = .int .i64 (-1)) (fun _ _ => 0)
  case atStart => exact ⟨rfl, rfl⟩
  case round =>
    obtain ⟨rfl, rfl⟩ := hrel
    go_wp2
    go_end0
    exact ⟨rfl, rfl⟩

set_option maxHeartbeats 400000 in
theorem reverse_some (w : World) (g cap m : Nat) (cur : Array Value) (h : Row w g cap m cur) (hn : m ≤ cap) (hm : m ≤ 1000000) :
    Calls Tryd.prog 31 #[.slice (some ⟨g, 0, none⟩) m cap] w fun e w' => e = .returned (.tuple #[]) ∧ Kept w g cap m w' := by
  have H := Lib.hid (Kept.start h)
  clear h
  go_enter Tryd.func31, Tryd.ntmps31
  go_wp2
  go_loopw [2, 3] (fun i j wr => ∃ (k : Nat) (q : Int), i = .int .i64 k ∧ j = .int .i64 q ∧ (k : Int) + q = m - 1 ∧ -1 ≤ q ∧ Kept w g cap m wr) (fun i _ _ => m - (intOf i).toNat)
  case atStart => exact ⟨0, (m : Int) - 1, rfl, rfl, by omega, by omega, H.out⟩
  case round =>
    obtain ⟨k, q, rfl, rfl, hkq, hq, hv⟩ := hrel
    by_cases hlt : (k : Int) < q
    · obtain ⟨j, rfl⟩ := Int.eq_ofNat_of_zero_le (show 0 ≤ q by omega)
      obtain ⟨c1, hc1⟩ := hv.cell (k := k) (by omega)
      obtain ⟨c2, hc2⟩ := hv.cell (k := j) (by omega)
      have f1 := hv.free k
      have f2 := hv.free j
      have hne : k ≠ j := by omega
      have hj : j < m := by omega
      have hk : k < m := by omega
      have HV := Lib.hid hv; clear hv
      have HQ := Lib.hid hkq; clear hkq
      go_wp2
      go_region
      all_goals go_wp2
      exact ⟨⟨k + 1, (j : Int) - 1, by go_num, rfl, by have := HQ.out; omega, by omega, ((HV.out.set (by omega) _).set (by omega) _).drew⟩, by simp [intOf]; omega⟩
    · go_wp2
      go_end0
      exact ⟨rfl, hv⟩
end Go.Proofs.YtmiedehknjidkaaDoor

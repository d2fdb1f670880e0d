/-
  nat.norm, nat.make and nat.setWord, in seat D: slices of words that the call itself made.
-/
import Derived.Test.YtmiedehknjidkaaDoorWB
namespace Go.Proofs.YtmiedehknjidkaaDoor
open Go.RowKit

/-- block g is a row of cells that no string shares, the first n of them words -/
structure Row (w : World) (g cap n : Nat) (cur : Array Value) : Prop where
  at_ : w.heap[g]? = some (.cells cur 74 (0, 0))
  size : cur.size = cap
  small : cap ≤ 9223372036854775807
  words : ∀ i, i < n → ∃ k : Int, cur[i]? = some (.int .u64 k)

theorem Row.cell {w : World} {g cap n : Nat} {cur : Array Value} (h : Row w g cap n cur) {i : Nat} (hi : i < n) : ∃ k : Int, w.cell? ⟨g, i, none⟩ = some (.int .u64 k) := by
  obtain ⟨k, hk⟩ := h.words i hi
  exact ⟨k, by simp [World.cell?, h.at_, hk]⟩
theorem Row.there {w : World} {g cap n : Nat} {cur : Array Value} (h : Row w g cap n cur) {i : Nat} (hi : i < cap) : ∃ v, w.cell? ⟨g, i, none⟩ = some v := by
  have := h.size
  exact ⟨cur[i], by simp [World.cell?, h.at_]⟩
theorem Row.free {w : World} {g cap n : Nat} {cur : Array Value} (h : Row w g cap n cur) (i : Nat) : w.frozen? ⟨g, i, none⟩ = false := by
  simp [World.frozen?, h.at_]

/-- a part of the slice comes back, the world is as it was -/
def PartN (w : World) (g n cap : Nat) (e : Ending) (w' : World) : Prop := ∃ m : Nat, m ≤ n ∧ e = .returned (.slice (some ⟨g, 0, none⟩) m cap) ∧ w = w'

set_option maxHeartbeats 400000 in
theorem norm_some (w : World) (g cap n : Nat) (cur : Array Value) (h : Row w g cap n cur) (hn : n ≤ cap) :
    Calls Tryd.prog 32 #[.slice (some ⟨g, 0, none⟩) n cap] w (PartN w g n cap) := by
  have hs := h.small
  have H := Lib.hid h; clear h
  go_enter Tryd.func32, Tryd.ntmps32
  go_wp2
  go_loop [3] (fun i => ∃ k : Nat, k ≤ n ∧ i = .int .i64 k) (fun i => (intOf i).toNat)
  case atStart => exact ⟨n, Nat.le_refl _, rfl⟩
  case round =>
    obtain ⟨k, hk, rfl⟩ := hrel
    by_cases h0 : k = 0
    · subst h0
      go_wp2
      go_ret
      exact ⟨0, by omega, by simp, rfl⟩
    · obtain ⟨j, rfl⟩ : ∃ j, k = j + 1 := ⟨k - 1, by omega⟩
      obtain ⟨c, hc⟩ := H.out.cell (i := j) (by omega)
      go_wp2
      · exact ⟨⟨j, by omega, rfl⟩, by simp [intOf]⟩
      · go_ret
        exact ⟨j + 1, hk, rfl, rfl⟩

set_option maxHeartbeats 400000 in
theorem norm_nil (w : World) : Calls Tryd.prog 32 #[.slice none 0 0] w fun e w' => e = .returned (.slice none 0 0) ∧ w = w' := by
  go_enter Tryd.func32, Tryd.ntmps32
  go_wp2
  go_loop [3] (fun i => i = .int .i64 0) (fun _ => 0)
  case atStart => rfl
  case round =>
    obtain rfl := hrel
    go_wp2
    go_ret
    exact ⟨rfl, rfl⟩

theorem Tryd.info74 : (Tryd.prog.info? 74).map (fun i => (i.zero, i.size, i.bytes)) = some (some (.int .u64 0), 1, 8) := by kernel_rfl

/-- the cells of a new row of words -/
def zeros (c : Nat) : Array Value := madeCells (Value.int .u64 0).cells c
theorem zeros_size (c : Nat) : (zeros c).size = c := size_madeCells _ _
theorem zeros_at (c i : Nat) (h : i < c) : (zeros c)[i]? = some (.int .u64 0) := by
  have h1 : i % 1 = 0 := Nat.mod_one i
  simp [zeros, madeCells, Value.cells, h, h1]

theorem Row.made (w : World) (c n : Nat) (hn : n ≤ c) (hc : c ≤ 9223372036854775807) : Row (w.alloc (.cells (zeros c) 74)) w.heap.size c n (zeros c) :=
  ⟨heap_alloc_new w _, zeros_size c, hc, fun i hi => ⟨0, zeros_at c i (by omega)⟩⟩

theorem run_mk (l c : Nat) (hlc : l ≤ c) (hc : c ≤ 1000000) (w : World) : (Instr.makeSlice 52 (.int .i64 (l : Int)) (.int .i64 (c : Int))).run Tryd.prog w =
    .ok (.slice (some ⟨w.heap.size, 0, none⟩) l c) (w.alloc (.cells (zeros c) 74)) := by
  obtain ⟨i0, hi, hz0, hz1, hz2⟩ := info_parts Tryd.info74
  have h := run_make (P := Tryd.prog) w 52 74 i0 (.int .u64 0) Tryd.underlying52 hi hz0 .i64 .i64 l c (by omega) (by omega) (by rw [hz2]; omega) (by omega)
  rw [h, hz1]
  simp [zeros]

/-- a new row of n words comes back; nothing that was there has turned -/
def NewN (w : World) (n : Nat) (e : Ending) (w' : World) : Prop := ∃ c, n ≤ c ∧ e = .returned (.slice (some ⟨w.heap.size, 0, none⟩) n c) ∧ w' = w.alloc (.cells (zeros c) 74) ∧ c ≤ 1000000

set_option maxHeartbeats 400000 in
theorem make_room (w : World) (g m cap n : Nat) (hn : n ≤ cap) :
    Calls Tryd.prog 35 #[.slice (some ⟨g, 0, none⟩) m cap, .int .i64 n] w fun e w' => e = .returned (.slice (some ⟨g, 0, none⟩) n cap) ∧ w = w' := by
  go_enter Tryd.func35, Tryd.ntmps35
  go_wp2
  go_ret
  exact ⟨rfl, rfl⟩

set_option maxHeartbeats 400000 in
theorem make_one (w : World) (a : Option Addr) (m cap : Nat) (hn : cap < 1) :
    Calls Tryd.prog 35 #[.slice a m cap, .int .i64 1] w (NewN w 1) := by
  have hmk : ∀ w : World, (Instr.makeSlice 52 (.int .i64 1) (.int .i64 1)).run Tryd.prog w = .ok (.slice (some ⟨w.heap.size, 0, none⟩) 1 1) (w.alloc (.cells (zeros 1) 74)) := run_mk 1 1 (by omega) (by omega)
  go_enter Tryd.func35, Tryd.ntmps35
  go_wp2
  go_ret
  exact ⟨1, by omega, rfl, rfl, by omega⟩

set_option maxHeartbeats 400000 in
theorem make_more (w : World) (a : Option Addr) (m cap n : Nat) (hn : cap < n) (h1 : 1 < n) (h2 : n ≤ 999000) :
    Calls Tryd.prog 35 #[.slice a m cap, .int .i64 n] w (NewN w n) := by
  have hmk := run_mk n (n + 4) (by omega) (by omega)
  have e4 : ((n + 4 : Nat) : Int) = (n : Int) + 4 := by omega
  rw [e4] at hmk
  have hne : ((n : Int) == 1) = false := by simp; omega
  clear e4
  go_enter Tryd.func35, Tryd.ntmps35
  go_wp2
  go_ret
  exact ⟨n + 4, by omega, rfl, rfl, by omega⟩
end Go.Proofs.YtmiedehknjidkaaDoor

/-
  strings.Reader, in seat D: ReadByte and UnreadByte on a reader that the call itself made.
-/
import Derived.Test.YtmiedehknjidkaaDoorWE
import Derived.Deep.QuietTactic
import Derived.BigQuiet
namespace Go.Proofs.YtmiedehknjidkaaDoor
open Go.RowKit

/-- block b is a reader of s that stands at i -/
def Rd (w : World) (b : Nat) (s : ByteArray) (i : Nat) : Prop := ∃ p : Int, w.heap[b]? = some (.cells #[.string s, .int .i64 i, .int .i64 p] 68 (0, 0))

/-- below B the world is as it was, but for blocks a and b -/
structure Ch (B a b : Nat) (w w' : World) : Prop where
  os : w'.os = w.os
  tape : w'.tape = w.tape
  output : w'.output = w.output
  size : w.heap.size ≤ w'.heap.size
  block : ∀ k, k < B → k ≠ a → k ≠ b → w'.heap[k]? = w.heap[k]?

theorem Ch.refl (B a b : Nat) (w : World) : Ch B a b w w := ⟨rfl, rfl, rfl, Nat.le_refl _, fun _ _ _ _ => rfl⟩
theorem Ch.trans {B a b : Nat} {w w1 w2 : World} (h : Ch B a b w w1) (k : Ch B a b w1 w2) : Ch B a b w w2 :=
  ⟨k.os.trans h.os, k.tape.trans h.tape, k.output.trans h.output, Nat.le_trans h.size k.size, fun i hi ha hb => (k.block i hi ha hb).trans (h.block i hi ha hb)⟩
theorem Ch.mono {B B' a b : Nat} {w w' : World} (h : Ch B a b w w') (hB : B' ≤ B) : Ch B' a b w w' := ⟨h.os, h.tape, h.output, h.size, fun k hk ha hb => h.block k (Nat.lt_of_lt_of_le hk hB) ha hb⟩
theorem Ch.of_below {B a b : Nat} {w w' : World} (h : Below B w w') : Ch B a b w w' := ⟨h.os, h.tape, h.output, h.size, fun k hk _ _ => h.block k hk⟩
theorem Ch.drew {B a b : Nat} {w w' : World} (h : Ch B a b w w') : Ch B a b w w'.drew := ⟨h.os, h.tape, h.output, h.size, h.block⟩
theorem Ch.drewN {B a b : Nat} {w w' : World} (h : Ch B a b w w') (n : Nat) : Ch B a b w (w'.drewN n) := ⟨h.os, h.tape, h.output, h.size, h.block⟩
theorem Ch.setCell {B a b b' : Nat} {w w' : World} (h : Ch B a b w w') (o : Nat) (v : Value) (hp : B ≤ b' ∨ b' = a ∨ b' = b) : Ch B a b w (w'.setCell ⟨b', o, none⟩ v) :=
  h.trans ⟨rfl, rfl, rfl, by simp [World.setCell], fun k hk ha hb => Below.heap_setCell _ _ _ _ (by intro e; have e : k = b' := e; rcases hp with h | h | h <;> omega)⟩

theorem heap_two {w : World} {b : Nat} {c0 c1 c2 : Value} {t : TypeId} (h : w.heap[b]? = some (.cells #[c0, c1, c2] t (0, 0))) (u v : Value) :
    ((w.setCell ⟨b, 2, none⟩ u).setCell ⟨b, 1, none⟩ v).heap[b]? = some (.cells #[c0, v, u] t (0, 0)) := by
  rw [heap_setCell_at (heap_setCell_at h u) v]
  rfl

set_option maxHeartbeats 400000 in
theorem readByte_some (w : World) (b : Nat) (s : ByteArray) (i : Nat) (h : Rd w b s i) (hi : i < s.size) (hs : s.size ≤ 1000000) :
    Calls Tryd.prog 88 #[.pointer (some ⟨b, 0, none⟩)] w fun e w' => e = .returned (.tuple #[.int .u8 s[i].toNat, .nilIface]) ∧ Rd w' b s (i + 1) ∧ Ch w.heap.size b b w w' := by
  obtain ⟨p, h⟩ := h
  have c0 : w.cell? ⟨b, 0, none⟩ = some (.string s) := by simp [World.cell?, h]
  have c1 : w.cell? ⟨b, 1, none⟩ = some (.int .i64 i) := by simp [World.cell?, h]
  have c2 : w.cell? ⟨b, 2, none⟩ = some (.int .i64 p) := by simp [World.cell?, h]
  have f1 : w.frozen? ⟨b, 1, none⟩ = false := by simp [World.frozen?, h]
  have f2 : w.frozen? ⟨b, 2, none⟩ = false := by simp [World.frozen?, h]
  have hlt : (i : Int) < (s.size : Int) := by omega
  have HH := Lib.hid h
  clear h
  go_enter Tryd.func88, Tryd.ntmps88
  go_wp2
  go_region
  all_goals go_wp2
  all_goals go_region
  all_goals go_wp2
  all_goals go_ret2
  all_goals exact ⟨rfl, ⟨-1, heap_two HH.out _ _⟩, (((Ch.refl _ _ _ _).setCell _ _ (.inr (.inl rfl))).setCell _ _ (.inr (.inl rfl))).drew.drew⟩

set_option maxHeartbeats 400000 in
theorem readByte_end (w : World) (b : Nat) (s : ByteArray) (i : Nat) (h : Rd w b s i) (hi : s.size ≤ i) (hb : b ≠ 0) (eof : Value) (he : w.cell? ⟨0, 0, none⟩ = some eof) :
    Calls Tryd.prog 88 #[.pointer (some ⟨b, 0, none⟩)] w fun e w' => e = .returned (.tuple #[.int .u8 0, eof]) ∧ Rd w' b s i ∧ Ch w.heap.size b b w w' := by
  obtain ⟨p, h⟩ := h
  have c0 : w.cell? ⟨b, 0, none⟩ = some (.string s) := by simp [World.cell?, h]
  have c1 : w.cell? ⟨b, 1, none⟩ = some (.int .i64 i) := by simp [World.cell?, h]
  have c2 : w.cell? ⟨b, 2, none⟩ = some (.int .i64 p) := by simp [World.cell?, h]
  have f2 : w.frozen? ⟨b, 2, none⟩ = false := by simp [World.frozen?, h]
  have e' : (w.setCell ⟨b, 2, none⟩ (.int .i64 (-1))).cell? ⟨0, 0, none⟩ = some eof := by
    rw [World.cell?_of_block (w := w) (Below.heap_setCell w ⟨b, 2, none⟩ _ 0 (by simpa using Ne.symm hb))]; exact he
  have HH := Lib.hid h
  clear h he
  go_enter Tryd.func88, Tryd.ntmps88
  go_wp2
  go_region
  all_goals go_wp2
  all_goals go_region
  all_goals go_wp2
  all_goals go_ret2
  all_goals exact ⟨rfl, ⟨-1, heap_setCell_at HH.out _⟩, ((Ch.refl _ _ _ _).setCell _ _ (.inr (.inl rfl))).drew.drew⟩

set_option maxHeartbeats 400000 in
theorem unreadByte (w : World) (b : Nat) (s : ByteArray) (i : Nat) (h : Rd w b s (i + 1)) (hi : i ≤ 1000000) :
    Calls Tryd.prog 89 #[.pointer (some ⟨b, 0, none⟩)] w fun e w' => e = .returned .nilIface ∧ Rd w' b s i ∧ Ch w.heap.size b b w w' := by
  obtain ⟨p, h⟩ := h
  have c1 : w.cell? ⟨b, 1, none⟩ = some (.int .i64 ((i : Int) + 1)) := by simp [World.cell?, h]
  have c2 : w.cell? ⟨b, 2, none⟩ = some (.int .i64 p) := by simp [World.cell?, h]
  have f1 : w.frozen? ⟨b, 1, none⟩ = false := by simp [World.frozen?, h]
  have f2 : w.frozen? ⟨b, 2, none⟩ = false := by simp [World.frozen?, h]
  have HH := Lib.hid h
  clear h
  go_enter Tryd.func89, Tryd.ntmps89
  go_wp2
  go_ret
  exact ⟨rfl, ⟨-1, heap_two HH.out _ _⟩, ((Ch.refl _ _ _ _).setCell _ _ (.inr (.inl rfl))).setCell _ _ (.inr (.inl rfl))⟩
end Go.Proofs.YtmiedehknjidkaaDoor

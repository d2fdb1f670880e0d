/-
  The curves of goelliptic, in seat D: each comes back as a pointer, and nothing that was there has turned.
-/
import Derived.Test.YtmiedehknjidkaaDoorWL
namespace Go.Proofs.YtmiedehknjidkaaDoor
open Go.RowKit

def allDec (s : ByteArray) : Bool := decide (0 < s.size) && decide (s.size ≤ 100000) && s.data.toList.all (fun c => decide (48 ≤ c.toNat) && decide (c.toNat ≤ 57))
def allHex (s : ByteArray) : Bool := decide (0 < s.size) && decide (s.size ≤ 100000) && (decide (s.size % 16 = 0) || decide (s.size % 16 = 4)) && s.data.toList.all (fun c => (decide (48 ≤ c.toNat) && decide (c.toNat ≤ 57)) || (decide (97 ≤ c.toNat) && decide (c.toNat ≤ 102)))

theorem dec_call (w : World) (s : ByteArray) (a : Addr) (he : w.cell? ⟨0, 0, none⟩ = some (eofAt a)) (h : allDec s = true) : Calls Tryd.prog 20 #[.string s] w (NewInt w) := by
  simp only [allDec, Bool.and_eq_true, decide_eq_true_eq, List.all_eq_true] at h
  exact bigFromDecimal w s a h.1.1 h.1.2 he fun i hi => by
    have := h.2 s[i] (by simp [ByteArray.getElem_eq_getElem_data])
    exact .inl ⟨by omega, by omega⟩
theorem hex_call (w : World) (s : ByteArray) (a : Addr) (he : w.cell? ⟨0, 0, none⟩ = some (eofAt a)) (h : allHex s = true) : Calls Tryd.prog 21 #[.string s] w (NewInt w) := by
  simp only [allHex, Bool.and_eq_true, Bool.or_eq_true, decide_eq_true_eq, List.all_eq_true] at h
  exact bigFromHex w s a h.1.1.1 h.1.1.2 h.1.2 he fun i hi => by
    rcases h.2 s[i] (by simp [ByteArray.getElem_eq_getElem_data]) with h | h
    · exact .inl ⟨by omega, by omega⟩
    · exact .inr ⟨rfl, by omega, by omega⟩

/-- a pointer comes back; nothing that was there has turned -/
def PtrOut (w : World) (e : Ending) (w' : World) : Prop := ∃ p, e = .returned (.pointer (some p)) ∧ Below w.heap.size w w'

set_option maxHeartbeats 1000000 in
theorem curve384 (w : World) (a : Addr) (he : w.cell? ⟨0, 0, none⟩ = some (eofAt a)) : Calls Tryd.prog 14 #[] w (PtrOut w) := by
  have HE0 := Lib.hid he
  have HB0 := Lib.hid (Below.refl w.heap.size w)
  have h0 : 0 < w.heap.size := cell_lt he
  clear he
  go_enter Tryd.func14, Tryd.ntmps14
  go_wp2_with fail
  go_at_call 20
  refine (dec_call _ _ a HE0.out ?_).mono ?_
  · decide +kernel
  rintro e w1 ⟨z1, rfl, hb⟩
  have HB1 := Lib.hid (HB0.out.trans (hb.mono HB0.out.size))
  have HE1 := Lib.hid ((hb.cell (p := ⟨0, 0, none⟩) (Nat.lt_of_lt_of_le h0 HB0.out.size)).trans HE0.out)
  clear hb
  go_wp2_with fail
  go_at_call 20
  refine (dec_call _ _ a HE1.out ?_).mono ?_
  · decide +kernel
  rintro e w2 ⟨z2, rfl, hb⟩
  have HB2 := Lib.hid (HB1.out.trans (hb.mono HB1.out.size))
  have HE2 := Lib.hid ((hb.cell (p := ⟨0, 0, none⟩) (Nat.lt_of_lt_of_le h0 HB1.out.size)).trans HE1.out)
  clear hb
  go_wp2_with fail
  go_at_call 21
  refine (hex_call _ _ a HE2.out ?_).mono ?_
  · decide +kernel
  rintro e w3 ⟨z3, rfl, hb⟩
  have HB3 := Lib.hid (HB2.out.trans (hb.mono HB2.out.size))
  have HE3 := Lib.hid ((hb.cell (p := ⟨0, 0, none⟩) (Nat.lt_of_lt_of_le h0 HB2.out.size)).trans HE2.out)
  clear hb
  go_wp2_with fail
  go_at_call 21
  refine (hex_call _ _ a HE3.out ?_).mono ?_
  · decide +kernel
  rintro e w4 ⟨z4, rfl, hb⟩
  have HB4 := Lib.hid (HB3.out.trans (hb.mono HB3.out.size))
  have HE4 := Lib.hid ((hb.cell (p := ⟨0, 0, none⟩) (Nat.lt_of_lt_of_le h0 HB3.out.size)).trans HE3.out)
  clear hb
  go_wp2_with fail
  go_at_call 21
  refine (hex_call _ _ a HE4.out ?_).mono ?_
  · decide +kernel
  rintro e w5 ⟨z5, rfl, hb⟩
  have HB5 := Lib.hid (HB4.out.trans (hb.mono HB4.out.size))
  have HE5 := Lib.hid ((hb.cell (p := ⟨0, 0, none⟩) (Nat.lt_of_lt_of_le h0 HB4.out.size)).trans HE4.out)
  clear hb
  go_wp2
  go_ret
  exact ⟨_, rfl, HB5.out.alloc HB5.out.size _⟩

set_option maxHeartbeats 1000000 in
theorem curve521 (w : World) (a : Addr) (he : w.cell? ⟨0, 0, none⟩ = some (eofAt a)) : Calls Tryd.prog 16 #[] w (PtrOut w) := by
  have HE0 := Lib.hid he
  have HB0 := Lib.hid (Below.refl w.heap.size w)
  have h0 : 0 < w.heap.size := cell_lt he
  clear he
  go_enter Tryd.func16, Tryd.ntmps16
  go_wp2_with fail
  go_at_call 20
  refine (dec_call _ _ a HE0.out ?_).mono ?_
  · decide +kernel
  rintro e w1 ⟨z1, rfl, hb⟩
  have HB1 := Lib.hid (HB0.out.trans (hb.mono HB0.out.size))
  have HE1 := Lib.hid ((hb.cell (p := ⟨0, 0, none⟩) (Nat.lt_of_lt_of_le h0 HB0.out.size)).trans HE0.out)
  clear hb
  go_wp2_with fail
  go_at_call 20
  refine (dec_call _ _ a HE1.out ?_).mono ?_
  · decide +kernel
  rintro e w2 ⟨z2, rfl, hb⟩
  have HB2 := Lib.hid (HB1.out.trans (hb.mono HB1.out.size))
  have HE2 := Lib.hid ((hb.cell (p := ⟨0, 0, none⟩) (Nat.lt_of_lt_of_le h0 HB1.out.size)).trans HE1.out)
  clear hb
  go_wp2_with fail
  go_at_call 21
  refine (hex_call _ _ a HE2.out ?_).mono ?_
  · decide +kernel
  rintro e w3 ⟨z3, rfl, hb⟩
  have HB3 := Lib.hid (HB2.out.trans (hb.mono HB2.out.size))
  have HE3 := Lib.hid ((hb.cell (p := ⟨0, 0, none⟩) (Nat.lt_of_lt_of_le h0 HB2.out.size)).trans HE2.out)
  clear hb
  go_wp2_with fail
  go_at_call 21
  refine (hex_call _ _ a HE3.out ?_).mono ?_
  · decide +kernel
  rintro e w4 ⟨z4, rfl, hb⟩
  have HB4 := Lib.hid (HB3.out.trans (hb.mono HB3.out.size))
  have HE4 := Lib.hid ((hb.cell (p := ⟨0, 0, none⟩) (Nat.lt_of_lt_of_le h0 HB3.out.size)).trans HE3.out)
  clear hb
  go_wp2_with fail
  go_at_call 21
  refine (hex_call _ _ a HE4.out ?_).mono ?_
  · decide +kernel
  rintro e w5 ⟨z5, rfl, hb⟩
  have HB5 := Lib.hid (HB4.out.trans (hb.mono HB4.out.size))
  have HE5 := Lib.hid ((hb.cell (p := ⟨0, 0, none⟩) (Nat.lt_of_lt_of_le h0 HB4.out.size)).trans HE4.out)
  clear hb
  go_wp2
  go_ret
  exact ⟨_, rfl, HB5.out.alloc HB5.out.size _⟩

set_option maxHeartbeats 1000000 in
theorem curve256 (w : World) (a : Addr) (he : w.cell? ⟨0, 0, none⟩ = some (eofAt a)) : Calls Tryd.prog 18 #[] w (PtrOut w) := by
  have HE0 := Lib.hid he
  have HB0 := Lib.hid (Below.refl w.heap.size w)
  have h0 : 0 < w.heap.size := cell_lt he
  clear he
  go_enter Tryd.func18, Tryd.ntmps18
  go_wp2_with fail
  go_at_call 20
  refine (dec_call _ _ a HE0.out ?_).mono ?_
  · decide +kernel
  rintro e w1 ⟨z1, rfl, hb⟩
  have HB1 := Lib.hid (HB0.out.trans (hb.mono HB0.out.size))
  have HE1 := Lib.hid ((hb.cell (p := ⟨0, 0, none⟩) (Nat.lt_of_lt_of_le h0 HB0.out.size)).trans HE0.out)
  clear hb
  go_wp2_with fail
  go_at_call 20
  refine (dec_call _ _ a HE1.out ?_).mono ?_
  · decide +kernel
  rintro e w2 ⟨z2, rfl, hb⟩
  have HB2 := Lib.hid (HB1.out.trans (hb.mono HB1.out.size))
  have HE2 := Lib.hid ((hb.cell (p := ⟨0, 0, none⟩) (Nat.lt_of_lt_of_le h0 HB1.out.size)).trans HE1.out)
  clear hb
  go_wp2_with fail
  go_at_call 21
  refine (hex_call _ _ a HE2.out ?_).mono ?_
  · decide +kernel
  rintro e w3 ⟨z3, rfl, hb⟩
  have HB3 := Lib.hid (HB2.out.trans (hb.mono HB2.out.size))
  have HE3 := Lib.hid ((hb.cell (p := ⟨0, 0, none⟩) (Nat.lt_of_lt_of_le h0 HB2.out.size)).trans HE2.out)
  clear hb
  go_wp2_with fail
  go_at_call 21
  refine (hex_call _ _ a HE3.out ?_).mono ?_
  · decide +kernel
  rintro e w4 ⟨z4, rfl, hb⟩
  have HB4 := Lib.hid (HB3.out.trans (hb.mono HB3.out.size))
  have HE4 := Lib.hid ((hb.cell (p := ⟨0, 0, none⟩) (Nat.lt_of_lt_of_le h0 HB3.out.size)).trans HE3.out)
  clear hb
  go_wp2_with fail
  go_at_call 21
  refine (hex_call _ _ a HE4.out ?_).mono ?_
  · decide +kernel
  rintro e w5 ⟨z5, rfl, hb⟩
  have HB5 := Lib.hid (HB4.out.trans (hb.mono HB4.out.size))
  have HE5 := Lib.hid ((hb.cell (p := ⟨0, 0, none⟩) (Nat.lt_of_lt_of_le h0 HB4.out.size)).trans HE4.out)
  clear hb
  go_wp2
  go_ret
  exact ⟨_, rfl, HB5.out.alloc HB5.out.size _⟩

/-- a slice of new memory comes back; nothing that was there has turned -/
def SliceOut (w : World) (e : Ending) (w' : World) : Prop := ∃ g n, e = .returned (.slice (some ⟨g, 0, none⟩) n n) ∧ Below w.heap.size w w'

set_option maxHeartbeats 1000000 in
theorem order384 (w : World) : Calls Tryd.prog 15 #[] w (SliceOut w) := by
  go_enter Tryd.func15, Tryd.ntmps15
  go_wp2
  go_ret
  exact ⟨_, _, rfl, (Below.refl _ _).alloc (Nat.le_refl _) _⟩

set_option maxHeartbeats 1000000 in
theorem order521 (w : World) : Calls Tryd.prog 17 #[] w (SliceOut w) := by
  go_enter Tryd.func17, Tryd.ntmps17
  go_wp2
  go_ret
  exact ⟨_, _, rfl, (Below.refl _ _).alloc (Nat.le_refl _) _⟩

set_option maxHeartbeats 1000000 in
theorem order256 (w : World) : Calls Tryd.prog 19 #[] w (SliceOut w) := by
  go_enter Tryd.func19, Tryd.ntmps19
  go_wp2
  go_ret
  exact ⟨_, _, rfl, (Below.refl _ _).alloc (Nat.le_refl _) _⟩

end Go.Proofs.YtmiedehknjidkaaDoor

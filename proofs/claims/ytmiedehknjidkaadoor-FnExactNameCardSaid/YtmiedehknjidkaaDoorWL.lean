/-
  Int.scan and its callers, in seat D: a text of digits is taken whole.
-/
import Derived.Test.YtmiedehknjidkaaDoorWK
namespace Go.Proofs.YtmiedehknjidkaaDoor
open Go.RowKit

/-- what nat.scan tells of a text of digits -/
def ScanPost (base : Int) (b : Nat) (s : ByteArray) (w : World) (e : Ending) (w' : World) : Prop :=
  (∃ v n cnt, e = .returned (.tuple #[v, .int .i64 base, .int .i64 cnt, .nilIface]) ∧ OwnN w' w.heap.size v n) ∧ Rd w' b s s.size ∧ Ch w.heap.size b b w w'

/-- nat.scan takes the text s whole -/
def ScanOk (base : Int) (hex : Bool) (s : ByteArray) : Prop :=
  ∀ (w : World) (b : Nat) (a : Addr), Rd w b s 0 → Kit w b s (eofAt a) hex → Calls Tryd.prog 27 #[.slice none 0 0, .iface 57 (.pointer (some ⟨b, 0, none⟩)), .int .i64 base, .bool false] w (ScanPost base b s w)

theorem scanOk_ten (s : ByteArray) (h : 0 < s.size) : ScanOk 10 false s := fun w b a hr K => scan_ten w b s a hr h K
theorem scanOk_hex (s : ByteArray) (h : 0 < s.size) (hm : s.size % 16 = 0 ∨ s.size % 16 = 4) : ScanOk 16 true s := fun w b a hr K => scan_hex w b s a hr h K hm

/-- block z is a big.Int whose slice is nil -/
def New (w : World) (z : Nat) : Prop := w.heap[z]? = some (.cells #[.bool false, .slice none 0 0] 54 (0, 0))

theorem Ch.two {B b z : Nat} {w w' : World} (h : Ch B b b w w') : Ch B z b w w' := ⟨h.os, h.tape, h.output, h.size, fun k hk _ hb => h.block k hk hb hb⟩
theorem Dg.no {hex : Bool} {c : Nat} (h : Dg hex c) : c ≠ 45 ∧ c ≠ 43 := by
  rcases h with h | h <;> omega

theorem Rd.set {w : World} {b z i o : Nat} {s : ByteArray} {v : Value} (h : Rd w b s i) (hzb : z ≠ b) : Rd (w.setCell ⟨z, o, none⟩ v) b s i := by
  obtain ⟨p, h⟩ := h
  exact ⟨p, by rw [Below.heap_setCell _ _ _ _ (Ne.symm hzb)]; exact h⟩

set_option maxHeartbeats 400000 in
theorem intScan (w : World) (z b : Nat) (s : ByteArray) (a : Addr) (base : Int) (hex : Bool) (hz : New w z) (h : Rd w b s 0) (hi : 0 < s.size) (K : Kit w b s (eofAt a) hex) (S : ScanOk base hex s) (hzb : z ≠ b) :
    Calls Tryd.prog 25 #[.pointer (some ⟨z, 0, none⟩), .iface 57 (.pointer (some ⟨b, 0, none⟩)), .int .i64 base] w fun e w' =>
      e = .returned (.tuple #[.pointer (some ⟨z, 0, none⟩), .int .i64 base, .nilIface]) ∧ Rd w' b s s.size ∧ Ch w.heap.size z b w w' := by
  have hd := (K.hd 0 hi).no
  have HG := Lib.hid (scanSign_plain w b s h hi (by have := K.hs; omega) hd.1 hd.2)
  have HK := Lib.hid K
  have HS := Lib.hid S
  have HZ := Lib.hid hz
  clear h K S hz hd
  go_enter Tryd.func25, Tryd.ntmps25
  go_wp2_with fail
  go_at_call 26
  refine (HG.out).mono ?_
  rintro e w1 ⟨rfl, hr1, hc1⟩
  have hzl : z < w.heap.size := (Array.getElem?_eq_some_iff.1 HZ.out).1
  have hz1 : w1.heap[z]? = some (.cells #[.bool false, .slice none 0 0] 54 (0, 0)) := (hc1.block z hzl hzb hzb).trans HZ.out
  have c1 : w1.cell? ⟨z, 1, none⟩ = some (.slice none 0 0) := by simp [World.cell?, hz1]
  have K1 : Kit w1 b s (eofAt a) hex := ⟨HK.out.hs, HK.out.hb, Nat.lt_of_lt_of_le HK.out.hlt hc1.size, HK.out.eof hc1, HK.out.hd⟩
  have HN := Lib.hid (HS.out w1 b a hr1 K1)
  have HZ1 := Lib.hid hz1
  have HC1 := Lib.hid hc1
  have HZL := Lib.hid (Nat.lt_of_lt_of_le hzl hc1.size)
  clear hr1 hc1 hz1 hzl K1
  go_wp2_with fail
  go_at_call 27
  refine (HN.out).mono ?_
  rintro e w2 ⟨⟨v, n, cnt, rfl, ho⟩, hr2, hc2⟩
  have hz2 : w2.heap[z]? = some (.cells #[.bool false, .slice none 0 0] 54 (0, 0)) := (hc2.block z HZL.out hzb hzb).trans HZ1.out
  have d1 : w2.cell? ⟨z, 1, none⟩ = some (.slice none 0 0) := by simp [World.cell?, hz2]
  have d0 : w2.cell? ⟨z, 0, none⟩ = some (.bool false) := by simp [World.cell?, hz2]
  have f1 : w2.frozen? ⟨z, 1, none⟩ = false := by simp [World.frozen?, hz2]
  have f0 : w2.frozen? ⟨z, 0, none⟩ = false := by simp [World.frozen?, hz2]
  have hv : ∃ x cap, v = .slice x n cap ∧ (n : Int) ≤ 9223372036854775807 := by
    rcases ho with ⟨rfl, rfl⟩ | ⟨g, cap, cur, rfl, hg, hn, hr⟩
    · exact ⟨_, _, rfl, by omega⟩
    · have := hr.small
      exact ⟨_, _, rfl, by omega⟩
  obtain ⟨x, cap, rfl, hn⟩ := hv
  have HC2 := Lib.hid hc2
  have HR2 := Lib.hid hr2
  have HZ2 := Lib.hid hz2
  clear hc2 hr2 hz2 ho c1
  by_cases hn0 : n = 0
  · subst hn0
    go_wp2
    go_ret3
    exact ⟨rfl, (HR2.out.set hzb).set hzb, ((HC1.out.two.trans (HC2.out.two.mono HC1.out.size)).setCell _ _ (.inr (.inl rfl))).setCell _ _ (.inr (.inl rfl))⟩
  · have hn1 : 0 < n := by omega
    go_wp2
    go_ret3
    exact ⟨rfl, (HR2.out.set hzb).set hzb, ((HC1.out.two.trans (HC2.out.two.mono HC1.out.size)).setCell _ _ (.inr (.inl rfl))).setCell _ _ (.inr (.inl rfl))⟩

set_option maxHeartbeats 400000 in
theorem setFromScanner (w : World) (z b : Nat) (s : ByteArray) (a : Addr) (base : Int) (hex : Bool) (hz : New w z) (h : Rd w b s 0) (hi : 0 < s.size) (K : Kit w b s (eofAt a) hex) (S : ScanOk base hex s) (hzb : z ≠ b) (hz0 : z ≠ 0) :
    Calls Tryd.prog 23 #[.pointer (some ⟨z, 0, none⟩), .iface 57 (.pointer (some ⟨b, 0, none⟩)), .int .i64 base] w fun e w' =>
      e = .returned (.tuple #[.pointer (some ⟨z, 0, none⟩), .bool true]) ∧ Ch w.heap.size z b w w' := by
  have HI := Lib.hid (intScan w z b s a base hex hz h hi K S hzb)
  have HK := Lib.hid K
  have m1 := method_read
  have q1 := ne_eof a
  clear h K S hz
  go_enter Tryd.func23, Tryd.ntmps23
  go_wp2_with fail
  go_at_call 25
  refine (HI.out).mono ?_
  rintro e w1 ⟨rfl, hr1, hc1⟩
  have he1 : w1.cell? ⟨0, 0, none⟩ = some (eofAt a) := (hc1.cell (cell_lt HK.out.he) (Ne.symm hz0) (Ne.symm HK.out.hb)).trans HK.out.he
  have HE := Lib.hid (readByte_end w1 b s s.size hr1 (Nat.le_refl _) HK.out.hb (eofAt a) he1)
  have HC1 := Lib.hid hc1
  have HE1 := Lib.hid he1
  clear hr1 hc1 he1
  go_wp2_with fail
  go_at_call 88
  refine (HE.out).mono ?_
  rintro e w2 ⟨rfl, hr2, hc2⟩
  have he2 : w2.cell? ⟨0, 0, none⟩ = some (eofAt a) := (hc2.cell (cell_lt HE1.out) (Ne.symm HK.out.hb) (Ne.symm HK.out.hb)).trans HE1.out
  have HC2 := Lib.hid hc2
  clear hr2 hc2
  go_wp2
  go_ret2
  exact ⟨rfl, HC1.out.trans (HC2.out.two.mono HC1.out.size)⟩

/-- a new reader of s comes back -/
def NewRd (s : ByteArray) (w : World) (e : Ending) (w' : World) : Prop := ∃ b, e = .returned (.pointer (some ⟨b, 0, none⟩)) ∧ w.heap.size ≤ b ∧ Rd w' b s 0 ∧ Below w.heap.size w w'

set_option maxHeartbeats 400000 in
theorem newReader (w : World) (s : ByteArray) : Calls Tryd.prog 24 #[.string s] w (NewRd s w) := by
  go_enter Tryd.func24, Tryd.ntmps24
  go_wp2
  go_ret
  exact ⟨_, rfl, Nat.le_refl _, ⟨-1, heap_alloc_new w _⟩, (Below.refl _ _).alloc (Nat.le_refl _) _⟩

set_option maxHeartbeats 400000 in
theorem setString (w : World) (z : Nat) (s : ByteArray) (a : Addr) (base : Int) (hex : Bool) (hz : New w z) (hi : 0 < s.size) (hs : s.size ≤ 100000) (he : w.cell? ⟨0, 0, none⟩ = some (eofAt a)) (hd : ∀ i (h : i < s.size), Dg hex s[i].toNat) (S : ScanOk base hex s) (hz0 : z ≠ 0) :
    Calls Tryd.prog 22 #[.pointer (some ⟨z, 0, none⟩), .string s, .int .i64 base] w fun e w' =>
      e = .returned (.tuple #[.pointer (some ⟨z, 0, none⟩), .bool true]) ∧ Ch w.heap.size z z w w' := by
  have HN := Lib.hid (newReader w s)
  have HZ := Lib.hid hz
  have HD := Lib.hid hd
  have HE := Lib.hid he
  have HS := Lib.hid S
  clear hz hd he S
  go_enter Tryd.func22, Tryd.ntmps22
  go_wp2_with fail
  go_at_call 24
  refine (HN.out).mono ?_
  rintro e w1 ⟨b, rfl, hb, hr1, hb1⟩
  have hzl : z < w.heap.size := (Array.getElem?_eq_some_iff.1 HZ.out).1
  have h0 : 0 < w.heap.size := cell_lt HE.out
  have K : Kit w1 b s (eofAt a) hex := ⟨hs, by omega, hr1.lt, (hb1.cell (p := ⟨0, 0, none⟩) h0).trans HE.out, HD.out⟩
  have HF := Lib.hid (setFromScanner w1 z b s a base hex ((hb1.block z hzl).trans HZ.out) hr1 hi K HS.out (by omega) hz0)
  have HB := Lib.hid hb1
  clear hb1 hr1 K
  go_wp2_with fail
  go_at_call 23
  refine (HF.out).mono ?_
  rintro e w2 ⟨rfl, hc⟩
  go_wp2
  go_ret2
  exact ⟨rfl, ⟨hc.os.trans HB.out.os, hc.tape.trans HB.out.tape, hc.output.trans HB.out.output, Nat.le_trans HB.out.size hc.size, fun k hk ha _ => (hc.block k (Nat.lt_of_lt_of_le hk HB.out.size) ha (by omega)).trans (HB.out.block k hk)⟩⟩

/-- a new big.Int comes back; nothing that was there has turned -/
def NewInt (w : World) (e : Ending) (w' : World) : Prop := ∃ z, e = .returned (.pointer (some ⟨z, 0, none⟩)) ∧ Below w.heap.size w w'

theorem below_of_new {w w' : World} {o : Obj} (h : Ch (w.alloc o).heap.size w.heap.size w.heap.size (w.alloc o) w') : Below w.heap.size w w' :=
  ((Below.refl w.heap.size w).alloc (Nat.le_refl _) o).trans ⟨h.os, h.tape, h.output, h.size, fun k hk => h.block k (by simp; omega) (by omega) (by omega)⟩

set_option maxHeartbeats 400000 in
theorem bigFromDecimal (w : World) (s : ByteArray) (a : Addr) (hi : 0 < s.size) (hs : s.size ≤ 100000) (he : w.cell? ⟨0, 0, none⟩ = some (eofAt a)) (hd : ∀ i (h : i < s.size), Dg false s[i].toNat) :
    Calls Tryd.prog 20 #[.string s] w (NewInt w) := by
  have h0 : w.heap.size ≠ 0 := by have := cell_lt he; simp at this; omega
  have HS := Lib.hid (setString (w.alloc (.cells #[.bool false, .slice none 0 0] 54)) w.heap.size s a 10 false (heap_alloc_new w _) hi hs (by rw [World.cell?_of_block (w := w) (Below.heap_alloc w _ 0 (by omega))]; exact he) hd (scanOk_ten s hi) h0)
  clear he hd h0
  go_enter Tryd.func20, Tryd.ntmps20
  go_wp2_with fail
  go_at_call 22
  refine (HS.out).mono ?_
  rintro e w1 ⟨rfl, hc⟩
  have HB := Lib.hid (below_of_new hc)
  clear hc
  go_wp2
  go_ret
  exact ⟨_, rfl, HB.out⟩

set_option maxHeartbeats 400000 in
theorem bigFromHex (w : World) (s : ByteArray) (a : Addr) (hi : 0 < s.size) (hs : s.size ≤ 100000) (hm : s.size % 16 = 0 ∨ s.size % 16 = 4) (he : w.cell? ⟨0, 0, none⟩ = some (eofAt a)) (hd : ∀ i (h : i < s.size), Dg true s[i].toNat) :
    Calls Tryd.prog 21 #[.string s] w (NewInt w) := by
  have h0 : w.heap.size ≠ 0 := by have := cell_lt he; simp at this; omega
  have HS := Lib.hid (setString (w.alloc (.cells #[.bool false, .slice none 0 0] 54)) w.heap.size s a 16 true (heap_alloc_new w _) hi hs (by rw [World.cell?_of_block (w := w) (Below.heap_alloc w _ 0 (by omega))]; exact he) hd (scanOk_hex s hi hm) h0)
  clear he hd h0 hm
  go_enter Tryd.func21, Tryd.ntmps21
  go_wp2_with fail
  go_at_call 22
  refine (HS.out).mono ?_
  rintro e w1 ⟨rfl, hc⟩
  have HB := Lib.hid (below_of_new hc)
  clear hc
  go_wp2
  go_ret
  exact ⟨_, rfl, HB.out⟩
end Go.Proofs.YtmiedehknjidkaaDoor

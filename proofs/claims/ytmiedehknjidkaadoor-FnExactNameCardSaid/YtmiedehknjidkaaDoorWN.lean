/-
  The suites, in seat D: the suite of a curve, as a value, and its name.
-/
import Derived.Test.YtmiedehknjidkaaDoorWM
namespace Go.Proofs.YtmiedehknjidkaaDoor
open Go.RowKit

/-- an interface value comes back; nothing that was there has turned -/
def AnyOut (w : World) (e : Ending) (w' : World) : Prop := ∃ t v, e = .returned (.iface t v) ∧ Below w.heap.size w w'
/-- a suite of this name comes back; nothing that was there has turned -/
def SuiteOut (name : ByteArray) (w : World) (e : Ending) (w' : World) : Prop :=
  ∃ t v h, e = .returned (.iface 37 (.agg #[.int .u8 0, .iface t v, .int .u64 h, .string name])) ∧ Below w.heap.size w w'

def name256 : ByteArray := ⟨#[80, 50, 53, 54, 45, 83, 72, 65, 50, 53, 54]⟩
def name384 : ByteArray := ⟨#[80, 51, 56, 52, 45, 83, 72, 65, 51, 56, 52]⟩
def name521 : ByteArray := ⟨#[80, 53, 50, 49, 45, 83, 72, 65, 53, 49, 50]⟩

set_option maxHeartbeats 1000000 in
theorem group384 (w : World) (a : Addr) (he : w.cell? ⟨0, 0, none⟩ = some (eofAt a)) : Calls Tryd.prog 11 #[] w (AnyOut w) := by
  have HC := Lib.hid (curve384 w a he)
  clear he
  go_enter Tryd.func11, Tryd.ntmps11
  go_wp2_with fail
  go_at_call 14
  refine (HC.out).mono ?_
  rintro e w1 ⟨q, rfl, hb1⟩
  have HB1 := Lib.hid hb1
  clear hb1
  go_wp2_with fail
  go_at_call 15
  refine (order384 w1).mono ?_
  rintro e w2 ⟨g, n, rfl, hb2⟩
  have HB2 := Lib.hid (HB1.out.trans (hb2.mono HB1.out.size))
  clear hb2
  go_wp2
  go_ret
  exact ⟨_, _, rfl, HB2.out⟩

set_option maxHeartbeats 1000000 in
theorem group521 (w : World) (a : Addr) (he : w.cell? ⟨0, 0, none⟩ = some (eofAt a)) : Calls Tryd.prog 12 #[] w (AnyOut w) := by
  have HC := Lib.hid (curve521 w a he)
  clear he
  go_enter Tryd.func12, Tryd.ntmps12
  go_wp2_with fail
  go_at_call 16
  refine (HC.out).mono ?_
  rintro e w1 ⟨q, rfl, hb1⟩
  have HB1 := Lib.hid hb1
  clear hb1
  go_wp2_with fail
  go_at_call 17
  refine (order521 w1).mono ?_
  rintro e w2 ⟨g, n, rfl, hb2⟩
  have HB2 := Lib.hid (HB1.out.trans (hb2.mono HB1.out.size))
  clear hb2
  go_wp2
  go_ret
  exact ⟨_, _, rfl, HB2.out⟩

set_option maxHeartbeats 1000000 in
theorem group256 (w : World) (a : Addr) (he : w.cell? ⟨0, 0, none⟩ = some (eofAt a)) : Calls Tryd.prog 13 #[] w (AnyOut w) := by
  have HC := Lib.hid (curve256 w a he)
  clear he
  go_enter Tryd.func13, Tryd.ntmps13
  go_wp2_with fail
  go_at_call 18
  refine (HC.out).mono ?_
  rintro e w1 ⟨q, rfl, hb1⟩
  have HB1 := Lib.hid hb1
  clear hb1
  go_wp2_with fail
  go_at_call 19
  refine (order256 w1).mono ?_
  rintro e w2 ⟨g, n, rfl, hb2⟩
  have HB2 := Lib.hid (HB1.out.trans (hb2.mono HB1.out.size))
  clear hb2
  go_wp2
  go_ret
  exact ⟨_, _, rfl, HB2.out⟩

set_option maxHeartbeats 1000000 in
theorem suite384 (w : World) (a : Addr) (he : w.cell? ⟨0, 0, none⟩ = some (eofAt a)) : Calls Tryd.prog 8 #[] w (SuiteOut name384 w) := by
  have HC := Lib.hid (group384 w a he)
  clear he
  go_enter Tryd.func8, Tryd.ntmps8
  go_wp2_with fail
  go_at_call 11
  refine (HC.out).mono ?_
  rintro e w1 ⟨t, v, rfl, hb1⟩
  have HB1 := Lib.hid hb1
  clear hb1
  go_wp2
  go_ret
  exact ⟨t, v, _, rfl, HB1.out⟩

set_option maxHeartbeats 1000000 in
theorem suite521 (w : World) (a : Addr) (he : w.cell? ⟨0, 0, none⟩ = some (eofAt a)) : Calls Tryd.prog 9 #[] w (SuiteOut name521 w) := by
  have HC := Lib.hid (group521 w a he)
  clear he
  go_enter Tryd.func9, Tryd.ntmps9
  go_wp2_with fail
  go_at_call 12
  refine (HC.out).mono ?_
  rintro e w1 ⟨t, v, rfl, hb1⟩
  have HB1 := Lib.hid hb1
  clear hb1
  go_wp2
  go_ret
  exact ⟨t, v, _, rfl, HB1.out⟩

set_option maxHeartbeats 1000000 in
theorem suite256 (w : World) (a : Addr) (he : w.cell? ⟨0, 0, none⟩ = some (eofAt a)) : Calls Tryd.prog 10 #[] w (SuiteOut name256 w) := by
  have HC := Lib.hid (group256 w a he)
  clear he
  go_enter Tryd.func10, Tryd.ntmps10
  go_wp2_with fail
  go_at_call 13
  refine (HC.out).mono ?_
  rintro e w1 ⟨t, v, rfl, hb1⟩
  have HB1 := Lib.hid hb1
  clear hb1
  go_wp2
  go_ret
  exact ⟨t, v, _, rfl, HB1.out⟩

set_option maxHeartbeats 1000000 in
theorem suiteOf1 (w : World) (a : Addr) (he : w.cell? ⟨0, 0, none⟩ = some (eofAt a)) : Calls Tryd.prog 7 #[.int .i64 1] w (SuiteOut name384 w) := by
  have HC := Lib.hid (suite384 w a he)
  clear he
  go_enter Tryd.func7, Tryd.ntmps7
  go_wp2_with fail
  go_at_call 8
  refine (HC.out).mono ?_
  rintro e w1 ⟨t, v, h, rfl, hb1⟩
  have HB1 := Lib.hid hb1
  clear hb1
  go_wp2
  go_ret
  exact ⟨t, v, h, rfl, HB1.out⟩

set_option maxHeartbeats 1000000 in
theorem suiteOf2 (w : World) (a : Addr) (he : w.cell? ⟨0, 0, none⟩ = some (eofAt a)) : Calls Tryd.prog 7 #[.int .i64 2] w (SuiteOut name521 w) := by
  have HC := Lib.hid (suite521 w a he)
  clear he
  go_enter Tryd.func7, Tryd.ntmps7
  go_wp2_with fail
  go_at_call 9
  refine (HC.out).mono ?_
  rintro e w1 ⟨t, v, h, rfl, hb1⟩
  have HB1 := Lib.hid hb1
  clear hb1
  go_wp2
  go_ret
  exact ⟨t, v, h, rfl, HB1.out⟩

set_option maxHeartbeats 1000000 in
theorem suiteOf0 (w : World) (a : Addr) (he : w.cell? ⟨0, 0, none⟩ = some (eofAt a)) : Calls Tryd.prog 7 #[.int .i64 0] w (SuiteOut name256 w) := by
  have HC := Lib.hid (suite256 w a he)
  clear he
  go_enter Tryd.func7, Tryd.ntmps7
  go_wp2_with fail
  go_at_call 10
  refine (HC.out).mono ?_
  rintro e w1 ⟨t, v, h, rfl, hb1⟩
  have HB1 := Lib.hid hb1
  clear hb1
  go_wp2
  go_ret
  exact ⟨t, v, h, rfl, HB1.out⟩

theorem method_id (m t h n : Value) (w : World) : (method 261 37 (.agg #[m, t, h, n]) "Identifier").run Tryd.prog w = .ok (68, .agg #[m, t, h, n]) w := by kernel_rfl

set_option maxHeartbeats 1000000 in
theorem identifier (w : World) (m : Int) (t : TypeId) (v : Value) (h : Int) (s : ByteArray) : Calls Tryd.prog 68 #[.agg #[.int .u8 m, .iface t v, .int .u64 h, .string s]] w fun e w' => e = .returned (.string s) ∧ Below w.heap.size w w' := by
  go_enter Tryd.func68, Tryd.ntmps68
  go_wp2
  go_ret
  exact ⟨rfl, (Below.refl _ _).alloc (Nat.le_refl _) _⟩
end Go.Proofs.YtmiedehknjidkaaDoor

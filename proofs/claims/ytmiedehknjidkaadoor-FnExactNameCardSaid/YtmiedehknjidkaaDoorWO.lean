/-
  The law FnExactName walked, in seat D.
-/
import Derived.Test.YtmiedehknjidkaaDoorWN
namespace Go.Proofs.YtmiedehknjidkaaDoor
open Go.RowKit

/-- this text comes back; nothing that was there has turned -/
def TextOut (s : ByteArray) (w : World) (e : Ending) (w' : World) : Prop := e = .returned (.string s) ∧ Below w.heap.size w w'

set_option maxHeartbeats 1000000 in
theorem implName (k : Int) (s : ByteArray) (w : World) (h : Calls Tryd.prog 7 #[.int .i64 k] w (SuiteOut s w)) : Calls Tryd.prog 5 #[.int .i64 k] w (TextOut s w) := by
  have HC := Lib.hid h
  have m1 := method_id
  clear h
  go_enter Tryd.func5, Tryd.ntmps5
  go_wp2_with fail
  go_at_call 7
  refine (HC.out).mono ?_
  rintro e w1 ⟨t, v, h, rfl, hb1⟩
  have HB1 := Lib.hid hb1
  clear hb1
  go_wp2_with fail
  go_at_call 68
  refine (identifier w1 _ _ _ _ _).mono ?_
  rintro e w2 ⟨rfl, hb2⟩
  have HB2 := Lib.hid (HB1.out.trans (hb2.mono HB1.out.size))
  clear hb2
  go_wp2
  go_ret
  exact ⟨rfl, HB2.out⟩

set_option maxHeartbeats 400000 in
theorem specName0 (w : World) : Calls Tryd.prog 6 #[.int .i64 0] w (TextOut name256 w) := by
  go_enter Tryd.func6, Tryd.ntmps6
  go_wp2
  go_ret
  exact ⟨rfl, (Below.refl _ _).alloc (Nat.le_refl _) _⟩

set_option maxHeartbeats 400000 in
theorem specName1 (w : World) : Calls Tryd.prog 6 #[.int .i64 1] w (TextOut name384 w) := by
  go_enter Tryd.func6, Tryd.ntmps6
  go_wp2
  go_ret
  exact ⟨rfl, (Below.refl _ _).alloc (Nat.le_refl _) _⟩

set_option maxHeartbeats 400000 in
theorem specName2 (w : World) : Calls Tryd.prog 6 #[.int .i64 2] w (TextOut name521 w) := by
  go_enter Tryd.func6, Tryd.ntmps6
  go_wp2
  go_ret
  exact ⟨rfl, (Below.refl _ _).alloc (Nat.le_refl _) _⟩

set_option maxHeartbeats 400000 in
theorem isCurve_yes (k : Int) (h0 : 0 ≤ k) (h2 : k ≤ 2) (w : World) : Calls Tryd.prog 4 #[.int .i64 k, .int .i64 0] w fun e w' => e = .returned (.bool true) ∧ w = w' := by
  go_enter Tryd.func4, Tryd.ntmps4
  go_wp2
  go_ret
  exact ⟨rfl, rfl⟩

set_option maxHeartbeats 400000 in
theorem isCurve_low (k : Int) (h0 : k < 0) (w : World) : Calls Tryd.prog 4 #[.int .i64 k, .int .i64 0] w fun e w' => e = .returned (.bool false) ∧ w = w' := by
  go_enter Tryd.func4, Tryd.ntmps4
  go_wp2
  go_ret
  exact ⟨rfl, rfl⟩

set_option maxHeartbeats 400000 in
theorem isCurve_high (k : Int) (h0 : 2 < k) (w : World) : Calls Tryd.prog 4 #[.int .i64 k, .int .i64 0] w fun e w' => e = .returned (.bool false) ∧ w = w' := by
  go_enter Tryd.func4, Tryd.ntmps4
  go_wp2
  go_ret
  exact ⟨rfl, rfl⟩

/-- what the law is to do: it answers true, and nothing that was there has turned -/
def LawOut (w : World) (e : Ending) (w' : World) : Prop := e = .returned (.bool true) ∧ Below w.heap.size w w'

set_option maxHeartbeats 400000 in
theorem law_no (k : Int) (w : World) (h : Calls Tryd.prog 4 #[.int .i64 k, .int .i64 0] w fun e w' => e = .returned (.bool false) ∧ w = w') : Calls Tryd.prog 3 #[.int .i64 k] w (LawOut w) := by
  have HC := Lib.hid h
  clear h
  go_enter Tryd.func3, Tryd.ntmps3
  go_wp2_with fail
  go_at_call 4
  refine (HC.out).mono ?_
  rintro e w1 ⟨rfl, rfl⟩
  go_wp2
  go_ret
  exact ⟨rfl, Below.refl _ _⟩

set_option maxHeartbeats 400000 in
theorem law_yes (k : Int) (s : ByteArray) (w : World) (h : Calls Tryd.prog 4 #[.int .i64 k, .int .i64 0] w fun e w' => e = .returned (.bool true) ∧ w = w')
    (h1 : ∀ w', Below w.heap.size w w' → Calls Tryd.prog 5 #[.int .i64 k] w' (TextOut s w')) (h2 : ∀ w', Calls Tryd.prog 6 #[.int .i64 k] w' (TextOut s w')) : Calls Tryd.prog 3 #[.int .i64 k] w (LawOut w) := by
  have HC := Lib.hid h
  have H1 := Lib.hid (h1 w (Below.refl _ _))
  have H2 := Lib.hid h2
  clear h h1 h2
  go_enter Tryd.func3, Tryd.ntmps3
  go_wp2_with fail
  go_at_call 4
  refine (HC.out).mono ?_
  rintro e w1 ⟨rfl, rfl⟩
  go_wp2_with fail
  go_at_call 5
  refine (H1.out).mono ?_
  rintro e w1 ⟨rfl, hb1⟩
  have HB1 := Lib.hid hb1
  clear hb1
  go_wp2_with fail
  go_at_call 6
  refine (H2.out _).mono ?_
  rintro e w2 ⟨rfl, hb2⟩
  have HB2 := Lib.hid (HB1.out.trans (hb2.mono HB1.out.size))
  clear hb2
  go_wp2
  go_ret
  exact ⟨by simp, HB2.out⟩

/-- the law, at every curve and in every memory in which io.EOF is an error of errors.New -/
theorem law_any (k : Int) (w : World) (a : Addr) (he : w.cell? ⟨0, 0, none⟩ = some (eofAt a)) : Calls Tryd.prog 3 #[.int .i64 k] w (LawOut w) := by
  by_cases h0 : k < 0
  · exact law_no k w (isCurve_low k h0 w)
  by_cases h2 : 2 < k
  · exact law_no k w (isCurve_high k h2 w)
  have hk : k = 0 ∨ k = 1 ∨ k = 2 := by omega
  have hy := isCurve_yes k (by omega) (by omega) w
  have he' : ∀ w', Below w.heap.size w w' → w'.cell? ⟨0, 0, none⟩ = some (eofAt a) := fun w' hb => (hb.cell (p := ⟨0, 0, none⟩) (cell_lt he)).trans he
  rcases hk with rfl | rfl | rfl
  · exact law_yes 0 name256 w hy (fun w' hb => implName 0 _ w' (suiteOf0 w' a (he' w' hb))) specName0
  · exact law_yes 1 name384 w hy (fun w' hb => implName 1 _ w' (suiteOf1 w' a (he' w' hb))) specName1
  · exact law_yes 2 name521 w hy (fun w' hb => implName 2 _ w' (suiteOf2 w' a (he' w' hb))) specName2
#print axioms law_any
end Go.Proofs.YtmiedehknjidkaaDoor

/-
  nat.mulAddWW in place, in seat D.
-/
import Derived.Test.YtmiedehknjidkaaDoorWD
namespace Go.Proofs.YtmiedehknjidkaaDoor
open Go.RowKit

theorem Row.kept {w w' : World} {g cap n : Nat} {cur : Array Value} (h : Row w g cap n cur) (hg : w.grownBy w' none) : Row w' g cap n cur :=
  ⟨(hg.block g (Array.getElem?_eq_some_iff.1 h.at_).1 (by simp)).trans h.at_, h.size, h.small, h.words⟩

theorem VW.row {w wr : World} {g cap k : Nat} {cur1 : Array Value} (h : VW w g cap cur1 k wr) (hc : cap ≤ 9223372036854775807) : ∃ cur, Row wr g cap k cur := by
  obtain ⟨⟨cur, h1, h2, h3, _⟩, _⟩ := h
  exact ⟨cur, h1, h2, hc, h3⟩

set_option maxHeartbeats 400000 in
theorem mulAddWW_set (w : World) (B m : Nat) (v : Value) (y r : Int) (hz : m = 0 ∨ y = 0) (h : OwnN w B v m) (hB : B ≤ w.heap.size) :
    Calls Tryd.prog 29 #[v, v, .int .u64 y, .int .u64 r] w (OutN B 1 w) := by
  have HC := Lib.hid (setWord_any w B m v r h hB)
  have hl : ∃ a c, v = .slice a m c ∧ c ≤ 9223372036854775807 ∧ m ≤ c := by
    rcases h with ⟨rfl, rfl⟩ | ⟨g, cap, cur, rfl, hg, hn, hr⟩
    · exact ⟨_, _, rfl, by omega, by omega⟩
    · exact ⟨_, _, rfl, hr.small, hn⟩
  obtain ⟨a, c, rfl, hc, hm⟩ := hl
  clear h hB
  by_cases h0 : m = 0
  · subst h0
    go_enter Tryd.func29, Tryd.ntmps29
    go_wp2_with (go_at_call 34; refine (HC.out).mono ?_; rintro e w' ⟨v, n, rfl, hn, ho, hb⟩)
    go_ret
    exact ⟨v, n, rfl, hn, ho, hb⟩
  · have hy : y = 0 := by omega
    subst hy
    have hm0 : ((m : Int) == 0) = false := by simpa using h0
    go_enter Tryd.func29, Tryd.ntmps29
    go_wp2_with (go_at_call 34; refine (HC.out).mono ?_; rintro e w' ⟨v, n, rfl, hn, ho, hb⟩)
    go_ret
    exact ⟨v, n, rfl, hn, ho, hb⟩

set_option maxHeartbeats 400000 in
theorem mulAddWW_more (w : World) (B m g cap : Nat) (cur : Array Value) (y r : Int) (h0 : m ≠ 0) (hy : y ≠ 0) (hg : B ≤ g) (hn : m ≤ cap) (hr : Row w g cap m cur) (hB : B ≤ w.heap.size) (hm : m ≤ 900000) :
    Calls Tryd.prog 29 #[.slice (some ⟨g, 0, none⟩) m cap, .slice (some ⟨g, 0, none⟩) m cap, .int .u64 y, .int .u64 r] w (OutN B (m + 1) w) := by
  have HC := Lib.hid (make_any w B m (m + 1) (.slice (some ⟨g, 0, none⟩) m cap) (.inr ⟨g, cap, cur, rfl, hg, hn, hr⟩) hB (by omega) (by omega))
  have HR := Lib.hid hr
  have HB := Lib.hid hB
  have hs := hr.small
  have hm0 : ((m : Int) == 0) = false := by simpa using h0
  have hy0 : (y == 0) = false := by simpa using hy
  clear hr hB hy
  go_enter Tryd.func29, Tryd.ntmps29
  go_wp2_with fail
  go_at_call 35
  rw [show ((m : Int) + 1) = ((m + 1 : Nat) : Int) from by omega]
  refine (HC.out).mono ?_
  rintro e w1 ⟨g1, cap1, cur1, rfl, hg1, hn1, hr1, hgr⟩
  have hs1 := hr1.small
  have HV := Lib.hid (mulAddVWW_any w1 g1 cap1 m cap1 cap g cap cur1 cur y r hr1.at_ hr1.size (HR.out.kept hgr) (by omega) (by omega))
  have HG := Lib.hid hgr
  clear hgr hr1
  go_wp2_with fail
  go_at_call 36
  refine (HV.out).mono ?_
  rintro e w2 ⟨c, rfl, hv⟩
  obtain ⟨⟨v0, hthere⟩, hfree⟩ := hv.there (k := m) (by omega)
  obtain ⟨cur2, hr2⟩ := (hv.step (k := m) (by omega) c).row hs1
  have HN := Lib.hid (norm_some _ g1 cap1 (m + 1) cur2 hr2 hn1)
  have H2 := Lib.hid hr2
  have HW := Lib.hid hv
  clear hv hr2
  go_wp2_with fail
  go_at_call 32
  refine (HN.out).mono ?_
  rintro e w3 ⟨n, hn, rfl, rfl⟩
  go_wp2
  go_ret
  refine ⟨_, n, rfl, hn, .inr ⟨g1, cap1, cur2, rfl, hg1, by omega, ⟨H2.out.at_, H2.out.size, hs1, fun i hi => H2.out.words i (by omega)⟩⟩, ?_⟩
  have hsz := HG.out.size
  exact ((Below.of_grown HG.out HB.out (fun k hk => by cases hk)).trans (Below.of_grown HW.out.grown (Nat.le_trans HB.out hsz) (fun k hk => by cases hk; exact hg1))).setCell hg1 _

/-- z.mulAddWW(z, y, r) -/
theorem mulAddWW_any (w : World) (B m : Nat) (v : Value) (y r : Int) (h : OwnN w B v m) (hB : B ≤ w.heap.size) (hm : m ≤ 900000) :
    Calls Tryd.prog 29 #[v, v, .int .u64 y, .int .u64 r] w (OutN B (m + 1) w) := by
  by_cases hz : m = 0 ∨ y = 0
  · exact (mulAddWW_set w B m v y r hz h hB).mono fun _ _ ⟨v, n, h1, h2, h3, h4⟩ => ⟨v, n, h1, by omega, h3, h4⟩
  · rcases h with ⟨rfl, rfl⟩ | ⟨g, cap, cur, rfl, hg, hn, hr⟩
    · exact absurd (.inl rfl) hz
    · exact mulAddWW_more w B m g cap cur y r (fun e => hz (.inl e)) (fun e => hz (.inr e)) hg hn hr hB hm
end Go.Proofs.YtmiedehknjidkaaDoor

/-
  nat.rsh in place by 48 bits, in seat D.
-/
import Derived.Test.YtmiedehknjidkaaDoorWH
namespace Go.Proofs.YtmiedehknjidkaaDoor
open Go.RowKit

/-- a word comes back, the row of words is still one -/
def KeptOut (w : World) (g cap n : Nat) (e : Ending) (w' : World) : Prop := ∃ c : Int, e = .returned (.int .u64 c) ∧ Kept w g cap n w'

theorem and48 : bits BinOp.and IntKind.u64 48 63 = 48 := by decide +kernel
theorem and16 : bits BinOp.and IntKind.u64 16 63 = 16 := by decide +kernel
theorem wrap16 : IntKind.u64.wrap 16 = 16 := by decide +kernel

set_option maxHeartbeats 400000 in
theorem rshVU_g_48 (w : World) (g cap m : Nat) (cur : Array Value) (h : Row w g cap m cur) (h0 : 1 ≤ m) (hn : m ≤ cap) (hm : m ≤ 1000000) :
    Calls Tryd.prog 42 #[.slice (some ⟨g, 0, none⟩) m cap, .slice (some ⟨g, 0, none⟩) m cap, .int .u64 48] w (KeptOut w g cap m) := by
  have H := Lib.hid (Kept.start h)
  have t2 : ((m : Int) == 0) = false := by simp; omega
  obtain ⟨c0, hc0⟩ := h.cell (i := 0) (by omega)
  clear h
  have b1 := and48
  have b2 := and16
  have b3 := wrap16
  go_enter Tryd.func42, Tryd.ntmps42
  go_wp2
  clear b1 b2 b3
  go_loopw [8] (fun i wr => ∃ k : Nat, i = .int .i64 k ∧ 1 ≤ k ∧ k ≤ m ∧ Kept w g cap m wr) (fun i _ => m - (intOf i).toNat)
  case atStart => exact ⟨1, rfl, by omega, by omega, H.out⟩
  case round =>
    obtain ⟨k, rfl, hk1, hk, hv⟩ := hrel
    by_cases hlt : k < m
    · obtain ⟨j, rfl⟩ : ∃ j, k = j + 1 := ⟨k - 1, by omega⟩
      obtain ⟨c1, hc1⟩ := hv.cell (k := j) (by omega)
      obtain ⟨c2, hc2⟩ := hv.cell (k := j + 1) (by omega)
      have f1 := hv.free j
      have HV := Lib.hid hv; clear hv hc0
      go_wp2
      go_region
      all_goals go_wp2
      exact ⟨⟨j + 1 + 1, by go_num, by omega, by omega, (HV.out.set (by omega) _).drew⟩, by simp [intOf]; omega⟩
    · have : k = m := by omega
      subst this
      obtain ⟨j, rfl⟩ : ∃ j, k = j + 1 := ⟨k - 1, by omega⟩
      obtain ⟨c1, hc1⟩ := hv.cell (k := j) (by omega)
      have f1 := hv.free j
      have HV := Lib.hid hv; clear hv hc0
      go_wp2
      go_ret
      exact ⟨_, rfl, HV.out.set (by omega) _⟩

set_option maxHeartbeats 400000 in
theorem rshVU_48 (w : World) (g cap m : Nat) (cur : Array Value) (h : Row w g cap m cur) (h0 : 1 ≤ m) (hn : m ≤ cap) (hm : m ≤ 1000000) :
    Calls Tryd.prog 40 #[.slice (some ⟨g, 0, none⟩) m cap, .slice (some ⟨g, 0, none⟩) m cap, .int .u64 48] w (KeptOut w g cap m) := by
  have HC := Lib.hid (rshVU_g_48 w g cap m cur h h0 hn hm)
  clear h
  go_enter Tryd.func40, Tryd.ntmps40
  go_wp2_with (go_at_call 42; refine (HC.out).mono ?_; rintro e w' ⟨c, rfl, hv⟩)
  go_ret
  exact ⟨c, rfl, hv⟩

set_option maxHeartbeats 400000 in
theorem rsh_nil (w : World) : Calls Tryd.prog 33 #[.slice none 0 0, .slice none 0 0, .int .u64 48] w fun e w' => e = .returned (.slice none 0 0) ∧ w = w' := by
  go_enter Tryd.func33, Tryd.ntmps33
  go_wp2
  go_ret
  exact ⟨rfl, rfl⟩

set_option maxHeartbeats 400000 in
theorem rsh_empty (w : World) (g cap : Nat) : Calls Tryd.prog 33 #[.slice (some ⟨g, 0, none⟩) 0 cap, .slice (some ⟨g, 0, none⟩) 0 cap, .int .u64 48] w fun e w' => e = .returned (.slice (some ⟨g, 0, none⟩) 0 cap) ∧ w = w' := by
  go_enter Tryd.func33, Tryd.ntmps33
  go_wp2
  go_ret
  exact ⟨rfl, rfl⟩

set_option maxHeartbeats 400000 in
theorem rsh_48 (w : World) (B g cap m : Nat) (cur : Array Value) (h : Row w g cap m cur) (h0 : 1 ≤ m) (hn : m ≤ cap) (hm : m ≤ 900000) (hg : B ≤ g) (hB : B ≤ w.heap.size) :
    Calls Tryd.prog 33 #[.slice (some ⟨g, 0, none⟩) m cap, .slice (some ⟨g, 0, none⟩) m cap, .int .u64 48] w (OutN B m w) := by
  have HM := Lib.hid (make_room w g m cap m hn)
  have HC := Lib.hid (rshVU_48 w g cap m cur h h0 hn (by omega))
  have hs := h.small
  have HB := Lib.hid hB
  clear h hB
  go_enter Tryd.func33, Tryd.ntmps33
  go_wp2_with fail
  go_at_call 35
  refine (HM.out).mono ?_
  rintro e w1 ⟨rfl, rfl⟩
  go_wp2_with fail
  go_at_call 40
  refine (HC.out).mono ?_
  rintro e w1 ⟨c, rfl, ⟨⟨cur1, hr⟩, hgr⟩⟩
  have HN := Lib.hid (norm_some w1 g cap m cur1 hr hn)
  have HR := Lib.hid hr
  have HG := Lib.hid hgr
  clear hr hgr
  go_wp2_with fail
  go_at_call 32
  refine (HN.out).mono ?_
  rintro e w2 ⟨n, hnn, rfl, rfl⟩
  go_wp2
  go_ret
  exact ⟨_, n, rfl, hnn, .inr ⟨g, cap, cur1, rfl, hg, by omega, ⟨HR.out.at_, HR.out.size, hs, fun i hi => HR.out.words i (by omega)⟩⟩, Below.of_grown HG.out HB.out (fun k hk => by cases hk; exact hg)⟩

/-- z.rsh(z, 48) -/
theorem rsh_any (w : World) (B m : Nat) (v : Value) (h : OwnN w B v m) (hm : m ≤ 900000) (hB : B ≤ w.heap.size) : Calls Tryd.prog 33 #[v, v, .int .u64 48] w (OutN B m w) := by
  rcases h with ⟨rfl, rfl⟩ | ⟨g, cap, cur, rfl, hg, hn, hr⟩
  · exact (rsh_nil w).mono fun e w' ⟨he, hw⟩ => by
      subst hw
      exact ⟨_, 0, he, by omega, .inl ⟨rfl, rfl⟩, Below.refl _ _⟩
  · by_cases h0 : m = 0
    · subst h0
      exact (rsh_empty w g cap).mono fun e w' ⟨he, hw⟩ => by
        subst hw
        exact ⟨_, 0, he, by omega, .inr ⟨g, cap, cur, rfl, hg, hn, hr⟩, Below.refl _ _⟩
    · exact rsh_48 w B g cap m cur hr (by omega) hn hm hg hB

/-- z.norm() -/
theorem norm_any (w : World) (B m : Nat) (v : Value) (h : OwnN w B v m) : Calls Tryd.prog 32 #[v] w (OutN B m w) := by
  rcases h with ⟨rfl, rfl⟩ | ⟨g, cap, cur, rfl, hg, hn, hr⟩
  · exact (norm_nil w).mono fun e w' ⟨he, hw⟩ => by
      subst hw
      exact ⟨_, 0, he, by omega, .inl ⟨rfl, rfl⟩, Below.refl _ _⟩
  · exact (norm_some w g cap m cur hr hn).mono fun e w' ⟨n, h1, he, hw⟩ => by
      subst hw
      exact ⟨_, n, he, h1, .inr ⟨g, cap, cur, rfl, hg, by omega, ⟨hr.at_, hr.size, hr.small, fun i hi => hr.words i (by omega)⟩⟩, Below.refl _ _⟩

/-- slices.Reverse(z) -/
theorem reverse_any (w : World) (B m : Nat) (v : Value) (h : OwnN w B v m) (hm : m ≤ 900000) (hB : B ≤ w.heap.size) :
    Calls Tryd.prog 31 #[v] w fun e w' => e = .returned (.tuple #[]) ∧ OwnN w' B v m ∧ Below B w w' := by
  rcases h with ⟨rfl, rfl⟩ | ⟨g, cap, cur, rfl, hg, hn, hr⟩
  · exact (reverse_nil w).mono fun e w' ⟨he, hw⟩ => by
      subst hw
      exact ⟨he, .inl ⟨rfl, rfl⟩, Below.refl _ _⟩
  · exact (reverse_some w g cap m cur hr hn (by omega)).mono fun e w' ⟨he, ⟨cur1, hr1⟩, hgr⟩ =>
      ⟨he, .inr ⟨g, cap, cur1, rfl, hg, hn, hr1⟩, Below.of_grown hgr hB (fun k hk => by cases hk; exact hg)⟩
end Go.Proofs.YtmiedehknjidkaaDoor

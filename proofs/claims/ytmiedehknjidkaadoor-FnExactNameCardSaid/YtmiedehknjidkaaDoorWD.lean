/-
  mulAddVWW over words, in seat D: the slice that is written may be the slice that is read.
-/
import Derived.Test.YtmiedehknjidkaaDoorWC
namespace Go.Proofs.YtmiedehknjidkaaDoor
open Go.RowKit

/-- k words of block g have been written, all else of it is as it was -/
structure VW (w : World) (g cap : Nat) (cur1 : Array Value) (k : Nat) (wr : World) : Prop where
  at_ : ∃ cur, wr.heap[g]? = some (.cells cur 74 (0, 0)) ∧ cur.size = cap ∧ (∀ i, i < k → ∃ q : Int, cur[i]? = some (.int .u64 q)) ∧ ∀ i, k ≤ i → cur[i]? = cur1[i]?
  grown : w.grownBy wr (some g)

theorem VW.start {w : World} {g cap : Nat} {cur1 : Array Value} (h : w.heap[g]? = some (.cells cur1 74 (0, 0))) (hs : cur1.size = cap) : VW w g cap cur1 0 w :=
  ⟨⟨cur1, h, hs, fun i hi => by omega, fun _ _ => rfl⟩, ⟨rfl, rfl, rfl, Nat.le_refl _, fun _ _ _ => rfl⟩⟩

theorem heap_setCell_at {w : World} {g k : Nat} {cur : Array Value} {t : TypeId} {f : Nat × Nat} (h : w.heap[g]? = some (.cells cur t f)) (v : Value) :
    (w.setCell ⟨g, k, none⟩ v).heap[g]? = some (.cells (cur.setIfInBounds k v) t f) := by
  simp [World.setCell, Array.getElem?_modify, h]

theorem VW.step {w wr : World} {g cap k : Nat} {cur1 : Array Value} (h : VW w g cap cur1 k wr) (hk : k < cap) (b : Int) :
    VW w g cap cur1 (k + 1) (wr.setCell ⟨g, k, none⟩ (.int .u64 b)) := by
  obtain ⟨⟨cur, h1, h2, h3, h4⟩, hg⟩ := h
  refine ⟨⟨cur.setIfInBounds k (.int .u64 b), heap_setCell_at h1 _, by simpa using h2, fun i hi => ?_, fun i hi => ?_⟩, ?_⟩
  · by_cases hik : i = k
    · subst hik
      exact ⟨b, by simp [h2, hk]⟩
    · obtain ⟨q, hq⟩ := h3 i (by omega)
      exact ⟨q, by rw [Array.getElem?_setIfInBounds, if_neg (by omega)]; exact hq⟩
  · rw [Array.getElem?_setIfInBounds, if_neg (by omega)]; exact h4 i (by omega)
  · exact ⟨hg.os, hg.tape, hg.output, by have := hg.size; simpa [World.setCell] using this, fun j hj hne => by
      rw [Below.heap_setCell _ _ _ _ (by intro e; apply hne; rw [e])]; exact hg.block j hj hne⟩

theorem VW.there {w wr : World} {g cap k : Nat} {cur1 : Array Value} (h : VW w g cap cur1 k wr) (hk : k < cap) : (∃ v, wr.cell? ⟨g, k, none⟩ = some v) ∧ wr.frozen? ⟨g, k, none⟩ = false := by
  obtain ⟨⟨cur, h1, h2, _, _⟩, _⟩ := h
  exact ⟨⟨cur[k], by simp [World.cell?, h1]⟩, by simp [World.frozen?, h1]⟩

theorem VW.source {w wr : World} {g cap k : Nat} {cur1 : Array Value} (h : VW w g cap cur1 k wr) (h0 : w.heap[g]? = some (.cells cur1 74 (0, 0)))
    {gx capx m : Nat} {curx : Array Value} (hx : Row w gx capx m curx) (hk : k < m) : ∃ c : Int, wr.cell? ⟨gx, k, none⟩ = some (.int .u64 c) := by
  obtain ⟨⟨cur, h1, h2, h3, h4⟩, hg⟩ := h
  obtain ⟨c, hc⟩ := hx.words k hk
  by_cases e : gx = g
  · subst e
    have : curx = cur1 := by
      have := hx.at_.symm.trans h0
      simpa using this
    subst this
    exact ⟨c, by simp [World.cell?, h1, h4 k (Nat.le_refl _), hc]⟩
  · have hlt : gx < w.heap.size := (Array.getElem?_eq_some_iff.1 hx.at_).1
    have := hg.block gx hlt (by simpa using e)
    exact ⟨c, by simp [World.cell?, this, hx.at_, hc]⟩

/-- what mulAddVWW tells -/
def VWOut (w : World) (g cap : Nat) (cur1 : Array Value) (m : Nat) (e : Ending) (w' : World) : Prop := ∃ c : Int, e = .returned (.int .u64 c) ∧ VW w g cap cur1 m w'

set_option maxHeartbeats 400000 in
theorem mulAddVWW_g_any (w : World) (g cap m c1 c2 gx capx : Nat) (cur1 curx : Array Value) (y r : Int) (h : w.heap[g]? = some (.cells cur1 74 (0, 0))) (hs : cur1.size = cap)
    (hx : Row w gx capx m curx) (hm : m ≤ cap) (hc : m ≤ 1000000) :
    Calls Tryd.prog 41 #[.slice (some ⟨g, 0, none⟩) m c1, .slice (some ⟨gx, 0, none⟩) m c2, .int .u64 y, .int .u64 r] w (VWOut w g cap cur1 m) := by
  have H0 := Lib.hid (VW.start h hs)
  have HS := Lib.hid (fun (wr : World) (k : Nat) (hv : VW w g cap cur1 k wr) (hk : k < m) => hv.source h hx hk)
  clear h hs hx
  go_enter Tryd.func41, Tryd.ntmps41
  go_wp2
  go_loopw [8, 19] (fun c i wr => ∃ (k : Nat) (q : Int), k ≤ m ∧ i = .int .i64 k ∧ c = .int .u64 q ∧ VW w g cap cur1 k wr) (fun _ i _ => m - (intOf i).toNat)
  case atStart => exact ⟨0, r, Nat.zero_le _, rfl, rfl, H0.out⟩
  case round =>
    obtain ⟨k, q, hk, rfl, rfl, hv⟩ := hrel
    by_cases hlt : k < m
    · obtain ⟨c, hcell⟩ := HS.out _ _ hv hlt
      obtain ⟨⟨v, hthere⟩, hfree⟩ := hv.there (by omega)
      have HV := Lib.hid hv; clear hv
      go_wp2_with (go_at_call 43; refine (mulAddWWW_any _ _ _ _).mono ?_; rintro e w' ⟨a, b, rfl, rfl⟩)
      exact ⟨⟨k + 1, a, by omega, by go_num, rfl, HV.out.step (by omega) b⟩, by simp [intOf]; omega⟩
    · have : k = m := by omega
      subst this
      go_wp2
      go_ret
      exact ⟨q, rfl, hv⟩

set_option maxHeartbeats 400000 in
theorem mulAddVWW_any (w : World) (g cap m c1 c2 gx capx : Nat) (cur1 curx : Array Value) (y r : Int) (h : w.heap[g]? = some (.cells cur1 74 (0, 0))) (hs : cur1.size = cap)
    (hx : Row w gx capx m curx) (hm : m ≤ cap) (hc : m ≤ 1000000) :
    Calls Tryd.prog 36 #[.slice (some ⟨g, 0, none⟩) m c1, .slice (some ⟨gx, 0, none⟩) m c2, .int .u64 y, .int .u64 r] w (VWOut w g cap cur1 m) := by
  have HC := Lib.hid (mulAddVWW_g_any w g cap m c1 c2 gx capx cur1 curx y r h hs hx hm hc)
  clear h hs hx
  go_enter Tryd.func36, Tryd.ntmps36
  go_wp2_with (go_at_call 41; refine (HC.out).mono ?_; rintro e w' ⟨c, rfl, hv⟩)
  go_ret
  exact ⟨c, rfl, hv⟩

/-- a slice of words of the call's own: nil, or the head of a row from block B on -/
def OwnN (w : World) (B : Nat) (v : Value) (n : Nat) : Prop :=
  (v = .slice none 0 0 ∧ n = 0) ∨ ∃ g cap cur, v = .slice (some ⟨g, 0, none⟩) n cap ∧ B ≤ g ∧ n ≤ cap ∧ Row w g cap n cur

/-- such a slice comes back, of at most b words; nothing below B has turned -/
def OutN (B b : Nat) (w : World) (e : Ending) (w' : World) : Prop := ∃ v n, e = .returned v ∧ n ≤ b ∧ OwnN w' B v n ∧ Below B w w'

theorem Row.set {w : World} {g cap n k : Nat} {cur : Array Value} (h : Row w g cap n cur) (hk : k < cap) (b : Int) :
    Row (w.setCell ⟨g, k, none⟩ (.int .u64 b)) g cap n (cur.setIfInBounds k (.int .u64 b)) :=
  ⟨heap_setCell_at h.at_ _, by simpa using h.size, h.small, fun i hi => by
    have := h.size
    rw [Array.getElem?_setIfInBounds]
    split
    · exact ⟨b, by rw [if_pos (by omega)]⟩
    · exact h.words i hi⟩

/-- a row with room for n words comes back: one of the call's own, or a new one -/
def MadeN (B n : Nat) (w : World) (e : Ending) (w' : World) : Prop :=
  ∃ g cap cur, e = .returned (.slice (some ⟨g, 0, none⟩) n cap) ∧ B ≤ g ∧ n ≤ cap ∧ Row w' g cap 0 cur ∧ w.grownBy w' none

theorem NewN.made {w w' : World} {B n : Nat} {e : Ending} (hB : B ≤ w.heap.size) (h : NewN w n e w') : MadeN B n w e w' := by
  obtain ⟨c, h1, rfl, rfl, h2⟩ := h
  exact ⟨_, c, zeros c, rfl, hB, h1, Row.made w c 0 (by omega) (by omega), World.grownBy_alloc w _ none⟩

theorem make_any (w : World) (B m n : Nat) (v : Value) (h : OwnN w B v m) (hB : B ≤ w.heap.size) (h1 : 1 ≤ n) (h2 : n ≤ 999000) :
    Calls Tryd.prog 35 #[v, .int .i64 n] w (MadeN B n w) := by
  have new : ∀ a cap, cap < n → Calls Tryd.prog 35 #[.slice a m cap, .int .i64 n] w (MadeN B n w) := by
    intro a cap hlt
    by_cases e : n = 1
    · subst e
      exact (make_one w a m cap hlt).mono fun _ _ h => h.made hB
    · exact (make_more w a m cap n hlt (by omega) h2).mono fun _ _ h => h.made hB
  rcases h with ⟨rfl, rfl⟩ | ⟨g, cap, cur, rfl, hg, hn, hr⟩
  · exact new none 0 (by omega)
  · by_cases hlt : cap < n
    · exact new _ cap hlt
    · exact (make_room w g m cap n (by omega)).mono fun e w' ⟨he, hw⟩ => by
        subst hw
        exact ⟨g, cap, cur, he, hg, by omega, ⟨hr.at_, hr.size, hr.small, fun i hi => by omega⟩, ⟨rfl, rfl, rfl, Nat.le_refl _, fun _ _ _ => rfl⟩⟩

theorem Below.of_grown {B : Nat} {w w' : World} {row : Option Nat} (hg : w.grownBy w' row) (hB : B ≤ w.heap.size) (hr : ∀ k, row = some k → B ≤ k) : Below B w w' :=
  (Below.refl B w).grown hg hB hr

theorem Row.filled {w : World} {g cap n : Nat} {cur : Array Value} (h : Row w g cap 0 cur) (k : Nat) (hw : ∀ i, i < k → ∃ q : Int, cur[i]? = some (.int .u64 q)) (hn : n ≤ k) : Row w g cap n cur :=
  ⟨h.at_, h.size, h.small, fun i hi => hw i (by omega)⟩

set_option maxHeartbeats 400000 in
theorem setWord_zero (w : World) (B m : Nat) (v : Value) (h : OwnN w B v m) :
    Calls Tryd.prog 34 #[v, .int .u64 0] w (OutN B 0 w) := by
  rcases h with ⟨rfl, rfl⟩ | ⟨g, cap, cur, rfl, hg, hn, hr⟩
  · go_enter Tryd.func34, Tryd.ntmps34
    go_wp2
    go_ret
    exact ⟨_, 0, rfl, by omega, .inl ⟨rfl, rfl⟩, Below.refl _ _⟩
  · have hs := hr.small
    have H := Lib.hid hr; clear hr
    go_enter Tryd.func34, Tryd.ntmps34
    go_wp2
    go_ret
    exact ⟨_, 0, rfl, by omega, .inr ⟨g, cap, cur, rfl, hg, by omega, ⟨H.out.at_, H.out.size, hs, fun i hi => by omega⟩⟩, Below.refl _ _⟩

set_option maxHeartbeats 400000 in
theorem setWord_some (w : World) (B m : Nat) (v : Value) (x : Int) (hx : x ≠ 0) (h : OwnN w B v m) (hB : B ≤ w.heap.size) :
    Calls Tryd.prog 34 #[v, .int .u64 x] w (OutN B 1 w) := by
  have hx' : (x == 0) = false := by simpa using hx
  have HC := Lib.hid (make_any w B m 1 v h hB (by omega) (by omega))
  have HB := Lib.hid hB
  clear h hx hB
  go_enter Tryd.func34, Tryd.ntmps34
  go_wp2_with fail
  go_at_call 35
  refine (HC.out).mono ?_
  rintro e w' ⟨g, cap, cur, rfl, hg, hn, hr, hgr⟩
  obtain ⟨v0, hthere⟩ := hr.there (i := 0) (by omega)
  have hfree := hr.free 0
  have HG := Lib.hid hgr
  have HR := Lib.hid hr
  clear hgr hr
  go_wp2
  go_ret
  refine ⟨_, 1, rfl, by omega, .inr ⟨g, cap, _, rfl, hg, hn, (HR.out.set (by omega) x).filled 1 (fun i hi => ?_) (Nat.le_refl _)⟩, ?_⟩
  · obtain rfl : i = 0 := by omega
    have := HR.out.size
    exact ⟨x, by simp [show 0 < cur.size by omega]⟩
  · exact (Below.of_grown HG.out HB.out (fun k hk => by cases hk)).setCell hg _

theorem setWord_any (w : World) (B m : Nat) (v : Value) (x : Int) (h : OwnN w B v m) (hB : B ≤ w.heap.size) :
    Calls Tryd.prog 34 #[v, .int .u64 x] w (OutN B 1 w) := by
  by_cases hx : x = 0
  · subst hx
    exact (setWord_zero w B m v h).mono fun _ _ ⟨v, n, h1, h2, h3, h4⟩ => ⟨v, n, h1, by omega, h3, h4⟩
  · exact setWord_some w B m v x hx h hB
end Go.Proofs.YtmiedehknjidkaaDoor

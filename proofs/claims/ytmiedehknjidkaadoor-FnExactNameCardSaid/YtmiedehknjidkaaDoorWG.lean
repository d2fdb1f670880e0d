/-
  scanSign, in seat D, over a reader that the call itself made.
-/
import Derived.Test.YtmiedehknjidkaaDoorWF
import Derived.Deep.RegionWith
namespace Go.Proofs.YtmiedehknjidkaaDoor
open Go.RowKit

theorem method_read (a : Addr) (w : World) : (method 261 57 (.pointer (some a)) "ReadByte").run Tryd.prog w = .ok (88, .pointer (some a)) w := by kernel_rfl
theorem method_unread (a : Addr) (w : World) : (method 261 57 (.pointer (some a)) "UnreadByte").run Tryd.prog w = .ok (89, .pointer (some a)) w := by kernel_rfl

set_option maxHeartbeats 400000 in
theorem scanSign_plain (w : World) (b : Nat) (s : ByteArray) (h : Rd w b s 0) (hi : 0 < s.size) (hs : s.size ≤ 1000000) (h1 : s[0].toNat ≠ 45) (h2 : s[0].toNat ≠ 43) :
    Calls Tryd.prog 26 #[.iface 57 (.pointer (some ⟨b, 0, none⟩))] w fun e w' => e = .returned (.tuple #[.bool false, .nilIface]) ∧ Rd w' b s 0 ∧ Ch w.heap.size b b w w' := by
  have HR := Lib.hid (readByte_some w b s 0 h hi hs)
  have m1 := method_read
  have m2 := method_unread
  have t1 : ((s[0].toNat : Int) == 45) = false := by simp; omega
  have t2 : ((s[0].toNat : Int) == 43) = false := by simp; omega
  clear h h1 h2
  go_enter Tryd.func26, Tryd.ntmps26
  go_wp2_with fail
  go_at_call 88
  refine (HR.out).mono ?_
  rintro e w1 ⟨rfl, hr, hc⟩
  have HU := Lib.hid (unreadByte w1 b s 0 hr (by omega))
  have HC := Lib.hid hc
  clear hr hc
  go_wp2_with fail
  go_at_call 89
  refine (HU.out).mono ?_
  rintro e w2 ⟨rfl, hr, hc⟩
  go_wp2
  go_ret2
  exact ⟨rfl, hr, HC.out.trans (hc.mono HC.out.size)⟩
end Go.Proofs.YtmiedehknjidkaaDoor

/-
  nat.scan at the base 16 over digits, in seat D.
-/
import Derived.Test.YtmiedehknjidkaaDoorWJ
namespace Go.Proofs.YtmiedehknjidkaaDoor
open Go.RowKit

theorem OwnN.row {w : World} {B n : Nat} {v : Value} (h : OwnN w B v n) : ∃ xs, w.ownsRow B 74 1 v n xs ∧ ∀ x ∈ xs, ∃ k : Int, x = .int .u64 k := by
  rcases h with ⟨rfl, rfl⟩ | ⟨g, cap, cur, rfl, hg, hn, hr⟩
  · exact ⟨[], World.ownsRow_nil _ _ _ _, by simp⟩
  · refine ⟨cur.toList.take n, ⟨by simp [hr.size]; omega, .inr ⟨g, cap, cur, rfl, hg, hr.at_, hn, hr.small, by simpa using hr.size, by simp⟩⟩, fun x hx => ?_⟩
    obtain ⟨i, hi, rfl⟩ := List.getElem_of_mem hx
    simp at hi
    obtain ⟨k, hk⟩ := hr.words i (by omega)
    exact ⟨k, by simpa using (Array.getElem?_eq_some_iff.1 hk).2⟩

theorem OwnN.of_row {w : World} {B n : Nat} {v : Value} {xs : List Value} (h : w.ownsRow B 74 1 v n xs) (hw : ∀ x ∈ xs, ∃ k : Int, x = .int .u64 k) : OwnN w B v n := by
  obtain ⟨hl, ⟨rfl, rfl⟩ | ⟨g, cap, cur, rfl, hg, hh, hn, hc, hs, ht⟩⟩ := h
  · exact .inl ⟨rfl, rfl⟩
  · refine .inr ⟨g, cap, cur, rfl, hg, hn, hh, by simpa using hs, hc, fun i hi => ?_⟩
    have hi' : i < cur.size := by omega
    obtain ⟨k, hk⟩ := hw cur[i] (by rw [← ht]; exact List.mem_take_iff_getElem.2 ⟨i, by simp; omega, by simp⟩)
    exact ⟨k, by rw [Array.getElem?_eq_getElem hi', hk]⟩

theorem append_own {wr w2 : World} {B m : Nat} {u v' : Value} {xs : List Value} {o : Obj} {x : Int} (hown : wr.ownsRow B 74 1 u m xs) (hws : ∀ x ∈ xs, ∃ k : Int, x = .int .u64 k) (hB : B ≤ wr.heap.size)
    (hown' : w2.ownsRow B 74 1 v' (m + 1) (xs ++ [.int .u64 x])) (hgr : (wr.alloc o).grownBy w2 u.ownBlock) : OwnN w2 B v' (m + 1) ∧ Below B wr w2 := by
  refine ⟨OwnN.of_row hown' fun y hy => ?_, ((Below.refl B wr).alloc hB o).grown hgr (by simp; omega) fun k hk => (hown.lt k hk).1⟩
  rcases List.mem_append.1 hy with hy | hy
  · exact hws y hy
  · exact ⟨x, by simpa using hy⟩

set_option maxRecDepth 100000 in
set_option maxHeartbeats 1000000 in
theorem scan_hex (w : World) (b : Nat) (s : ByteArray) (a : Addr) (h : Rd w b s 0) (hi : 0 < s.size) (K : Kit w b s (eofAt a) true) (hmod : s.size % 16 = 0 ∨ s.size % 16 = 4) :
    Calls Tryd.prog 27 #[.slice none 0 0, .iface 57 (.pointer (some ⟨b, 0, none⟩)), .int .i64 16, .bool false] w fun e w' =>
      (∃ v n cnt, e = .returned (.tuple #[v, .int .i64 16, .int .i64 cnt, .nilIface]) ∧ OwnN w' w.heap.size v n) ∧ Rd w' b s s.size ∧ Ch w.heap.size b b w w' := by
  have HR := Lib.hid (readByte_any w b s (eofAt a) true 0 h (Nat.zero_le _) (by have := K.hs; omega) K.hb K.he K.hd)
  have m1 := method_read
  have HK := Lib.hid K
  have HMod := Lib.hid hmod
  clear h K hmod
  go_enter Tryd.func27, Tryd.ntmps27
  go_wp2_with fail
  go_at_call 88
  refine (HR.out).mono ?_
  rintro e w1 ⟨err, ch, rfl, hat, hc⟩
  have HA := Lib.hid hat
  have HC := Lib.hid hc
  clear hat hc
  go_wp2_with fail
  go_loopw [0, 3, 10, 11, 13, 14, 15, 20, 21, 22] (fun z c3 cnt err pv inv ch di i dp wr => ScanRel w b s (eofAt a) true z c3 cnt err pv inv ch di i dp wr) (fun _ _ cnt _ _ _ _ _ _ _ _ => s.size - (intOf cnt).toNat)
  case atStart => exact ⟨0, 0, 0, 0, 46, by omega, by omega, .inl ⟨rfl, rfl⟩, HC.out, rfl, rfl, rfl, .inl rfl, rfl, rfl, rfl, by omega, (fun _ => rfl), rfl, HA.out⟩
  case round =>
    obtain ⟨k, m, q, d, pr, hk, hm, ho, hc, rfl, rfl, rfl, hpr, rfl, rfl, rfl, hq, hqk0, rfl, hat⟩ := hrel
    have HO := Lib.hid ho
    have HCr := Lib.hid hc
    have hqk := hqk0 rfl
    clear ho hc HA HC hqk0
    rcases hat with ⟨hlt, rfl, ⟨c, rfl, hdg⟩, hrd⟩ | ⟨rfl, rfl, rfl, hrd⟩
    · have HRd := Lib.hid hrd
      have hsz : s.size ≤ 100000 := HK.out.hs
      have HQ := Lib.hid hqk
      clear hrd hqk
      have hB : w.heap.size ≤ wr.heap.size := HCr.out.size
      by_cases hqn : q = 15
      · subst hqn
        obtain ⟨xs, hown, hws⟩ := HO.out.row
        have HW := Lib.hid hown
        have HB := Lib.hid hB
        clear hB hown
        have hdg' : (48 ≤ c ∧ c ≤ 57) ∨ (97 ≤ c ∧ c ≤ 102) := by simpa [Dg] using hdg
        clear hdg
        have HWs := Lib.hid hws
        clear hws
        obtain ⟨i0, hi0, hz0, hz1, hz2⟩ := info_parts Tryd.info74
        rcases hdg' with ⟨hc1, hc2⟩ | ⟨hc1, hc2⟩
        ·
          go_wp2_with (at_builtin; refine wpList_append_own _ rfl _ _ 52 rfl w.heap.size 74 i0 (.int .u64 0) 1 8 Tryd.underlying52 hi0 hz0 hz1 hz2 rfl Nat.zero_lt_one u0 m xs rfl (HW.out.alloc _) ⟨wr.heap.size, 0, none⟩ 1 1 [.int .u64 (IntKind.u64.wrap (IntKind.u64.wrap (d * 16) + (c - 48)))] rfl rfl (cell_one_new _ _ _) ?c2a ?c3a ?c4a ?c5a ?_; rotate_left 4; intro v' w2 hown' hgr _; have HP := Lib.hid (append_own HW.out HWs.out HB.out hown' hgr); clear hown' hgr)
          go_at_call 88
          have HR2 := Lib.hid (readByte_any w2 b s (eofAt a) true (k + 1) (HRd.out.below HK.out.hlt HP.out.2) (by omega) (by omega) HK.out.hb (HK.out.eof (HCr.out.trans (Ch.of_below HP.out.2))) HK.out.hd)
          refine (HR2.out).mono ?_
          rintro e w3 ⟨err, ch, rfl, hat, hc⟩
          have HA := Lib.hid hat
          have HC := Lib.hid hc
          clear hat hc
          go_wp2
          refine ⟨⟨k + 1, m + 1, 0, 0, 48, by omega, by omega, HP.out.1.ch HK.out.hlt HC.out, (HCr.out.trans (Ch.of_below HP.out.2)).trans (HC.out.mono (Nat.le_trans HB.out HP.out.2.size)), rfl, by go_num, rfl, .inr rfl, rfl, rfl, rfl, by omega, (fun _ => by have := HQ.out; omega), rfl, HA.out⟩, by simp [intOf]; omega⟩
          case c2a => simp [Value.oneCell']
          case c3a => unfold maxLen; omega
          case c4a => omega
          case c5a => have := HB.out; simp; omega
        ·
          go_wp2_with (at_builtin; refine wpList_append_own _ rfl _ _ 52 rfl w.heap.size 74 i0 (.int .u64 0) 1 8 Tryd.underlying52 hi0 hz0 hz1 hz2 rfl Nat.zero_lt_one u0 m xs rfl (HW.out.alloc _) ⟨wr.heap.size, 0, none⟩ 1 1 [.int .u64 (IntKind.u64.wrap (IntKind.u64.wrap (d * 16) + (c - 97 + 10)))] rfl rfl (cell_one_new _ _ _) ?c2b ?c3b ?c4b ?c5b ?_; rotate_left 4; intro v' w2 hown' hgr _; have HP := Lib.hid (append_own HW.out HWs.out HB.out hown' hgr); clear hown' hgr)
          go_at_call 88
          have HR2 := Lib.hid (readByte_any w2 b s (eofAt a) true (k + 1) (HRd.out.below HK.out.hlt HP.out.2) (by omega) (by omega) HK.out.hb (HK.out.eof (HCr.out.trans (Ch.of_below HP.out.2))) HK.out.hd)
          refine (HR2.out).mono ?_
          rintro e w3 ⟨err, ch, rfl, hat, hc⟩
          have HA := Lib.hid hat
          have HC := Lib.hid hc
          clear hat hc
          go_wp2
          refine ⟨⟨k + 1, m + 1, 0, 0, 48, by omega, by omega, HP.out.1.ch HK.out.hlt HC.out, (HCr.out.trans (Ch.of_below HP.out.2)).trans (HC.out.mono (Nat.le_trans HB.out HP.out.2.size)), rfl, by go_num, rfl, .inr rfl, rfl, rfl, rfl, by omega, (fun _ => by have := HQ.out; omega), rfl, HA.out⟩, by simp [intOf]; omega⟩
          case c2b => simp [Value.oneCell']
          case c3b => unfold maxLen; omega
          case c4b => omega
          case c5b => have := HB.out; simp; omega
      · have t1 : (((q : Int) + 1) == 16) = false := beq_eq_false_iff_ne.2 (by omega)
        have HR2 := Lib.hid (readByte_any wr b s (eofAt a) true (k + 1) HRd.out (by omega) (by omega) HK.out.hb (HK.out.eof HCr.out) HK.out.hd)
        have HB := Lib.hid hB
        have hq15 : q < 15 := by have := HQ.out; omega
        clear hB hqn
        have hdg' : (48 ≤ c ∧ c ≤ 57) ∨ (97 ≤ c ∧ c ≤ 102) := by simpa [Dg] using hdg
        clear hdg
        rcases hdg' with ⟨hc1, hc2⟩ | ⟨hc1, hc2⟩
        ·
          go_wp2_with fail
          go_at_call 88
          refine (HR2.out).mono ?_
          rintro e w3 ⟨err, ch, rfl, hat, hc⟩
          have HA := Lib.hid hat
          have HC := Lib.hid hc
          clear hat hc
          go_wp2
          refine ⟨⟨k + 1, m, q + 1, _, 48, by omega, by omega, HO.out.ch HK.out.hlt HC.out, HCr.out.trans (HC.out.mono HB.out), rfl, by go_num, rfl, .inr rfl, rfl, rfl, by go_num, by omega, (fun _ => by have := HQ.out; omega), rfl, HA.out⟩, by simp [intOf]; omega⟩
        ·
          go_wp2_with fail
          go_at_call 88
          refine (HR2.out).mono ?_
          rintro e w3 ⟨err, ch, rfl, hat, hc⟩
          have HA := Lib.hid hat
          have HC := Lib.hid hc
          clear hat hc
          go_wp2
          refine ⟨⟨k + 1, m, q + 1, _, 48, by omega, by omega, HO.out.ch HK.out.hlt HC.out, HCr.out.trans (HC.out.mono HB.out), rfl, by go_num, rfl, .inr rfl, rfl, rfl, by go_num, by omega, (fun _ => by have := HQ.out; omega), rfl, HA.out⟩, by simp [intOf]; omega⟩
    · have hsz : s.size ≤ 100000 := HK.out.hs
      have he := HK.out.eof HCr.out
      have q1 := eq_eof a
      have hB : w.heap.size ≤ wr.heap.size := HCr.out.size
      have hk0 : ((s.size : Int) == 0) = false := beq_eq_false_iff_ne.2 (by omega)
      have t1 : (pr == 95) = false := by rcases hpr with rfl | rfl <;> rfl
      have hq04 : q = 0 ∨ q = 4 := by have := HMod.out; omega
      have HRd := Lib.hid hrd
      have HB := Lib.hid hB
      clear hpr hqk hrd hB
      rcases hq04 with rfl | rfl
      · have HV := Lib.hid (reverse_any wr w.heap.size m u0 HO.out (by omega) HB.out)
        go_wp2_with fail
        go_at_call 31
        refine (HV.out).mono ?_
        rintro e w2 ⟨rfl, ho2, hb2⟩
        have HN := Lib.hid (norm_any w2 w.heap.size m u0 ho2)
        have HB2 := Lib.hid hb2
        clear ho2 hb2
        go_wp2_with fail
        go_at_call 32
        refine (HN.out).mono ?_
        rintro e w3 ⟨v, n, rfl, hn, ho3, hb3⟩
        go_wp2
        refine bodyPost_ret (v := .tuple #[v, .int .i64 16, .int .i64 s.size, .nilIface]) (by simp [results, Tryd.results27, go_sem]) rfl ⟨⟨v, n, s.size, rfl, ho3⟩, (HRd.out.below HK.out.hlt HB2.out).below HK.out.hlt hb3, (HCr.out.trans (Ch.of_below HB2.out)).trans (Ch.of_below hb3)⟩
      · have HP0 := Lib.hid (pow_any 16 12 (by omega) (by omega) wr)
        obtain ⟨xs, hown, hws⟩ := HO.out.row
        have HW := Lib.hid hown
        have HWs := Lib.hid hws
        clear hown hws
        obtain ⟨i0, hi0, hz0, hz1, hz2⟩ := info_parts Tryd.info74
        go_wp2_with fail
        go_at_call 30
        refine (HP0.out).mono ?_
        rintro e w2 ⟨y, rfl, rfl⟩
        go_wp2_with (at_builtin; refine wpList_append_own _ rfl _ _ 52 rfl w.heap.size 74 i0 (.int .u64 0) 1 8 Tryd.underlying52 hi0 hz0 hz1 hz2 rfl Nat.zero_lt_one u0 m xs rfl (HW.out.alloc _) ⟨wr.heap.size, 0, none⟩ 1 1 [.int .u64 (IntKind.u64.wrap (d * y))] rfl rfl (cell_one_new _ _ _) ?c2z ?c3z ?c4z ?c5z ?_; rotate_left 4; intro v' w2 hown' hgr _; have HP := Lib.hid (append_own HW.out HWs.out HB.out hown' hgr); clear hown' hgr)
        go_at_call 31
        have HV := Lib.hid (reverse_any w2 w.heap.size (m + 1) v' HP.out.1 (by omega) (Nat.le_trans HB.out HP.out.2.size))
        refine (HV.out).mono ?_
        rintro e w3 ⟨rfl, ho3, hb3⟩
        have HN := Lib.hid (norm_any w3 w.heap.size (m + 1) v' ho3)
        have HB3 := Lib.hid hb3
        clear ho3 hb3
        go_wp2_with fail
        go_at_call 32
        refine (HN.out).mono ?_
        rintro e w4 ⟨v4, n4, rfl, hn4, ho4, hb4⟩
        have HS := Lib.hid (rsh_any w4 w.heap.size n4 v4 ho4 (by omega) (Nat.le_trans (Nat.le_trans (Nat.le_trans HB.out HP.out.2.size) HB3.out.size) hb4.size))
        have HB4 := Lib.hid hb4
        clear ho4 hb4
        go_wp2_with fail
        go_at_call 33
        refine (HS.out).mono ?_
        rintro e w5 ⟨v5, n5, rfl, hn5, ho5, hb5⟩
        go_wp2
        have hbb := ((HP.out.2.trans HB3.out).trans HB4.out).trans hb5
        refine bodyPost_ret (v := .tuple #[v5, .int .i64 16, .int .i64 s.size, .nilIface]) (by simp [results, Tryd.results27, go_sem]) rfl ⟨⟨v5, n5, s.size, rfl, ho5⟩, HRd.out.below HK.out.hlt hbb, HCr.out.trans (Ch.of_below hbb)⟩
        case c2z => simp [Value.oneCell']
        case c3z => unfold maxLen; omega
        case c4z => omega
        case c5z => have := HB.out; simp; omega
end Go.Proofs.YtmiedehknjidkaaDoor

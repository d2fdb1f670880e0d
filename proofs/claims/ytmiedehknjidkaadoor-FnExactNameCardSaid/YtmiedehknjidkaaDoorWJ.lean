/-
  nat.scan at the base 10 over digits, in seat D.
-/
import Derived.Test.YtmiedehknjidkaaDoorWI
import Derived.Test.YtmiedehknjidkaaDoorWG
import Derived.LaidEql
namespace Go.Proofs.YtmiedehknjidkaaDoor
open Go.RowKit

/-- io.EOF as a value -/
abbrev eofAt (a : Addr) : Value := .iface 102 (.pointer (some a))

theorem facts102 : ∃ (ms : Array (String × TypeId)) (i j : TypeInfo), Tryd.prog.underlying 62 = some (.interface ms) ∧ Tryd.prog.info? 102 = some i ∧ i.comparable = true ∧ Tryd.prog.info? 132 = some j := by
  have h2 : ((Tryd.prog.info? 102).filter (·.comparable)).isSome = true := by kernel_rfl
  have h5 : (Tryd.prog.info? 132).isSome = true := by kernel_rfl
  obtain ⟨i, hi⟩ := Option.isSome_iff_exists.1 h2
  obtain ⟨j, hj⟩ := Option.isSome_iff_exists.1 h5
  exact ⟨_, i, j, Tryd.underlying62, (Option.filter_eq_some_iff.1 hi).1, (Option.filter_eq_some_iff.1 hi).2, hj⟩

theorem eq_eof (a : Addr) (w : World) : (binOp .eql 62 (.iface 102 (.pointer (some a))) (.iface 102 (.pointer (some a)))).run Tryd.prog w = .ok (.bool true) w := by
  obtain ⟨ms, i, j, h1, h3, h4, h5⟩ := facts102
  exact run_eql_iface_ptr_same w a h1 Tryd.underlying102 h3 h4 h5

theorem ne_eof (a : Addr) (w : World) : (binOp .neq 62 (.iface 102 (.pointer (some a))) (.iface 102 (.pointer (some a)))).run Tryd.prog w = .ok (.bool false) w := by
  obtain ⟨ms, i, j, h1, h3, h4, h5⟩ := facts102
  simp only [binOp]
  simp [Op.equal, Op.maxDepth, run_equalIn_iface_ptr_same w 9998 a h1 Tryd.underlying102 h3 h4 h5]

/-- a digit -/
def Dg (hex : Bool) (c : Int) : Prop := (48 ≤ c ∧ c ≤ 57) ∨ (hex = true ∧ 97 ≤ c ∧ c ≤ 102)

/-- k digits have been taken: the reader has handed out the next one, or told that there is none -/
def At (w : World) (b : Nat) (s : ByteArray) (eof : Value) (hex : Bool) (k : Nat) (err ch : Value) : Prop :=
  (k < s.size ∧ err = .nilIface ∧ (∃ c : Int, ch = .int .u8 c ∧ Dg hex c) ∧ Rd w b s (k + 1)) ∨ (k = s.size ∧ err = eof ∧ ch = .int .u8 0 ∧ Rd w b s s.size)

/-- what ReadByte tells -/
def ReadOut (b : Nat) (s : ByteArray) (eof : Value) (hex : Bool) (k : Nat) (w : World) (e : Ending) (w' : World) : Prop :=
  ∃ err ch, e = .returned (.tuple #[ch, err]) ∧ At w' b s eof hex k err ch ∧ Ch w.heap.size b b w w'

theorem readByte_any (w : World) (b : Nat) (s : ByteArray) (eof : Value) (hex : Bool) (k : Nat) (h : Rd w b s k) (hk : k ≤ s.size) (hs : s.size ≤ 1000000) (hb : b ≠ 0) (he : w.cell? ⟨0, 0, none⟩ = some eof)
    (hd : ∀ i (h : i < s.size), Dg hex s[i].toNat) : Calls Tryd.prog 88 #[.pointer (some ⟨b, 0, none⟩)] w (ReadOut b s eof hex k w) := by
  by_cases hlt : k < s.size
  · exact (readByte_some w b s k h hlt hs).mono fun e w' ⟨h1, h2, h3⟩ => ⟨_, _, h1, .inl ⟨hlt, rfl, ⟨_, rfl, hd k hlt⟩, h2⟩, h3⟩
  · have : k = s.size := by omega
    subst this
    exact (readByte_end w b s s.size h (Nat.le_refl _) hb eof he).mono fun e w' ⟨h1, h2, h3⟩ => ⟨_, _, h1, .inr ⟨rfl, rfl, rfl, h2⟩, h3⟩

theorem Rd.lt {w : World} {b : Nat} {s : ByteArray} {i : Nat} (h : Rd w b s i) : b < w.heap.size := by
  obtain ⟨p, h⟩ := h
  exact (Array.getElem?_eq_some_iff.1 h).1
theorem Rd.below {w w' : World} {B b : Nat} {s : ByteArray} {i : Nat} (h : Rd w b s i) (hb : b < B) (hw : Below B w w') : Rd w' b s i := by
  obtain ⟨p, h⟩ := h
  exact ⟨p, (hw.block b hb).trans h⟩
theorem Ch.cell {B a b : Nat} {w w' : World} (h : Ch B a b w w') {p : Addr} (hp : p.block < B) (ha : p.block ≠ a) (hb : p.block ≠ b) : w'.cell? p = w.cell? p :=
  World.cell?_of_block (h.block _ hp ha hb)
theorem cell_lt {w : World} {p : Addr} {v : Value} (h : w.cell? p = some v) : p.block < w.heap.size := World.block_lt_of_cell? w p h
theorem OwnN.ch {w w' : World} {B b m : Nat} {v : Value} (h : OwnN w B v m) (hb : b < B) (hc : Ch w.heap.size b b w w') : OwnN w' B v m := by
  rcases h with h | ⟨g, cap, cur, h1, hg, hn, hr⟩
  · exact .inl h
  · refine .inr ⟨g, cap, cur, h1, hg, hn, ⟨?_, hr.size, hr.small, hr.words⟩⟩
    have hlt : g < w.heap.size := (Array.getElem?_eq_some_iff.1 hr.at_).1
    exact (hc.block g hlt (by omega) (by omega)).trans hr.at_

/-- the state of the scanner's loop -/
def ScanRel (W : World) (b : Nat) (s : ByteArray) (eof : Value) (hex : Bool) (z c3 cnt err pv inv ch di i dp : Value) (wr : World) : Prop :=
  ∃ (k m q : Nat) (d pr : Int), k ≤ s.size ∧ m ≤ k ∧ OwnN wr W.heap.size z m ∧ Ch W.heap.size b b W wr ∧ c3 = .bool false ∧ cnt = .int .i64 k ∧ pv = .int .i32 pr ∧ (pr = 46 ∨ pr = 48) ∧ inv = .bool false ∧
    di = .int .u64 d ∧ i = .int .i64 q ∧ q ≤ k ∧ (hex = true → q = k % 16) ∧ dp = .int .i64 (-1) ∧ At wr b s eof hex k err ch

/-- what is kept from the walk of the scanner's loop -/
structure Kit (W : World) (b : Nat) (s : ByteArray) (eof : Value) (hex : Bool) : Prop where
  hs : s.size ≤ 100000
  hb : b ≠ 0
  hlt : b < W.heap.size
  he : W.cell? ⟨0, 0, none⟩ = some eof
  hd : ∀ i (h : i < s.size), Dg hex s[i].toNat

theorem Kit.eof {W wr : World} {b : Nat} {s : ByteArray} {eof : Value} {hex : Bool} (K : Kit W b s eof hex) (h : Ch W.heap.size b b W wr) : wr.cell? ⟨0, 0, none⟩ = some eof :=
  (h.cell (cell_lt K.he) (Ne.symm K.hb) (Ne.symm K.hb)).trans K.he

set_option maxRecDepth 100000 in
set_option maxHeartbeats 1000000 in
theorem scan_ten (w : World) (b : Nat) (s : ByteArray) (a : Addr) (h : Rd w b s 0) (hi : 0 < s.size) (K : Kit w b s (eofAt a) false) :
    Calls Tryd.prog 27 #[.slice none 0 0, .iface 57 (.pointer (some ⟨b, 0, none⟩)), .int .i64 10, .bool false] w fun e w' =>
      (∃ v n cnt, e = .returned (.tuple #[v, .int .i64 10, .int .i64 cnt, .nilIface]) ∧ OwnN w' w.heap.size v n) ∧ Rd w' b s s.size ∧ Ch w.heap.size b b w w' := by
  have HR := Lib.hid (readByte_any w b s (eofAt a) false 0 h (Nat.zero_le _) (by have := K.hs; omega) K.hb K.he K.hd)
  have m1 := method_read
  have HK := Lib.hid K
  clear h K
  go_enter Tryd.func27, Tryd.ntmps27
  go_wp2_with fail
  go_at_call 88
  refine (HR.out).mono ?_
  rintro e w1 ⟨err, ch, rfl, hat, hc⟩
  have HA := Lib.hid hat
  have HC := Lib.hid hc
  clear hat hc
  go_wp2_with fail
  go_at_call 28
  refine (maxPow_ten _).mono ?_
  rintro e w2 ⟨p, n, rfl, hp, hn1, hn2, rfl⟩
  go_wp2_with fail
  go_loopw [0, 3, 10, 11, 13, 14, 15, 20, 21, 22] (fun z c3 cnt err pv inv ch di i dp wr => ScanRel w b s (eofAt a) false z c3 cnt err pv inv ch di i dp wr) (fun _ _ cnt _ _ _ _ _ _ _ _ => s.size - (intOf cnt).toNat)
  case atStart => exact ⟨0, 0, 0, 0, 46, by omega, by omega, .inl ⟨rfl, rfl⟩, HC.out, rfl, rfl, rfl, .inl rfl, rfl, rfl, rfl, by omega, (fun h => by cases h), rfl, HA.out⟩
  case round =>
    obtain ⟨k, m, q, d, pr, hk, hm, ho, hc, rfl, rfl, rfl, hpr, rfl, rfl, rfl, hq, _, rfl, hat⟩ := hrel
    have HO := Lib.hid ho
    have HCr := Lib.hid hc
    clear ho hc HA HC
    rcases hat with ⟨hlt, rfl, ⟨c, rfl, hdg⟩, hrd⟩ | ⟨rfl, rfl, rfl, hrd⟩
    · have HRd := Lib.hid hrd
      have hc1 : 48 ≤ c ∧ c ≤ 57 := by simpa [Dg] using hdg
      obtain ⟨hc1, hc2⟩ := hc1
      have hsz : s.size ≤ 100000 := HK.out.hs
      clear hrd hdg
      have hB : w.heap.size ≤ wr.heap.size := HCr.out.size
      by_cases hqn : (q : Int) + 1 = n
      · have HM := Lib.hid (fun r => mulAddWW_any wr w.heap.size m u0 p r HO.out hB (by omega))
        have HB := Lib.hid hB; clear hB
        go_wp2_with fail
        go_at_call 29
        refine (HM.out _).mono ?_
        rintro e w2 ⟨v, n', rfl, hn', ho', hbel⟩
        have HR2 := Lib.hid (readByte_any w2 b s (eofAt a) false (k + 1) (HRd.out.below HK.out.hlt hbel) (by omega) (by omega) HK.out.hb (HK.out.eof (HCr.out.trans (Ch.of_below hbel))) HK.out.hd)
        have HO' := Lib.hid ho'
        have HBel := Lib.hid hbel
        clear ho' hbel
        go_wp2_with fail
        go_at_call 88
        refine (HR2.out).mono ?_
        rintro e w3 ⟨err, ch, rfl, hat, hc⟩
        have HA := Lib.hid hat
        have HC := Lib.hid hc
        clear hat hc
        go_wp2
        refine ⟨⟨k + 1, n', 0, 0, 48, by omega, by omega, HO'.out.ch HK.out.hlt HC.out, (HCr.out.trans (Ch.of_below HBel.out)).trans (HC.out.mono (Nat.le_trans HB.out HBel.out.size)), rfl, by go_num, rfl, .inr rfl, rfl, rfl, rfl, by omega, (fun h => by cases h), rfl, HA.out⟩, by simp [intOf]; omega⟩
      · have t1 : (((q : Int) + 1) == n) = false := by simpa using hqn
        have HR2 := Lib.hid (readByte_any wr b s (eofAt a) false (k + 1) HRd.out (by omega) (by omega) HK.out.hb (HK.out.eof HCr.out) HK.out.hd)
        have HB := Lib.hid hB; clear hB
        clear hqn
        go_wp2_with fail
        go_at_call 88
        refine (HR2.out).mono ?_
        rintro e w3 ⟨err, ch, rfl, hat, hc⟩
        have HA := Lib.hid hat
        have HC := Lib.hid hc
        clear hat hc
        go_wp2
        refine ⟨⟨k + 1, m, q + 1, _, 48, by omega, by omega, HO.out.ch HK.out.hlt HC.out, HCr.out.trans (HC.out.mono HB.out), rfl, by go_num, rfl, .inr rfl, rfl, rfl, by go_num, by omega, (fun h => by cases h), rfl, HA.out⟩, by simp [intOf]; omega⟩
    · have hsz : s.size ≤ 100000 := HK.out.hs
      have he := HK.out.eof HCr.out
      have q1 := eq_eof a
      have hB : w.heap.size ≤ wr.heap.size := HCr.out.size
      have hk0 : ((s.size : Int) == 0) = false := beq_eq_false_iff_ne.2 (by omega)
      have t1 : (pr == 95) = false := by rcases hpr with rfl | rfl <;> rfl
      have t2 : (p == 0) = false := by simp; omega
      clear hpr
      by_cases hq0 : q = 0
      · subst hq0
        go_wp2
        refine bodyPost_ret (v := .tuple #[u0, .int .i64 10, .int .i64 s.size, .nilIface]) (by simp [results, Tryd.results27, go_sem]) rfl ⟨⟨u0, m, s.size, rfl, HO.out⟩, hrd, HCr.out⟩
      · have hq1 : (0 : Int) < (q : Int) := by omega
        have hq2 : (q : Int) ≤ 9223372036854775807 := by omega
        have HP := Lib.hid (pow_any 10 q (by omega) hq2 wr)
        have HM := Lib.hid (fun y r => mulAddWW_any wr w.heap.size m u0 y r HO.out hB (by omega))
        have HB := Lib.hid hB
        have HRd := Lib.hid hrd
        clear hB hrd
        go_wp2_with fail
        go_at_call 30
        refine (HP.out).mono ?_
        rintro e w2 ⟨y, rfl, rfl⟩
        go_wp2_with fail
        go_at_call 29
        refine (HM.out _ _).mono ?_
        rintro e w2 ⟨v, n', rfl, hn', ho', hbel⟩
        have HO' := Lib.hid ho'
        have HBel := Lib.hid hbel
        clear ho' hbel
        go_wp2
        refine bodyPost_ret (v := .tuple #[v, .int .i64 10, .int .i64 s.size, .nilIface]) (by simp [results, Tryd.results27, go_sem]) rfl ⟨⟨v, n', s.size, rfl, HO'.out⟩, HRd.out.below HK.out.hlt HBel.out, HCr.out.trans (Ch.of_below HBel.out)⟩
end Go.Proofs.YtmiedehknjidkaaDoor

/-
  The law FnExactName answers true at every curve, and its argument and the package's errors read as before: the given statement, and its tied card.
  Its one condition is the row's own: io.EOF and the two errors of the package are what the program's initialisers lay.
-/
import Derived.Test.YtmiedehknjidkaaDoorCards
import Derived.Test.YtmiedehknjidkaaDoorTie
import Derived.Test.YtmiedehknjidkaaDoorWO
import Derived.ProofKit
import Derived.OpenShut
import Derived.Deep.DeepHandedRow
import Derived.Stop.LaidErr
import Derived.MakeChecks
namespace Go.Proofs.YtmiedehknjidkaaDoor
open Go.ChangeShapes Go.WideShapes Go.ChangeAt Go.RowKit

theorem own : ownKnob Tryd.prog.godebug = none := by kernel_rfl
theorem gEof : Tryd.prog.globalNamed "io.EOF" = some 0 := by kernel_rfl
theorem gSep : Tryd.prog.globalNamed "loop.example/pub-blindedinputs/pub/bigall.errInvalSep" = some 1 := by kernel_rfl
theorem gDig : Tryd.prog.globalNamed "loop.example/pub-blindedinputs/pub/bigall.errNoDigits" = some 2 := by kernel_rfl
theorem tEof : (Tryd.prog.globals[0]?).map (·.type) = some 62 := by kernel_rfl
theorem tSep : (Tryd.prog.globals[1]?).map (·.type) = some 62 := by kernel_rfl
theorem tDig : (Tryd.prog.globals[2]?).map (·.type) = some 62 := by kernel_rfl
theorem cells132 : Tryd.prog.cellsOf 132 = 1 := by kernel_rfl
theorem cells9 : Tryd.prog.cellsOf 9 = 1 := by kernel_rfl
theorem star : "*" ++ "errors.errorString" = "*errors.errorString" := by decide
theorem row102 (u : TypeId) (h : Tryd.prog.typeName? 3 u = some "*errors.errorString") : u = 102 :=
  typeName_ptr_named (nm := "errors.errorString") (by rw [star]; kernel_rfl) (by kernel_rfl) (by decide) u (by rw [star]; exact h)

/-- what the row's list gives: each of the three variables holds an error of errors.New -/
theorem sentinels {W : World} (h : laidMetH Tryd.prog Rows.fnExactNameRow.laid W) : ∃ a0 a1 a2 : Addr,
    W.var? Tryd.prog "io.EOF" = some #[.iface 102 (.pointer (some a0))] ∧
    W.var? Tryd.prog "loop.example/pub-blindedinputs/pub/bigall.errInvalSep" = some #[.iface 102 (.pointer (some a1))] ∧
    W.var? Tryd.prog "loop.example/pub-blindedinputs/pub/bigall.errNoDigits" = some #[.iface 102 (.pointer (some a2))] := by
  rw [Go.MakeChecks.laidMetH_plain _ _ _ (by kernel_rfl)] at h
  obtain ⟨a0, _, h0, _⟩ := laid_sentinel h gEof tEof Tryd.underlying62 row102 Tryd.underlying102 Tryd.underlying132 rfl rfl Tryd.underlying9 cells132 cells9
  obtain ⟨a2, _, h2, _⟩ := laid_sentinel h.tail gDig tDig Tryd.underlying62 row102 Tryd.underlying102 Tryd.underlying132 rfl rfl Tryd.underlying9 cells132 cells9
  obtain ⟨a1, _, h1, _⟩ := laid_sentinel h.tail.tail gSep tSep Tryd.underlying62 row102 Tryd.underlying102 Tryd.underlying132 rfl rfl Tryd.underlying9 cells132 cells9
  exact ⟨a0, a1, a2, h0, h1, h2⟩

theorem var_below {W W' : World} {n : String} {g : Nat} {cs : Array Value} (hg : Tryd.prog.globalNamed n = some g) (h : W.var? Tryd.prog n = some cs) (hb : Below W.heap.size W W') : W'.var? Tryd.prog n = some cs := by
  unfold World.var? at h ⊢
  simp only [hg, Option.bind_some] at h ⊢
  have hlt : g < W.heap.size := by
    rcases Nat.lt_or_ge g W.heap.size with h' | h'
    · exact h'
    · simp [Array.getElem?_eq_none h'] at h
  rw [hb.block g hlt]
  exact h

set_option maxRecDepth 100000 in
theorem contract (H : Type) (enc : TypeId × Value → H) (W : World) (base : Nat) (args : Array Value) (ds gs : List (DataW H)) (before : List MemPlace)
    (hval : ∀ (j : Nat) t v, Tryd.f3.params[j]? = some t → args[j]? = some v → Value.okWide Tryd.prog W .any base t v)
    (hW : DataW.Whole enc Tryd.prog Tryd.f3.params.toList Rows.fnExactNameSpec.vars false W args.toList ds gs before) (hL : laidMetH Tryd.prog Rows.fnExactNameRow.laid W) :
    Calls Tryd.prog 3 args W fun e W' => ∃ v, e = .returned v ∧ Rows.fnExactNameSpec.post enc Tryd.prog Tryd.f3 false true false false W args v W' := by
  have hW' := hW
  obtain ⟨p, q, hA0, hV0, rfl, hfz, hnd⟩ := hW
  have hA : DataW.TrodAll enc Tryd.prog W 0 (fun _ => true) true Tryd.f3.params.toList args.toList ds p := hA0
  have hV : DataW.TrodVars enc Tryd.prog W (fun _ => true) ["loop.example/pub-blindedinputs/pub/bigall.errInvalSep", "loop.example/pub-blindedinputs/pub/bigall.errNoDigits"] gs q := hV0
  rw [Tryd.params3] at hA hval
  obtain ⟨v0, vs0, d0, ds0, p0, q0, hargs, rfl, rfl, h0, r0⟩ := trodAll_cons hA
  obtain ⟨rfl, rfl, rfl⟩ := trodAll_nil r0
  obtain rfl : args = #[v0] := by cases args; simp_all
  obtain ⟨a0, a1, a2, e0, e1, e2⟩ := sentinels hL
  obtain ⟨rfl, rfl⟩ := hV.unique (vars_read2 enc gSep tSep Tryd.underlying62 e1 trivial gDig tDig Tryd.underlying62 e2 trivial _)
  obtain ⟨k, rfl, rfl, rfl, wk⟩ := open_int Tryd.underlying3 (hval 0 3 v0 rfl rfl) h0
  clear hA0 hV0
  have c0 : W.cell? ⟨0, 0, none⟩ = some (eofAt a0) := by simpa using World.var?_cell gEof e0 0
  refine (law_any k W a0 c0).mono fun e W' ⟨he, hb⟩ => ?_
  subst he
  have es : Rows.fnExactNameSpec.fn H ([.lit (.int .i64 k)] ++ [tok enc (.iface 102 (.pointer (some a1))), tok enc (.iface 102 (.pointer (some a2)))]) =
      { results := [.lit (.bool true)], args := [.lit (.int .i64 k)], vars := [tok enc (.iface 102 (.pointer (some a1))), tok enc (.iface 102 (.pointer (some a2)))] } := rfl
  refine ⟨_, rfl, _, _, _, [], [], [.cell 1 0, .cell 2 0], hW', ?_, ?_, ?_, hb.frame _, fun h => by cases h⟩
  · rw [es]; exact trodAll_cons_mk (shut_bool Tryd.underlying4 _) trodAll_mk0
  · rw [es]; exact trodAll_cons_mk (shut_int Tryd.underlying3 wk) trodAll_mk0
  · rw [es]; exact vars_read2 enc gSep tSep Tryd.underlying62 (var_below gSep e1 hb) trivial gDig tDig Tryd.underlying62 (var_below gDig e2 hb) trivial _

abbrev eofS : ByteArray := ⟨#[69, 79, 70]⟩
abbrev digS : ByteArray := ⟨#[110, 117, 109, 98, 101, 114, 32, 104, 97, 115, 32, 110, 111, 32, 100, 105, 103, 105, 116, 115]⟩
abbrev sepS : ByteArray := ⟨#[39, 95, 39, 32, 109, 117, 115, 116, 32, 115, 101, 112, 97, 114, 97, 116, 101, 32, 115, 117, 99, 99, 101, 115, 115, 105, 118, 101, 32, 100, 105, 103, 105, 116, 115]⟩
noncomputable def low : Nat := (World.holding Tryd.prog default ⟨#[], #[], []⟩).heap.size

/-- a world for the witness: the settled one, the three errors as their initialisers lay them -/
noncomputable def laidWorld (os : Os) : World :=
  let w0 := World.holding Tryd.prog os ⟨#[.cells #[.string eofS] 132, .cells #[.string digS] 132, .cells #[.string sepS] 132], #[], []⟩
  { w0 with heap := ((w0.heap.modify 0 fun
      | .cells _ t frozen => .cells #[.iface 102 (.pointer (some ⟨low, 0, none⟩))] t frozen
      | o => o).modify 2 fun
      | .cells _ t frozen => .cells #[.iface 102 (.pointer (some ⟨low + 1, 0, none⟩))] t frozen
      | o => o).modify 1 fun
      | .cells _ t frozen => .cells #[.iface 102 (.pointer (some ⟨low + 2, 0, none⟩))] t frozen
      | o => o }

theorem laid_met (os : Os) : laidMetH Tryd.prog Rows.fnExactNameRow.laid ((laidWorld os).forCall (fun _ _ => 0) ⟨#[], #[.int .i64 0], []⟩).memory := by
  rw [Go.MakeChecks.laidMetH_plain _ _ _ (by kernel_rfl)]
  exact laidMet_of_run' 8 (by kernel_rfl) (by kernel_rfl)

theorem reads (os : Os) {H : Type} (enc : TypeId × Value → H) : ∃ gs places, DataW.whole enc Tryd.prog ((laidWorld os).forCall (fun _ _ => 0) ⟨#[], #[.int .i64 0], []⟩).memory Tryd.f3.params.toList Rows.fnExactNameSpec.vars false #[Value.int .i64 0].toList 8 = some ([.lit (.int .i64 0)], gs, places) :=
  ⟨[tok enc (.iface 102 (.pointer (some ⟨low + 2, 0, none⟩))), tok enc (.iface 102 (.pointer (some ⟨low + 1, 0, none⟩)))], [.cell 1 0, .cell 2 0], by kernel_rfl⟩

set_option maxRecDepth 100000 in
theorem lifted (os : Os) (started : os.Started) (H : Type) (enc : TypeId × Value → H) (F : Stop.Interp) :
    ReturnsInHanded {} Tryd.checked os 3 .any ((OpenSpec.ofChange Rows.fnExactNameSpec).preRow enc Tryd.prog Tryd.f3 Rows.fnExactNameRow.domain false Rows.fnExactNameRow.laid) (((OpenSpec.ofChange Rows.fnExactNameSpec).at F).post enc Tryd.prog Tryd.f3 false true false false) := by
  obtain ⟨gs, places, hx⟩ := reads os enc
  refine returnsInHanded_of_row (C := Tryd.checked) (s := OpenSpec.ofChange Rows.fnExactNameSpec) own started (by kernel_rfl) Tryd.func3
    (witness_row_at (enc := enc) (C := Tryd.checked) false (laidWorld os) #[.int .i64 0] rfl (by kernel_rfl) (by kernel_rfl) (by kernel_rfl)
      (OpenSpec.preRow_of_cond 8 hx (by rfl) (fun k hk => by cases hk) (by kernel_rfl) (laid_met os))) ?_
  intro W base args ds gs before hval hW _ _ _ hL _ _
  exact contract H enc W base args ds gs before hval hW hL

set_option maxRecDepth 100000 in
theorem said : Rows.FnExactNameSaid :=
  OpenClaim.holds_of_cond 3 Tryd.f3 rfl rfl rfl rfl rfl rfl rfl ⟨rfl, rfl, rfl, rfl, rfl⟩ rfl rfl rfl rfl rfl (by kernel_rfl) Tryd.func3 (by kernel_rfl)
    (of_decide_eq_true (by kernel_rfl)) (by unfold Func.isWrapper; first | (rw [if_pos (by decide +kernel)]; kernel_rfl) | (rw [if_neg (by decide +kernel)]; exact ⟨rfl, rfl⟩))
    (fun os started H enc _ F => by rw [OpenClaim.pre_eq_preRow]; exact lifted os started H enc F)

/-- no parameter wants a stand-in; the program's own looks are on: what the card asks -/
theorem plain (f : FuncId) (fn : Func) (hf : Tryd.pinned.checked.prog.funcNamed "loop.example/pub-blindedinputs/laws.FnExactName" = some f) (hfn : Tryd.pinned.checked.prog.funcs[f]? = some fn) :
    true = Tryd.pinned.checked.prog.looks [] ∧ ∀ (j : Nat) t, fn.params[j]? = some t → Tryd.pinned.checked.prog.wantsStandIn t = false := by
  obtain rfl : f = 3 := Option.some.inj ((show Tryd.prog.funcNamed "loop.example/pub-blindedinputs/laws.FnExactName" = some 3 by kernel_rfl).symm.trans hf) |>.symm
  obtain rfl : fn = Tryd.f3 := (Option.some.inj (Tryd.func3.symm.trans hfn)).symm
  refine ⟨by kernel_rfl, fun j t ht => ?_⟩
  rw [Tryd.params3] at ht
  obtain rfl : t = 3 := by simpa using Array.mem_of_getElem? ht
  exact (show Tryd.prog.wantsStandIn 3 = false by kernel_rfl)

/-- the tied card of the law -/
theorem card : Rows.FnExactNameCardSaid :=
  Claim7.holds_tied_plain_at .later [] _ _ _ _ said (fun _ h => by cases h) (by kernel_rfl) (fun _ h => by cases h) fnExactName_row_tie rfl ⟨rfl, rfl⟩ (by kernel_rfl) rfl plain (by kernel_rfl)
#print axioms card
end Go.Proofs.YtmiedehknjidkaaDoor

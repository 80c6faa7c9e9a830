/-
  FROM WHAT THE ROWS LIST TO WHAT THE WALKS ASK; the start that fits; an array of three integers as a parameter.
-/
import Derived.Test.Qxb6601124aDoorRows
import Derived.Test.Qxb6601124aDoorWalkL
import Derived.ProofKit
import Derived.LaidMore
import Derived.OpenShut
import Derived.ShutString
import Derived.ChangeOld
import Derived.Below
import Derived.Carry
import Derived.Stop.Joined
import Derived.Stop.LaidErr
import Derived.Lib.LaidTab
namespace Go.Proofs.Qxb6601124aDoor
open Go.ChangeShapes Go.WideShapes Go.ChangeAt Go.RowKit
set_option linter.unusedSimpArgs false
set_option linter.unusedVariables false
set_option linter.constructorNameAsVariable false

theorem own : ownKnob Tryd.prog.godebug = none := by kernel_rfl
theorem laidOut : laidOutB Tryd.prog = true := by kernel_rfl

def laid5 : List (String × DataW Unit) := Rows.fnMacPlatformsMatchClosedFormRow.laid

/-- The door's own heap meets the condition. -/
theorem door_met (os : Os) (args : Array Value) : laidMetH Tryd.prog laid5 ((World.doorLaid Tryd.prog 400 os).forCall (fun _ _ => 0) ⟨#[], args, []⟩).memory :=
  laidMetH_of_parts3 (fuel := 8) (laidMet_of_run' 8 (by kernel_rfl) (by kernel_rfl)) (by kernel_rfl) (by kernel_rfl)

theorem gSyn : Tryd.prog.globalNamed "strconv.ErrSyntax" = some 1 := by kernel_rfl
theorem gRan : Tryd.prog.globalNamed "strconv.ErrRange" = some 2 := by kernel_rfl
theorem tSyn : (Tryd.prog.globals[1]?).map (·.type) = some 76 := by kernel_rfl
theorem tRan : (Tryd.prog.globals[2]?).map (·.type) = some 76 := by kernel_rfl
theorem tPow : (Tryd.prog.globals[5]?).map (·.type) = some 130 := by kernel_rfl
theorem cells128 : Tryd.prog.cellsOf 128 = 1 := by kernel_rfl
theorem cells9 : Tryd.prog.cellsOf 9 = 1 := by kernel_rfl
theorem cells80 : Tryd.prog.cellsOf 80 = 1 := by kernel_rfl
theorem cells130 : Tryd.prog.cellsOf 130 = 20 := by kernel_rfl
def errName : String := match (Rows.laid_strconv_ErrRange (H := Unit)) with | .iface n _ => n | _ => ""
theorem row126 (u : TypeId) (h : Tryd.prog.typeName? 3 u = some errName) : u = 126 :=
  typeName_ptr_named (nm := "errors.errorString") (by kernel_rfl) (by kernel_rfl) (by decide) u (h.trans (congrArg some (by decide)))

/-- WHAT THE CONDITION GIVES THE WALKS. -/
theorem env_of_laid {W : World} (h : laidMetH Tryd.prog laid5 W) : Env W := by
  rw [MakeChecks.laidMetH_plain _ _ _ (by kernel_rfl)] at h
  have h2 := h.tail.tail
  have hT : Lib.TabIs Tryd.prog W powName .u64 Lib.pow10Tab := Lib.tabIs_of_head pow10At tPow Tryd.underlying130 Tryd.underlying80 cells80 cells130 h2
  obtain ⟨a3, s3, hv3, -, -, -⟩ := laid_sentinel h2.tail gRan tRan Tryd.underlying76 row126 Tryd.underlying126 Tryd.underlying128 rfl rfl Tryd.underlying9 cells128 cells9
  obtain ⟨a4, s4, hv4, -, -, -⟩ := laid_sentinel h2.tail.tail gSyn tSyn Tryd.underlying76 row126 Tryd.underlying126 Tryd.underlying128 rfl rfl Tryd.underlying9 cells128 cells9
  exact ⟨hT, ⟨_, _, by have h0 := World.var?_cell gSyn hv4 0; simpa using h0⟩, ⟨_, _, by have h0 := World.var?_cell gRan hv3 0; simpa using h0⟩⟩

theorem cells40 : Tryd.prog.cellsOf 40 = 3 := by kernel_rfl
theorem cells3 : Tryd.prog.cellsOf 3 = 1 := by kernel_rfl

/-- A parameter of type [3]int. -/
theorem open_three {H : Type} {enc : TypeId × Value → H} {W : World} {r : Reach} {b0 base : Nat} {sp : Nat → Bool} {held : Bool} {v : Value} {d : DataW H} {ps : List MemPlace} (hval : Value.okWide Tryd.prog W r b0 40 v) (hd : DataW.Trod enc Tryd.prog W base sp held 40 v d ps) :
    ∃ v0 v1 v2 : Int, v = .agg #[.int .i64 v0, .int .i64 v1, .int .i64 v2] := by
  have hu : Tryd.prog.underlying 40 = some (.array 3 3) := Tryd.underlying40
  simp only [Value.okWide, hu] at hval
  obtain ⟨cs, rfl, hsz, _⟩ := hval
  rw [cells40] at hsz
  obtain ⟨fuel, hf⟩ := hd
  obtain ⟨xs, m, _, _, _, hxl, hel⟩ := DataW.trod_array hu hf
  rw [cells3] at hel
  obtain ⟨l⟩ := cs
  match l, hsz with
  | [c0, c1, c2], _ =>
    match xs, hxl with
    | [x0, x1, x2], _ =>
      have e0 := hel 0 (by decide)
      have e1 := hel 1 (by decide)
      have e2 := hel 2 (by decide)
      obtain ⟨n0, k0, _, _⟩ := DataW.trod_int Tryd.underlying3 (show _ = some x0 from e0)
      obtain ⟨n1, k1, _, _⟩ := DataW.trod_int Tryd.underlying3 (show _ = some x1 from e1)
      obtain ⟨n2, k2, _, _⟩ := DataW.trod_int Tryd.underlying3 (show _ = some x2 from e2)
      simp [Value.cells] at k0 k1 k2
      exact ⟨n0, n1, n2, by rw [k0, k1, k2]⟩
end Go.Proofs.Qxb6601124aDoor

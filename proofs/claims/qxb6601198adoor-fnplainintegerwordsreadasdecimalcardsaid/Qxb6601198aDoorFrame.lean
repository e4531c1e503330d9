import Derived.Test.Qxb6601198aDoorRows
import Derived.Test.Qxb6601198aDoorWalkC
import Derived.ProofKit
import Derived.LaidMore
import Derived.OpenShut
import Derived.ShutString
import Derived.Stop.Joined
import Derived.Stop.LaidErr
namespace Go.Proofs.Qxb6601198aDoor
open Go.ChangeShapes Go.WideShapes Go.ChangeAt Go.RowKit

theorem own : ownKnob Tryd.prog.godebug = none := by kernel_rfl
theorem laidOut : laidOutB Tryd.prog = true := by kernel_rfl

/-- The five listed variables, as the rows list them. -/
def laid5 {H : Type} : List (String × DataW H) := [("math/bits.deBruijn32tab", Rows.laid_math_bits_deBruijn32tab), ("math/bits.deBruijn64tab", Rows.laid_math_bits_deBruijn64tab), ("internal/strconv.uint64pow10", Rows.laid_internal_strconv_uint64pow10), ("strconv.ErrRange", Rows.laid_strconv_ErrRange), ("strconv.ErrSyntax", Rows.laid_strconv_ErrSyntax)]

theorem gES : Tryd.prog.globalNamed "strconv.ErrSyntax" = some 0 := by kernel_rfl
theorem gER : Tryd.prog.globalNamed "strconv.ErrRange" = some 1 := by kernel_rfl
theorem tES : (Tryd.prog.globals[0]?).map (·.type) = some 48 := by kernel_rfl
theorem tER : (Tryd.prog.globals[1]?).map (·.type) = some 48 := by kernel_rfl
theorem cells72 : Tryd.prog.cellsOf 72 = 1 := by kernel_rfl
theorem cells9 : Tryd.prog.cellsOf 9 = 1 := by kernel_rfl
theorem star : "*" ++ "errors.errorString" = "*errors.errorString" := by decide
theorem row70 (u : TypeId) (h : Tryd.prog.typeName? 3 u = some "*errors.errorString") : u = 70 :=
  typeName_ptr_named (nm := "errors.errorString") (by rw [star]; kernel_rfl) (by kernel_rfl) (by decide) u (by rw [star]; exact h)

/-- What the listed variables give the walks. -/
theorem of_laid {W : World} (h : laidMetH Tryd.prog laid5 W) : Gl W := by
  rw [MakeChecks.laidMetH_plain _ _ _ (by kernel_rfl)] at h
  have h3 := h.tail.tail.tail
  obtain ⟨a1, s1, hv1, -, -, -⟩ := laid_sentinel h3 gER tER Tryd.underlying48 row70 Tryd.underlying70 Tryd.underlying72 rfl rfl Tryd.underlying9 cells72 cells9
  obtain ⟨a0, s0, hv0, -, -, -⟩ := laid_sentinel h3.tail gES tES Tryd.underlying48 row70 Tryd.underlying70 Tryd.underlying72 rfl rfl Tryd.underlying9 cells72 cells9
  have c0 : W.cell? ⟨0, 0, none⟩ = some (.iface 70 (.pointer (some a0))) := by have h0 := World.var?_cell gES hv0 0; simpa using h0
  have c1 : W.cell? ⟨1, 0, none⟩ = some (.iface 70 (.pointer (some a1))) := by have h0 := World.var?_cell gER hv1 0; simpa using h0
  refine ⟨⟨_, _, c0⟩, ⟨_, _, c1⟩, ?_⟩
  rcases Nat.lt_or_ge 1 W.heap.size with h' | h'
  · exact h'
  · simp [World.cell?, Array.getElem?_eq_none h'] at c1

/-- The door's own heap meets the condition. -/
theorem door_met (os : Os) (args : Array Value) : laidMetH Tryd.prog laid5 ((World.doorLaid Tryd.prog 400 os).forCall (fun _ _ => 0) ⟨#[], args, []⟩).memory :=
  laidMetH_of_parts3 (fuel := 8) (laidMet_of_run' 8 (by kernel_rfl) (by kernel_rfl)) (by kernel_rfl) (by kernel_rfl)

end Go.Proofs.Qxb6601198aDoor

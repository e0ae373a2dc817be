/-
  FnMatrix's row: the witness, and its call.
-/
import Derived.Test.YtdeejmkjhmpabaaGreatDoorMr
import Derived.Deep.DeepWitnessRowRef
namespace Go.Proofs.YtdeejmkjhmpabaaGreatDoor
open Go.RowKit Go.Lib Go.ChangeShapes Go.WideShapes Go.ChangeAt

set_option maxRecDepth 1000000 in
theorem matrix_laid (os : Os) : laidMet Tryz.prog Rows.fnMatrixRow.laid ((World.laidAll Tryz.prog os Rows.fnMatrixRow.laid).forCall (fun _ _ => 0) ⟨#[], #[.slice none 0 0, .slice none 0 0], []⟩).memory :=
  laidMet_laidAll _ (by kernel_rfl) (by kernel_rfl)

theorem matrix_reads (os : Os) {H : Type} (enc : TypeId × Value → H) : ∃ places, DataW.whole enc Tryz.prog ((World.laidAll Tryz.prog os Rows.fnMatrixRow.laid).forCall (fun _ _ => 0) ⟨#[], #[.slice none 0 0, .slice none 0 0], []⟩).memory Tryz.f3.params.toList Rows.fnMatrixSpec.vars false #[Value.slice none 0 0, .slice none 0 0].toList 8 = some ([.nil, .nil], [], places) :=
  ⟨[], by kernel_rfl⟩

/-- A witness of a row that lists variables, out of its shape. -/
theorem witness_of_shape {H : Type} {enc : TypeId × Value → H} {C : Checked} {os : Os} {f : FuncId} {fn : Func} {s : OpenSpec} {conds : List PathCond} {apart : Bool} {laid : List (String × DataW Unit)} (w0 : World) (args : Array Value) (hos : w0.os = os)
    (hsh : (w0.forCall (fun _ _ => 0) ⟨#[], args, []⟩).Shaped C.prog) (hok : Input.okWideB C.prog (w0.forCall (fun _ _ => 0) ⟨#[], args, []⟩) f ⟨#[], args, []⟩ = true)
    (hrow : s.preRow enc C.prog fn conds apart laid (w0.forCall (fun _ _ => 0) ⟨#[], args, []⟩).memory args) :
    ∃ (w : World) (tape : Tape) (i : Input), w.os = os ∧ (w.forCall tape i).Shaped C.prog ∧ i.vars = [] ∧ Input.okWide C.prog (w.forCall tape i) .any w.heap.size f i ∧
      s.preRow enc C.prog fn conds apart laid (w.forCall tape i).memory i.args ∧ ({} : Assume).holds C.prog (lone (Frame.enter C.prog f i.args .normal) [] (w.forCall tape i)) :=
  ⟨w0, fun _ _ => 0, ⟨#[], args, []⟩, hos, hsh, (Input.okWide_of_okWideB (base := 0) hok).1, (Input.okWide_of_okWideB hok).2, hrow, by
    simp only [Assume.holds]
    exact ⟨by simp, by simp, fun _ => Modest.zero, by simp, by simp⟩⟩

theorem laid_shape1 (os : Os) : ((World.laidAll Tryz.prog os Rows.fnMatrixRow.laid).forCall (fun _ _ => 0) ⟨#[], #[.slice none 0 0, .slice none 0 0], []⟩).variablesZipB Tryz.prog = true := by kernel_rfl
theorem laid_shape2 (os : Os) : (((World.laidAll Tryz.prog os Rows.fnMatrixRow.laid).forCall (fun _ _ => 0) ⟨#[], #[.slice none 0 0, .slice none 0 0], []⟩).heap.toList.drop Tryz.prog.globals.size).take ((begin Tryz.prog (fun _ _ => 0) default).world.heap.size - Tryz.prog.globals.size) =
      (begin Tryz.prog (fun _ _ => 0) default).world.heap.toList.drop Tryz.prog.globals.size := by kernel_rfl
theorem laid_ok (os : Os) : Input.okWideB Tryz.prog ((World.laidAll Tryz.prog os Rows.fnMatrixRow.laid).forCall (fun _ _ => 0) ⟨#[], #[.slice none 0 0, .slice none 0 0], []⟩) 3 ⟨#[], #[.slice none 0 0, .slice none 0 0], []⟩ = true := by kernel_rfl

set_option maxRecDepth 1000000 in
theorem matrix_lifted (os : Os) (started : os.Started) (H : Type) (enc : TypeId × Value → H) (F : Stop.Interp) :
    ReturnsInHanded {} Tryz.checked os 3 .any ((OpenSpec.ofChange Rows.fnMatrixSpec).preRow enc Tryz.prog Tryz.f3 Rows.fnMatrixRow.domain false Rows.fnMatrixRow.laid) (((OpenSpec.ofChange Rows.fnMatrixSpec).at F).post enc Tryz.prog Tryz.f3 false true false false) := by
  obtain ⟨places, hx⟩ := matrix_reads os enc
  refine returnsInHanded_of_row (C := Tryz.checked) (s := OpenSpec.ofChange Rows.fnMatrixSpec) own0 started (by kernel_rfl) Tryz.func3
    (witness_of_shape (enc := enc) (C := Tryz.checked) (World.laidAll Tryz.prog os Rows.fnMatrixRow.laid) #[.slice none 0 0, .slice none 0 0] (World.laidAll_os _ _ _) (World.shaped_of_ZipB (laid_shape1 os) (laid_shape2 os)) (laid_ok os)
      (OpenSpec.preRow_of_cond 8 hx (by kernel_rfl) (fun k hk => by cases hk) (by kernel_rfl) (matrix_laid os))) ?_
  intro W base args ds gs before hval hW _ _ _ hL _ _
  exact contract_matrix H enc W base args ds gs before hval hW hL

end Go.Proofs.YtdeejmkjhmpabaaGreatDoor

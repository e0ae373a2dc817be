/-
  FnVector returns true on every input, and its arguments read afterwards as they read before; where the listed tables of the library lie as the row lists them (the card ties them to the program's text).
-/
import Derived.Test.YtdeejmkjhmpabaaGreatDoorVr
namespace Go.Proofs.YtdeejmkjhmpabaaGreatDoor
open Go.RowKit Go.Lib Go.ChangeShapes Go.WideShapes Go.ChangeAt

set_option maxRecDepth 1000000 in
theorem vector_said : Rows.FnVectorSaid :=
  OpenClaim.holds_of_cond 4 Tryz.f4 rfl rfl rfl rfl rfl rfl rfl ⟨rfl, rfl, rfl, rfl, rfl⟩ rfl rfl rfl rfl rfl (by kernel_rfl) Tryz.func4 (by kernel_rfl)
    (of_decide_eq_true (by kernel_rfl)) (by unfold Func.isWrapper; first | (rw [if_pos (by decide +kernel)]; kernel_rfl) | (rw [if_neg (by decide +kernel)]; exact ⟨rfl, rfl⟩))
    (fun os started H enc _ F => by rw [OpenClaim.pre_eq_preRow]; exact vector_lifted os started H enc F)

/-- No parameter wants a stand-in; the program's own looks are off. -/
theorem vector_plain (f : FuncId) (fn : Func) (hf : Tryz.pinned.checked.prog.funcNamed "pub-samphire/laws.FnVector" = some f) (hfn : Tryz.pinned.checked.prog.funcs[f]? = some fn) :
    true = Tryz.pinned.checked.prog.looks [] ∧ ∀ (j : Nat) t, fn.params[j]? = some t → Tryz.pinned.checked.prog.wantsStandIn t = false := by
  obtain rfl : f = 4 := Option.some.inj ((show Tryz.prog.funcNamed "pub-samphire/laws.FnVector" = some 4 by kernel_rfl).symm.trans hf) |>.symm
  obtain rfl : fn = Tryz.f4 := (Option.some.inj (Tryz.func4.symm.trans hfn)).symm
  refine ⟨by kernel_rfl, fun j t ht => ?_⟩
  rw [Tryz.params4] at ht
  have hm : t ∈ [22, 5, 4] := by simpa using Array.mem_of_getElem? ht
  have hall : ([22, 5, 4].all fun u => !Tryz.prog.wantsStandIn u) = true := by kernel_rfl
  exact (show Tryz.prog.wantsStandIn t = false by simpa using List.all_eq_true.1 hall t hm)

set_option maxRecDepth 1000000 in
/-- The card. -/
theorem vector_card : Rows.FnVectorCardSaid :=
  Claim7.holds_tied_plain_at .later [] _ _ _ _ vector_said (fun _ h => by cases h) (by kernel_rfl) (fun _ h => by cases h) fnVector_row_tie rfl ⟨rfl, rfl⟩ (by kernel_rfl) rfl vector_plain (by kernel_rfl)
#print axioms vector_card
end Go.Proofs.YtdeejmkjhmpabaaGreatDoor

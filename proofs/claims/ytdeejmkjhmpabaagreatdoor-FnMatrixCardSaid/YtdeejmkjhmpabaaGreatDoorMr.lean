/-
  FnMatrix returns true on every input, and its arguments read afterwards as they read before; where the listed tables of the library lie as the row lists them (the card ties them to the program's text).
-/
import Derived.Test.YtdeejmkjhmpabaaGreatDoorRd
import Derived.Test.YtdeejmkjhmpabaaGreatDoorTa
import Derived.Test.YtdeejmkjhmpabaaGreatDoorCards
import Derived.Test.YtdeejmkjhmpabaaGreatDoorTie
import Derived.ProofKit
import Derived.OpenShut
import Derived.Carry
import Derived.LaidMore
import Derived.Lay
import Derived.Deep.DeepHandedRow
import Derived.SevenTiedAt
namespace Go.Proofs.YtdeejmkjhmpabaaGreatDoor
open Go.RowKit Go.Lib Go.ChangeShapes Go.WideShapes Go.ChangeAt

theorem own0 : ownKnob Tryz.prog.godebug = none := by kernel_rfl
theorem laidOut0 : laidOutB Tryz.prog = true := by kernel_rfl

/-- FnMatrix, over whatever points and pairs. -/
theorem matrix_law (L : List Pt) (ps : List Int) (a pa : Option Addr) (c pc : Nat) (hb : L.length ≤ maxLen) (hbm : ps.length ≤ maxLen) (hs : ∀ x ∈ L, x.1.length ≤ maxLen ∧ ∀ y ∈ x.1, y.1.length ≤ maxLen) (w : World) (hL : PtsAt w a L) (hP : IntsAt w pa ps) (hT : Tabs w) :
    Calls Tryz.prog 3 #[.slice a L.length c, .slice pa ps.length pc] w fun e w' => e = .returned (.bool true) ∧ Below w.heap.size w w' := by
  by_cases h : L.length ≤ 6 ∧ ps.length ≤ 6
  · exact matrix_small L ps L.length ps.length a pa c pc rfl rfl h.1 h.2 hs w hL hP hT
  · exact matrix_more L ps L.length ps.length a pa c pc rfl hb hbm (by omega) hs w hL hT

set_option maxRecDepth 1000000 in
theorem heap_enough {W : World} {l : List (String × DataW Unit)} (h : laidMet Tryz.prog l W) (m : ("internal/strconv.leftcheats", Rows.laid_internal_strconv_leftcheats) ∈ l) : 17 ≤ W.heap.size := by
  obtain ⟨cs, fuel, p, hc, _, hd⟩ := var_at (g := 16) (t := 288) (by kernel_rfl) (by kernel_rfl) (laidMet.reads h m)
  have h0 := hc 0
  have : ∃ v, cs.toList[0]? = some v := by
    rcases Go.Deep.open_slice Tryz.underlying288 hd with ⟨e, _⟩ | ⟨_, _, _, _, _, _, _, e, _⟩
    · rw [e]; exact ⟨_, rfl⟩
    · rw [e]; exact ⟨_, rfl⟩
  obtain ⟨v, hv⟩ := this
  rw [hv] at h0
  have : (⟨16, 0, none⟩ : Addr).block < W.heap.size := World.block_lt_of_cell? W _ h0
  exact this

set_option maxRecDepth 1000000 in
theorem contract_matrix (H : Type) (enc : TypeId × Value → H) (W : World) (base : Nat) (args : Array Value) (ds gs : List (DataW H)) (before : List MemPlace)
    (hval : ∀ (j : Nat) t v, Tryz.f3.params[j]? = some t → args[j]? = some v → Value.okWide Tryz.prog W .any base t v)
    (hW : DataW.Whole enc Tryz.prog Tryz.f3.params.toList Rows.fnMatrixSpec.vars false W args.toList ds gs before) (hL : laidMetH Tryz.prog Rows.fnMatrixRow.laid W) :
    Calls Tryz.prog 3 args W fun e W' => ∃ v, e = .returned v ∧ Rows.fnMatrixSpec.post enc Tryz.prog Tryz.f3 false true false false W args v W' := by
  have hW' := hW
  have hlt := hW.lt
  obtain ⟨p, q, hA0, hV, rfl, hfz, hnd⟩ := hW
  have hA : DataW.TrodAll enc Tryz.prog W 0 (fun _ => true) true Tryz.f3.params.toList args.toList ds p := hA0
  rw [Tryz.params3] at hA hval
  obtain ⟨v0, v1, d0, d1, p0, p1, rfl, rfl, rfl, h0, h1⟩ := trodAll_two hA
  obtain ⟨rfl, rfl⟩ := trodVars_none hV
  obtain ⟨a0, n0, c0, rfl⟩ := okWide_slice Tryz.underlying22 (hval 0 22 v0 rfl rfl)
  obtain ⟨a1, n1, c1, rfl⟩ := okWide_slice Tryz.underlying23 (hval 1 23 v1 rfl rfl)
  obtain ⟨fuel0, t0⟩ := h0
  obtain ⟨fuel1, t1⟩ := h1
  obtain ⟨a, L, c, e0, _, hb, hPts, hs⟩ := pts_of t0
  obtain ⟨pa, ps, pc, e1, hbm, hInts⟩ := nums_of t1
  have e0' : Value.slice a0 n0 c0 = .slice a L.length c := by simpa [Value.cells] using e0
  have e1' : Value.slice a1 n1 c1 = .slice pa ps.length pc := by simpa [Value.cells] using e1
  have hLm : laidMet Tryz.prog Rows.fnMatrixRow.laid W := by
    rw [MakeChecks.laidMetH_plain _ _ _ (by kernel_rfl)] at hL
    exact hL
  have hT : Tabs W := tabs_of Rows.fnMatrixRow.laid hLm (fun x hx => by
    simp only [List.mem_cons, List.mem_nil_iff, or_false] at hx
    rcases hx with rfl | rfl | rfl | rfl | rfl | rfl | rfl | rfl
    · exact List.mem_of_getElem? (i := 3) rfl
    · exact List.mem_of_getElem? (i := 4) rfl
    · exact List.mem_of_getElem? (i := 8) rfl
    · exact List.mem_of_getElem? (i := 10) rfl
    · exact List.mem_of_getElem? (i := 11) rfl
    · exact List.mem_of_getElem? (i := 12) rfl
    · exact List.mem_of_getElem? (i := 13) rfl
    · exact List.mem_of_getElem? (i := 14) rfl) (heap_enough hLm (List.mem_of_getElem? (i := 7) rfl))
  rw [e0', e1'] at hW' ⊢
  rw [e0'] at t0
  rw [e1'] at t1
  refine (matrix_law L ps a pa c pc hb hbm hs W hPts hInts hT).mono fun e W' ⟨he, hbel⟩ => ?_
  subst he
  have hl0 : ∀ x ∈ p0, x.block < W.heap.size := fun x hx => hlt x (by simp [hx])
  have hl1 : ∀ x ∈ p1, x.block < W.heap.size := fun x hx => hlt x (by simp [hx])
  have k0 := Below.trod laidOut0 (show Tryz.prog.readableRec 22 = true by kernel_rfl) (by decide +kernel) ⟨fuel0, t0⟩ hbel hl0
  have k1 := Below.trod laidOut0 (show Tryz.prog.readableRec 23 = true by kernel_rfl) (by decide +kernel) ⟨fuel1, t1⟩ hbel hl1
  exact ⟨_, rfl, _, _, _, [], p0 ++ p1, [], hW', trodAll_mk1 (shut_bool Tryz.underlying4 _), trodAll_mk2 k0 k1, rfl, World.keptBut_mono (fun x hx => ⟨hx, by simpa using hx⟩) (hbel.frame (· ∈ p0 ++ p1 ++ [])), fun h => by cases h⟩

end Go.Proofs.YtdeejmkjhmpabaaGreatDoor

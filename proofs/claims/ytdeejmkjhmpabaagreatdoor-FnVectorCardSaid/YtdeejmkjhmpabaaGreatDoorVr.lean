/-
  FnVector returns true on every input, and its arguments read afterwards as they read before; where the listed tables of the library lie as the row lists them (the card ties them to the program's text).
-/
import Derived.Test.YtdeejmkjhmpabaaGreatDoorVf
import Derived.Test.YtdeejmkjhmpabaaGreatDoorRd
import Derived.Test.YtdeejmkjhmpabaaGreatDoorTa
import Derived.Test.YtdeejmkjhmpabaaGreatDoorCards
import Derived.Test.YtdeejmkjhmpabaaGreatDoorTie
import Derived.ProofKit
import Derived.OpenShut
import Derived.Carry
import Derived.LaidMore
import Derived.Lay
import Derived.Deep.DeepHandedRow
import Derived.SevenTiedAt
import Derived.Deep.DeepWitnessRowRef
namespace Go.Proofs.YtdeejmkjhmpabaaGreatDoor
open Go.RowKit Go.Lib Go.ChangeShapes Go.WideShapes Go.ChangeAt

theorem own0 : ownKnob Tryz.prog.godebug = none := by kernel_rfl
theorem laidOut0 : laidOutB Tryz.prog = true := by kernel_rfl

set_option maxRecDepth 1000000 in
theorem heap_enough {W : World} {l : List (String × DataW Unit)} (h : laidMet Tryz.prog l W) (m : ("internal/strconv.leftcheats", Rows.laid_internal_strconv_leftcheats) ∈ l) : 17 ≤ W.heap.size := by
  obtain ⟨cs, fuel, p, hc, _, hd⟩ := var_at (g := 16) (t := 288) (by kernel_rfl) (by kernel_rfl) (laidMet.reads h m)
  have h0 := hc 0
  have : ∃ v, cs.toList[0]? = some v := by
    rcases Go.Deep.open_slice Tryz.underlying288 hd with ⟨e, _⟩ | ⟨_, _, _, _, _, _, _, e, _⟩
    · rw [e]; exact ⟨_, rfl⟩
    · rw [e]; exact ⟨_, rfl⟩
  obtain ⟨v, hv⟩ := this
  rw [hv] at h0
  have : (⟨16, 0, none⟩ : Addr).block < W.heap.size := World.block_lt_of_cell? W _ h0
  exact this

set_option maxRecDepth 1000000 in
theorem contract_vector (H : Type) (enc : TypeId × Value → H) (W : World) (base : Nat) (args : Array Value) (ds gs : List (DataW H)) (before : List MemPlace)
    (hval : ∀ (j : Nat) t v, Tryz.f4.params[j]? = some t → args[j]? = some v → Value.okWide Tryz.prog W .any base t v)
    (hW : DataW.Whole enc Tryz.prog Tryz.f4.params.toList Rows.fnVectorSpec.vars false W args.toList ds gs before) (hL : laidMetH Tryz.prog Rows.fnVectorRow.laid W) :
    Calls Tryz.prog 4 args W fun e W' => ∃ v, e = .returned v ∧ Rows.fnVectorSpec.post enc Tryz.prog Tryz.f4 false true false false W args v W' := by
  have hW' := hW
  have hlt := hW.lt
  obtain ⟨p, q, hA0, hV, rfl, hfz, hnd⟩ := hW
  have hA : DataW.TrodAll enc Tryz.prog W 0 (fun _ => true) true Tryz.f4.params.toList args.toList ds p := hA0
  rw [Tryz.params4] at hA hval
  obtain ⟨v0, v1, v2, d0, d1, d2, p0, p1, p2, rfl, rfl, rfl, h0, h1, h2⟩ := trodAll_three hA
  obtain ⟨rfl, rfl⟩ := trodVars_none hV
  obtain ⟨a0, n0, c0, rfl⟩ := okWide_slice Tryz.underlying22 (hval 0 22 v0 rfl rfl)
  obtain ⟨k, rfl, rfl, rfl, hk⟩ := open_int Tryz.underlying5 (hval 1 5 v1 rfl rfl) h1
  obtain ⟨turned, rfl, rfl, rfl⟩ := open_bool Tryz.underlying4 (hval 2 4 v2 rfl rfl) h2
  obtain ⟨fuel0, t0⟩ := h0
  obtain ⟨a, L, c, e0, _, hb, hPts, hs⟩ := pts_of t0
  have e0' : Value.slice a0 n0 c0 = .slice a L.length c := by simpa [Value.cells] using e0
  obtain ⟨kk, rfl, hkk⟩ : ∃ kk : Nat, k = (kk : Int) ∧ kk < 256 := by
    simp only [Lit.wf, Bool.and_eq_true, decide_eq_true_eq] at hk
    have h1 : (0 : Int) ≤ k := by have := hk.1; simpa [IntKind.min, IntKind.signed] using this
    have h2 : k ≤ 255 := by have := hk.2; simpa [IntKind.max, IntKind.signed, IntKind.bits] using this
    exact ⟨k.toNat, by omega, by omega⟩
  have hLm : laidMet Tryz.prog Rows.fnVectorRow.laid W := by
    rw [MakeChecks.laidMetH_plain _ _ _ (by kernel_rfl)] at hL
    exact hL
  have hT : Tabs W := tabs_of Rows.fnVectorRow.laid hLm (fun x hx => by
    simp only [List.mem_cons, List.mem_nil_iff, or_false] at hx
    rcases hx with rfl | rfl | rfl | rfl | rfl | rfl | rfl | rfl
    · exact List.mem_of_getElem? (i := 3) rfl
    · exact List.mem_of_getElem? (i := 4) rfl
    · exact List.mem_of_getElem? (i := 8) rfl
    · exact List.mem_of_getElem? (i := 10) rfl
    · exact List.mem_of_getElem? (i := 11) rfl
    · exact List.mem_of_getElem? (i := 12) rfl
    · exact List.mem_of_getElem? (i := 13) rfl
    · exact List.mem_of_getElem? (i := 14) rfl) (heap_enough hLm (List.mem_of_getElem? (i := 7) rfl))
  rw [e0'] at hW' ⊢
  rw [e0'] at t0
  refine (vector_walk L L.length kk turned a c rfl hb hkk hs W hPts hT).mono fun e W' ⟨he, hbel⟩ => ?_
  subst he
  have hl0 : ∀ x ∈ p0, x.block < W.heap.size := fun x hx => hlt x (by simp [hx])
  have k0 := Below.trod laidOut0 (show Tryz.prog.readableRec 22 = true by kernel_rfl) (by decide +kernel) ⟨fuel0, t0⟩ hbel hl0
  have k1 := Below.trod laidOut0 (show Tryz.prog.readableRec 5 = true by kernel_rfl) (by decide +kernel) h1 hbel (fun x hx => by cases hx)
  have k2 := Below.trod laidOut0 (show Tryz.prog.readableRec 4 = true by kernel_rfl) (by decide +kernel) h2 hbel (fun x hx => by cases hx)
  exact ⟨_, rfl, _, _, _, [], p0 ++ ([] ++ []), [], hW', trodAll_mk1 (shut_bool Tryz.underlying4 _), trodAll_mk3 k0 k1 k2, rfl, World.keptBut_mono (fun x hx => ⟨by simpa using hx, by simpa using hx⟩) (hbel.frame (· ∈ p0 ++ ([] ++ []) ++ [])), fun h => by cases h⟩

/-! ### The witness -/
set_option maxRecDepth 1000000 in
theorem vector_laid (os : Os) : laidMet Tryz.prog Rows.fnVectorRow.laid ((World.laidAll Tryz.prog os Rows.fnVectorRow.laid).forCall (fun _ _ => 0) ⟨#[], #[.slice none 0 0, .int .u8 0, .bool false], []⟩).memory :=
  laidMet_laidAll _ (by kernel_rfl) (by kernel_rfl)

theorem vector_reads (os : Os) {H : Type} (enc : TypeId × Value → H) : ∃ places, DataW.whole enc Tryz.prog ((World.laidAll Tryz.prog os Rows.fnVectorRow.laid).forCall (fun _ _ => 0) ⟨#[], #[.slice none 0 0, .int .u8 0, .bool false], []⟩).memory Tryz.f4.params.toList Rows.fnVectorSpec.vars false #[Value.slice none 0 0, .int .u8 0, .bool false].toList 8 = some ([.nil, .lit (.int .u8 0), .lit (.bool false)], [], places) :=
  ⟨[], by kernel_rfl⟩

/-- A witness of a row that lists variables, out of its shape. -/
theorem witness_of_shape {H : Type} {enc : TypeId × Value → H} {C : Checked} {os : Os} {f : FuncId} {fn : Func} {s : OpenSpec} {conds : List PathCond} {apart : Bool} {laid : List (String × DataW Unit)} (w0 : World) (args : Array Value) (hos : w0.os = os)
    (hsh : (w0.forCall (fun _ _ => 0) ⟨#[], args, []⟩).Shaped C.prog) (hok : Input.okWideB C.prog (w0.forCall (fun _ _ => 0) ⟨#[], args, []⟩) f ⟨#[], args, []⟩ = true)
    (hrow : s.preRow enc C.prog fn conds apart laid (w0.forCall (fun _ _ => 0) ⟨#[], args, []⟩).memory args) :
    ∃ (w : World) (tape : Tape) (i : Input), w.os = os ∧ (w.forCall tape i).Shaped C.prog ∧ i.vars = [] ∧ Input.okWide C.prog (w.forCall tape i) .any w.heap.size f i ∧
      s.preRow enc C.prog fn conds apart laid (w.forCall tape i).memory i.args ∧ ({} : Assume).holds C.prog (lone (Frame.enter C.prog f i.args .normal) [] (w.forCall tape i)) :=
  ⟨w0, fun _ _ => 0, ⟨#[], args, []⟩, hos, hsh, (Input.okWide_of_okWideB (base := 0) hok).1, (Input.okWide_of_okWideB hok).2, hrow, by
    simp only [Assume.holds]
    exact ⟨by simp, by simp, fun _ => Modest.zero, by simp, by simp⟩⟩

theorem laid_shape1 (os : Os) : ((World.laidAll Tryz.prog os Rows.fnVectorRow.laid).forCall (fun _ _ => 0) ⟨#[], #[.slice none 0 0, .int .u8 0, .bool false], []⟩).variablesZipB Tryz.prog = true := by kernel_rfl
theorem laid_shape2 (os : Os) : (((World.laidAll Tryz.prog os Rows.fnVectorRow.laid).forCall (fun _ _ => 0) ⟨#[], #[.slice none 0 0, .int .u8 0, .bool false], []⟩).heap.toList.drop Tryz.prog.globals.size).take ((begin Tryz.prog (fun _ _ => 0) default).world.heap.size - Tryz.prog.globals.size) =
      (begin Tryz.prog (fun _ _ => 0) default).world.heap.toList.drop Tryz.prog.globals.size := by kernel_rfl
theorem laid_ok (os : Os) : Input.okWideB Tryz.prog ((World.laidAll Tryz.prog os Rows.fnVectorRow.laid).forCall (fun _ _ => 0) ⟨#[], #[.slice none 0 0, .int .u8 0, .bool false], []⟩) 4 ⟨#[], #[.slice none 0 0, .int .u8 0, .bool false], []⟩ = true := by kernel_rfl

set_option maxRecDepth 1000000 in
theorem vector_lifted (os : Os) (started : os.Started) (H : Type) (enc : TypeId × Value → H) (F : Stop.Interp) :
    ReturnsInHanded {} Tryz.checked os 4 .any ((OpenSpec.ofChange Rows.fnVectorSpec).preRow enc Tryz.prog Tryz.f4 Rows.fnVectorRow.domain false Rows.fnVectorRow.laid) (((OpenSpec.ofChange Rows.fnVectorSpec).at F).post enc Tryz.prog Tryz.f4 false true false false) := by
  obtain ⟨places, hx⟩ := vector_reads os enc
  refine returnsInHanded_of_row (C := Tryz.checked) (s := OpenSpec.ofChange Rows.fnVectorSpec) own0 started (by kernel_rfl) Tryz.func4
    (witness_of_shape (enc := enc) (C := Tryz.checked) (World.laidAll Tryz.prog os Rows.fnVectorRow.laid) #[.slice none 0 0, .int .u8 0, .bool false] (World.laidAll_os _ _ _) (World.shaped_of_ZipB (laid_shape1 os) (laid_shape2 os)) (laid_ok os)
      (OpenSpec.preRow_of_cond 8 hx (by kernel_rfl) (fun k hk => by cases hk) (by kernel_rfl) (vector_laid os))) ?_
  intro W base args ds gs before hval hW _ _ _ hL _ _
  exact contract_vector H enc W base args ds gs before hval hW hL

end Go.Proofs.YtdeejmkjhmpabaaGreatDoor

/-
  spec.Same; laws.eighths, bits.
-/
import Derived.Test.YtdeejmkjhmpabaaGreatDoorL3
import Derived.Test.YtdeejmkjhmpabaaGreatDoorF6
import Derived.Laws.StructEq
namespace Go.Proofs.YtdeejmkjhmpabaaGreatDoor
open Go.RowKit Go.Lib Go.Maps Go.WideMaps

set_option maxHeartbeats 400000 in
theorem bits_any (bv : Nat) (w : World) : Calls Tryz.prog 9 #[.float .f64 bv] w fun e w' => e = .returned (.int .u64 (bv : Nat)) ∧ w = w' := by
  have hc := c22 bv
  go_enter Tryz.func9, Tryz.ntmps9
  go_wp2
  go_ret
  exact ⟨rfl, rfl⟩

set_option maxHeartbeats 400000 in
theorem eighths_any (n : Int) (bv : Nat) (hq : floatBits .quo .f64 (floatOfInt .f64 n) 4620693217682128896 = some bv) (w : World) :
    Calls Tryz.prog 8 #[.int .i64 n] w fun e w' => e = .returned (.tuple #[.float .f64 bv, .bool (decide (-562949953421312 < n) && decide (n < 562949953421312))]) ∧ w = w' := by
  have hq := fun w => run_float_arith (P := Tryz.prog) w .quo 30 .f64 _ _ bv hq
  by_cases h1 : n > -562949953421312
  · go_enter Tryz.func8, Tryz.ntmps8
    go_wp2
    go_ret2
    exact ⟨by simp [h1], rfl⟩
  · go_enter Tryz.func8, Tryz.ntmps8
    go_wp2
    go_ret2
    have : ¬ (-562949953421312 < n) := by omega
    exact ⟨by simp [this], rfl⟩

theorem eq59 (x1 x2 y1 y2 : List UInt8) (w : World) : (Op.equalIn 10000 59 (.agg #[.string ⟨x1.toArray⟩, .string ⟨x2.toArray⟩]) (.agg #[.string ⟨y1.toArray⟩, .string ⟨y2.toArray⟩])).run Tryz.prog w = .ok (x1 == y1 && x2 == y2) w := by
  have u9 := Tryz.underlying9
  have a9 := Tryz.isAgg9
  have z9 := Tryz.sizeOf9
  have hf : Tryz.prog.underlying 59 = some (.struct (Tryz.prog.fieldsOf 59)) := by kernel_rfl
  have hp : Tryz.prog.stoodInHeld 59 = false := by kernel_rfl
  have h1 : ∀ w, (Op.equalIn 9999 9 (.string ⟨x1.toArray⟩) (.string ⟨y1.toArray⟩)).run Tryz.prog w = .ok (x1 == y1) w := fun w => by
    rw [show (9999 : Nat) = 9998 + 1 from rfl, run_equalIn_string w 9998 9 _ _ u9]; simp
  have h2 : ∀ w, (Op.equalIn 9999 9 (.string ⟨x2.toArray⟩) (.string ⟨y2.toArray⟩)).run Tryz.prog w = .ok (x2 == y2) w := fun w => by
    rw [show (9999 : Nat) = 9998 + 1 from rfl, run_equalIn_string w 9998 9 _ _ u9]; simp
  rw [show (10000 : Nat) = 9999 + 1 from rfl, run_equalIn_agg w 9999 59 _ _ hf hp]
  simp only [Program.fieldsOf, Tryz.underlying59]
  go_simp
  cases h : x1 == y1 <;> cases h' : x2 == y2 <;> simp_all

theorem neq59 (x1 x2 y1 y2 : List UInt8) (w : World) : (binOp .neq 59 (.agg #[.string ⟨x1.toArray⟩, .string ⟨x2.toArray⟩]) (.agg #[.string ⟨y1.toArray⟩, .string ⟨y2.toArray⟩])).run Tryz.prog w = .ok (.bool (!(x1 == y1 && x2 == y2))) w := by
  rw [run_neq_struct, eq59]
  rfl

set_option maxRecDepth 100000 in
set_option maxHeartbeats 1600000 in
theorem same_any (l1 l2 : List Lab) (n1 n2 : Nat) (a1 a2 : Option Addr) (c1 c2 : Nat) (h1 : l1.length = n1) (h2 : l2.length = n2) (hb : n1 ≤ 9223372036854775807) (w : World) (hL1 : LabsAt w a1 l1) (hL2 : LabsAt w a2 l2) :
    Calls Tryz.prog 16 #[.slice a1 n1 c1, .slice a2 n2 c2] w fun e w' => e = .returned (.bool (decide (l1 = l2))) ∧ Below w.heap.size w w' := by
  have H1 := Lib.hid h1
  have H2 := Lib.hid h2
  have HL1 := Lib.hid hL1
  have HL2 := Lib.hid hL2
  obtain ⟨bb, hbb⟩ : ∃ bb, bb = decide (l1 = l2) := ⟨_, rfl⟩
  rw [← hbb]
  have HBB := Lib.hid hbb
  clear h1 h2 hL1 hL2 hbb
  by_cases hne : n1 = n2
  · subst hne
    go_enter Tryz.func16, Tryz.ntmps16
    go_wp2_with fail
    go_loopw [5] (fun v5 wr => ∃ i, i ≤ n1 ∧ v5 = .int .i64 (i : Int) ∧ Hid (∀ j, j < i → l1[j]? = l2[j]?) ∧ Hid (Below w.heap.size w wr)) (fun v5 _ => n1 - (intOf v5).toNat)
    case atStart => exact ⟨0, Nat.zero_le _, rfl, fun j h => by omega, Below.refl _ _⟩
    case round =>
      obtain ⟨i, hk, rfl, HS, HB⟩ := hrel
      rename World => wr
      by_cases hlt : i < n1
      · obtain ⟨x, hx⟩ : ∃ x, l1[i]? = some x := ⟨l1[i]'(by rw [H1.out]; exact hlt), List.getElem?_eq_getElem _⟩
        obtain ⟨y, hy⟩ : ∃ y, l2[i]? = some y := ⟨l2[i]'(by rw [H2.out]; exact hlt), List.getElem?_eq_getElem _⟩
        obtain ⟨b, o, rfl, p1, p2⟩ := (HL1.out.below HB.out) i x hx
        obtain ⟨b', o', rfl, q1, q2⟩ := (HL2.out.below HB.out) i y hy
        have HX := Lib.hid hx
        have HY := Lib.hid hy
        unfold str at p1 p2 q1 q2
        obtain ⟨x1, x2⟩ := x
        obtain ⟨y1, y2⟩ := y
        dsimp only at p1 p2 q1 q2
        clear hx hy
        by_cases e : (x1, x2) = (y1, y2)
        · injection e with e1 e2
          subst e1 e2
          go_wp2_with fail
          go_quiet (fail)
          go_wp2
          go_roundw
          case rel =>
            refine ⟨i + 1, by omega, by go_num, fun j hj => ?_, HB.out.trans (by exact ⟨rfl, rfl, rfl, Nat.le_refl _, fun _ _ => rfl⟩)⟩
            by_cases hji : j = i
            · subst hji; rw [HX.out, HY.out]
            · exact HS.out j (by omega)
          case measure => simp [intOf]; omega
        · have hxy : (x1 == y1 && x2 == y2) = false := by
            cases h : (x1 == y1 && x2 == y2) with
            | false => rfl
            | true =>
              rw [Bool.and_eq_true, beq_iff_eq, beq_iff_eq] at h
              exact absurd (by rw [h.1, h.2]) e
          have hbb : bb = false := by
            rw [HBB.out]
            exact decide_eq_false (fun h => by subst h; have := HX.out.symm.trans HY.out; exact e (Option.some.inj this))
          subst hbb
          have hnq : ∀ w, (binOp .neq 59 (.agg #[.string ⟨x1.toArray⟩, .string ⟨x2.toArray⟩]) (.agg #[.string ⟨y1.toArray⟩, .string ⟨y2.toArray⟩])).run Tryz.prog w = .ok (.bool true) w := fun w => by rw [neq59, hxy]; rfl
          clear e hxy
          go_wp2_with fail
          go_quiet (fail)
          go_wp2
          go_ret
          exact ⟨rfl, HB.out.trans (by exact ⟨rfl, rfl, rfl, Nat.le_refl _, fun _ _ => rfl⟩)⟩
      · have hkn : i = n1 := by omega
        subst hkn
        have hbb : bb = true := by
          rw [HBB.out]
          refine decide_eq_true (List.ext_getElem? fun j => ?_)
          by_cases hj : j < i
          · exact HS.out j hj
          · rw [List.getElem?_eq_none (by rw [H1.out]; omega), List.getElem?_eq_none (by rw [H2.out]; omega)]
        subst hbb
        go_wp2
        go_ret
        exact ⟨rfl, HB.out⟩
  · have hbb : bb = false := by
      rw [HBB.out]
      exact decide_eq_false (fun h => hne (by rw [← H1.out, ← H2.out, h]))
    subst hbb
    have hn : ((n1 : Int) == (n2 : Int)) = false := by simpa using fun h => hne (by omega)
    clear hne
    go_enter Tryz.func16, Tryz.ntmps16
    go_wp2
    go_ret
    exact ⟨rfl, Below.refl _ _⟩

end Go.Proofs.YtdeejmkjhmpabaaGreatDoor

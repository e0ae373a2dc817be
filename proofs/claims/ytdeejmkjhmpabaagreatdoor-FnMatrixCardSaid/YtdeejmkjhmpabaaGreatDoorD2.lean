/-
  ParseDuration at "1h30m".
-/
import Derived.Test.YtdeejmkjhmpabaaGreatDoorD1
import Derived.Lib.SmallJoins
namespace Go.Proofs.YtdeejmkjhmpabaaGreatDoor
open Go.RowKit Go.Lib

theorem bytesWorld_below (w : World) (t : TypeId) (s : ByteArray) : Below w.heap.size w (Lib.bytesWorld w t s) := by
  exact Go.Joins.below_bytesWorld _ w t s (Nat.le_refl _)

theorem puint (s : List UInt8) (hs : s.length ≤ 100) (u : Nat) (h : Lib.parseUintB 64 s = .ok u) (w : World) :
    Calls Tryz.prog 72 #[.string ⟨s.toArray⟩, .int .i64 10, .int .i64 0] w fun e w' => e = .returned (.tuple #[.int .u64 u, .nilIface]) ∧ Below w.heap.size w w' := by
  refine (Tryz.strconv_ParseUint_10_at0_ok ⟨s.toArray⟩ (by show s.toArray.size ≤ _; simp; omega) u h w).mono ?_
  rintro e w' ⟨rfl, h | h⟩
  · subst h; exact ⟨rfl, Below.refl _ _⟩
  · subst h; exact ⟨rfl, bytesWorld_below w 5 _⟩

set_option maxRecDepth 100000 in
set_option maxHeartbeats 6400000 in
theorem parse_1h30m (w : World) : Calls Tryz.prog 46 #[.string ⟨#[49, 104, 51, 48, 109]⟩] w fun e w' => e = .returned (.tuple #[.int .i64 5400000000000, .nilIface]) ∧ Below w.heap.size w w' := by
  have p1 := fun w => puint [49] (by decide) 1 (by decide +kernel) w
  have p2 := fun w => puint [51, 48] (by decide) 30 (by decide +kernel) w
  have xa0 : ∀ w, (Instr.index 9 (.string ⟨#[49, 104, 51, 48, 109]⟩) (.int .i64 0)).run Tryz.prog w = .ok (.int .u8 49) w := fun _ => by kernel_rfl
  have xa1 : ∀ w, (Instr.index 9 (.string ⟨#[49, 104, 51, 48, 109]⟩) (.int .i64 1)).run Tryz.prog w = .ok (.int .u8 104) w := fun _ => by kernel_rfl
  have xb0 : ∀ w, (Instr.index 9 (.string ⟨#[104, 51, 48, 109]⟩) (.int .i64 0)).run Tryz.prog w = .ok (.int .u8 104) w := fun _ => by kernel_rfl
  have xb1 : ∀ w, (Instr.index 9 (.string ⟨#[104, 51, 48, 109]⟩) (.int .i64 1)).run Tryz.prog w = .ok (.int .u8 51) w := fun _ => by kernel_rfl
  have xc0 : ∀ w, (Instr.index 9 (.string ⟨#[51, 48, 109]⟩) (.int .i64 0)).run Tryz.prog w = .ok (.int .u8 51) w := fun _ => by kernel_rfl
  have xc1 : ∀ w, (Instr.index 9 (.string ⟨#[51, 48, 109]⟩) (.int .i64 1)).run Tryz.prog w = .ok (.int .u8 48) w := fun _ => by kernel_rfl
  have xc2 : ∀ w, (Instr.index 9 (.string ⟨#[51, 48, 109]⟩) (.int .i64 2)).run Tryz.prog w = .ok (.int .u8 109) w := fun _ => by kernel_rfl
  have xd0 : ∀ w, (Instr.index 9 (.string ⟨#[109]⟩) (.int .i64 0)).run Tryz.prog w = .ok (.int .u8 109) w := fun _ => by kernel_rfl
  have e0 : (⟨#[49, 104, 51, 48, 109]⟩ : ByteArray).extract 0 1 = ⟨#[49]⟩ := by decide +kernel
  have e1 : (⟨#[49, 104, 51, 48, 109]⟩ : ByteArray).extract 1 5 = ⟨#[104, 51, 48, 109]⟩ := by decide +kernel
  have e2 : (⟨#[104, 51, 48, 109]⟩ : ByteArray).extract 0 1 = ⟨#[104]⟩ := by decide +kernel
  have e3 : (⟨#[104, 51, 48, 109]⟩ : ByteArray).extract 1 4 = ⟨#[51, 48, 109]⟩ := by decide +kernel
  have e4 : (⟨#[51, 48, 109]⟩ : ByteArray).extract 0 2 = ⟨#[51, 48]⟩ := by decide +kernel
  have e5 : (⟨#[51, 48, 109]⟩ : ByteArray).extract 2 3 = ⟨#[109]⟩ := by decide +kernel
  have e6 : (⟨#[109]⟩ : ByteArray).extract 0 1 = ⟨#[109]⟩ := by decide +kernel
  have e7 : (⟨#[109]⟩ : ByteArray).extract 1 1 = ⟨#[]⟩ := by decide +kernel
  go_enter Tryz.func46, Tryz.ntmps46
  go_wp2
  refine wp_loop_rounds 3 ?_
  rw [rounds_succ]
  go_wp2_with (first
    | (go_at_call 72; (with_reducible refine (p1 _).mono ?_); rintro e w1 ⟨rfl, hb1⟩)
    | (go_at_call 72; (with_reducible refine (p2 _).mono ?_); rintro e w3 ⟨rfl, hb3⟩)
    | (go_at_call 73; (with_reducible refine (unit_h _).mono ?_); rintro e w2 ⟨rfl, hb2⟩)
    | (go_at_call 73; (with_reducible refine (unit_m _).mono ?_); rintro e w4 ⟨rfl, hb4⟩)
    | go_in)
  refine wp_loop_rounds 2 ?_
  rw [rounds_succ]
  go_wp2_with (first
    | (go_at_call 72; (with_reducible refine (p1 _).mono ?_); rintro e w1 ⟨rfl, hb1⟩)
    | (go_at_call 72; (with_reducible refine (p2 _).mono ?_); rintro e w3 ⟨rfl, hb3⟩)
    | (go_at_call 73; (with_reducible refine (unit_h _).mono ?_); rintro e w2 ⟨rfl, hb2⟩)
    | (go_at_call 73; (with_reducible refine (unit_m _).mono ?_); rintro e w4 ⟨rfl, hb4⟩)
    | go_in)
  rw [rounds_succ]
  go_wp2_with (first
    | (go_at_call 72; (with_reducible refine (p1 _).mono ?_); rintro e w1 ⟨rfl, hb1⟩)
    | (go_at_call 72; (with_reducible refine (p2 _).mono ?_); rintro e w3 ⟨rfl, hb3⟩)
    | (go_at_call 73; (with_reducible refine (unit_h _).mono ?_); rintro e w2 ⟨rfl, hb2⟩)
    | (go_at_call 73; (with_reducible refine (unit_m _).mono ?_); rintro e w4 ⟨rfl, hb4⟩)
    | go_in)
  refine wp_loop_rounds 2 ?_
  rw [rounds_succ]
  go_wp2_with (first
    | (go_at_call 72; (with_reducible refine (p1 _).mono ?_); rintro e w1 ⟨rfl, hb1⟩)
    | (go_at_call 72; (with_reducible refine (p2 _).mono ?_); rintro e w3 ⟨rfl, hb3⟩)
    | (go_at_call 73; (with_reducible refine (unit_h _).mono ?_); rintro e w2 ⟨rfl, hb2⟩)
    | (go_at_call 73; (with_reducible refine (unit_m _).mono ?_); rintro e w4 ⟨rfl, hb4⟩)
    | go_in)
  rw [rounds_succ]
  go_wp2_with (first
    | (go_at_call 72; (with_reducible refine (p1 _).mono ?_); rintro e w1 ⟨rfl, hb1⟩)
    | (go_at_call 72; (with_reducible refine (p2 _).mono ?_); rintro e w3 ⟨rfl, hb3⟩)
    | (go_at_call 73; (with_reducible refine (unit_h _).mono ?_); rintro e w2 ⟨rfl, hb2⟩)
    | (go_at_call 73; (with_reducible refine (unit_m _).mono ?_); rintro e w4 ⟨rfl, hb4⟩)
    | go_in)
  rw [rounds_succ]
  go_wp2_with (first
    | (go_at_call 72; (with_reducible refine (p1 _).mono ?_); rintro e w1 ⟨rfl, hb1⟩)
    | (go_at_call 72; (with_reducible refine (p2 _).mono ?_); rintro e w3 ⟨rfl, hb3⟩)
    | (go_at_call 73; (with_reducible refine (unit_h _).mono ?_); rintro e w2 ⟨rfl, hb2⟩)
    | (go_at_call 73; (with_reducible refine (unit_m _).mono ?_); rintro e w4 ⟨rfl, hb4⟩)
    | go_in)
  refine wp_loop_rounds 3 ?_
  rw [rounds_succ]
  go_wp2_with (first
    | (go_at_call 72; (with_reducible refine (p1 _).mono ?_); rintro e w1 ⟨rfl, hb1⟩)
    | (go_at_call 72; (with_reducible refine (p2 _).mono ?_); rintro e w3 ⟨rfl, hb3⟩)
    | (go_at_call 73; (with_reducible refine (unit_h _).mono ?_); rintro e w2 ⟨rfl, hb2⟩)
    | (go_at_call 73; (with_reducible refine (unit_m _).mono ?_); rintro e w4 ⟨rfl, hb4⟩)
    | go_in)
  rw [rounds_succ]
  go_wp2_with (first
    | (go_at_call 72; (with_reducible refine (p1 _).mono ?_); rintro e w1 ⟨rfl, hb1⟩)
    | (go_at_call 72; (with_reducible refine (p2 _).mono ?_); rintro e w3 ⟨rfl, hb3⟩)
    | (go_at_call 73; (with_reducible refine (unit_h _).mono ?_); rintro e w2 ⟨rfl, hb2⟩)
    | (go_at_call 73; (with_reducible refine (unit_m _).mono ?_); rintro e w4 ⟨rfl, hb4⟩)
    | go_in)
  rw [rounds_succ]
  go_wp2_with (first
    | (go_at_call 72; (with_reducible refine (p1 _).mono ?_); rintro e w1 ⟨rfl, hb1⟩)
    | (go_at_call 72; (with_reducible refine (p2 _).mono ?_); rintro e w3 ⟨rfl, hb3⟩)
    | (go_at_call 73; (with_reducible refine (unit_h _).mono ?_); rintro e w2 ⟨rfl, hb2⟩)
    | (go_at_call 73; (with_reducible refine (unit_m _).mono ?_); rintro e w4 ⟨rfl, hb4⟩)
    | go_in)
  refine wp_loop_rounds 2 ?_
  rw [rounds_succ]
  go_wp2_with (first
    | (go_at_call 72; (with_reducible refine (p1 _).mono ?_); rintro e w1 ⟨rfl, hb1⟩)
    | (go_at_call 72; (with_reducible refine (p2 _).mono ?_); rintro e w3 ⟨rfl, hb3⟩)
    | (go_at_call 73; (with_reducible refine (unit_h _).mono ?_); rintro e w2 ⟨rfl, hb2⟩)
    | (go_at_call 73; (with_reducible refine (unit_m _).mono ?_); rintro e w4 ⟨rfl, hb4⟩)
    | go_in)
  rw [rounds_succ]
  go_wp2_with (first
    | (go_at_call 72; (with_reducible refine (p1 _).mono ?_); rintro e w1 ⟨rfl, hb1⟩)
    | (go_at_call 72; (with_reducible refine (p2 _).mono ?_); rintro e w3 ⟨rfl, hb3⟩)
    | (go_at_call 73; (with_reducible refine (unit_h _).mono ?_); rintro e w2 ⟨rfl, hb2⟩)
    | (go_at_call 73; (with_reducible refine (unit_m _).mono ?_); rintro e w4 ⟨rfl, hb4⟩)
    | go_in)
  rw [rounds_succ]
  go_wp2_with (first
    | (go_at_call 72; (with_reducible refine (p1 _).mono ?_); rintro e w1 ⟨rfl, hb1⟩)
    | (go_at_call 72; (with_reducible refine (p2 _).mono ?_); rintro e w3 ⟨rfl, hb3⟩)
    | (go_at_call 73; (with_reducible refine (unit_h _).mono ?_); rintro e w2 ⟨rfl, hb2⟩)
    | (go_at_call 73; (with_reducible refine (unit_m _).mono ?_); rintro e w4 ⟨rfl, hb4⟩)
    | go_in)
  go_ret2
  have c1 := (hb1.trans (hb2.mono hb1.size)).alloc (Nat.le_trans hb1.size hb2.size) (.cells #[.int .i64 4, .int .u64 3600000000000] 125)
  have c2 := c1.trans (hb3.mono c1.size)
  have c3 := c2.trans (hb4.mono c2.size)
  exact ⟨rfl, c3.alloc c3.size _⟩

end Go.Proofs.YtdeejmkjhmpabaaGreatDoor

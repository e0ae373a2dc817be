/-
  Durations: isdigit, unitOf at the units of "1h30m".
  ParseDuration at "1h30m".
  impl.DurationRead at "1h30m".
  Duration.String at 1h30m.
  Duration.String at 1h30m: the whole.
  impl.DurationText at 1h30m; laws.modelAwake.
-/
import Derived.Test.YtdeejmkjhmpabaaGreatDoorSf
import Derived.Lib.SmallJoins
import Derived.Test.YtdeejmkjhmpabaaGreatDoorGa
import Derived.Deep.RegionHeld3
namespace Go.Proofs.YtdeejmkjhmpabaaGreatDoor
open Go.RowKit Go.Lib

set_option maxHeartbeats 400000 in
theorem isdigit_any (c : Nat) (hc : c < 256) (w : World) : Calls Tryz.prog 71 #[.int .u8 (c : Int)] w fun e w' => e = .returned (.bool (decide (48 ≤ c) && decide (c ≤ 57))) ∧ w = w' := by
  by_cases h1 : 48 ≤ c
  · have h1' : (c : Int) ≥ 48 := by omega
    go_enter Tryz.func71, Tryz.ntmps71
    go_wp2
    go_ret
    exact ⟨by simp [h1]; omega, rfl⟩
  · have h1' : ¬ ((c : Int) ≥ 48) := by omega
    go_enter Tryz.func71, Tryz.ntmps71
    go_wp2
    go_ret
    exact ⟨by simp, rfl⟩

def unitO : Obj := .cells #[.int .i64 0, .int .u64 0] 125

set_option maxRecDepth 100000 in
set_option maxHeartbeats 1600000 in
theorem unit_h (w : World) : Calls Tryz.prog 73 #[.string ⟨#[104]⟩] w fun e w' => e = .returned (.tuple #[.agg #[.int .i64 4, .int .u64 3600000000000], .bool true]) ∧ Below w.heap.size w w' := by
  go_enter Tryz.func73, Tryz.ntmps73
  go_wp2
  refine bodyPost_ret (v := .tuple #[.agg #[.int .i64 4, .int .u64 3600000000000], .bool true]) (by simp [results, Tryz.results73, go_sem]) rfl ?_
  exact ⟨rfl, (Below.refl _ _).alloc (Nat.le_refl _) _⟩

set_option maxRecDepth 100000 in
set_option maxHeartbeats 1600000 in
theorem unit_m (w : World) : Calls Tryz.prog 73 #[.string ⟨#[109]⟩] w fun e w' => e = .returned (.tuple #[.agg #[.int .i64 5, .int .u64 60000000000], .bool true]) ∧ Below w.heap.size w w' := by
  go_enter Tryz.func73, Tryz.ntmps73
  go_wp2
  refine bodyPost_ret (v := .tuple #[.agg #[.int .i64 5, .int .u64 60000000000], .bool true]) (by simp [results, Tryz.results73, go_sem]) rfl ?_
  exact ⟨rfl, (Below.refl _ _).alloc (Nat.le_refl _) _⟩

end Go.Proofs.YtdeejmkjhmpabaaGreatDoor
namespace Go.Proofs.YtdeejmkjhmpabaaGreatDoor
open Go.RowKit Go.Lib

theorem bytesWorld_below (w : World) (t : TypeId) (s : ByteArray) : Below w.heap.size w (Lib.bytesWorld w t s) := by
  exact Go.Joins.below_bytesWorld _ w t s (Nat.le_refl _)

theorem puint (s : List UInt8) (hs : s.length ≤ 100) (u : Nat) (h : Lib.parseUintB 64 s = .ok u) (w : World) :
    Calls Tryz.prog 72 #[.string ⟨s.toArray⟩, .int .i64 10, .int .i64 0] w fun e w' => e = .returned (.tuple #[.int .u64 u, .nilIface]) ∧ Below w.heap.size w w' := by
  refine (Tryz.strconv_ParseUint_10_at0_ok ⟨s.toArray⟩ (by show s.toArray.size ≤ _; simp; omega) u h w).mono ?_
  rintro e w' ⟨rfl, h | h⟩
  · subst h; exact ⟨rfl, Below.refl _ _⟩
  · subst h; exact ⟨rfl, bytesWorld_below w 5 _⟩

set_option maxRecDepth 100000 in
set_option maxHeartbeats 6400000 in
theorem parse_1h30m (w : World) : Calls Tryz.prog 46 #[.string ⟨#[49, 104, 51, 48, 109]⟩] w fun e w' => e = .returned (.tuple #[.int .i64 5400000000000, .nilIface]) ∧ Below w.heap.size w w' := by
  have p1 := fun w => puint [49] (by decide) 1 (by decide +kernel) w
  have p2 := fun w => puint [51, 48] (by decide) 30 (by decide +kernel) w
  have xa0 : ∀ w, (Instr.index 9 (.string ⟨#[49, 104, 51, 48, 109]⟩) (.int .i64 0)).run Tryz.prog w = .ok (.int .u8 49) w := fun _ => by kernel_rfl
  have xa1 : ∀ w, (Instr.index 9 (.string ⟨#[49, 104, 51, 48, 109]⟩) (.int .i64 1)).run Tryz.prog w = .ok (.int .u8 104) w := fun _ => by kernel_rfl
  have xb0 : ∀ w, (Instr.index 9 (.string ⟨#[104, 51, 48, 109]⟩) (.int .i64 0)).run Tryz.prog w = .ok (.int .u8 104) w := fun _ => by kernel_rfl
  have xb1 : ∀ w, (Instr.index 9 (.string ⟨#[104, 51, 48, 109]⟩) (.int .i64 1)).run Tryz.prog w = .ok (.int .u8 51) w := fun _ => by kernel_rfl
  have xc0 : ∀ w, (Instr.index 9 (.string ⟨#[51, 48, 109]⟩) (.int .i64 0)).run Tryz.prog w = .ok (.int .u8 51) w := fun _ => by kernel_rfl
  have xc1 : ∀ w, (Instr.index 9 (.string ⟨#[51, 48, 109]⟩) (.int .i64 1)).run Tryz.prog w = .ok (.int .u8 48) w := fun _ => by kernel_rfl
  have xc2 : ∀ w, (Instr.index 9 (.string ⟨#[51, 48, 109]⟩) (.int .i64 2)).run Tryz.prog w = .ok (.int .u8 109) w := fun _ => by kernel_rfl
  have xd0 : ∀ w, (Instr.index 9 (.string ⟨#[109]⟩) (.int .i64 0)).run Tryz.prog w = .ok (.int .u8 109) w := fun _ => by kernel_rfl
  have e0 : (⟨#[49, 104, 51, 48, 109]⟩ : ByteArray).extract 0 1 = ⟨#[49]⟩ := by decide +kernel
  have e1 : (⟨#[49, 104, 51, 48, 109]⟩ : ByteArray).extract 1 5 = ⟨#[104, 51, 48, 109]⟩ := by decide +kernel
  have e2 : (⟨#[104, 51, 48, 109]⟩ : ByteArray).extract 0 1 = ⟨#[104]⟩ := by decide +kernel
  have e3 : (⟨#[104, 51, 48, 109]⟩ : ByteArray).extract 1 4 = ⟨#[51, 48, 109]⟩ := by decide +kernel
  have e4 : (⟨#[51, 48, 109]⟩ : ByteArray).extract 0 2 = ⟨#[51, 48]⟩ := by decide +kernel
  have e5 : (⟨#[51, 48, 109]⟩ : ByteArray).extract 2 3 = ⟨#[109]⟩ := by decide +kernel
  have e6 : (⟨#[109]⟩ : ByteArray).extract 0 1 = ⟨#[109]⟩ := by decide +kernel
  have e7 : (⟨#[109]⟩ : ByteArray).extract 1 1 = ⟨#[]⟩ := by decide +kernel
  go_enter Tryz.func46, Tryz.ntmps46
  go_wp2
  refine wp_loop_rounds 3 ?_
  rw [rounds_succ]
  go_wp2_with (first
    | (go_at_call 72; (with_reducible refine (p1 _).mono ?_); rintro e w1 ⟨rfl, hb1⟩)
    | (go_at_call 72; (with_reducible refine (p2 _).mono ?_); rintro e w3 ⟨rfl, hb3⟩)
    | (go_at_call 73; (with_reducible refine (unit_h _).mono ?_); rintro e w2 ⟨rfl, hb2⟩)
    | (go_at_call 73; (with_reducible refine (unit_m _).mono ?_); rintro e w4 ⟨rfl, hb4⟩)
    | go_in)
  refine wp_loop_rounds 2 ?_
  rw [rounds_succ]
  go_wp2_with (first
    | (go_at_call 72; (with_reducible refine (p1 _).mono ?_); rintro e w1 ⟨rfl, hb1⟩)
    | (go_at_call 72; (with_reducible refine (p2 _).mono ?_); rintro e w3 ⟨rfl, hb3⟩)
    | (go_at_call 73; (with_reducible refine (unit_h _).mono ?_); rintro e w2 ⟨rfl, hb2⟩)
    | (go_at_call 73; (with_reducible refine (unit_m _).mono ?_); rintro e w4 ⟨rfl, hb4⟩)
    | go_in)
  rw [rounds_succ]
  go_wp2_with (first
    | (go_at_call 72; (with_reducible refine (p1 _).mono ?_); rintro e w1 ⟨rfl, hb1⟩)
    | (go_at_call 72; (with_reducible refine (p2 _).mono ?_); rintro e w3 ⟨rfl, hb3⟩)
    | (go_at_call 73; (with_reducible refine (unit_h _).mono ?_); rintro e w2 ⟨rfl, hb2⟩)
    | (go_at_call 73; (with_reducible refine (unit_m _).mono ?_); rintro e w4 ⟨rfl, hb4⟩)
    | go_in)
  refine wp_loop_rounds 2 ?_
  rw [rounds_succ]
  go_wp2_with (first
    | (go_at_call 72; (with_reducible refine (p1 _).mono ?_); rintro e w1 ⟨rfl, hb1⟩)
    | (go_at_call 72; (with_reducible refine (p2 _).mono ?_); rintro e w3 ⟨rfl, hb3⟩)
    | (go_at_call 73; (with_reducible refine (unit_h _).mono ?_); rintro e w2 ⟨rfl, hb2⟩)
    | (go_at_call 73; (with_reducible refine (unit_m _).mono ?_); rintro e w4 ⟨rfl, hb4⟩)
    | go_in)
  rw [rounds_succ]
  go_wp2_with (first
    | (go_at_call 72; (with_reducible refine (p1 _).mono ?_); rintro e w1 ⟨rfl, hb1⟩)
    | (go_at_call 72; (with_reducible refine (p2 _).mono ?_); rintro e w3 ⟨rfl, hb3⟩)
    | (go_at_call 73; (with_reducible refine (unit_h _).mono ?_); rintro e w2 ⟨rfl, hb2⟩)
    | (go_at_call 73; (with_reducible refine (unit_m _).mono ?_); rintro e w4 ⟨rfl, hb4⟩)
    | go_in)
  rw [rounds_succ]
  go_wp2_with (first
    | (go_at_call 72; (with_reducible refine (p1 _).mono ?_); rintro e w1 ⟨rfl, hb1⟩)
    | (go_at_call 72; (with_reducible refine (p2 _).mono ?_); rintro e w3 ⟨rfl, hb3⟩)
    | (go_at_call 73; (with_reducible refine (unit_h _).mono ?_); rintro e w2 ⟨rfl, hb2⟩)
    | (go_at_call 73; (with_reducible refine (unit_m _).mono ?_); rintro e w4 ⟨rfl, hb4⟩)
    | go_in)
  refine wp_loop_rounds 3 ?_
  rw [rounds_succ]
  go_wp2_with (first
    | (go_at_call 72; (with_reducible refine (p1 _).mono ?_); rintro e w1 ⟨rfl, hb1⟩)
    | (go_at_call 72; (with_reducible refine (p2 _).mono ?_); rintro e w3 ⟨rfl, hb3⟩)
    | (go_at_call 73; (with_reducible refine (unit_h _).mono ?_); rintro e w2 ⟨rfl, hb2⟩)
    | (go_at_call 73; (with_reducible refine (unit_m _).mono ?_); rintro e w4 ⟨rfl, hb4⟩)
    | go_in)
  rw [rounds_succ]
  go_wp2_with (first
    | (go_at_call 72; (with_reducible refine (p1 _).mono ?_); rintro e w1 ⟨rfl, hb1⟩)
    | (go_at_call 72; (with_reducible refine (p2 _).mono ?_); rintro e w3 ⟨rfl, hb3⟩)
    | (go_at_call 73; (with_reducible refine (unit_h _).mono ?_); rintro e w2 ⟨rfl, hb2⟩)
    | (go_at_call 73; (with_reducible refine (unit_m _).mono ?_); rintro e w4 ⟨rfl, hb4⟩)
    | go_in)
  rw [rounds_succ]
  go_wp2_with (first
    | (go_at_call 72; (with_reducible refine (p1 _).mono ?_); rintro e w1 ⟨rfl, hb1⟩)
    | (go_at_call 72; (with_reducible refine (p2 _).mono ?_); rintro e w3 ⟨rfl, hb3⟩)
    | (go_at_call 73; (with_reducible refine (unit_h _).mono ?_); rintro e w2 ⟨rfl, hb2⟩)
    | (go_at_call 73; (with_reducible refine (unit_m _).mono ?_); rintro e w4 ⟨rfl, hb4⟩)
    | go_in)
  refine wp_loop_rounds 2 ?_
  rw [rounds_succ]
  go_wp2_with (first
    | (go_at_call 72; (with_reducible refine (p1 _).mono ?_); rintro e w1 ⟨rfl, hb1⟩)
    | (go_at_call 72; (with_reducible refine (p2 _).mono ?_); rintro e w3 ⟨rfl, hb3⟩)
    | (go_at_call 73; (with_reducible refine (unit_h _).mono ?_); rintro e w2 ⟨rfl, hb2⟩)
    | (go_at_call 73; (with_reducible refine (unit_m _).mono ?_); rintro e w4 ⟨rfl, hb4⟩)
    | go_in)
  rw [rounds_succ]
  go_wp2_with (first
    | (go_at_call 72; (with_reducible refine (p1 _).mono ?_); rintro e w1 ⟨rfl, hb1⟩)
    | (go_at_call 72; (with_reducible refine (p2 _).mono ?_); rintro e w3 ⟨rfl, hb3⟩)
    | (go_at_call 73; (with_reducible refine (unit_h _).mono ?_); rintro e w2 ⟨rfl, hb2⟩)
    | (go_at_call 73; (with_reducible refine (unit_m _).mono ?_); rintro e w4 ⟨rfl, hb4⟩)
    | go_in)
  rw [rounds_succ]
  go_wp2_with (first
    | (go_at_call 72; (with_reducible refine (p1 _).mono ?_); rintro e w1 ⟨rfl, hb1⟩)
    | (go_at_call 72; (with_reducible refine (p2 _).mono ?_); rintro e w3 ⟨rfl, hb3⟩)
    | (go_at_call 73; (with_reducible refine (unit_h _).mono ?_); rintro e w2 ⟨rfl, hb2⟩)
    | (go_at_call 73; (with_reducible refine (unit_m _).mono ?_); rintro e w4 ⟨rfl, hb4⟩)
    | go_in)
  go_ret2
  have c1 := (hb1.trans (hb2.mono hb1.size)).alloc (Nat.le_trans hb1.size hb2.size) (.cells #[.int .i64 4, .int .u64 3600000000000] 125)
  have c2 := c1.trans (hb3.mono c1.size)
  have c3 := c2.trans (hb4.mono c2.size)
  exact ⟨rfl, c3.alloc c3.size _⟩

end Go.Proofs.YtdeejmkjhmpabaaGreatDoor
namespace Go.Proofs.YtdeejmkjhmpabaaGreatDoor
open Go.RowKit Go.Lib

set_option maxRecDepth 100000 in
set_option maxHeartbeats 1600000 in
/-- The closure: the duration is read, and there is no fault. -/
theorem read_clo (p0 p1 p2 : Nat) (w : World) (h0 : w.cell? ⟨p0, 0, none⟩ = some (.string ⟨#[49, 104, 51, 48, 109]⟩)) (h1 : w.cell? ⟨p1, 0, none⟩ = some (.int .i64 0)) (h2 : w.cell? ⟨p2, 0, none⟩ = some (.bool false)) (f1 : w.frozen? ⟨p1, 0, none⟩ = false) (f2 : w.frozen? ⟨p2, 0, none⟩ = false) (hp : p1 ≠ p2) :
    Calls Tryz.prog 45 #[.pointer (some ⟨p0, 0, none⟩), .pointer (some ⟨p1, 0, none⟩), .pointer (some ⟨p2, 0, none⟩)] w fun e w' => e = .returned (.tuple #[]) ∧ ∃ w1, Below w.heap.size w w1 ∧ w' = ((w1.setCell ⟨p1, 0, none⟩ (.int .i64 5400000000000)).setCell ⟨p2, 0, none⟩ (.bool true)).drew := by
  have hnil : ∀ w : World, (binOp BinOp.eql 97 .nilIface .nilIface).run Tryz.prog w = .ok (.bool true) w := fun _ => by kernel_rfl
  have hpd := parse_1h30m w
  have hl1 : p1 < w.heap.size := World.block_lt_of_cell? w _ h1
  have hl2 : p2 < w.heap.size := World.block_lt_of_cell? w _ h2
  have HK : Hid (∀ W, Below w.heap.size w W → W.cell? ⟨p1, 0, none⟩ = some (.int .i64 0) ∧ W.cell? ⟨p2, 0, none⟩ = some (.bool false) ∧ W.frozen? ⟨p1, 0, none⟩ = false ∧ W.frozen? ⟨p2, 0, none⟩ = false) := fun W hW =>
    ⟨(hW.cell (p := ⟨p1, 0, none⟩) hl1).trans h1, (hW.cell (p := ⟨p2, 0, none⟩) hl2).trans h2, (hW.frozen (p := ⟨p1, 0, none⟩) hl1).trans f1, (hW.frozen (p := ⟨p2, 0, none⟩) hl2).trans f2⟩
  clear h1 h2 f1 f2
  go_enter Tryz.func45, Tryz.ntmps45
  go_wp2_with (go_at_call 46; (with_reducible refine hpd.mono ?_); rintro e w1 ⟨rfl, hb1⟩; obtain ⟨k1, k2, k3, k4⟩ := HK.out w1 hb1)
  go_region
  all_goals
    go_end0
    exact ⟨rfl, w1, hb1, rfl⟩

/-- A new variable, and what becomes of it. -/
theorem new1 (w W : World) (v : Value) (t : TypeId) (hb : Below (w.heap.size + 1) (w.alloc (.cells #[v] t)) W) : W.cell? ⟨w.heap.size, 0, none⟩ = some v ∧ W.frozen? ⟨w.heap.size, 0, none⟩ = false :=
  ⟨(hb.cell (p := ⟨w.heap.size, 0, none⟩) (Nat.lt_succ_self _)).trans (by simp), (hb.frozen (p := ⟨w.heap.size, 0, none⟩) (Nat.lt_succ_self _)).trans (by simp)⟩

set_option maxRecDepth 100000 in
set_option maxHeartbeats 1600000 in
/-- impl.DurationRead at "1h30m". -/
theorem duration_read (w : World) : Calls Tryz.prog 20 #[.string ⟨#[49, 104, 51, 48, 109]⟩] w fun e w' => e = .returned (.tuple #[.int .i64 5400000000000, .bool true]) ∧ Below w.heap.size w w' := by
  have hmf : ∀ (fn : Fn) (first cap : Array Value) (w : World), (Instr.makeFunc fn first cap).run Tryz.prog w = .ok (.func fn first cap) w := fun _ _ _ _ => rfl
  obtain ⟨wa, hwa⟩ : ∃ wa, wa = w.alloc (.cells #[.string ⟨#[49, 104, 51, 48, 109]⟩] 9) := ⟨_, rfl⟩
  obtain ⟨wb, hwb⟩ : ∃ wb, wb = wa.alloc (.cells #[.int .i64 0] 2) := ⟨_, rfl⟩
  obtain ⟨w1, hw1⟩ : ∃ w1, w1 = wb.alloc (.cells #[.bool false] 4) := ⟨_, rfl⟩
  obtain ⟨w2, hw2⟩ : ∃ w2, w2 = w1.alloc (.cells #[.bool false] 4) := ⟨_, rfl⟩
  have hsa : wa.heap.size = w.heap.size + 1 := by rw [hwa]; simp
  have hsb : wb.heap.size = w.heap.size + 2 := by rw [hwb]; simp; omega
  have hs1 : w1.heap.size = w.heap.size + 3 := by rw [hw1]; simp; omega
  have hs2 : w2.heap.size = w.heap.size + 4 := by rw [hw2]; simp; omega
  have ba : Below w.heap.size w wa := by rw [hwa]; exact (Below.refl _ _).alloc (Nat.le_refl _) _
  have bb : Below wa.heap.size wa wb := by rw [hwb]; exact (Below.refl _ _).alloc (Nat.le_refl _) _
  have bc : Below wb.heap.size wb w1 := by rw [hw1]; exact (Below.refl _ _).alloc (Nat.le_refl _) _
  have hB12 : Below w1.heap.size w1 w2 := by rw [hw2]; exact (Below.refl _ _).alloc (Nat.le_refl _) _
  have hbd : Below wb.heap.size wb w2 := bc.trans (hB12.mono (by omega))
  have had : Below wa.heap.size wa w2 := bb.trans (hbd.mono (by omega))
  have hB1 : Below w.heap.size w w1 := ba.trans ((bb.trans (bc.mono (by omega))).mono (by omega))
  have x0 : w2.cell? ⟨w.heap.size, 0, none⟩ = some (.string ⟨#[49, 104, 51, 48, 109]⟩) := (new1 w w2 _ 9 (by rw [← hwa]; exact had.mono (by omega))).1
  have x1 : w2.cell? ⟨w.heap.size + 1, 0, none⟩ = some (.int .i64 0) := by rw [← hsa]; exact (new1 wa w2 _ 2 (by rw [← hwb]; exact hbd.mono (by omega))).1
  have y1 : w2.frozen? ⟨w.heap.size + 1, 0, none⟩ = false := by rw [← hsa]; exact (new1 wa w2 (.int .i64 0) 2 (by rw [← hwb]; exact hbd.mono (by omega))).2
  have x2 : w2.cell? ⟨w.heap.size + 2, 0, none⟩ = some (.bool false) := by rw [← hsb]; exact (new1 wb w2 _ 4 (by rw [← hw1]; exact hB12.mono (by omega))).1
  have y2 : w2.frozen? ⟨w.heap.size + 2, 0, none⟩ = false := by rw [← hsb]; exact (new1 wb w2 (.bool false) 4 (by rw [← hw1]; exact hB12.mono (by omega))).2
  have x4 : w2.cell? ⟨w1.heap.size, 0, none⟩ = some (.bool false) := by rw [hw2]; simp
  have x5 : w2.frozen? ⟨w1.heap.size, 0, none⟩ = false := by rw [hw2]; simp
  have hclo := read_clo w.heap.size (w.heap.size + 1) (w.heap.size + 2) w2 x0 x1 x2 y1 y2 (by omega)
  have hsf := safe_any 45 #[.pointer (some ⟨w.heap.size, 0, none⟩), .pointer (some ⟨w.heap.size + 1, 0, none⟩), .pointer (some ⟨w.heap.size + 2, 0, none⟩)] (fun w => by kernel_rfl) w.heap.size w1 w2 hw2 (by omega)
    (fun W => (W.cell? ⟨w.heap.size + 1, 0, none⟩ = some (.int .i64 5400000000000) ∧ W.cell? ⟨w.heap.size + 2, 0, none⟩ = some (.bool true)) ∧ W.frozen? ⟨w.heap.size + 1, 0, none⟩ = false ∧ W.frozen? ⟨w.heap.size + 2, 0, none⟩ = false)
    (hclo.mono (by
      rintro e w' ⟨rfl, W, hBW, rfl⟩
      have z1 : W.cell? ⟨w.heap.size + 1, 0, none⟩ = some (.int .i64 0) := (hBW.cell (p := ⟨w.heap.size + 1, 0, none⟩) (by show w.heap.size + 1 < _; omega)).trans x1
      have z2 : W.cell? ⟨w.heap.size + 2, 0, none⟩ = some (.bool false) := (hBW.cell (p := ⟨w.heap.size + 2, 0, none⟩) (by show w.heap.size + 2 < _; omega)).trans x2
      have z3 : (W.setCell ⟨w.heap.size + 1, 0, none⟩ (.int .i64 5400000000000)).cell? ⟨w.heap.size + 2, 0, none⟩ = some (.bool false) := by
        rw [World.cell?_setCell_other]
        · exact z2
        · intro e; injection e with e _; omega
      refine ⟨rfl, ((hBW.mono (show w.heap.size ≤ w2.heap.size by omega)).setCell (by show w.heap.size ≤ w.heap.size + 1; omega) _).setCell (by show w.heap.size ≤ w.heap.size + 2; omega) _ |>.drew, ?_, ?_, ⟨?_, ?_⟩, ?_, ?_⟩
      · show ((W.setCell _ _).setCell _ _).cell? _ = _
        rw [World.cell?_setCell_other (h := fun e => by injection e with e _; omega), World.cell?_setCell_other (h := fun e => by injection e with e _; omega)]
        exact (hBW.cell (p := ⟨w1.heap.size, 0, none⟩) (by show w1.heap.size < _; omega)).trans x4
      · show ((W.setCell _ _).setCell _ _).frozen? _ = _
        rw [World.frozen?_setCell, World.frozen?_setCell]
        exact (hBW.frozen (p := ⟨w1.heap.size, 0, none⟩) (by show w1.heap.size < _; omega)).trans x5
      · show ((W.setCell _ _).setCell _ _).cell? _ = _
        rw [World.cell?_setCell_other (h := fun e => by injection e with e _; omega)]
        exact World.cell?_setCell_same _ _ _ z1
      · exact World.cell?_setCell_same _ _ _ z3
      · show ((W.setCell _ _).setCell _ _).frozen? _ = _
        rw [World.frozen?_setCell, World.frozen?_setCell]
        exact (hBW.frozen (p := ⟨w.heap.size + 1, 0, none⟩) (by show w.heap.size + 1 < _; omega)).trans y1
      · show ((W.setCell _ _).setCell _ _).frozen? _ = _
        rw [World.frozen?_setCell, World.frozen?_setCell]
        exact (hBW.frozen (p := ⟨w.heap.size + 2, 0, none⟩) (by show w.heap.size + 2 < _; omega)).trans y2))
    (by
      rintro W ⟨⟨h1, h2⟩, h3, h4⟩
      refine ⟨⟨?_, ?_⟩, by rw [World.frozen?_setCell]; exact h3, by rw [World.frozen?_setCell]; exact h4⟩
      · rw [World.cell?_setCell_other]
        · exact h1
        · intro e; injection e with e _; omega
      · rw [World.cell?_setCell_other]
        · exact h2
        · intro e; injection e with e _; omega)
  have hW1 : w1 = ((w.alloc (.cells #[.string ⟨#[49, 104, 51, 48, 109]⟩] 9)).alloc (.cells #[.int .i64 0] 2)).alloc (.cells #[.bool false] 4) := by rw [hw1, hwb, hwa]
  have HW1 := Lib.hid hW1
  have HB1 := Lib.hid hB1
  clear hW1 hB1 hclo x0 x1 x2 x4 x5 y1 y2 hbd had hB12 bc bb ba hs2 hs1 hsb hsa hw2 hw1 hwb hwa
  go_enter Tryz.func20, Tryz.ntmps20
  go_wp2_with (rw [← HW1.out]; go_at_call 29; (with_reducible refine hsf.mono ?_); rintro e w3 ⟨rfl, hb3, ⟨z1, z2⟩, z3, z4⟩)
  have u1 : (w3.setCell ⟨w.heap.size + 1, 0, none⟩ (.int .i64 5400000000000)).cell? ⟨w.heap.size + 2, 0, none⟩ = some (.bool true) := by
    rw [World.cell?_setCell_other (h := fun e => by injection e with e _; omega)]
    exact z2
  have u2 : ((w3.setCell ⟨w.heap.size + 1, 0, none⟩ (.int .i64 5400000000000)).setCell ⟨w.heap.size + 1 + 1, 0, none⟩ (.bool true)).cell? ⟨w.heap.size + 1 + 1, 0, none⟩ = some (.bool true) := World.cell?_setCell_same _ _ _ u1
  have u3 : ((w3.setCell ⟨w.heap.size + 1, 0, none⟩ (.int .i64 5400000000000)).setCell ⟨w.heap.size + 1 + 1, 0, none⟩ (.bool true)).cell? ⟨w.heap.size + 1, 0, none⟩ = some (.int .i64 5400000000000) := by
    rw [World.cell?_setCell_other (h := fun e => by injection e with e _; omega)]
    exact World.cell?_setCell_same _ _ _ z1
  refine bodyPost_ret (v := .tuple #[.int .i64 5400000000000, .bool true]) (by simp [results, Tryz.results20, go_sem, u2, u3]) rfl ?_
  exact ⟨rfl, ((HB1.out.trans hb3).setCell (by show w.heap.size ≤ w.heap.size + 1; omega) _).setCell (by show w.heap.size ≤ w.heap.size + 1 + 1; omega) _⟩

end Go.Proofs.YtdeejmkjhmpabaaGreatDoor
namespace Go.Proofs.YtdeejmkjhmpabaaGreatDoor
open Go.RowKit Go.Lib

set_option maxRecDepth 100000 in
set_option maxHeartbeats 800000 in
/-- The closure of Duration.String where nothing is written: a rest is left. -/
theorem unit_skip (u : List UInt8) (mult ms : Int) (p r : Nat) (w : World) (h0 : ¬ mult = 0) (hm : ms.tmod mult ≠ 0) (hms : w.cell? ⟨p, 0, none⟩ = some (.int .i64 ms)) :
    Calls Tryz.prog 74 #[.string ⟨u.toArray⟩, .int .i64 mult, .bool true, .pointer (some ⟨p, 0, none⟩), .pointer (some ⟨r, 0, none⟩)] w fun e w' => e = .returned (.tuple #[]) ∧ w = w' := by
  have hne : (ms.tmod mult == 0) = false := by simpa using hm
  clear hm
  go_enter Tryz.func74, Tryz.ntmps74
  go_wp2
  first
    | go_end0
    | refine bodyPost_ret (results_none rfl _ _ _) rfl ?_
    | (try simp only [Exit.inBlock, Exit.then]; refine bodyPost_ret (results_none rfl _ _ _) rfl ?_)
  exact ⟨rfl, rfl⟩

set_option maxRecDepth 100000 in
set_option maxHeartbeats 800000 in
/-- .. where there is none of the unit. -/
theorem unit_none (u : List UInt8) (mult ms : Int) (p r : Nat) (w : World) (h0 : ¬ mult = 0) (hm : ms.tdiv mult = 0) (hms : w.cell? ⟨p, 0, none⟩ = some (.int .i64 ms)) :
    Calls Tryz.prog 74 #[.string ⟨u.toArray⟩, .int .i64 mult, .bool false, .pointer (some ⟨p, 0, none⟩), .pointer (some ⟨r, 0, none⟩)] w fun e w' => e = .returned (.tuple #[]) ∧ w = w' := by
  go_enter Tryz.func74, Tryz.ntmps74
  go_wp2
  go_end0
  exact ⟨rfl, rfl⟩

set_option maxRecDepth 100000 in
set_option maxHeartbeats 3200000 in
/-- .. where there are q of the unit, and m is left: t becomes t2. -/
theorem unit_some (u t t2 : List UInt8) (mult ms m : Int) (q : Nat) (p r : Nat) (w : World) (hT : Tabs w) (h0 : ¬ mult = 0) (hm : ms.tdiv mult = (q : Int)) (hq : 0 < q) (hq2 : q < 1000) (hl : ms - (q : Int) * mult = m) (hb1 : 0 ≤ (q : Int) * mult) (hb2 : (q : Int) * mult ≤ 9000000000000000) (hb3 : 0 ≤ m) (hb4 : m ≤ 9000000000000000)
    (hms : w.cell? ⟨p, 0, none⟩ = some (.int .i64 ms)) (hr : w.cell? ⟨r, 0, none⟩ = some (.string ⟨t.toArray⟩)) (fp : w.frozen? ⟨p, 0, none⟩ = false) (fr : w.frozen? ⟨r, 0, none⟩ = false) (hpr : p ≠ r) (ht : t.length ≤ 100) (hu : u.length ≤ 10) (he : t2 = t ++ (decDigits q ++ u)) :
    Calls Tryz.prog 74 #[.string ⟨u.toArray⟩, .int .i64 mult, .bool false, .pointer (some ⟨p, 0, none⟩), .pointer (some ⟨r, 0, none⟩)] w fun e w' => e = .returned (.tuple #[]) ∧ ∃ w1, Below w.heap.size w w1 ∧ w' = ((w1.setCell ⟨r, 0, none⟩ (.string ⟨t2.toArray⟩)).setCell ⟨p, 0, none⟩ (.int .i64 m)) := by
  have hf := fint q (by omega) w.drew (hT.below (Below.refl _ _).drew)
  have hlp : p < w.heap.size := World.block_lt_of_cell? w _ hms
  have hlr : r < w.heap.size := World.block_lt_of_cell? w _ hr
  have hdl := dec_len q 3 (by decide) (by omega)
  obtain ⟨d, hd⟩ : ∃ d, Hid (d = decDigits q) := ⟨_, rfl⟩
  rw [← hd.out] at hf hdl
  obtain ⟨s1, S1, a1⟩ := cat_ex d u (by omega)
  have n1 := cat_len S1
  obtain ⟨s2, S2, a2⟩ := cat_ex t s1 (by omega)
  have HE : Hid (t2 = s2) := by show t2 = s2; rw [S2.out, S1.out, hd.out, he]
  have HK : Hid (∀ W, Below w.heap.size w W → (W.cell? ⟨p, 0, none⟩ = some (.int .i64 ms) ∧ W.cell? ⟨r, 0, none⟩ = some (.string ⟨t.toArray⟩)) ∧ W.frozen? ⟨p, 0, none⟩ = false ∧ W.frozen? ⟨r, 0, none⟩ = false) := fun W hW =>
    ⟨⟨(hW.cell (p := ⟨p, 0, none⟩) hlp).trans hms, (hW.cell (p := ⟨r, 0, none⟩) hlr).trans hr⟩, (hW.frozen (p := ⟨p, 0, none⟩) hlp).trans fp, (hW.frozen (p := ⟨r, 0, none⟩) hlr).trans fr⟩
  have hqp : (q : Int) > 0 := by omega
  have w1e : IntKind.i64.wrap ((q : Int) * mult) = (q : Int) * mult := IntWalk.i64_in _ (by omega)
  have w2e : IntKind.i64.wrap (ms - (q : Int) * mult) = m := by rw [hl]; exact IntWalk.i64_in _ (by omega)
  have hwq : IntKind.i64.wrap (q : Int) = (q : Int) := IntWalk.i64_in _ (by omega)
  clear hdl n1 he hlp hlr hT
  go_enter Tryz.func74, Tryz.ntmps74
  go_wp2_with fail
  go_region_with (first
    | (go_at_call 54; (with_reducible refine hf.mono ?_); rintro e w1 ⟨rfl, hb⟩; obtain ⟨⟨k1, k2⟩, k3, k4⟩ := HK.out w1 ((Below.refl _ w).drew.trans hb)))
  all_goals
    go_wp2
    go_end0
    exact ⟨rfl, w1, (Below.refl _ w).drew.trans hb, by rw [HE.out]⟩

end Go.Proofs.YtdeejmkjhmpabaaGreatDoor
namespace Go.Proofs.YtdeejmkjhmpabaaGreatDoor
open Go.RowKit Go.Lib

/-- The two variables of Duration.String: what is left, what is written. -/
structure Two (B p r : Nat) (w : World) (ms : Int) (t : List UInt8) (W : World) : Prop where
  cp : W.cell? ⟨p, 0, none⟩ = some (.int .i64 ms)
  cr : W.cell? ⟨r, 0, none⟩ = some (.string ⟨t.toArray⟩)
  fp : W.frozen? ⟨p, 0, none⟩ = false
  fr : W.frozen? ⟨r, 0, none⟩ = false
  bel : Below B w W

theorem Two.some {B p r : Nat} {w W : World} {ms : Int} {t : List UInt8} (h : Two B p r w ms t W) (hBp : B ≤ p) (hBr : B ≤ r) (hpr : p ≠ r) (hBw : B ≤ W.heap.size) (hT : Tabs W) (u t2 : List UInt8) (mult m : Int) (q : Nat) (h0 : ¬ mult = 0) (hm : ms.tdiv mult = (q : Int)) (hq : 0 < q) (hq2 : q < 1000) (hl : ms - (q : Int) * mult = m) (hb1 : 0 ≤ (q : Int) * mult)
    (hb2 : (q : Int) * mult ≤ 9000000000000000) (hb3 : 0 ≤ m) (hb4 : m ≤ 9000000000000000) (ht : t.length ≤ 100) (hu : u.length ≤ 10) (he : t2 = t ++ (decDigits q ++ u)) :
    Calls Tryz.prog 74 #[.string ⟨u.toArray⟩, .int .i64 mult, .bool false, .pointer (some ⟨p, 0, none⟩), .pointer (some ⟨r, 0, none⟩)] W fun e w' => e = .returned (.tuple #[]) ∧ Two B p r w m t2 w' ∧ Below B W w' := by
  refine (unit_some u t t2 mult ms m q p r W hT h0 hm hq hq2 hl hb1 hb2 hb3 hb4 h.cp h.cr h.fp h.fr hpr ht hu he).mono ?_
  rintro e w' ⟨rfl, w1, hb, rfl⟩
  have lp : p < W.heap.size := World.block_lt_of_cell? W _ h.cp
  have lr : r < W.heap.size := World.block_lt_of_cell? W _ h.cr
  have k1 := (hb.cell (p := ⟨p, 0, none⟩) lp).trans h.cp
  have k2 := (hb.cell (p := ⟨r, 0, none⟩) lr).trans h.cr
  have k3 : (w1.setCell ⟨r, 0, none⟩ (.string ⟨t2.toArray⟩)).cell? ⟨p, 0, none⟩ = .some (.int .i64 ms) := by
    rw [World.cell?_setCell_other (h := fun e => by injection e with e _; exact hpr e.symm)]; exact k1
  have hbb : Below B W ((w1.setCell ⟨r, 0, none⟩ (.string ⟨t2.toArray⟩)).setCell ⟨p, 0, none⟩ (.int .i64 m)) := ((hb.mono hBw).setCell hBr _).setCell hBp _
  refine ⟨rfl, ⟨World.cell?_setCell_same _ _ _ k3, ?_, ?_, ?_, h.bel.trans hbb⟩, hbb⟩
  · rw [World.cell?_setCell_other (h := fun e => by injection e with e _; exact hpr e)]
    exact World.cell?_setCell_same _ _ _ k2
  · rw [World.frozen?_setCell, World.frozen?_setCell]; exact (hb.frozen (p := ⟨p, 0, none⟩) lp).trans h.fp
  · rw [World.frozen?_setCell, World.frozen?_setCell]; exact (hb.frozen (p := ⟨r, 0, none⟩) lr).trans h.fr

set_option maxRecDepth 100000 in
set_option maxHeartbeats 3200000 in
theorem dur_string (w : World) (hT : Tabs w) : Calls Tryz.prog 48 #[.int .i64 5400000000000] w fun e w' => e = .returned (.string ⟨#[49, 104, 51, 48, 109]⟩) ∧ Below w.heap.size w w' := by
  have hmf : ∀ (fn : Fn) (first cap : Array Value) (w : World), (Instr.makeFunc fn first cap).run Tryz.prog w = .ok (.func fn first cap) w := fun _ _ _ _ => rfl
  obtain ⟨W0, hW0⟩ : ∃ W0, W0 = (w.alloc (.cells #[.int .i64 5400000] 2)).alloc (.cells #[.string ⟨#[]⟩] 9) := ⟨_, rfl⟩
  have hs0 : W0.heap.size = w.heap.size + 2 := by rw [hW0]; simp
  have h0 : Two w.heap.size w.heap.size (w.heap.size + 1) w 5400000 [] W0 := by
    refine ⟨?_, ?_, ?_, ?_, ?_⟩ <;> rw [hW0]
    · simp
    · simp
    · simp
    · simp
    · exact ((Below.refl _ _).alloc (Nat.le_refl _) _).alloc (by simp) _
  have hT0 : Tabs W0 := hT.below h0.bel
  have y1 := unit_skip [121] 31536000000 5400000 w.heap.size (w.heap.size + 1) W0 (by decide) (by decide) h0.cp
  have y2 := unit_skip [119] 604800000 5400000 w.heap.size (w.heap.size + 1) W0 (by decide) (by decide) h0.cp
  have y3 := unit_none [100] 86400000 5400000 w.heap.size (w.heap.size + 1) W0 (by decide) (by decide) h0.cp
  have y4 := h0.some (Nat.le_refl _) (Nat.le_succ _) (by omega) (by omega) hT0 [104] [49, 104] 3600000 1800000 1 (by decide) (by decide) (by decide) (by decide) (by decide) (by decide) (by decide) (by decide) (by decide) (by decide) (by decide) (by decide +kernel)
  have HW0 := Lib.hid hW0
  have HT := Lib.hid hT
  clear hW0 h0 hT0 hT
  go_enter Tryz.func48, Tryz.ntmps48
  go_wp2_with (first
    | (rw [← HW0.out]; go_at_call 74; (with_reducible refine y1.mono ?_); rintro e w1 ⟨rfl, rfl⟩)
    | (go_at_call 74; (with_reducible refine y2.mono ?_); rintro e w1 ⟨rfl, rfl⟩)
    | (go_at_call 74; (with_reducible refine y3.mono ?_); rintro e w1 ⟨rfl, rfl⟩)
    | (go_at_call 74; (with_reducible refine y4.mono ?_); rintro e w1 ⟨rfl, hw1, hb1⟩; have y5 := hw1.some (Nat.le_refl _) (Nat.le_succ _) (by omega) (by have := hb1.size; omega) (HT.out.below hw1.bel) [109] [49, 104, 51, 48, 109] 60000 0 30 (by decide) (by decide) (by decide) (by decide) (by decide) (by decide) (by decide) (by decide) (by decide) (by decide) (by decide) (by decide +kernel))
    | (go_at_call 74; (with_reducible refine y5.mono ?_); rintro e w2 ⟨rfl, hw2, hb2⟩; have y6 := unit_none [115] 1000 0 w.heap.size (w.heap.size + 1) w2 (by decide) (by decide) hw2.cp; have y7 := unit_none [109, 115] 1 0 w.heap.size (w.heap.size + 1) w2 (by decide) (by decide) hw2.cp; have k1 := hw2.cr)
    | (go_at_call 74; (with_reducible refine y6.mono ?_); rintro e w3 ⟨rfl, rfl⟩)
    | (go_at_call 74; (with_reducible refine y7.mono ?_); rintro e w3 ⟨rfl, rfl⟩)
    | go_in)
  go_ret
  exact ⟨rfl, hw2.bel⟩

end Go.Proofs.YtdeejmkjhmpabaaGreatDoor
namespace Go.Proofs.YtdeejmkjhmpabaaGreatDoor
open Go.RowKit Go.Lib

set_option maxRecDepth 100000 in
set_option maxHeartbeats 800000 in
theorem text_clo (p0 p1 : Nat) (w : World) (hT : Tabs w) (h0 : w.cell? ⟨p0, 0, none⟩ = some (.int .i64 5400000000000)) (h1 : w.cell? ⟨p1, 0, none⟩ = some (.string ⟨#[]⟩)) (f1 : w.frozen? ⟨p1, 0, none⟩ = false) :
    Calls Tryz.prog 47 #[.pointer (some ⟨p0, 0, none⟩), .pointer (some ⟨p1, 0, none⟩)] w fun e w' => e = .returned (.tuple #[]) ∧ ∃ w1, Below w.heap.size w w1 ∧ w' = w1.setCell ⟨p1, 0, none⟩ (.string ⟨#[49, 104, 51, 48, 109]⟩) := by
  have hd := dur_string w hT
  have hl : p1 < w.heap.size := World.block_lt_of_cell? w _ h1
  have HK : Hid (∀ W, Below w.heap.size w W → W.cell? ⟨p1, 0, none⟩ = some (.string ⟨#[]⟩) ∧ W.frozen? ⟨p1, 0, none⟩ = false) := fun W hW => ⟨(hW.cell (p := ⟨p1, 0, none⟩) hl).trans h1, (hW.frozen (p := ⟨p1, 0, none⟩) hl).trans f1⟩
  clear h1 f1 hT
  go_enter Tryz.func47, Tryz.ntmps47
  go_wp2_with (go_at_call 48; (with_reducible refine hd.mono ?_); rintro e w1 ⟨rfl, hb1⟩; obtain ⟨k1, k2⟩ := HK.out w1 hb1)
  go_end0
  exact ⟨rfl, w1, hb1, rfl⟩

set_option maxRecDepth 100000 in
set_option maxHeartbeats 1600000 in
theorem duration_text (w : World) (hT : Tabs w) : Calls Tryz.prog 21 #[.int .i64 5400000000000] w fun e w' => e = .returned (.string ⟨#[49, 104, 51, 48, 109]⟩) ∧ Below w.heap.size w w' := by
  have hmf : ∀ (fn : Fn) (first cap : Array Value) (w : World), (Instr.makeFunc fn first cap).run Tryz.prog w = .ok (.func fn first cap) w := fun _ _ _ _ => rfl
  obtain ⟨w1, hw1⟩ : ∃ w1, w1 = (w.alloc (.cells #[.int .i64 5400000000000] 2)).alloc (.cells #[.string ⟨#[]⟩] 9) := ⟨_, rfl⟩
  obtain ⟨w2, hw2⟩ : ∃ w2, w2 = w1.alloc (.cells #[.bool false] 4) := ⟨_, rfl⟩
  have hs1 : w1.heap.size = w.heap.size + 2 := by rw [hw1]; simp
  have hs2 : w2.heap.size = w.heap.size + 3 := by rw [hw2]; simp; omega
  have hB1 : Below w.heap.size w w1 := by rw [hw1]; exact ((Below.refl _ _).alloc (Nat.le_refl _) _).alloc (by simp) _
  have hB2 : Below w.heap.size w w2 := by rw [hw2]; exact hB1.alloc (by omega) _
  have hB12 : Below w1.heap.size w1 w2 := by rw [hw2]; exact (Below.refl _ _).alloc (Nat.le_refl _) _
  have x1 : w2.cell? ⟨w.heap.size, 0, none⟩ = some (.int .i64 5400000000000) := (hB12.cell (p := ⟨w.heap.size, 0, none⟩) (by show w.heap.size < _; omega)).trans (by rw [hw1]; simp)
  have x2 : w2.cell? ⟨w.heap.size + 1, 0, none⟩ = some (.string ⟨#[]⟩) := (hB12.cell (p := ⟨w.heap.size + 1, 0, none⟩) (by show w.heap.size + 1 < _; omega)).trans (by rw [hw1]; simp)
  have x3 : w2.frozen? ⟨w.heap.size + 1, 0, none⟩ = false := (hB12.frozen (p := ⟨w.heap.size + 1, 0, none⟩) (by show w.heap.size + 1 < _; omega)).trans (by rw [hw1]; simp)
  have x4 : w2.cell? ⟨w1.heap.size, 0, none⟩ = some (.bool false) := by rw [hw2]; simp
  have x5 : w2.frozen? ⟨w1.heap.size, 0, none⟩ = false := by rw [hw2]; simp
  have hmk := text_clo w.heap.size (w.heap.size + 1) w2 (hT.below hB2) x1 x2 x3
  have hsf := safe_any 47 #[.pointer (some ⟨w.heap.size, 0, none⟩), .pointer (some ⟨w.heap.size + 1, 0, none⟩)] (fun w => by kernel_rfl) w.heap.size w1 w2 hw2 (by omega)
    (fun W => W.cell? ⟨w.heap.size + 1, 0, none⟩ = some (.string ⟨#[49, 104, 51, 48, 109]⟩) ∧ W.frozen? ⟨w.heap.size + 1, 0, none⟩ = false)
    (hmk.mono (by
      rintro e w' ⟨rfl, W, hBW, rfl⟩
      have y1 : W.cell? ⟨w.heap.size + 1, 0, none⟩ = some (.string ⟨#[]⟩) := (hBW.cell (p := ⟨w.heap.size + 1, 0, none⟩) (by show w.heap.size + 1 < _; omega)).trans x2
      have y2 : W.frozen? ⟨w.heap.size + 1, 0, none⟩ = false := (hBW.frozen (p := ⟨w.heap.size + 1, 0, none⟩) (by show w.heap.size + 1 < _; omega)).trans x3
      refine ⟨rfl, (hBW.mono (by omega)).setCell (by show w.heap.size ≤ w.heap.size + 1; omega) _, ?_, ?_, ?_⟩
      · rw [World.cell?_setCell_other (h := fun e => by injection e with e _; omega)]
        exact (hBW.cell (p := ⟨w1.heap.size, 0, none⟩) (by show w1.heap.size < _; omega)).trans x4
      · rw [World.frozen?_setCell]
        exact (hBW.frozen (p := ⟨w1.heap.size, 0, none⟩) (by show w1.heap.size < _; omega)).trans x5
      · exact ⟨World.cell?_setCell_same _ _ _ y1, by rw [World.frozen?_setCell]; exact y2⟩))
    (by
      rintro W ⟨h1, h2⟩
      refine ⟨?_, by rw [World.frozen?_setCell]; exact h2⟩
      rw [World.cell?_setCell_other (h := fun e => by injection e with e _; omega)]
      exact h1)
  have HW1 := Lib.hid hw1
  have HB1 := Lib.hid hB1
  clear hw1 hw2 hs1 hs2 hB1 hB2 hB12 x1 x2 x3 x4 x5 hmk hT
  go_enter Tryz.func21, Tryz.ntmps21
  go_wp2_with (rw [← HW1.out]; go_at_call 29; (with_reducible refine hsf.mono ?_); rintro e w3 ⟨rfl, hb3, z1, z2⟩)
  have z3 : (w3.setCell ⟨w.heap.size + 1, 0, none⟩ (.string ⟨#[49, 104, 51, 48, 109]⟩)).cell? ⟨w.heap.size + 1, 0, none⟩ = some (.string ⟨#[49, 104, 51, 48, 109]⟩) := World.cell?_setCell_same _ _ _ z1
  refine bodyPost_ret (v := .string ⟨#[49, 104, 51, 48, 109]⟩) (by simp [results, Tryz.results21, go_sem, z3]) rfl ?_
  exact ⟨rfl, (HB1.out.trans hb3).setCell (by show w.heap.size ≤ w.heap.size + 1; omega) _⟩

set_option maxRecDepth 100000 in
set_option maxHeartbeats 800000 in
/-- laws.modelAwake. -/
theorem awake (w : World) (hT : Tabs w) : Calls Tryz.prog 7 #[] w fun e w' => e = .returned (.bool true) ∧ Below w.heap.size w w' := by
  have h1 := duration_read w
  have HT := Lib.hid hT
  clear hT
  go_enter Tryz.func7, Tryz.ntmps7
  go_wp2_with (first
    | (go_at_call 20; (with_reducible refine h1.mono ?_); rintro e w1 ⟨rfl, hb1⟩; have h2 := duration_text w1 (HT.out.below hb1))
    | (go_at_call 21; (with_reducible refine h2.mono ?_); rintro e w2 ⟨rfl, hb2⟩)
    | go_in)
  go_ret
  exact ⟨rfl, hb1.trans (hb2.mono hb1.size)⟩

end Go.Proofs.YtdeejmkjhmpabaaGreatDoor

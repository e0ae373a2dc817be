/-
  Durations: isdigit, unitOf at the units of "1h30m".
-/
import Derived.Test.YtdeejmkjhmpabaaGreatDoorSf
namespace Go.Proofs.YtdeejmkjhmpabaaGreatDoor
open Go.RowKit Go.Lib

set_option maxHeartbeats 400000 in
theorem isdigit_any (c : Nat) (hc : c < 256) (w : World) : Calls Tryz.prog 71 #[.int .u8 (c : Int)] w fun e w' => e = .returned (.bool (decide (48 ≤ c) && decide (c ≤ 57))) ∧ w = w' := by
  by_cases h1 : 48 ≤ c
  · have h1' : (c : Int) ≥ 48 := by omega
    go_enter Tryz.func71, Tryz.ntmps71
    go_wp2
    go_ret
    exact ⟨by simp [h1]; omega, rfl⟩
  · have h1' : ¬ ((c : Int) ≥ 48) := by omega
    go_enter Tryz.func71, Tryz.ntmps71
    go_wp2
    go_ret
    exact ⟨by simp, rfl⟩

def unitO : Obj := .cells #[.int .i64 0, .int .u64 0] 125

set_option maxRecDepth 100000 in
set_option maxHeartbeats 1600000 in
theorem unit_h (w : World) : Calls Tryz.prog 73 #[.string ⟨#[104]⟩] w fun e w' => e = .returned (.tuple #[.agg #[.int .i64 4, .int .u64 3600000000000], .bool true]) ∧ Below w.heap.size w w' := by
  go_enter Tryz.func73, Tryz.ntmps73
  go_wp2
  refine bodyPost_ret (v := .tuple #[.agg #[.int .i64 4, .int .u64 3600000000000], .bool true]) (by simp [results, Tryz.results73, go_sem]) rfl ?_
  exact ⟨rfl, (Below.refl _ _).alloc (Nat.le_refl _) _⟩

set_option maxRecDepth 100000 in
set_option maxHeartbeats 1600000 in
theorem unit_m (w : World) : Calls Tryz.prog 73 #[.string ⟨#[109]⟩] w fun e w' => e = .returned (.tuple #[.agg #[.int .i64 5, .int .u64 60000000000], .bool true]) ∧ Below w.heap.size w w' := by
  go_enter Tryz.func73, Tryz.ntmps73
  go_wp2
  refine bodyPost_ret (v := .tuple #[.agg #[.int .i64 5, .int .u64 60000000000], .bool true]) (by simp [results, Tryz.results73, go_sem]) rfl ?_
  exact ⟨rfl, (Below.refl _ _).alloc (Nat.le_refl _) _⟩

end Go.Proofs.YtdeejmkjhmpabaaGreatDoor

/-
  Duration.String at 1h30m.
-/
import Derived.Test.YtdeejmkjhmpabaaGreatDoorD3
import Derived.Test.YtdeejmkjhmpabaaGreatDoorG2
import Derived.Deep.RegionHeld3
namespace Go.Proofs.YtdeejmkjhmpabaaGreatDoor
open Go.RowKit Go.Lib

set_option maxRecDepth 100000 in
set_option maxHeartbeats 800000 in
/-- The closure of Duration.String where nothing is written: a rest is left. -/
theorem unit_skip (u : List UInt8) (mult ms : Int) (p r : Nat) (w : World) (h0 : ¬ mult = 0) (hm : ms.tmod mult ≠ 0) (hms : w.cell? ⟨p, 0, none⟩ = some (.int .i64 ms)) :
    Calls Tryz.prog 74 #[.string ⟨u.toArray⟩, .int .i64 mult, .bool true, .pointer (some ⟨p, 0, none⟩), .pointer (some ⟨r, 0, none⟩)] w fun e w' => e = .returned (.tuple #[]) ∧ w = w' := by
  have hne : (ms.tmod mult == 0) = false := by simpa using hm
  clear hm
  go_enter Tryz.func74, Tryz.ntmps74
  go_wp2
  first
    | go_end0
    | refine bodyPost_ret (results_none rfl _ _ _) rfl ?_
    | (try simp only [Exit.inBlock, Exit.then]; refine bodyPost_ret (results_none rfl _ _ _) rfl ?_)
  exact ⟨rfl, rfl⟩

set_option maxRecDepth 100000 in
set_option maxHeartbeats 800000 in
/-- .. where there is none of the unit. -/
theorem unit_none (u : List UInt8) (mult ms : Int) (p r : Nat) (w : World) (h0 : ¬ mult = 0) (hm : ms.tdiv mult = 0) (hms : w.cell? ⟨p, 0, none⟩ = some (.int .i64 ms)) :
    Calls Tryz.prog 74 #[.string ⟨u.toArray⟩, .int .i64 mult, .bool false, .pointer (some ⟨p, 0, none⟩), .pointer (some ⟨r, 0, none⟩)] w fun e w' => e = .returned (.tuple #[]) ∧ w = w' := by
  go_enter Tryz.func74, Tryz.ntmps74
  go_wp2
  go_end0
  exact ⟨rfl, rfl⟩

set_option maxRecDepth 100000 in
set_option maxHeartbeats 3200000 in
/-- .. where there are q of the unit, and m is left: t becomes t2. -/
theorem unit_some (u t t2 : List UInt8) (mult ms m : Int) (q : Nat) (p r : Nat) (w : World) (hT : Tabs w) (h0 : ¬ mult = 0) (hm : ms.tdiv mult = (q : Int)) (hq : 0 < q) (hq2 : q < 1000) (hl : ms - (q : Int) * mult = m) (hb1 : 0 ≤ (q : Int) * mult) (hb2 : (q : Int) * mult ≤ 9000000000000000) (hb3 : 0 ≤ m) (hb4 : m ≤ 9000000000000000)
    (hms : w.cell? ⟨p, 0, none⟩ = some (.int .i64 ms)) (hr : w.cell? ⟨r, 0, none⟩ = some (.string ⟨t.toArray⟩)) (fp : w.frozen? ⟨p, 0, none⟩ = false) (fr : w.frozen? ⟨r, 0, none⟩ = false) (hpr : p ≠ r) (ht : t.length ≤ 100) (hu : u.length ≤ 10) (he : t2 = t ++ (decDigits q ++ u)) :
    Calls Tryz.prog 74 #[.string ⟨u.toArray⟩, .int .i64 mult, .bool false, .pointer (some ⟨p, 0, none⟩), .pointer (some ⟨r, 0, none⟩)] w fun e w' => e = .returned (.tuple #[]) ∧ ∃ w1, Below w.heap.size w w1 ∧ w' = ((w1.setCell ⟨r, 0, none⟩ (.string ⟨t2.toArray⟩)).setCell ⟨p, 0, none⟩ (.int .i64 m)) := by
  have hf := fint q (by omega) w.drew (hT.below (Below.refl _ _).drew)
  have hlp : p < w.heap.size := World.block_lt_of_cell? w _ hms
  have hlr : r < w.heap.size := World.block_lt_of_cell? w _ hr
  have hdl := dec_len q 3 (by decide) (by omega)
  obtain ⟨d, hd⟩ : ∃ d, Hid (d = decDigits q) := ⟨_, rfl⟩
  rw [← hd.out] at hf hdl
  obtain ⟨s1, S1, a1⟩ := cat_ex d u (by omega)
  have n1 := cat_len S1
  obtain ⟨s2, S2, a2⟩ := cat_ex t s1 (by omega)
  have HE : Hid (t2 = s2) := by show t2 = s2; rw [S2.out, S1.out, hd.out, he]
  have HK : Hid (∀ W, Below w.heap.size w W → (W.cell? ⟨p, 0, none⟩ = some (.int .i64 ms) ∧ W.cell? ⟨r, 0, none⟩ = some (.string ⟨t.toArray⟩)) ∧ W.frozen? ⟨p, 0, none⟩ = false ∧ W.frozen? ⟨r, 0, none⟩ = false) := fun W hW =>
    ⟨⟨(hW.cell (p := ⟨p, 0, none⟩) hlp).trans hms, (hW.cell (p := ⟨r, 0, none⟩) hlr).trans hr⟩, (hW.frozen (p := ⟨p, 0, none⟩) hlp).trans fp, (hW.frozen (p := ⟨r, 0, none⟩) hlr).trans fr⟩
  have hqp : (q : Int) > 0 := by omega
  have w1e : IntKind.i64.wrap ((q : Int) * mult) = (q : Int) * mult := IntWalk.i64_in _ (by omega)
  have w2e : IntKind.i64.wrap (ms - (q : Int) * mult) = m := by rw [hl]; exact IntWalk.i64_in _ (by omega)
  have hwq : IntKind.i64.wrap (q : Int) = (q : Int) := IntWalk.i64_in _ (by omega)
  clear hdl n1 he hlp hlr hT
  go_enter Tryz.func74, Tryz.ntmps74
  go_wp2_with fail
  go_region_with (first
    | (go_at_call 54; (with_reducible refine hf.mono ?_); rintro e w1 ⟨rfl, hb⟩; obtain ⟨⟨k1, k2⟩, k3, k4⟩ := HK.out w1 ((Below.refl _ w).drew.trans hb)))
  all_goals
    go_wp2
    go_end0
    exact ⟨rfl, w1, (Below.refl _ w).drew.trans hb, by rw [HE.out]⟩

end Go.Proofs.YtdeejmkjhmpabaaGreatDoor

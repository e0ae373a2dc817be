/-
  impl.DurationRead at "1h30m".
-/
import Derived.Test.YtdeejmkjhmpabaaGreatDoorD2
namespace Go.Proofs.YtdeejmkjhmpabaaGreatDoor
open Go.RowKit Go.Lib

set_option maxRecDepth 100000 in
set_option maxHeartbeats 1600000 in
/-- The closure: the duration is read, and there is no fault. -/
theorem read_clo (p0 p1 p2 : Nat) (w : World) (h0 : w.cell? ⟨p0, 0, none⟩ = some (.string ⟨#[49, 104, 51, 48, 109]⟩)) (h1 : w.cell? ⟨p1, 0, none⟩ = some (.int .i64 0)) (h2 : w.cell? ⟨p2, 0, none⟩ = some (.bool false)) (f1 : w.frozen? ⟨p1, 0, none⟩ = false) (f2 : w.frozen? ⟨p2, 0, none⟩ = false) (hp : p1 ≠ p2) :
    Calls Tryz.prog 45 #[.pointer (some ⟨p0, 0, none⟩), .pointer (some ⟨p1, 0, none⟩), .pointer (some ⟨p2, 0, none⟩)] w fun e w' => e = .returned (.tuple #[]) ∧ ∃ w1, Below w.heap.size w w1 ∧ w' = ((w1.setCell ⟨p1, 0, none⟩ (.int .i64 5400000000000)).setCell ⟨p2, 0, none⟩ (.bool true)).drew := by
  have hnil : ∀ w : World, (binOp BinOp.eql 97 .nilIface .nilIface).run Tryz.prog w = .ok (.bool true) w := fun _ => by kernel_rfl
  have hpd := parse_1h30m w
  have hl1 : p1 < w.heap.size := World.block_lt_of_cell? w _ h1
  have hl2 : p2 < w.heap.size := World.block_lt_of_cell? w _ h2
  have HK : Hid (∀ W, Below w.heap.size w W → W.cell? ⟨p1, 0, none⟩ = some (.int .i64 0) ∧ W.cell? ⟨p2, 0, none⟩ = some (.bool false) ∧ W.frozen? ⟨p1, 0, none⟩ = false ∧ W.frozen? ⟨p2, 0, none⟩ = false) := fun W hW =>
    ⟨(hW.cell (p := ⟨p1, 0, none⟩) hl1).trans h1, (hW.cell (p := ⟨p2, 0, none⟩) hl2).trans h2, (hW.frozen (p := ⟨p1, 0, none⟩) hl1).trans f1, (hW.frozen (p := ⟨p2, 0, none⟩) hl2).trans f2⟩
  clear h1 h2 f1 f2
  go_enter Tryz.func45, Tryz.ntmps45
  go_wp2_with (go_at_call 46; (with_reducible refine hpd.mono ?_); rintro e w1 ⟨rfl, hb1⟩; obtain ⟨k1, k2, k3, k4⟩ := HK.out w1 hb1)
  go_region
  all_goals
    go_end0
    exact ⟨rfl, w1, hb1, rfl⟩

/-- A new variable, and what becomes of it. -/
theorem new1 (w W : World) (v : Value) (t : TypeId) (hb : Below (w.heap.size + 1) (w.alloc (.cells #[v] t)) W) : W.cell? ⟨w.heap.size, 0, none⟩ = some v ∧ W.frozen? ⟨w.heap.size, 0, none⟩ = false :=
  ⟨(hb.cell (p := ⟨w.heap.size, 0, none⟩) (Nat.lt_succ_self _)).trans (by simp), (hb.frozen (p := ⟨w.heap.size, 0, none⟩) (Nat.lt_succ_self _)).trans (by simp)⟩

set_option maxRecDepth 100000 in
set_option maxHeartbeats 1600000 in
/-- impl.DurationRead at "1h30m". -/
theorem duration_read (w : World) : Calls Tryz.prog 20 #[.string ⟨#[49, 104, 51, 48, 109]⟩] w fun e w' => e = .returned (.tuple #[.int .i64 5400000000000, .bool true]) ∧ Below w.heap.size w w' := by
  have hmf : ∀ (fn : Fn) (first cap : Array Value) (w : World), (Instr.makeFunc fn first cap).run Tryz.prog w = .ok (.func fn first cap) w := fun _ _ _ _ => rfl
  obtain ⟨wa, hwa⟩ : ∃ wa, wa = w.alloc (.cells #[.string ⟨#[49, 104, 51, 48, 109]⟩] 9) := ⟨_, rfl⟩
  obtain ⟨wb, hwb⟩ : ∃ wb, wb = wa.alloc (.cells #[.int .i64 0] 2) := ⟨_, rfl⟩
  obtain ⟨w1, hw1⟩ : ∃ w1, w1 = wb.alloc (.cells #[.bool false] 4) := ⟨_, rfl⟩
  obtain ⟨w2, hw2⟩ : ∃ w2, w2 = w1.alloc (.cells #[.bool false] 4) := ⟨_, rfl⟩
  have hsa : wa.heap.size = w.heap.size + 1 := by rw [hwa]; simp
  have hsb : wb.heap.size = w.heap.size + 2 := by rw [hwb]; simp; omega
  have hs1 : w1.heap.size = w.heap.size + 3 := by rw [hw1]; simp; omega
  have hs2 : w2.heap.size = w.heap.size + 4 := by rw [hw2]; simp; omega
  have ba : Below w.heap.size w wa := by rw [hwa]; exact (Below.refl _ _).alloc (Nat.le_refl _) _
  have bb : Below wa.heap.size wa wb := by rw [hwb]; exact (Below.refl _ _).alloc (Nat.le_refl _) _
  have bc : Below wb.heap.size wb w1 := by rw [hw1]; exact (Below.refl _ _).alloc (Nat.le_refl _) _
  have hB12 : Below w1.heap.size w1 w2 := by rw [hw2]; exact (Below.refl _ _).alloc (Nat.le_refl _) _
  have hbd : Below wb.heap.size wb w2 := bc.trans (hB12.mono (by omega))
  have had : Below wa.heap.size wa w2 := bb.trans (hbd.mono (by omega))
  have hB1 : Below w.heap.size w w1 := ba.trans ((bb.trans (bc.mono (by omega))).mono (by omega))
  have x0 : w2.cell? ⟨w.heap.size, 0, none⟩ = some (.string ⟨#[49, 104, 51, 48, 109]⟩) := (new1 w w2 _ 9 (by rw [← hwa]; exact had.mono (by omega))).1
  have x1 : w2.cell? ⟨w.heap.size + 1, 0, none⟩ = some (.int .i64 0) := by rw [← hsa]; exact (new1 wa w2 _ 2 (by rw [← hwb]; exact hbd.mono (by omega))).1
  have y1 : w2.frozen? ⟨w.heap.size + 1, 0, none⟩ = false := by rw [← hsa]; exact (new1 wa w2 (.int .i64 0) 2 (by rw [← hwb]; exact hbd.mono (by omega))).2
  have x2 : w2.cell? ⟨w.heap.size + 2, 0, none⟩ = some (.bool false) := by rw [← hsb]; exact (new1 wb w2 _ 4 (by rw [← hw1]; exact hB12.mono (by omega))).1
  have y2 : w2.frozen? ⟨w.heap.size + 2, 0, none⟩ = false := by rw [← hsb]; exact (new1 wb w2 (.bool false) 4 (by rw [← hw1]; exact hB12.mono (by omega))).2
  have x4 : w2.cell? ⟨w1.heap.size, 0, none⟩ = some (.bool false) := by rw [hw2]; simp
  have x5 : w2.frozen? ⟨w1.heap.size, 0, none⟩ = false := by rw [hw2]; simp
  have hclo := read_clo w.heap.size (w.heap.size + 1) (w.heap.size + 2) w2 x0 x1 x2 y1 y2 (by omega)
  have hsf := safe_any 45 #[.pointer (some ⟨w.heap.size, 0, none⟩), .pointer (some ⟨w.heap.size + 1, 0, none⟩), .pointer (some ⟨w.heap.size + 2, 0, none⟩)] (fun w => by kernel_rfl) w.heap.size w1 w2 hw2 (by omega)
    (fun W => (W.cell? ⟨w.heap.size + 1, 0, none⟩ = some (.int .i64 5400000000000) ∧ W.cell? ⟨w.heap.size + 2, 0, none⟩ = some (.bool true)) ∧ W.frozen? ⟨w.heap.size + 1, 0, none⟩ = false ∧ W.frozen? ⟨w.heap.size + 2, 0, none⟩ = false)
    (hclo.mono (by
      rintro e w' ⟨rfl, W, hBW, rfl⟩
      have z1 : W.cell? ⟨w.heap.size + 1, 0, none⟩ = some (.int .i64 0) := (hBW.cell (p := ⟨w.heap.size + 1, 0, none⟩) (by show w.heap.size + 1 < _; omega)).trans x1
      have z2 : W.cell? ⟨w.heap.size + 2, 0, none⟩ = some (.bool false) := (hBW.cell (p := ⟨w.heap.size + 2, 0, none⟩) (by show w.heap.size + 2 < _; omega)).trans x2
      have z3 : (W.setCell ⟨w.heap.size + 1, 0, none⟩ (.int .i64 5400000000000)).cell? ⟨w.heap.size + 2, 0, none⟩ = some (.bool false) := by
        rw [World.cell?_setCell_other]
        · exact z2
        · intro e; injection e with e _; omega
      refine ⟨rfl, ((hBW.mono (show w.heap.size ≤ w2.heap.size by omega)).setCell (by show w.heap.size ≤ w.heap.size + 1; omega) _).setCell (by show w.heap.size ≤ w.heap.size + 2; omega) _ |>.drew, ?_, ?_, ⟨?_, ?_⟩, ?_, ?_⟩
      · show ((W.setCell _ _).setCell _ _).cell? _ = _
        rw [World.cell?_setCell_other (h := fun e => by injection e with e _; omega), World.cell?_setCell_other (h := fun e => by injection e with e _; omega)]
        exact (hBW.cell (p := ⟨w1.heap.size, 0, none⟩) (by show w1.heap.size < _; omega)).trans x4
      · show ((W.setCell _ _).setCell _ _).frozen? _ = _
        rw [World.frozen?_setCell, World.frozen?_setCell]
        exact (hBW.frozen (p := ⟨w1.heap.size, 0, none⟩) (by show w1.heap.size < _; omega)).trans x5
      · show ((W.setCell _ _).setCell _ _).cell? _ = _
        rw [World.cell?_setCell_other (h := fun e => by injection e with e _; omega)]
        exact World.cell?_setCell_same _ _ _ z1
      · exact World.cell?_setCell_same _ _ _ z3
      · show ((W.setCell _ _).setCell _ _).frozen? _ = _
        rw [World.frozen?_setCell, World.frozen?_setCell]
        exact (hBW.frozen (p := ⟨w.heap.size + 1, 0, none⟩) (by show w.heap.size + 1 < _; omega)).trans y1
      · show ((W.setCell _ _).setCell _ _).frozen? _ = _
        rw [World.frozen?_setCell, World.frozen?_setCell]
        exact (hBW.frozen (p := ⟨w.heap.size + 2, 0, none⟩) (by show w.heap.size + 2 < _; omega)).trans y2))
    (by
      rintro W ⟨⟨h1, h2⟩, h3, h4⟩
      refine ⟨⟨?_, ?_⟩, by rw [World.frozen?_setCell]; exact h3, by rw [World.frozen?_setCell]; exact h4⟩
      · rw [World.cell?_setCell_other]
        · exact h1
        · intro e; injection e with e _; omega
      · rw [World.cell?_setCell_other]
        · exact h2
        · intro e; injection e with e _; omega)
  have hW1 : w1 = ((w.alloc (.cells #[.string ⟨#[49, 104, 51, 48, 109]⟩] 9)).alloc (.cells #[.int .i64 0] 2)).alloc (.cells #[.bool false] 4) := by rw [hw1, hwb, hwa]
  have HW1 := Lib.hid hW1
  have HB1 := Lib.hid hB1
  clear hW1 hB1 hclo x0 x1 x2 x4 x5 y1 y2 hbd had hB12 bc bb ba hs2 hs1 hsb hsa hw2 hw1 hwb hwa
  go_enter Tryz.func20, Tryz.ntmps20
  go_wp2_with (rw [← HW1.out]; go_at_call 29; (with_reducible refine hsf.mono ?_); rintro e w3 ⟨rfl, hb3, ⟨z1, z2⟩, z3, z4⟩)
  have u1 : (w3.setCell ⟨w.heap.size + 1, 0, none⟩ (.int .i64 5400000000000)).cell? ⟨w.heap.size + 2, 0, none⟩ = some (.bool true) := by
    rw [World.cell?_setCell_other (h := fun e => by injection e with e _; omega)]
    exact z2
  have u2 : ((w3.setCell ⟨w.heap.size + 1, 0, none⟩ (.int .i64 5400000000000)).setCell ⟨w.heap.size + 1 + 1, 0, none⟩ (.bool true)).cell? ⟨w.heap.size + 1 + 1, 0, none⟩ = some (.bool true) := World.cell?_setCell_same _ _ _ u1
  have u3 : ((w3.setCell ⟨w.heap.size + 1, 0, none⟩ (.int .i64 5400000000000)).setCell ⟨w.heap.size + 1 + 1, 0, none⟩ (.bool true)).cell? ⟨w.heap.size + 1, 0, none⟩ = some (.int .i64 5400000000000) := by
    rw [World.cell?_setCell_other (h := fun e => by injection e with e _; omega)]
    exact World.cell?_setCell_same _ _ _ z1
  refine bodyPost_ret (v := .tuple #[.int .i64 5400000000000, .bool true]) (by simp [results, Tryz.results20, go_sem, u2, u3]) rfl ?_
  exact ⟨rfl, ((HB1.out.trans hb3).setCell (by show w.heap.size ≤ w.heap.size + 1; omega) _).setCell (by show w.heap.size ≤ w.heap.size + 1 + 1; omega) _⟩

end Go.Proofs.YtdeejmkjhmpabaaGreatDoor

/-
  impl.DurationText at 1h30m; laws.modelAwake.
-/
import Derived.Test.YtdeejmkjhmpabaaGreatDoorD5
namespace Go.Proofs.YtdeejmkjhmpabaaGreatDoor
open Go.RowKit Go.Lib

set_option maxRecDepth 100000 in
set_option maxHeartbeats 800000 in
theorem text_clo (p0 p1 : Nat) (w : World) (hT : Tabs w) (h0 : w.cell? ⟨p0, 0, none⟩ = some (.int .i64 5400000000000)) (h1 : w.cell? ⟨p1, 0, none⟩ = some (.string ⟨#[]⟩)) (f1 : w.frozen? ⟨p1, 0, none⟩ = false) :
    Calls Tryz.prog 47 #[.pointer (some ⟨p0, 0, none⟩), .pointer (some ⟨p1, 0, none⟩)] w fun e w' => e = .returned (.tuple #[]) ∧ ∃ w1, Below w.heap.size w w1 ∧ w' = w1.setCell ⟨p1, 0, none⟩ (.string ⟨#[49, 104, 51, 48, 109]⟩) := by
  have hd := dur_string w hT
  have hl : p1 < w.heap.size := World.block_lt_of_cell? w _ h1
  have HK : Hid (∀ W, Below w.heap.size w W → W.cell? ⟨p1, 0, none⟩ = some (.string ⟨#[]⟩) ∧ W.frozen? ⟨p1, 0, none⟩ = false) := fun W hW => ⟨(hW.cell (p := ⟨p1, 0, none⟩) hl).trans h1, (hW.frozen (p := ⟨p1, 0, none⟩) hl).trans f1⟩
  clear h1 f1 hT
  go_enter Tryz.func47, Tryz.ntmps47
  go_wp2_with (go_at_call 48; (with_reducible refine hd.mono ?_); rintro e w1 ⟨rfl, hb1⟩; obtain ⟨k1, k2⟩ := HK.out w1 hb1)
  go_end0
  exact ⟨rfl, w1, hb1, rfl⟩

set_option maxRecDepth 100000 in
set_option maxHeartbeats 1600000 in
theorem duration_text (w : World) (hT : Tabs w) : Calls Tryz.prog 21 #[.int .i64 5400000000000] w fun e w' => e = .returned (.string ⟨#[49, 104, 51, 48, 109]⟩) ∧ Below w.heap.size w w' := by
  have hmf : ∀ (fn : Fn) (first cap : Array Value) (w : World), (Instr.makeFunc fn first cap).run Tryz.prog w = .ok (.func fn first cap) w := fun _ _ _ _ => rfl
  obtain ⟨w1, hw1⟩ : ∃ w1, w1 = (w.alloc (.cells #[.int .i64 5400000000000] 2)).alloc (.cells #[.string ⟨#[]⟩] 9) := ⟨_, rfl⟩
  obtain ⟨w2, hw2⟩ : ∃ w2, w2 = w1.alloc (.cells #[.bool false] 4) := ⟨_, rfl⟩
  have hs1 : w1.heap.size = w.heap.size + 2 := by rw [hw1]; simp
  have hs2 : w2.heap.size = w.heap.size + 3 := by rw [hw2]; simp; omega
  have hB1 : Below w.heap.size w w1 := by rw [hw1]; exact ((Below.refl _ _).alloc (Nat.le_refl _) _).alloc (by simp) _
  have hB2 : Below w.heap.size w w2 := by rw [hw2]; exact hB1.alloc (by omega) _
  have hB12 : Below w1.heap.size w1 w2 := by rw [hw2]; exact (Below.refl _ _).alloc (Nat.le_refl _) _
  have x1 : w2.cell? ⟨w.heap.size, 0, none⟩ = some (.int .i64 5400000000000) := (hB12.cell (p := ⟨w.heap.size, 0, none⟩) (by show w.heap.size < _; omega)).trans (by rw [hw1]; simp)
  have x2 : w2.cell? ⟨w.heap.size + 1, 0, none⟩ = some (.string ⟨#[]⟩) := (hB12.cell (p := ⟨w.heap.size + 1, 0, none⟩) (by show w.heap.size + 1 < _; omega)).trans (by rw [hw1]; simp)
  have x3 : w2.frozen? ⟨w.heap.size + 1, 0, none⟩ = false := (hB12.frozen (p := ⟨w.heap.size + 1, 0, none⟩) (by show w.heap.size + 1 < _; omega)).trans (by rw [hw1]; simp)
  have x4 : w2.cell? ⟨w1.heap.size, 0, none⟩ = some (.bool false) := by rw [hw2]; simp
  have x5 : w2.frozen? ⟨w1.heap.size, 0, none⟩ = false := by rw [hw2]; simp
  have hmk := text_clo w.heap.size (w.heap.size + 1) w2 (hT.below hB2) x1 x2 x3
  have hsf := safe_any 47 #[.pointer (some ⟨w.heap.size, 0, none⟩), .pointer (some ⟨w.heap.size + 1, 0, none⟩)] (fun w => by kernel_rfl) w.heap.size w1 w2 hw2 (by omega)
    (fun W => W.cell? ⟨w.heap.size + 1, 0, none⟩ = some (.string ⟨#[49, 104, 51, 48, 109]⟩) ∧ W.frozen? ⟨w.heap.size + 1, 0, none⟩ = false)
    (hmk.mono (by
      rintro e w' ⟨rfl, W, hBW, rfl⟩
      have y1 : W.cell? ⟨w.heap.size + 1, 0, none⟩ = some (.string ⟨#[]⟩) := (hBW.cell (p := ⟨w.heap.size + 1, 0, none⟩) (by show w.heap.size + 1 < _; omega)).trans x2
      have y2 : W.frozen? ⟨w.heap.size + 1, 0, none⟩ = false := (hBW.frozen (p := ⟨w.heap.size + 1, 0, none⟩) (by show w.heap.size + 1 < _; omega)).trans x3
      refine ⟨rfl, (hBW.mono (by omega)).setCell (by show w.heap.size ≤ w.heap.size + 1; omega) _, ?_, ?_, ?_⟩
      · rw [World.cell?_setCell_other (h := fun e => by injection e with e _; omega)]
        exact (hBW.cell (p := ⟨w1.heap.size, 0, none⟩) (by show w1.heap.size < _; omega)).trans x4
      · rw [World.frozen?_setCell]
        exact (hBW.frozen (p := ⟨w1.heap.size, 0, none⟩) (by show w1.heap.size < _; omega)).trans x5
      · exact ⟨World.cell?_setCell_same _ _ _ y1, by rw [World.frozen?_setCell]; exact y2⟩))
    (by
      rintro W ⟨h1, h2⟩
      refine ⟨?_, by rw [World.frozen?_setCell]; exact h2⟩
      rw [World.cell?_setCell_other (h := fun e => by injection e with e _; omega)]
      exact h1)
  have HW1 := Lib.hid hw1
  have HB1 := Lib.hid hB1
  clear hw1 hw2 hs1 hs2 hB1 hB2 hB12 x1 x2 x3 x4 x5 hmk hT
  go_enter Tryz.func21, Tryz.ntmps21
  go_wp2_with (rw [← HW1.out]; go_at_call 29; (with_reducible refine hsf.mono ?_); rintro e w3 ⟨rfl, hb3, z1, z2⟩)
  have z3 : (w3.setCell ⟨w.heap.size + 1, 0, none⟩ (.string ⟨#[49, 104, 51, 48, 109]⟩)).cell? ⟨w.heap.size + 1, 0, none⟩ = some (.string ⟨#[49, 104, 51, 48, 109]⟩) := World.cell?_setCell_same _ _ _ z1
  refine bodyPost_ret (v := .string ⟨#[49, 104, 51, 48, 109]⟩) (by simp [results, Tryz.results21, go_sem, z3]) rfl ?_
  exact ⟨rfl, (HB1.out.trans hb3).setCell (by show w.heap.size ≤ w.heap.size + 1; omega) _⟩

set_option maxRecDepth 100000 in
set_option maxHeartbeats 800000 in
/-- laws.modelAwake. -/
theorem awake (w : World) (hT : Tabs w) : Calls Tryz.prog 7 #[] w fun e w' => e = .returned (.bool true) ∧ Below w.heap.size w w' := by
  have h1 := duration_read w
  have HT := Lib.hid hT
  clear hT
  go_enter Tryz.func7, Tryz.ntmps7
  go_wp2_with (first
    | (go_at_call 20; (with_reducible refine h1.mono ?_); rintro e w1 ⟨rfl, hb1⟩; have h2 := duration_text w1 (HT.out.below hb1))
    | (go_at_call 21; (with_reducible refine h2.mono ?_); rintro e w2 ⟨rfl, hb2⟩)
    | go_in)
  go_ret
  exact ⟨rfl, hb1.trans (hb2.mono hb1.size)⟩

end Go.Proofs.YtdeejmkjhmpabaaGreatDoor

/-
  Duration.String at 1h30m: the whole.
-/
import Derived.Test.YtdeejmkjhmpabaaGreatDoorD4
namespace Go.Proofs.YtdeejmkjhmpabaaGreatDoor
open Go.RowKit Go.Lib

/-- The two variables of Duration.String: what is left, what is written. -/
structure Two (B p r : Nat) (w : World) (ms : Int) (t : List UInt8) (W : World) : Prop where
  cp : W.cell? ⟨p, 0, none⟩ = some (.int .i64 ms)
  cr : W.cell? ⟨r, 0, none⟩ = some (.string ⟨t.toArray⟩)
  fp : W.frozen? ⟨p, 0, none⟩ = false
  fr : W.frozen? ⟨r, 0, none⟩ = false
  bel : Below B w W

theorem Two.some {B p r : Nat} {w W : World} {ms : Int} {t : List UInt8} (h : Two B p r w ms t W) (hBp : B ≤ p) (hBr : B ≤ r) (hpr : p ≠ r) (hBw : B ≤ W.heap.size) (hT : Tabs W) (u t2 : List UInt8) (mult m : Int) (q : Nat) (h0 : ¬ mult = 0) (hm : ms.tdiv mult = (q : Int)) (hq : 0 < q) (hq2 : q < 1000) (hl : ms - (q : Int) * mult = m) (hb1 : 0 ≤ (q : Int) * mult)
    (hb2 : (q : Int) * mult ≤ 9000000000000000) (hb3 : 0 ≤ m) (hb4 : m ≤ 9000000000000000) (ht : t.length ≤ 100) (hu : u.length ≤ 10) (he : t2 = t ++ (decDigits q ++ u)) :
    Calls Tryz.prog 74 #[.string ⟨u.toArray⟩, .int .i64 mult, .bool false, .pointer (some ⟨p, 0, none⟩), .pointer (some ⟨r, 0, none⟩)] W fun e w' => e = .returned (.tuple #[]) ∧ Two B p r w m t2 w' ∧ Below B W w' := by
  refine (unit_some u t t2 mult ms m q p r W hT h0 hm hq hq2 hl hb1 hb2 hb3 hb4 h.cp h.cr h.fp h.fr hpr ht hu he).mono ?_
  rintro e w' ⟨rfl, w1, hb, rfl⟩
  have lp : p < W.heap.size := World.block_lt_of_cell? W _ h.cp
  have lr : r < W.heap.size := World.block_lt_of_cell? W _ h.cr
  have k1 := (hb.cell (p := ⟨p, 0, none⟩) lp).trans h.cp
  have k2 := (hb.cell (p := ⟨r, 0, none⟩) lr).trans h.cr
  have k3 : (w1.setCell ⟨r, 0, none⟩ (.string ⟨t2.toArray⟩)).cell? ⟨p, 0, none⟩ = .some (.int .i64 ms) := by
    rw [World.cell?_setCell_other (h := fun e => by injection e with e _; exact hpr e.symm)]; exact k1
  have hbb : Below B W ((w1.setCell ⟨r, 0, none⟩ (.string ⟨t2.toArray⟩)).setCell ⟨p, 0, none⟩ (.int .i64 m)) := ((hb.mono hBw).setCell hBr _).setCell hBp _
  refine ⟨rfl, ⟨World.cell?_setCell_same _ _ _ k3, ?_, ?_, ?_, h.bel.trans hbb⟩, hbb⟩
  · rw [World.cell?_setCell_other (h := fun e => by injection e with e _; exact hpr e)]
    exact World.cell?_setCell_same _ _ _ k2
  · rw [World.frozen?_setCell, World.frozen?_setCell]; exact (hb.frozen (p := ⟨p, 0, none⟩) lp).trans h.fp
  · rw [World.frozen?_setCell, World.frozen?_setCell]; exact (hb.frozen (p := ⟨r, 0, none⟩) lr).trans h.fr

set_option maxRecDepth 100000 in
set_option maxHeartbeats 3200000 in
theorem dur_string (w : World) (hT : Tabs w) : Calls Tryz.prog 48 #[.int .i64 5400000000000] w fun e w' => e = .returned (.string ⟨#[49, 104, 51, 48, 109]⟩) ∧ Below w.heap.size w w' := by
  have hmf : ∀ (fn : Fn) (first cap : Array Value) (w : World), (Instr.makeFunc fn first cap).run Tryz.prog w = .ok (.func fn first cap) w := fun _ _ _ _ => rfl
  obtain ⟨W0, hW0⟩ : ∃ W0, W0 = (w.alloc (.cells #[.int .i64 5400000] 2)).alloc (.cells #[.string ⟨#[]⟩] 9) := ⟨_, rfl⟩
  have hs0 : W0.heap.size = w.heap.size + 2 := by rw [hW0]; simp
  have h0 : Two w.heap.size w.heap.size (w.heap.size + 1) w 5400000 [] W0 := by
    refine ⟨?_, ?_, ?_, ?_, ?_⟩ <;> rw [hW0]
    · simp
    · simp
    · simp
    · simp
    · exact ((Below.refl _ _).alloc (Nat.le_refl _) _).alloc (by simp) _
  have hT0 : Tabs W0 := hT.below h0.bel
  have y1 := unit_skip [121] 31536000000 5400000 w.heap.size (w.heap.size + 1) W0 (by decide) (by decide) h0.cp
  have y2 := unit_skip [119] 604800000 5400000 w.heap.size (w.heap.size + 1) W0 (by decide) (by decide) h0.cp
  have y3 := unit_none [100] 86400000 5400000 w.heap.size (w.heap.size + 1) W0 (by decide) (by decide) h0.cp
  have y4 := h0.some (Nat.le_refl _) (Nat.le_succ _) (by omega) (by omega) hT0 [104] [49, 104] 3600000 1800000 1 (by decide) (by decide) (by decide) (by decide) (by decide) (by decide) (by decide) (by decide) (by decide) (by decide) (by decide) (by decide +kernel)
  have HW0 := Lib.hid hW0
  have HT := Lib.hid hT
  clear hW0 h0 hT0 hT
  go_enter Tryz.func48, Tryz.ntmps48
  go_wp2_with (first
    | (rw [← HW0.out]; go_at_call 74; (with_reducible refine y1.mono ?_); rintro e w1 ⟨rfl, rfl⟩)
    | (go_at_call 74; (with_reducible refine y2.mono ?_); rintro e w1 ⟨rfl, rfl⟩)
    | (go_at_call 74; (with_reducible refine y3.mono ?_); rintro e w1 ⟨rfl, rfl⟩)
    | (go_at_call 74; (with_reducible refine y4.mono ?_); rintro e w1 ⟨rfl, hw1, hb1⟩; have y5 := hw1.some (Nat.le_refl _) (Nat.le_succ _) (by omega) (by have := hb1.size; omega) (HT.out.below hw1.bel) [109] [49, 104, 51, 48, 109] 60000 0 30 (by decide) (by decide) (by decide) (by decide) (by decide) (by decide) (by decide) (by decide) (by decide) (by decide) (by decide) (by decide +kernel))
    | (go_at_call 74; (with_reducible refine y5.mono ?_); rintro e w2 ⟨rfl, hw2, hb2⟩; have y6 := unit_none [115] 1000 0 w.heap.size (w.heap.size + 1) w2 (by decide) (by decide) hw2.cp; have y7 := unit_none [109, 115] 1 0 w.heap.size (w.heap.size + 1) w2 (by decide) (by decide) hw2.cp; have k1 := hw2.cr)
    | (go_at_call 74; (with_reducible refine y6.mono ?_); rintro e w3 ⟨rfl, rfl⟩)
    | (go_at_call 74; (with_reducible refine y7.mono ?_); rintro e w3 ⟨rfl, rfl⟩)
    | go_in)
  go_ret
  exact ⟨rfl, hw2.bel⟩

end Go.Proofs.YtdeejmkjhmpabaaGreatDoor

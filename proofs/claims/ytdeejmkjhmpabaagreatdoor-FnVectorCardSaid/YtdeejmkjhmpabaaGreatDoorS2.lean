/-
  Matrix.Less, Matrix.Swap.
-/
import Derived.Test.YtdeejmkjhmpabaaGreatDoorS1
import Derived.Test.YtdeejmkjhmpabaaGreatDoorM4
namespace Go.Proofs.YtdeejmkjhmpabaaGreatDoor
open Go.RowKit Go.Lib Go.Maps Go.WideMaps

/-- A stream: its labels and its pairs. -/
abbrev Stm := List Lab × List Pr

def StmOk (s : Stm) : Prop := Few s.1 ∧ Names s.1 ∧ (∀ p ∈ s.2, PrOk p) ∧ s.2.length ≤ 6

/-- Block q is the stream. -/
def StmAt (w : World) (q : Nat) (s : Stm) : Prop :=
  ∃ b va vc, w.cell? ⟨q, 0, none⟩ = some (.map (some b)) ∧ w.cell? ⟨q, 1, none⟩ = some (.slice va s.2.length vc) ∧ w.cell? ⟨q, 2, none⟩ = some (.slice none 0 0) ∧ MapAt w b s.1 ∧ PairsAt w va s.2

theorem StmAt.lt {w : World} {q : Nat} {s : Stm} (h : StmAt w q s) : q < w.heap.size := by
  obtain ⟨b, va, vc, h1, _⟩ := h
  exact World.block_lt_of_cell? w _ h1

theorem StmAt.below {w w' : World} {q : Nat} {s : Stm} (h : StmAt w q s) (hb : Below w.heap.size w w') : StmAt w' q s := by
  have hlt := h.lt
  obtain ⟨b, va, vc, h1, h2, h3, h4, h5⟩ := h
  exact ⟨b, va, vc, (hb.cell (p := ⟨q, 0, none⟩) hlt).trans h1, (hb.cell (p := ⟨q, 1, none⟩) hlt).trans h2, (hb.cell (p := ⟨q, 2, none⟩) hlt).trans h3, h4.below hb, h5.below hb⟩

def ptr (q : Nat) : Value := .pointer (some ⟨q, 0, none⟩)

set_option maxRecDepth 100000 in
set_option maxHeartbeats 1000000 in
/-- Matrix.Less. -/
theorem matrix_less (g n c i j qi qj : Nat) (si sj : Stm) (hi : i < n) (hj : j < n) (_hn : n ≤ 1000) (h1 : StmOk si) (h2 : StmOk sj) (w : World) (c1 : w.cell? ⟨g, i, none⟩ = some (ptr qi)) (c2 : w.cell? ⟨g, j, none⟩ = some (ptr qj)) (hS1 : StmAt w qi si) (hS2 : StmAt w qj sj) :
    Calls Tryz.prog 57 #[.slice (some ⟨g, 0, none⟩) n c, .int .i64 (i : Int), .int .i64 (j : Int)] w fun e w' => e = .returned (.bool (befT si.1 sj.1)) ∧ Below w.heap.size w w' := by
  obtain ⟨b1, va1, vc1, k1, _, _, hM1, _⟩ := hS1
  obtain ⟨b2, va2, vc2, k2, _, _, hM2, _⟩ := hS2
  have hb := metric_before si.1 sj.1 b1 b2 h1.1 h2.1 h1.2.1 h2.2.1 w.drew (hM1.below (Below.refl _ _).drew) (hM2.below (Below.refl _ _).drew)
  clear hM1 hM2 h1 h2
  unfold ptr at c1 c2
  go_enter Tryz.func57, Tryz.ntmps57
  go_wp2_with fail
  go_region_held3 (fun w' => w'.cell? ⟨g, i, none⟩ = some (.pointer (some ⟨qi, 0, none⟩)) ∧ w'.cell? ⟨g, j, none⟩ = some (.pointer (some ⟨qj, 0, none⟩)) ∧ w'.cell? ⟨qi, 0, none⟩ = some (.map (some b1)) ∧ w'.cell? ⟨qj, 0, none⟩ = some (.map (some b2))) (go_keep) (first
    | (go_at_call 61; (with_reducible refine hb.mono ?_); rintro e w1 ⟨rfl, hb1⟩; have l1 := (hb1.cell (p := ⟨g, i, none⟩) (World.block_lt_of_cell? w _ c1)).trans c1; have l2 := (hb1.cell (p := ⟨g, j, none⟩) (World.block_lt_of_cell? w _ c2)).trans c2; have l3 := (hb1.cell (p := ⟨qi, 0, none⟩) (World.block_lt_of_cell? w _ k1)).trans k1; have l4 := (hb1.cell (p := ⟨qj, 0, none⟩) (World.block_lt_of_cell? w _ k2)).trans k2))
  all_goals
    go_wp2
    go_ret
    exact ⟨rfl, (Below.refl _ w).drew.trans hb1⟩

set_option maxRecDepth 100000 in
set_option maxHeartbeats 2000000 in
/-- Matrix.Swap. -/
theorem matrix_swap (g n c i j : Nat) (x y : Value) (qi qj : Nat) (hx : x = ptr qi) (hy : y = ptr qj) (hi : i < n) (hj : j < n) (hij : i ≠ j) (_hn : n ≤ 1000) (w : World) (c1 : w.cell? ⟨g, i, none⟩ = some x) (c2 : w.cell? ⟨g, j, none⟩ = some y)
    (f1 : w.frozen? ⟨g, i, none⟩ = false) (f2 : w.frozen? ⟨g, j, none⟩ = false) :
    Calls Tryz.prog 58 #[.slice (some ⟨g, 0, none⟩) n c, .int .i64 (i : Int), .int .i64 (j : Int)] w fun e w' => e = .returned (.tuple #[]) ∧ w' = ((w.setCell ⟨g, i, none⟩ y).setCell ⟨g, j, none⟩ x).drew := by
  subst hx hy
  unfold ptr at *
  go_enter Tryz.func58, Tryz.ntmps58
  go_wp2_with fail
  go_region
  all_goals
    go_end0
    exact ⟨rfl, rfl⟩

end Go.Proofs.YtdeejmkjhmpabaaGreatDoor

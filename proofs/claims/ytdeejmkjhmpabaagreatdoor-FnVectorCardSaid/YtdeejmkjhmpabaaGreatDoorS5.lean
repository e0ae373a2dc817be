/-
  impl.MatrixText.
-/
import Derived.Test.YtdeejmkjhmpabaaGreatDoorS4
namespace Go.Proofs.YtdeejmkjhmpabaaGreatDoor
open Go.RowKit Go.Lib Go.Maps Go.WideMaps

/-- The text of the streams, in order. -/
def MatT (L : List Stm) (n : Nat) (t : List UInt8) : Prop := ∃ p, Arr n p ∧ Srt (ltS fun k => L[k]!) n p ∧ t = Lib.join ((lst n p).map fun k => streamT (L[k]!).1 (L[k]!).2) [10]

theorem LabsAt.low {w w' : World} {a : Option Addr} {l : List Lab} (h : LabsAt w a l) (hb : Below w.heap.size w w') : LabsAt w' a l := h.below hb

theorem StmIn.below {w w' : World} {a : Option Addr} {L : List Stm} (h : StmIn w a L) (hb : Below w.heap.size w w') : StmIn w' a L := by
  intro i x hx
  obtain ⟨b, o, la, lc, pa, pc, ha, h1, h2, h3, h4⟩ := h i x hx
  have hlt : b < w.heap.size := World.block_lt_of_cell? w _ h1
  exact ⟨b, o, la, lc, pa, pc, ha, (hb.cell (p := ⟨b, o + i * 2, none⟩) hlt).trans h1, (hb.cell (p := ⟨b, o + i * 2 + 1, none⟩) hlt).trans h2, h3.below hb, h4.below hb⟩

set_option maxRecDepth 100000 in
set_option maxHeartbeats 1600000 in
theorem matrix_text (L : List Stm) (n sc : Nat) (sa : Option Addr) (hL : ∀ x ∈ L, StmOk x) (hn : L.length = n) (hn6 : n ≤ 6) (hO : Ord2 n (ltS fun k => L[k]!)) (w : World) (hI : StmIn w sa L) (hT : Tabs w) :
    Calls Tryz.prog 13 #[.slice sa n sc] w fun e w' => (∃ t, MatT L n t ∧ e = .returned (str t)) ∧ Below w.heap.size w w' := by
  have hmf : ∀ (fn : Fn) (first cap : Array Value) (w : World), (Instr.makeFunc fn first cap).run Tryz.prog w = .ok (.func fn first cap) w := fun _ _ _ _ => rfl
  obtain ⟨w1, hw1⟩ : ∃ w1, w1 = (w.alloc (.cells #[.slice sa n sc] 29)).alloc (.cells #[.string ⟨#[]⟩] 9) := ⟨_, rfl⟩
  obtain ⟨w2, hw2⟩ : ∃ w2, w2 = w1.alloc (.cells #[.bool false] 4) := ⟨_, rfl⟩
  have hs1 : w1.heap.size = w.heap.size + 2 := by rw [hw1]; simp
  have hs2 : w2.heap.size = w.heap.size + 3 := by rw [hw2]; simp; omega
  have hB1 : Below w.heap.size w w1 := by rw [hw1]; exact ((Below.refl _ _).alloc (Nat.le_refl _) _).alloc (by simp) _
  have hB2 : Below w.heap.size w w2 := by rw [hw2]; exact hB1.alloc (by omega) _
  have hB12 : Below w1.heap.size w1 w2 := by rw [hw2]; exact (Below.refl _ _).alloc (Nat.le_refl _) _
  have x1 : w2.cell? ⟨w.heap.size, 0, none⟩ = some (.slice sa n sc) := (hB12.cell (p := ⟨w.heap.size, 0, none⟩) (by show w.heap.size < _; omega)).trans (by rw [hw1]; simp)
  have x2 : w2.cell? ⟨w.heap.size + 1, 0, none⟩ = some (.string ⟨#[]⟩) := (hB12.cell (p := ⟨w.heap.size + 1, 0, none⟩) (by show w.heap.size + 1 < _; omega)).trans (by rw [hw1]; simp)
  have x3 : w2.frozen? ⟨w.heap.size + 1, 0, none⟩ = false := (hB12.frozen (p := ⟨w.heap.size + 1, 0, none⟩) (by show w.heap.size + 1 < _; omega)).trans (by rw [hw1]; simp)
  have x4 : w2.cell? ⟨w1.heap.size, 0, none⟩ = some (.bool false) := by rw [hw2]; simp
  have x5 : w2.frozen? ⟨w1.heap.size, 0, none⟩ = false := by rw [hw2]; simp
  have hmk := matrix_make L n sc w.heap.size (w.heap.size + 1) sa hL hn hn6 hO w2 (hI.below hB2) (hT.below hB2) x1 x2 x3
  have hsf := safe_any 30 #[.pointer (some ⟨w.heap.size, 0, none⟩), .pointer (some ⟨w.heap.size + 1, 0, none⟩)] (fun w => by kernel_rfl) w.heap.size w1 w2 hw2 (by omega)
    (fun W => ∃ t, MatT L n t ∧ W.cell? ⟨w.heap.size + 1, 0, none⟩ = some (str t) ∧ W.frozen? ⟨w.heap.size + 1, 0, none⟩ = false)
    (hmk.mono (by
      rintro e w' ⟨rfl, W, p, hBW, hA, hS, rfl⟩
      have y1 : W.cell? ⟨w.heap.size + 1, 0, none⟩ = some (.string ⟨#[]⟩) := (hBW.cell (p := ⟨w.heap.size + 1, 0, none⟩) (by show w.heap.size + 1 < _; omega)).trans x2
      have y2 : W.frozen? ⟨w.heap.size + 1, 0, none⟩ = false := (hBW.frozen (p := ⟨w.heap.size + 1, 0, none⟩) (by show w.heap.size + 1 < _; omega)).trans x3
      refine ⟨rfl, (hBW.mono (by omega)).setCell (by show w.heap.size ≤ w.heap.size + 1; omega) _, ?_, ?_, ?_⟩
      · rw [World.cell?_setCell_other]
        · exact (hBW.cell (p := ⟨w1.heap.size, 0, none⟩) (by show w1.heap.size < _; omega)).trans x4
        · intro e; injection e with e _; omega
      · rw [World.frozen?_setCell]
        exact (hBW.frozen (p := ⟨w1.heap.size, 0, none⟩) (by show w1.heap.size < _; omega)).trans x5
      · exact ⟨_, ⟨p, hA, hS, rfl⟩, World.cell?_setCell_same _ _ _ y1, by rw [World.frozen?_setCell]; exact y2⟩))
    (by
      rintro W ⟨t, ht, h1, h2⟩
      refine ⟨t, ht, ?_, by rw [World.frozen?_setCell]; exact h2⟩
      rw [World.cell?_setCell_other]
      · exact h1
      · intro e; injection e with e _; omega)
  have HW1 := Lib.hid hw1
  have HB1 := Lib.hid hB1
  clear hw1 hw2 hs1 hs2 hB1 hB2 hB12 x1 x2 x3 x4 x5 hmk hL hn hO hI hT
  go_enter Tryz.func13, Tryz.ntmps13
  go_wp2_with (rw [← HW1.out]; go_at_call 29; (with_reducible refine hsf.mono ?_); rintro e w3 ⟨rfl, hb3, t, ht, z1, z2⟩; unfold str at z1)
  have z3 : (w3.setCell ⟨w.heap.size + 1, 0, none⟩ (.string ⟨t.toArray⟩)).cell? ⟨w.heap.size + 1, 0, none⟩ = some (.string ⟨t.toArray⟩) := World.cell?_setCell_same _ _ _ z1
  refine bodyPost_ret (v := .string ⟨t.toArray⟩) (by simp [results, Tryz.results13, go_sem, z3]) rfl ?_
  exact ⟨⟨t, ht, rfl⟩, (HB1.out.trans hb3).setCell (by show w.heap.size ≤ w.heap.size + 1; omega) _⟩

end Go.Proofs.YtdeejmkjhmpabaaGreatDoor

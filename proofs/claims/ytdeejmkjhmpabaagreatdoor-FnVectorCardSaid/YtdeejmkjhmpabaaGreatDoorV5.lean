/-
  impl.VectorText.
-/
import Derived.Test.YtdeejmkjhmpabaaGreatDoorV4
import Derived.Test.YtdeejmkjhmpabaaGreatDoorSf
namespace Go.Proofs.YtdeejmkjhmpabaaGreatDoor
open Go.RowKit Go.Lib Go.Maps Go.WideMaps

set_option maxRecDepth 100000 in
set_option maxHeartbeats 1600000 in
/-- The closure of VectorText. -/
theorem vtext_make (L : List Pt) (S : Nat → PtM) (n sc lb sb : Nat) (sa : Option Addr) (hn : L.length = n) (hn12 : n ≤ 12) (hok : ∀ x ∈ L, PtOk x) (w : World) (hV : VecIn w sa L S) (hT : Tabs w) (hlb : w.cell? ⟨lb, 0, none⟩ = some (.slice sa n sc)) (hsb : w.cell? ⟨sb, 0, none⟩ = some (.string ⟨#[]⟩)) (hfz : w.frozen? ⟨sb, 0, none⟩ = false) :
    Calls Tryz.prog 39 #[.pointer (some ⟨lb, 0, none⟩), .pointer (some ⟨sb, 0, none⟩)] w fun e w' => e = .returned (.tuple #[]) ∧ ∃ w1, Below w.heap.size w w1 ∧ w' = w1.setCell ⟨sb, 0, none⟩ (str (Lib.join (linesV L) [10])) := by
  have hv := vector_any L S n sa sc hn hn12 (fun x hx => (hok x hx).2.1.1) w hV
  have hsl : sb < w.heap.size := World.block_lt_of_cell? w _ hsb
  have f0 : ∀ W, Below w.heap.size w W → W.cell? ⟨sb, 0, none⟩ = some (.string ⟨#[]⟩) ∧ W.frozen? ⟨sb, 0, none⟩ = false := fun W hW =>
    ⟨(hW.cell (p := ⟨sb, 0, none⟩) hsl).trans hsb, (hW.frozen (p := ⟨sb, 0, none⟩) hsl).trans hfz⟩
  have hst := fun (W : World) (mv : Option Addr) (c : Nat) (hW : Below w.heap.size w W) (hr : VRow W mv L) => vector_string L n c mv hn hn12 hok W hr (hT.below hW)
  have HN := Lib.hid hn
  have HF0 := Lib.hid f0
  have HST := Lib.hid hst
  clear hV hT hsb hfz hn hok f0 hst hsl
  go_enter Tryz.func39, Tryz.ntmps39
  go_wp2_with (first
    | (go_at_call 35; (with_reducible refine hv.mono ?_); rintro e w1 ⟨v, Q, Bm, rfl, hO⟩; have hO' := hO; rw [← HN.out] at hO'; obtain ⟨ad, cp, hve, hr⟩ := hO'.vrow; rw [HN.out] at hve; subst hve; have hs1 := HST.out w1 ad cp hO.bel hr; have HB1 := Lib.hid hO.bel; clear hO hO' hr; unfold str at hs1)
    | (go_at_call 40; (with_reducible refine hs1.mono ?_); rintro e w2 ⟨rfl, hb2⟩; have HB2 : Hid (Below w.heap.size w w2) := HB1.out.trans (hb2.mono HB1.out.size); obtain ⟨z1, z2⟩ := HF0.out w2 HB2.out; clear hb2))
  go_end0
  exact ⟨rfl, w2, HB2.out, rfl⟩

set_option maxRecDepth 100000 in
set_option maxHeartbeats 1600000 in
/-- impl.VectorText. -/
theorem vector_text (L : List Pt) (S : Nat → PtM) (n sc : Nat) (sa : Option Addr) (hn : L.length = n) (hn12 : n ≤ 12) (hok : ∀ x ∈ L, PtOk x) (w : World) (hV : VecIn w sa L S) (hT : Tabs w) :
    Calls Tryz.prog 15 #[.slice sa n sc] w fun e w' => e = .returned (str (Lib.join (linesV L) [10])) ∧ Below w.heap.size w w' := by
  have hmf : ∀ (fn : Fn) (first cap : Array Value) (w : World), (Instr.makeFunc fn first cap).run Tryz.prog w = .ok (.func fn first cap) w := fun _ _ _ _ => rfl
  obtain ⟨t, htt⟩ : ∃ t, t = Lib.join (linesV L) [10] := ⟨_, rfl⟩
  obtain ⟨w1, hw1⟩ : ∃ w1, w1 = (w.alloc (.cells #[.slice sa n sc] 25)).alloc (.cells #[.string ⟨#[]⟩] 9) := ⟨_, rfl⟩
  obtain ⟨w2, hw2⟩ : ∃ w2, w2 = w1.alloc (.cells #[.bool false] 4) := ⟨_, rfl⟩
  have hs1 : w1.heap.size = w.heap.size + 2 := by rw [hw1]; simp
  have hs2 : w2.heap.size = w.heap.size + 3 := by rw [hw2]; simp; omega
  have hB1 : Below w.heap.size w w1 := by rw [hw1]; exact ((Below.refl _ _).alloc (Nat.le_refl _) _).alloc (by simp) _
  have hB2 : Below w.heap.size w w2 := by rw [hw2]; exact hB1.alloc (by omega) _
  have hB12 : Below w1.heap.size w1 w2 := by rw [hw2]; exact (Below.refl _ _).alloc (Nat.le_refl _) _
  have x1 : w2.cell? ⟨w.heap.size, 0, none⟩ = some (.slice sa n sc) := (hB12.cell (p := ⟨w.heap.size, 0, none⟩) (by show w.heap.size < _; omega)).trans (by rw [hw1]; simp)
  have x2 : w2.cell? ⟨w.heap.size + 1, 0, none⟩ = some (.string ⟨#[]⟩) := (hB12.cell (p := ⟨w.heap.size + 1, 0, none⟩) (by show w.heap.size + 1 < _; omega)).trans (by rw [hw1]; simp)
  have x3 : w2.frozen? ⟨w.heap.size + 1, 0, none⟩ = false := (hB12.frozen (p := ⟨w.heap.size + 1, 0, none⟩) (by show w.heap.size + 1 < _; omega)).trans (by rw [hw1]; simp)
  have x4 : w2.cell? ⟨w1.heap.size, 0, none⟩ = some (.bool false) := by rw [hw2]; simp
  have x5 : w2.frozen? ⟨w1.heap.size, 0, none⟩ = false := by rw [hw2]; simp
  have hmk := vtext_make L S n sc w.heap.size (w.heap.size + 1) sa hn hn12 hok w2 (hV.below hB2) (hT.below hB2) x1 x2 x3
  rw [← htt] at hmk ⊢
  have hsf := safe_any 39 #[.pointer (some ⟨w.heap.size, 0, none⟩), .pointer (some ⟨w.heap.size + 1, 0, none⟩)] (fun w => by kernel_rfl) w.heap.size w1 w2 hw2 (by omega)
    (fun W => W.cell? ⟨w.heap.size + 1, 0, none⟩ = some (str t) ∧ W.frozen? ⟨w.heap.size + 1, 0, none⟩ = false)
    (hmk.mono (by
      rintro e w' ⟨rfl, W, hBW, rfl⟩
      have y1 : W.cell? ⟨w.heap.size + 1, 0, none⟩ = some (.string ⟨#[]⟩) := (hBW.cell (p := ⟨w.heap.size + 1, 0, none⟩) (by show w.heap.size + 1 < _; omega)).trans x2
      have y2 : W.frozen? ⟨w.heap.size + 1, 0, none⟩ = false := (hBW.frozen (p := ⟨w.heap.size + 1, 0, none⟩) (by show w.heap.size + 1 < _; omega)).trans x3
      refine ⟨rfl, (hBW.mono (by omega)).setCell (by show w.heap.size ≤ w.heap.size + 1; omega) _, ?_, ?_, ?_⟩
      · rw [World.cell?_setCell_other]
        · exact (hBW.cell (p := ⟨w1.heap.size, 0, none⟩) (by show w1.heap.size < _; omega)).trans x4
        · intro e; injection e with e _; omega
      · rw [World.frozen?_setCell]
        exact (hBW.frozen (p := ⟨w1.heap.size, 0, none⟩) (by show w1.heap.size < _; omega)).trans x5
      · exact ⟨World.cell?_setCell_same _ _ _ y1, by rw [World.frozen?_setCell]; exact y2⟩))
    (by
      rintro W ⟨h1, h2⟩
      refine ⟨?_, by rw [World.frozen?_setCell]; exact h2⟩
      rw [World.cell?_setCell_other]
      · exact h1
      · intro e; injection e with e _; omega)
  have HW1 := Lib.hid hw1
  have HB1 := Lib.hid hB1
  clear hw1 hw2 hs1 hs2 hB1 hB2 hB12 x1 x2 x3 x4 x5 hmk hn hok hV hT htt
  go_enter Tryz.func15, Tryz.ntmps15
  go_wp2_with (rw [← HW1.out]; go_at_call 29; (with_reducible refine hsf.mono ?_); rintro e w3 ⟨rfl, hb3, z1, z2⟩; unfold str at z1)
  have z3 : (w3.setCell ⟨w.heap.size + 1, 0, none⟩ (.string ⟨t.toArray⟩)).cell? ⟨w.heap.size + 1, 0, none⟩ = some (.string ⟨t.toArray⟩) := World.cell?_setCell_same _ _ _ z1
  refine bodyPost_ret (v := .string ⟨t.toArray⟩) (by simp [results, Tryz.results15, go_sem, z3]) rfl ?_
  exact ⟨rfl, (HB1.out.trans hb3).setCell (by show w.heap.size ≤ w.heap.size + 1; omega) _⟩

end Go.Proofs.YtdeejmkjhmpabaaGreatDoor

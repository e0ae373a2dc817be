/-
  Vector.Less; impl.vector.
-/
import Derived.Test.YtdeejmkjhmpabaaGreatDoorV1
namespace Go.Proofs.YtdeejmkjhmpabaaGreatDoor
open Go.RowKit Go.Lib Go.Maps Go.WideMaps

set_option maxRecDepth 100000 in
set_option maxHeartbeats 2000000 in
/-- Vector.Less, at different labels. -/
theorem vec_less (g n c i j qi qj bi bj : Nat) (pi pj : Pt) (hi : i < n) (hj : j < n) (h1 : PtOk pi) (h2 : PtOk pj) (hne : pi.1 ≠ pj.1) (w : World) (c1 : w.cell? ⟨g, i, none⟩ = some (ptr qi)) (c2 : w.cell? ⟨g, j, none⟩ = some (ptr qj)) (hS1 : SmB w qi bi pi) (hS2 : SmB w qj bj pj) :
    Calls Tryz.prog 36 #[.slice (some ⟨g, 0, none⟩) n c, .int .i64 (i : Int), .int .i64 (j : Int)] w fun e w' => e = .returned (.bool (befT pi.1 pj.1)) ∧ Below w.heap.size w w' := by
  obtain ⟨bv1, k1, _, _, _, hM1, _⟩ := hS1
  obtain ⟨bv2, k2, _, _, _, hM2, _⟩ := hS2
  have hb := fun W (hW : Below w.heap.size w W) => metric_before pi.1 pj.1 bi bj h1.2.1.1 h2.2.1.1 h1.2.1.2.names h2.2.1.2.names W (hM1.below hW) (hM2.below hW)
  have hb' := fun W (hW : Below w.heap.size w W) => metric_before pj.1 pi.1 bj bi h2.2.1.1 h1.2.1.1 h2.2.1.2.names h1.2.1.2.names W (hM2.below hW) (hM1.below hW)
  have hlt1 := World.block_lt_of_cell? w _ c1
  have hlt2 := World.block_lt_of_cell? w _ k1
  have hlt3 := World.block_lt_of_cell? w _ k2
  have hk : ∀ W, Below w.heap.size w W → W.cell? ⟨g, i, none⟩ = some (.pointer (some ⟨qi, 0, none⟩)) ∧ W.cell? ⟨g, j, none⟩ = some (.pointer (some ⟨qj, 0, none⟩)) ∧ W.cell? ⟨qi, 0, none⟩ = some (.map (some bi)) ∧ W.cell? ⟨qj, 0, none⟩ = some (.map (some bj)) := fun W hW =>
    ⟨(hW.cell (p := ⟨g, i, none⟩) hlt1).trans c1, (hW.cell (p := ⟨g, j, none⟩) hlt1).trans c2, (hW.cell (p := ⟨qi, 0, none⟩) hlt2).trans k1, (hW.cell (p := ⟨qj, 0, none⟩) hlt3).trans k2⟩
  have HB := Lib.hid hb
  have HB' := Lib.hid hb'
  have HK := Lib.hid hk
  have htot := befT_total h1.2.1.2 h2.2.1.2 hne
  unfold ptr at c1 c2
  have hc := HB.out w.drew (Below.refl _ _).drew
  cases hbb : befT pi.1 pj.1 with
  | true =>
    rw [hbb] at hc
    clear hb hb' hk hM1 hM2 h1 h2 hne htot hbb hlt1 hlt2 hlt3
    go_enter Tryz.func36, Tryz.ntmps36
    go_wp2_with fail
    go_region_held3 (fun w' => w'.cell? ⟨g, i, none⟩ = some (.pointer (some ⟨qi, 0, none⟩)) ∧ w'.cell? ⟨g, j, none⟩ = some (.pointer (some ⟨qj, 0, none⟩)) ∧ w'.cell? ⟨qi, 0, none⟩ = some (.map (some bi)) ∧ w'.cell? ⟨qj, 0, none⟩ = some (.map (some bj))) (go_keep) (first
      | (go_at_call 61; (with_reducible refine hc.mono ?_); rintro e w1 ⟨rfl, hb1⟩; obtain ⟨x1, x2, x3, x4⟩ := HK.out w1 ((Below.refl _ w).drew.trans hb1); have HB1 := Lib.hid hb1; clear hb1))
    all_goals
      go_wp2
      go_ret
      exact ⟨rfl, (Below.refl _ w).drew.trans HB1.out⟩
  | false =>
    have hbb2 : befT pj.1 pi.1 = true := by rcases htot with h | h; rw [hbb] at h; cases h; exact h
    rw [hbb] at hc
    have HB2 := Lib.hid hbb2
    clear hb hb' hk hM1 hM2 h1 h2 hne htot hbb hbb2 hlt1 hlt2 hlt3
    go_enter Tryz.func36, Tryz.ntmps36
    go_wp2_with fail
    go_region_held3 (fun w' => w'.cell? ⟨g, i, none⟩ = some (.pointer (some ⟨qi, 0, none⟩)) ∧ w'.cell? ⟨g, j, none⟩ = some (.pointer (some ⟨qj, 0, none⟩)) ∧ w'.cell? ⟨qi, 0, none⟩ = some (.map (some bi)) ∧ w'.cell? ⟨qj, 0, none⟩ = some (.map (some bj))) (go_keep) (first
      | (go_at_call 61; (with_reducible refine hc.mono ?_); rintro e w1 ⟨rfl, hb1⟩; obtain ⟨x1, x2, x3, x4⟩ := HK.out w1 ((Below.refl _ w).drew.trans hb1); have HB1 : Hid (Below w.heap.size w w1) := (Below.refl _ w).drew.trans hb1; clear hb1; have hc2 := HB'.out w1.drew HB1.out.drew; rw [HB2.out] at hc2))
    all_goals
      go_wp2_with fail
      go_region_held3 (fun w' => w'.cell? ⟨g, i, none⟩ = some (.pointer (some ⟨qi, 0, none⟩)) ∧ w'.cell? ⟨g, j, none⟩ = some (.pointer (some ⟨qj, 0, none⟩)) ∧ w'.cell? ⟨qi, 0, none⟩ = some (.map (some bi)) ∧ w'.cell? ⟨qj, 0, none⟩ = some (.map (some bj))) (go_keep) (first
        | (go_at_call 61; (with_reducible refine hc2.mono ?_); rintro e w2 ⟨rfl, hb2⟩; obtain ⟨y1, y2, y3, y4⟩ := HK.out w2 (HB1.out.drew.trans (hb2.mono HB1.out.size)); have HB2' := Lib.hid hb2; clear hb2))
      all_goals
        go_wp2
        go_ret
        exact ⟨rfl, HB1.out.drew.trans (HB2'.out.mono HB1.out.size)⟩

end Go.Proofs.YtdeejmkjhmpabaaGreatDoor

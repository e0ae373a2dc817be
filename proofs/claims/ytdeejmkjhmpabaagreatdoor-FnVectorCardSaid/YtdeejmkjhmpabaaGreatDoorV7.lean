/-
  Sample.Equal, Vector.Equal, impl.VectorEqual, where labels and values are the same.
-/
import Derived.Test.YtdeejmkjhmpabaaGreatDoorV6
import Derived.Test.YtdeejmkjhmpabaaGreatDoorSf
import Derived.LaidEqlPtr
namespace Go.Proofs.YtdeejmkjhmpabaaGreatDoor
open Go.RowKit Go.Lib Go.Maps Go.WideMaps

set_option maxRecDepth 100000 in
set_option maxHeartbeats 3200000 in
/-- Sample.Equal. -/
theorem sample_equal (l : List Lab) (e8 m1 m2 : Int) (q1 q2 b1 b2 : Nat) (hq : q1 ≠ q2) (hF : Few l) (hN : Names l) (w : World) (hS1 : SmB w q1 b1 (l, e8, m1)) (hS2 : SmB w q2 b2 (l, e8, m2)) :
    Calls Tryz.prog 66 #[ptr q1, ptr q2] w fun e w' => e = .returned (.bool (m1 == m2)) ∧ Below w.heap.size w w' := by
  have hl1 := hS1.lt
  have hl2 := hS2.lt
  obtain ⟨bv, c0, c1, c2, c3, hM1, hv1, cs1, t1, hh1⟩ := hS1
  obtain ⟨bv', d0, d1, d2, d3, hM2, hv2, cs2, t2, hh2⟩ := hS2
  dsimp only at c2 d2 hv1 hv2
  have hbv : bv = bv' := by unfold BvOf at hv1 hv2; rw [hv1] at hv2; exact Option.some.inj hv2
  subst hbv
  have hme := metric_equal l b1 b2 hF hN w.drew (hM1.below (Below.refl _ _).drew) (hM2.below (Below.refl _ _).drew)
  have hte := fun W => time_equal m1 m2 W
  have hve := fun W => value_equal e8 bv hv1 W
  have hk : ∀ W, Below w.heap.size w W → (W.cell? ⟨q1, 0, none⟩ = some (.map (some b1)) ∧ W.cell? ⟨q1, 1, none⟩ = some (.float .f64 bv) ∧ W.cell? ⟨q1, 2, none⟩ = some (.int .i64 m1) ∧ W.cell? ⟨q1, 3, none⟩ = some (.pointer none)) ∧
      W.cell? ⟨q2, 0, none⟩ = some (.map (some b2)) ∧ W.cell? ⟨q2, 1, none⟩ = some (.float .f64 bv) ∧ W.cell? ⟨q2, 2, none⟩ = some (.int .i64 m2) ∧ W.cell? ⟨q2, 3, none⟩ = some (.pointer none) := fun W hW =>
    ⟨⟨(hW.cell (p := ⟨q1, 0, none⟩) hl1).trans c0, (hW.cell (p := ⟨q1, 1, none⟩) hl1).trans c1, (hW.cell (p := ⟨q1, 2, none⟩) hl1).trans c2, (hW.cell (p := ⟨q1, 3, none⟩) hl1).trans c3⟩,
      (hW.cell (p := ⟨q2, 0, none⟩) hl2).trans d0, (hW.cell (p := ⟨q2, 1, none⟩) hl2).trans d1, (hW.cell (p := ⟨q2, 2, none⟩) hl2).trans d2, (hW.cell (p := ⟨q2, 3, none⟩) hl2).trans d3⟩
  have HK := Lib.hid hk
  obtain ⟨j0, hj0, hjs⟩ : ∃ j, Tryz.prog.info? 92 = some j ∧ j.size ≠ 0 := by
    obtain ⟨j, hj, hjs⟩ := Option.map_eq_some_iff.1 (show (Tryz.prog.info? 92).map (·.size) = some 4 by kernel_rfl)
    exact ⟨j, hj, by rw [hjs]; decide⟩
  have hpe := run_eql_ptr_other (P := Tryz.prog) w (a := ⟨q1, 0, none⟩) (b := ⟨q2, 0, none⟩) Tryz.underlying88 hj0 hjs (fun e => hq (by injection e)) hh1 hh2
  clear hM1 hM2 hv1 hv2 hF hN hk hl1 hl2 hh1 hh2 hj0 hjs hq
  unfold ptr
  by_cases hm : m1 = m2
  · subst hm
    have e1 : (m1 == m1) = true := by simp
    rw [e1] at hte ⊢
    go_enter Tryz.func66, Tryz.ntmps66
    go_wp2_with fail
    go_region_held3 (fun w' => w'.cell? ⟨q1, 0, none⟩ = some (.map (some b1)) ∧ w'.cell? ⟨q2, 0, none⟩ = some (.map (some b2))) (go_keep) (first
      | (go_at_call 90; (with_reducible refine hme.mono ?_); rintro e w1 ⟨rfl, hb1⟩; have HB1 : Hid (Below w.heap.size w w1) := (Below.refl _ w).drew.trans hb1; clear hb1 c0 c1 c2 c3 d0 d1 d2 d3; obtain ⟨⟨c0, c1, c2, c3⟩, d0, d1, d2, d3⟩ := HK.out w1 HB1.out))
    all_goals
      go_wp2_with fail
      go_region_held3 (fun w' => w'.cell? ⟨q1, 2, none⟩ = some (.int .i64 m1) ∧ w'.cell? ⟨q2, 2, none⟩ = some (.int .i64 m1)) (go_keep) (first
        | (go_at_call 91; (with_reducible refine (hte _).mono ?_); rintro e w2 ⟨rfl, rfl⟩))
      all_goals
        go_wp2_with fail
        go_region_held3 (fun w' => w'.cell? ⟨q1, 1, none⟩ = some (.float .f64 bv) ∧ w'.cell? ⟨q2, 1, none⟩ = some (.float .f64 bv)) (go_keep) (first
          | (go_at_call 93; (with_reducible refine (hve _).mono ?_); rintro e w2 ⟨rfl, rfl⟩))
        all_goals
          go_wp2
          go_ret
          exact ⟨rfl, HB1.out.drew.drew⟩
  · have e1 : (m1 == m2) = false := by simpa using hm
    rw [e1] at hte ⊢
    clear hm
    go_enter Tryz.func66, Tryz.ntmps66
    go_wp2_with fail
    go_region_held3 (fun w' => w'.cell? ⟨q1, 0, none⟩ = some (.map (some b1)) ∧ w'.cell? ⟨q2, 0, none⟩ = some (.map (some b2))) (go_keep) (first
      | (go_at_call 90; (with_reducible refine hme.mono ?_); rintro e w1 ⟨rfl, hb1⟩; have HB1 : Hid (Below w.heap.size w w1) := (Below.refl _ w).drew.trans hb1; clear hb1 c0 c1 c2 c3 d0 d1 d2 d3; obtain ⟨⟨c0, c1, c2, c3⟩, d0, d1, d2, d3⟩ := HK.out w1 HB1.out))
    all_goals
      go_wp2_with fail
      go_region_held3 (fun w' => w'.cell? ⟨q1, 2, none⟩ = some (.int .i64 m1) ∧ w'.cell? ⟨q2, 2, none⟩ = some (.int .i64 m2)) (go_keep) (first
        | (go_at_call 91; (with_reducible refine (hte _).mono ?_); rintro e w2 ⟨rfl, rfl⟩))
      all_goals
        go_wp2
        go_ret
        exact ⟨rfl, HB1.out.drew⟩

end Go.Proofs.YtdeejmkjhmpabaaGreatDoor

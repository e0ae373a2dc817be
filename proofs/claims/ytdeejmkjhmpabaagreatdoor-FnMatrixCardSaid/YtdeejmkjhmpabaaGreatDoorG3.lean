import Derived.Test.YtdeejmkjhmpabaaGreatDoorG2
namespace Go.Proofs.YtdeejmkjhmpabaaGreatDoor
open Go.RowKit Go.Lib

/-- The decimals of r eighths. -/
def frac8 (r : Nat) : List UInt8 := match r with
  | 1 => [46, 49, 50, 53] | 2 => [46, 50, 53] | 3 => [46, 51, 55, 53] | 4 => [46, 53] | 5 => [46, 54, 50, 53] | 6 => [46, 55, 53] | 7 => [46, 56, 55, 53] | _ => []

theorem frac8_tab : ∀ r : Fin 8, (if 125 * r.val % 1000 = 0 then [] else if 125 * r.val % 100 = 0 then [46, dg (125 * r.val) 2] else if 125 * r.val % 10 = 0 then [46, dg (125 * r.val) 2, dg (125 * r.val) 1] else [46, dg (125 * r.val) 2, dg (125 * r.val) 1, dg (125 * r.val) 0]) = frac8 r.val := by decide +kernel

theorem num3_eighths (a : Nat) : num3 (125 * a) = decDigits (a / 8) ++ frac8 (a % 8) := by
  unfold num3
  have e1 : 125 * a / 1000 = a / 8 := by omega
  have e2 : 125 * a % 1000 = 125 * (a % 8) := by omega
  have e3 : 125 * (a % 8) % 1000 = 125 * (a % 8) := by omega
  have e4 : 125 * a % 100 = 125 * (a % 8) % 100 := by omega
  have e5 : 125 * a % 10 = 125 * (a % 8) % 10 := by omega
  have d : ∀ j, j < 3 → dg (125 * a) j = dg (125 * (a % 8)) j := fun j hj => by rw [← dg_mod _ j hj, e2]
  have ht := frac8_tab ⟨a % 8, Nat.mod_lt _ (by decide)⟩
  dsimp only at ht
  rw [← ht, e1, e2, e3, e4, e5, d 2 (by decide), d 1 (by decide), d 0 (by decide)]

def eightsObj : Obj := .cells #[.string ⟨#[]⟩, .string ⟨#[46, 49, 50, 53]⟩, .string ⟨#[46, 50, 53]⟩, .string ⟨#[46, 51, 55, 53]⟩, .string ⟨#[46, 53]⟩, .string ⟨#[46, 54, 50, 53]⟩, .string ⟨#[46, 55, 53]⟩, .string ⟨#[46, 56, 55, 53]⟩] 9

theorem eights_cell (w : World) (r : Nat) (hr : r < 8) : (w.alloc eightsObj).cell? ⟨w.heap.size, r, none⟩ = some (.string ⟨(frac8 r).toArray⟩) := by
  unfold eightsObj
  rcases (by omega : r = 0 ∨ r = 1 ∨ r = 2 ∨ r = 3 ∨ r = 4 ∨ r = 5 ∨ r = 6 ∨ r = 7) with rfl | rfl | rfl | rfl | rfl | rfl | rfl | rfl <;> simp [frac8]

set_option maxRecDepth 100000 in
set_option maxHeartbeats 2000000 in
theorem eighths_pos (q r : Nat) (x : Int) (hx : x = 8 * (q : Int) + r) (hr8 : r < 8) (hq1 : q < 100000000000000) (w : World) (hT : Tabs w) :
    Calls Tryz.prog 27 #[.int .i64 x] w fun e w' => e = .returned (.string ⟨(decDigits q ++ frac8 r).toArray⟩) ∧ Below w.heap.size w w' := by
  have hr : x.tmod 8 = (r : Int) := by rw [Int.tmod_eq_emod_of_nonneg (by omega)]; omega
  have hq : IntKind.i64.wrap (x.tdiv 8) = (q : Int) := by rw [Int.tdiv_eq_ediv_of_nonneg (by omega), IntWalk.i64_in _ (by omega)]; omega
  have hx0 : 0 ≤ x := by omega
  have hx2 : x ≤ 1000000000000000 := by omega
  have l1 := dec_len q 14 (by decide) hq1
  have l2 : (frac8 r).length ≤ 4 := by unfold frac8; split <;> simp
  have c1 := fun W (hW : Below w.heap.size w W) => fint q (by omega) W (hT.below hW)
  have hcell := fun W => eights_cell W r hr8
  obtain ⟨s1, S1, a1⟩ := cat_ex [] (decDigits q) (by simp; omega)
  have n1 := cat_len S1
  obtain ⟨s2, S2, a2⟩ := cat_ex s1 (frac8 r) (by simp at n1; omega)
  have hs : decDigits q ++ frac8 r = s2 := by rw [S2.out, S1.out]; rfl
  rw [hs]
  have hr0 : (0 : Int) ≤ (r : Int) := by omega
  have hr1 : (r : Int) < 8 := by omega
  have hW0 : Below w.heap.size w w.drew := (Below.refl _ _).drew
  have hW1 : Below w.heap.size w (w.alloc eightsObj).drew := ((Below.refl _ _).alloc (Nat.le_refl _) _).drew
  have HW0 := Lib.hid hW0
  have HW1 := Lib.hid hW1
  unfold eightsObj at hcell HW1
  generalize decDigits q = d at *
  generalize frac8 r = fr at *
  clear hx hs l1 l2 n1 S1 S2 hW0 hW1 hq1
  go_enter Tryz.func27, Tryz.ntmps27
  go_wp2_with fail
  go_region_with (first
    | (go_at_call 54; (with_reducible refine (c1 _ HW0.out).mono ?_); rintro e w1 ⟨rfl, hb1⟩)
    | (go_at_call 54; (with_reducible refine (c1 _ HW1.out).mono ?_); rintro e w1 ⟨rfl, hb1⟩; have kc := (hb1.cell (p := ⟨w.heap.size, r, none⟩) (by simp)).trans (hcell w)))
  all_goals
    go_wp2
    go_ret
    refine ⟨rfl, ?_⟩
    first
      | exact (HW0.out.trans hb1).alloc hb1.size _
      | exact HW1.out.trans (hb1.mono (by simp))

set_option maxRecDepth 100000 in
set_option maxHeartbeats 2000000 in
theorem eighths_neg (q r : Nat) (x : Int) (h0 : 1 ≤ x) (hx : x = 8 * (q : Int) + r) (hr8 : r < 8) (hq1 : q < 100000000000000) (w : World) (hT : Tabs w) :
    Calls Tryz.prog 27 #[.int .i64 (-x)] w fun e w' => e = .returned (.string ⟨([45] ++ (decDigits q ++ frac8 r)).toArray⟩) ∧ Below w.heap.size w w' := by
  have hr : x.tmod 8 = (r : Int) := by rw [Int.tmod_eq_emod_of_nonneg (by omega)]; omega
  have hq : IntKind.i64.wrap (x.tdiv 8) = (q : Int) := by rw [Int.tdiv_eq_ediv_of_nonneg (by omega), IntWalk.i64_in _ (by omega)]; omega
  have hx0 : 0 ≤ x := by omega
  have hlt : (-x < 0) = True := by simp; omega
  have hnn : -(-x) = x := by omega
  have hx2 : x ≤ 1000000000000000 := by omega
  have l1 := dec_len q 14 (by decide) hq1
  have l2 : (frac8 r).length ≤ 4 := by unfold frac8; split <;> simp
  have c1 := fun W (hW : Below w.heap.size w W) => fint q (by omega) W (hT.below hW)
  have hcell := fun W => eights_cell W r hr8
  obtain ⟨s1, S1, a1⟩ := cat_ex [45] (decDigits q) (by simp; omega)
  have n1 := cat_len S1
  obtain ⟨s2, S2, a2⟩ := cat_ex s1 (frac8 r) (by simp at n1; omega)
  have hs : [45] ++ (decDigits q ++ frac8 r) = s2 := by rw [S2.out, S1.out]; simp
  rw [hs]
  have hr0 : (0 : Int) ≤ (r : Int) := by omega
  have hr1 : (r : Int) < 8 := by omega
  have hW0 : Below w.heap.size w w.drew := (Below.refl _ _).drew
  have hW1 : Below w.heap.size w (w.alloc eightsObj).drew := ((Below.refl _ _).alloc (Nat.le_refl _) _).drew
  have HW0 := Lib.hid hW0
  have HW1 := Lib.hid hW1
  unfold eightsObj at hcell HW1
  generalize decDigits q = d at *
  generalize frac8 r = fr at *
  clear hx hs l1 l2 n1 S1 S2 hW0 hW1 hq1
  go_enter Tryz.func27, Tryz.ntmps27
  go_wp2_with fail
  go_region_with (first
    | (go_at_call 54; (with_reducible refine (c1 _ HW0.out).mono ?_); rintro e w1 ⟨rfl, hb1⟩)
    | (go_at_call 54; (with_reducible refine (c1 _ HW1.out).mono ?_); rintro e w1 ⟨rfl, hb1⟩; have kc := (hb1.cell (p := ⟨w.heap.size, r, none⟩) (by simp)).trans (hcell w)))
  all_goals
    go_wp2
    go_ret
    refine ⟨rfl, ?_⟩
    first
      | exact (HW0.out.trans hb1).alloc hb1.size _
      | exact HW1.out.trans (hb1.mono (by simp))

/-- spec.EighthsText. -/
theorem eighths_text (n : Int) (h1 : -562949953421312 < n) (h2 : n < 562949953421312) (w : World) (hT : Tabs w) :
    Calls Tryz.prog 27 #[.int .i64 n] w fun e w' => e = .returned (.string ⟨(valT n).toArray⟩) ∧ Below w.heap.size w w' := by
  unfold valT
  rw [num3_eighths]
  by_cases h0 : n < 0
  · have := eighths_neg (n.natAbs / 8) (n.natAbs % 8) n.natAbs (by omega) (by omega) (by omega) (by omega) w hT
    have e : -((n.natAbs : Nat) : Int) = n := by omega
    rw [e] at this
    simpa [sgnB, h0] using this
  · have := eighths_pos (n.natAbs / 8) (n.natAbs % 8) n.natAbs (by omega) (by omega) (by omega) w hT
    have e : ((n.natAbs : Nat) : Int) = n := by omega
    rw [e] at this
    simpa [sgnB, h0] using this

/-- spec.TimeText. -/
theorem time_text (ms : Int) (h1 : -1000000000000000 < ms) (h2 : ms < 1000000000000000) (w : World) (hT : Tabs w) :
    Calls Tryz.prog 28 #[.int .i64 ms] w fun e w' => e = .returned (.string ⟨(timeT ms).toArray⟩) ∧ Below w.heap.size w w' := by
  unfold timeT
  by_cases h0 : ms < 0
  · have := timeText_neg ms.natAbs (by omega) (by omega) w hT
    have e : -((ms.natAbs : Nat) : Int) = ms := by omega
    rw [e] at this
    simpa [sgnB, h0] using this
  · have := timeText_pos ms.natAbs (by omega) w hT
    have e : ((ms.natAbs : Nat) : Int) = ms := by omega
    rw [e] at this
    simpa [sgnB, h0] using this

theorem valT_len (n : Int) (h1 : -562949953421312 < n) (h2 : n < 562949953421312) : (valT n).length ≤ 40 := by
  unfold valT
  rw [num3_eighths, List.length_append, List.length_append]
  have l1 := dec_len (n.natAbs / 8) 14 (by decide) (by omega)
  have l2 : (frac8 (n.natAbs % 8)).length ≤ 4 := by unfold frac8; split <;> simp
  have l3 : (sgnB (decide (n < 0))).length ≤ 1 := by unfold sgnB; split <;> simp
  omega

set_option maxRecDepth 100000 in
set_option maxHeartbeats 1000000 in
/-- spec.PairText. -/
theorem pair_text (n ms : Int) (h1 : -562949953421312 < n) (h2 : n < 562949953421312) (h3 : -1000000000000000 < ms) (h4 : ms < 1000000000000000) (w : World) (hT : Tabs w) :
    Calls Tryz.prog 12 #[.int .i64 n, .int .i64 ms] w fun e w' => e = .returned (.string ⟨(pairT n ms).toArray⟩) ∧ Below w.heap.size w w' := by
  have c1 := eighths_text n h1 h2 w hT
  have c2 := fun W (hW : Below w.heap.size w W) => time_text ms h3 h4 W (hT.below hW)
  have n1 := valT_len n h1 h2
  have n2 := timeT_len ms h3 h4
  unfold pairT
  generalize valT n = l1 at *
  generalize timeT ms = l2 at *
  obtain ⟨s1, S1, a1⟩ := cat_ex l1 [32, 64, 91] (by simp; omega)
  obtain ⟨s2, S2, a2⟩ := cat_ex s1 l2 (by have := cat_len S1; simp at this; omega)
  obtain ⟨s3, S3, a3⟩ := cat_ex s2 [93] (by have := cat_len S1; have := cat_len S2; simp at *; omega)
  have hs3 : l1 ++ [32, 64, 91] ++ l2 ++ [93] = s3 := by rw [S3.out, S2.out, S1.out]
  rw [hs3]
  clear hs3 n1 n2 S1 S2 S3
  go_enter Tryz.func12, Tryz.ntmps12
  go_wp2_with (first
    | (go_at_call 27; (with_reducible refine c1.mono ?_); rintro e w1 ⟨rfl, hb1⟩)
    | (go_at_call 28; (with_reducible refine (c2 _ hb1).mono ?_); rintro e w2 ⟨rfl, hb2⟩))
  go_ret
  exact ⟨rfl, hb1.trans (hb2.mono hb1.size)⟩

end Go.Proofs.YtdeejmkjhmpabaaGreatDoor

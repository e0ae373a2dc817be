import Derived.Test.YtdeejmkjhmpabaaGreatDoorF7
import Derived.Deep.RegionWith
import Derived.Deep.RegionHeld3
namespace Go.Proofs.YtdeejmkjhmpabaaGreatDoor
open Go.RowKit Go.Lib

/-- A string of these bytes. -/
def str (l : List UInt8) : Value := .string ⟨l.toArray⟩

theorem num3_len (A : Nat) (h : A < 10000000000000000) : (num3 A).length ≤ 20 := by
  unfold num3
  have h1 : (decDigits (A / 1000)).length ≤ 13 := by rw [decDigits_length]; exact nDigits_le 13 _ (by decide) (by omega)
  rw [List.length_append]
  have h2 : (if A % 1000 = 0 then [] else if A % 100 = 0 then [46, dg A 2] else if A % 10 = 0 then [46, dg A 2, dg A 1] else [46, dg A 2, dg A 1, dg A 0]).length ≤ 4 := by
    split
    · simp
    · split
      · simp
      · split <;> simp
  omega

theorem nearest_int (n : Int) : floatOfInt .f64 n = Ieee.double.nearest (decide (n < 0)) n.natAbs 0 := rfl
theorem bits_1000 : Ieee.double.nearest false 1000 0 = 4652007308841189376 := by decide +kernel
theorem bits_8 : Ieee.double.nearest false 8 0 = 4620693217682128896 := by decide +kernel

/-- float64(ms) / 1000. -/
theorem time_bits (ms : Int) (h1 : -1000000000000000 < ms) (h2 : ms < 1000000000000000) : ∃ bv, floatBits .quo .f64 (floatOfInt .f64 ms) 4652007308841189376 = some bv ∧ IsT bv (decide (ms < 0)) ms.natAbs := by
  have hl := num3_len ms.natAbs (by omega)
  by_cases h0 : ms = 0
  · subst h0
    refine ⟨0, ?_, hl, Or.inl ⟨rfl, rfl, rfl⟩⟩
    show Ieee.double.div (Ieee.double.nearest false 0 0) 4652007308841189376 = some 0
    rw [← bits_1000, Sam.word_1000]
    exact Sam.div_zero _ _ (by decide) (by decide) (by decide) (by decide)
  · obtain ⟨M, f, h3, h4⟩ := Sam.div_1000 (decide (ms < 0)) ms.natAbs (by omega) (by omega)
    refine ⟨_, ?_, hl, Or.inr ⟨by omega, M, f, rfl, h4⟩⟩
    rw [← bits_1000]
    exact h3

/-- float64(n) / 8. -/
theorem eighth_bits (n : Int) (h1 : -562949953421312 < n) (h2 : n < 562949953421312) : ∃ bv, floatBits .quo .f64 (floatOfInt .f64 n) 4620693217682128896 = some bv ∧ IsT bv (decide (n < 0)) (125 * n.natAbs) := by
  have hl : (num3 (125 * n.natAbs)).length ≤ 20 := by
    unfold num3
    have h1 : (decDigits (125 * n.natAbs / 1000)).length ≤ 14 := by rw [decDigits_length]; exact nDigits_le 14 _ (by decide) (by omega)
    rw [List.length_append]
    have h2 : ∀ A : Nat, (if A % 1000 = 0 then [] else if A % 100 = 0 then [46, dg A 2] else if A % 10 = 0 then [46, dg A 2, dg A 1] else [46, dg A 2, dg A 1, dg A 0]).length ≤ 4 := fun A => by
      split
      · simp
      · split
        · simp
        · split <;> simp
    have := h2 (125 * n.natAbs)
    omega
  by_cases h0 : n = 0
  · subst h0
    refine ⟨0, ?_, hl, Or.inl ⟨rfl, rfl, rfl⟩⟩
    show Ieee.double.div (Ieee.double.nearest false 0 0) 4620693217682128896 = some 0
    rw [← bits_8, Sam.word_8]
    exact Sam.div_zero _ _ (by decide) (by decide) (by decide) (by decide)
  · obtain ⟨M, f, h3, h4⟩ := Sam.div_8 (decide (n < 0)) n.natAbs (by omega) (by omega)
    refine ⟨_, ?_, hl, Or.inr ⟨by omega, M, f, rfl, h4⟩⟩
    rw [← bits_8]
    exact h3

/-- The text of a time. -/
def timeT (ms : Int) : List UInt8 := sgnB (decide (ms < 0)) ++ num3 ms.natAbs
/-- The text of a number of eighths. -/
def valT (n : Int) : List UInt8 := sgnB (decide (n < 0)) ++ num3 (125 * n.natAbs)
/-- The text of a pair. -/
def pairT (n ms : Int) : List UInt8 := valT n ++ [32, 64, 91] ++ timeT ms ++ [93]

set_option maxHeartbeats 400000 in
theorem time_string (ms : Int) (h1 : -1000000000000000 < ms) (h2 : ms < 1000000000000000) (w : World) (hT : Tabs w) :
    Calls Tryz.prog 121 #[.int .i64 ms] w fun e w' => e = .returned (str (timeT ms)) ∧ Below w.heap.size w w' := by
  obtain ⟨bv, hb, hI⟩ := time_bits ms h1 h2
  have hq := fun w => run_float_arith (P := Tryz.prog) w .quo 30 .f64 _ _ bv hb
  have hF := formatFloat_any bv _ _ hI w hT
  clear hb hI
  unfold str timeT
  generalize sgnB (decide (ms < 0)) ++ num3 ms.natAbs = l at hF ⊢
  go_enter Tryz.func121, Tryz.ntmps121
  go_wp2_with (go_at_call 158; (with_reducible refine hF.mono ?_); rintro e w3 ⟨rfl, hb3⟩)
  go_ret
  exact ⟨rfl, hb3⟩

set_option maxHeartbeats 400000 in
/-- SampleValue.String. -/
theorem value_string (bv A : Nat) (neg : Bool) (hI : IsT bv neg A) (w : World) (hT : Tabs w) :
    Calls Tryz.prog 120 #[.float .f64 bv] w fun e w' => e = .returned (str (sgnB neg ++ num3 A)) ∧ Below w.heap.size w w' := by
  have hF := formatFloat_any bv _ _ hI w hT
  unfold str
  generalize sgnB neg ++ num3 A = l at hF ⊢
  go_enter Tryz.func120, Tryz.ntmps120
  go_wp2_with (go_at_call 158; (with_reducible refine hF.mono ?_); rintro e w3 ⟨rfl, hb3⟩)
  go_ret
  exact ⟨rfl, hb3⟩

theorem timeT_len (ms : Int) (h1 : -1000000000000000 < ms) (h2 : ms < 1000000000000000) : (timeT ms).length ≤ 21 := by
  have := num3_len ms.natAbs (by omega)
  unfold timeT sgnB
  rw [List.length_append]
  split <;> simp <;> omega

/-- Two strings joined, the result under a name of its own. -/
theorem cat_ex (a b : List UInt8) (h : a.length + b.length ≤ 1000000000) : ∃ s : List UInt8, Hid (s = a ++ b) ∧ ∀ w, (Op.stringOp .add ⟨a.toArray⟩ ⟨b.toArray⟩).run Tryz.prog w = .ok (.string ⟨s.toArray⟩) w := by
  refine ⟨a ++ b, rfl, fun w => ?_⟩
  rw [run_string_add_sum w ⟨a.toArray⟩ ⟨b.toArray⟩ (by show a.toArray.size + b.toArray.size ≤ _; simp; omega), ByteArray.mk_append_mk]
theorem cat_len {s a b : List UInt8} (h : Hid (s = a ++ b)) : s.length = a.length + b.length := by rw [h.out, List.length_append]

set_option maxRecDepth 100000 in
set_option maxHeartbeats 2000000 in
theorem pair_walk (ms : Int) (bv : Nat) (l1 l2 : List UInt8) (n1 : l1.length ≤ 40) (n2 : l2.length ≤ 40) (w : World)
    (cV : ∀ W, Below w.heap.size w W → Calls Tryz.prog 120 #[.float .f64 bv] W fun e w' => e = .returned (.string ⟨l1.toArray⟩) ∧ Below W.heap.size W w')
    (cT : ∀ W, Below w.heap.size w W → Calls Tryz.prog 121 #[.int .i64 ms] W fun e w' => e = .returned (.string ⟨l2.toArray⟩) ∧ Below W.heap.size W w') :
    Calls Tryz.prog 85 #[.agg #[.int .i64 ms, .float .f64 bv]] w fun e w' => e = .returned (.string ⟨(l1 ++ [32, 64, 91] ++ l2 ++ [93]).toArray⟩) ∧ Below w.heap.size w w' := by
  obtain ⟨s1, S1, a1⟩ := cat_ex l1 [32, 64, 91] (by simp; omega)
  obtain ⟨s2, S2, a2⟩ := cat_ex s1 l2 (by have := cat_len S1; simp at this; omega)
  obtain ⟨s3, S3, a3⟩ := cat_ex s2 [93] (by have := cat_len S1; have := cat_len S2; simp at *; omega)
  have hs3 : s3 = l1 ++ [32, 64, 91] ++ l2 ++ [93] := by rw [S3.out, S2.out, S1.out]
  rw [← hs3]
  clear hs3 n1 n2
  go_enter Tryz.func85, Tryz.ntmps85
  go_wp2_with fail
  have hW : Below w.heap.size w (w.alloc (.cells #[.int .i64 ms, .float .f64 bv] 81)).drew := ((Below.refl _ _).alloc (Nat.le_refl _) _).drew
  have cV0 := cV _ hW
  have k0 : (w.alloc (.cells #[.int .i64 ms, .float .f64 bv] 81)).drew.cell? ⟨w.heap.size, 0, none⟩ = some (.int .i64 ms) := by simp
  have k0' : (w.alloc (.cells #[.int .i64 ms, .float .f64 bv] 81)).drew.cell? ⟨w.heap.size, 1, none⟩ = some (.float .f64 bv) := by simp
  have HK := Lib.hid k0
  have HK' := Lib.hid k0'
  have HW := Lib.hid hW
  clear k0 k0' hW cV
  go_region_held3 (fun w' => w'.cell? ⟨w.heap.size, 0, none⟩ = some (.int .i64 ms) ∧ w'.cell? ⟨w.heap.size, 1, none⟩ = some (.float .f64 bv)) (go_keep) (first
    | (go_at_call 120; (with_reducible refine cV0.mono ?_); rintro e w1 ⟨rfl, hb1⟩; have k1 : w1.cell? ⟨w.heap.size, 0, none⟩ = some (.int .i64 ms) := (hb1.cell (by simp)).trans HK.out; have k1' : w1.cell? ⟨w.heap.size, 1, none⟩ = some (.float .f64 bv) := (hb1.cell (by simp)).trans HK'.out; have HB1 := Lib.hid hb1; clear hb1)
    | (go_at_call 121; (with_reducible refine (cT _ (HW.out.trans (HB1.out.mono (by simp)))).mono ?_); rintro e w2 ⟨rfl, hb2⟩; have k2 : w2.cell? ⟨w.heap.size, 0, none⟩ = some (.int .i64 ms) := (hb2.cell (by have := HB1.out.size; simp at this ⊢; omega)).trans k1; have k2' : w2.cell? ⟨w.heap.size, 1, none⟩ = some (.float .f64 bv) := (hb2.cell (by have := HB1.out.size; simp at this ⊢; omega)).trans k1'; have HB2 := Lib.hid hb2; clear hb2))
  all_goals
    go_wp2
    go_ret
    exact ⟨rfl, (HW.out.trans (HB1.out.mono (by simp))).trans (HB2.out.mono (by have := HB1.out.size; simp at this ⊢; omega))⟩

/-- SamplePair.String. -/
theorem pair_string (n ms : Int) (bv : Nat) (hI : IsT bv (decide (n < 0)) (125 * n.natAbs)) (hl : (valT n).length ≤ 40) (h1 : -1000000000000000 < ms) (h2 : ms < 1000000000000000) (w : World) (hT : Tabs w) :
    Calls Tryz.prog 85 #[.agg #[.int .i64 ms, .float .f64 bv]] w fun e w' => e = .returned (str (pairT n ms)) ∧ Below w.heap.size w w' :=
  pair_walk ms bv (valT n) (timeT ms) hl (Nat.le_trans (timeT_len ms h1 h2) (by decide)) w (fun W hW => value_string bv _ _ hI W (hT.below hW)) (fun W hW => time_string ms h1 h2 W (hT.below hW))

end Go.Proofs.YtdeejmkjhmpabaaGreatDoor

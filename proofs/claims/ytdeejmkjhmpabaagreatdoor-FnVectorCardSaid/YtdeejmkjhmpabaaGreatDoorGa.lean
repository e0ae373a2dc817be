/-
  
  
  
-/
import Derived.Test.YtdeejmkjhmpabaaGreatDoorFa
import Derived.Deep.RegionWith
import Derived.Deep.RegionHeld3
import Derived.Lib.AppendIntMem
import Derived.Lib.IndexBytes
namespace Go.Proofs.YtdeejmkjhmpabaaGreatDoor
open Go.RowKit Go.Lib

/-- A string of these bytes. -/
def str (l : List UInt8) : Value := .string ⟨l.toArray⟩

theorem num3_len (A : Nat) (h : A < 10000000000000000) : (num3 A).length ≤ 20 := by
  unfold num3
  have h1 : (decDigits (A / 1000)).length ≤ 13 := by rw [decDigits_length]; exact nDigits_le 13 _ (by decide) (by omega)
  rw [List.length_append]
  have h2 : (if A % 1000 = 0 then [] else if A % 100 = 0 then [46, dg A 2] else if A % 10 = 0 then [46, dg A 2, dg A 1] else [46, dg A 2, dg A 1, dg A 0]).length ≤ 4 := by
    split
    · simp
    · split
      · simp
      · split <;> simp
  omega

theorem nearest_int (n : Int) : floatOfInt .f64 n = Ieee.double.nearest (decide (n < 0)) n.natAbs 0 := rfl
theorem bits_1000 : Ieee.double.nearest false 1000 0 = 4652007308841189376 := by decide +kernel
theorem bits_8 : Ieee.double.nearest false 8 0 = 4620693217682128896 := by decide +kernel

/-- float64(ms) / 1000. -/
theorem time_bits (ms : Int) (h1 : -1000000000000000 < ms) (h2 : ms < 1000000000000000) : ∃ bv, floatBits .quo .f64 (floatOfInt .f64 ms) 4652007308841189376 = some bv ∧ IsT bv (decide (ms < 0)) ms.natAbs := by
  have hl := num3_len ms.natAbs (by omega)
  by_cases h0 : ms = 0
  · subst h0
    refine ⟨0, ?_, hl, Or.inl ⟨rfl, rfl, rfl⟩⟩
    show Ieee.double.div (Ieee.double.nearest false 0 0) 4652007308841189376 = some 0
    rw [← bits_1000, Sam.word_1000]
    exact Sam.div_zero _ _ (by decide) (by decide) (by decide) (by decide)
  · obtain ⟨M, f, h3, h4⟩ := Sam.div_1000 (decide (ms < 0)) ms.natAbs (by omega) (by omega)
    refine ⟨_, ?_, hl, Or.inr ⟨by omega, M, f, rfl, h4⟩⟩
    rw [← bits_1000]
    exact h3

/-- float64(n) / 8. -/
theorem eighth_bits (n : Int) (h1 : -562949953421312 < n) (h2 : n < 562949953421312) : ∃ bv, floatBits .quo .f64 (floatOfInt .f64 n) 4620693217682128896 = some bv ∧ IsT bv (decide (n < 0)) (125 * n.natAbs) := by
  have hl : (num3 (125 * n.natAbs)).length ≤ 20 := by
    unfold num3
    have h1 : (decDigits (125 * n.natAbs / 1000)).length ≤ 14 := by rw [decDigits_length]; exact nDigits_le 14 _ (by decide) (by omega)
    rw [List.length_append]
    have h2 : ∀ A : Nat, (if A % 1000 = 0 then [] else if A % 100 = 0 then [46, dg A 2] else if A % 10 = 0 then [46, dg A 2, dg A 1] else [46, dg A 2, dg A 1, dg A 0]).length ≤ 4 := fun A => by
      split
      · simp
      · split
        · simp
        · split <;> simp
    have := h2 (125 * n.natAbs)
    omega
  by_cases h0 : n = 0
  · subst h0
    refine ⟨0, ?_, hl, Or.inl ⟨rfl, rfl, rfl⟩⟩
    show Ieee.double.div (Ieee.double.nearest false 0 0) 4620693217682128896 = some 0
    rw [← bits_8, Sam.word_8]
    exact Sam.div_zero _ _ (by decide) (by decide) (by decide) (by decide)
  · obtain ⟨M, f, h3, h4⟩ := Sam.div_8 (decide (n < 0)) n.natAbs (by omega) (by omega)
    refine ⟨_, ?_, hl, Or.inr ⟨by omega, M, f, rfl, h4⟩⟩
    rw [← bits_8]
    exact h3

/-- The text of a time. -/
def timeT (ms : Int) : List UInt8 := sgnB (decide (ms < 0)) ++ num3 ms.natAbs
/-- The text of a number of eighths. -/
def valT (n : Int) : List UInt8 := sgnB (decide (n < 0)) ++ num3 (125 * n.natAbs)
/-- The text of a pair. -/
def pairT (n ms : Int) : List UInt8 := valT n ++ [32, 64, 91] ++ timeT ms ++ [93]

set_option maxHeartbeats 400000 in
theorem time_string (ms : Int) (h1 : -1000000000000000 < ms) (h2 : ms < 1000000000000000) (w : World) (hT : Tabs w) :
    Calls Tryz.prog 121 #[.int .i64 ms] w fun e w' => e = .returned (str (timeT ms)) ∧ Below w.heap.size w w' := by
  obtain ⟨bv, hb, hI⟩ := time_bits ms h1 h2
  have hq := fun w => run_float_arith (P := Tryz.prog) w .quo 30 .f64 _ _ bv hb
  have hF := formatFloat_any bv _ _ hI w hT
  clear hb hI
  unfold str timeT
  generalize sgnB (decide (ms < 0)) ++ num3 ms.natAbs = l at hF ⊢
  go_enter Tryz.func121, Tryz.ntmps121
  go_wp2_with (go_at_call 158; (with_reducible refine hF.mono ?_); rintro e w3 ⟨rfl, hb3⟩)
  go_ret
  exact ⟨rfl, hb3⟩

set_option maxHeartbeats 400000 in
/-- SampleValue.String. -/
theorem value_string (bv A : Nat) (neg : Bool) (hI : IsT bv neg A) (w : World) (hT : Tabs w) :
    Calls Tryz.prog 120 #[.float .f64 bv] w fun e w' => e = .returned (str (sgnB neg ++ num3 A)) ∧ Below w.heap.size w w' := by
  have hF := formatFloat_any bv _ _ hI w hT
  unfold str
  generalize sgnB neg ++ num3 A = l at hF ⊢
  go_enter Tryz.func120, Tryz.ntmps120
  go_wp2_with (go_at_call 158; (with_reducible refine hF.mono ?_); rintro e w3 ⟨rfl, hb3⟩)
  go_ret
  exact ⟨rfl, hb3⟩

theorem timeT_len (ms : Int) (h1 : -1000000000000000 < ms) (h2 : ms < 1000000000000000) : (timeT ms).length ≤ 21 := by
  have := num3_len ms.natAbs (by omega)
  unfold timeT sgnB
  rw [List.length_append]
  split <;> simp <;> omega

/-- Two strings joined, the result under a name of its own. -/
theorem cat_ex (a b : List UInt8) (h : a.length + b.length ≤ 1000000000) : ∃ s : List UInt8, Hid (s = a ++ b) ∧ ∀ w, (Op.stringOp .add ⟨a.toArray⟩ ⟨b.toArray⟩).run Tryz.prog w = .ok (.string ⟨s.toArray⟩) w := by
  refine ⟨a ++ b, rfl, fun w => ?_⟩
  rw [run_string_add_sum w ⟨a.toArray⟩ ⟨b.toArray⟩ (by show a.toArray.size + b.toArray.size ≤ _; simp; omega), ByteArray.mk_append_mk]
theorem cat_len {s a b : List UInt8} (h : Hid (s = a ++ b)) : s.length = a.length + b.length := by rw [h.out, List.length_append]

set_option maxRecDepth 100000 in
set_option maxHeartbeats 2000000 in
theorem pair_walk (ms : Int) (bv : Nat) (l1 l2 : List UInt8) (n1 : l1.length ≤ 40) (n2 : l2.length ≤ 40) (w : World)
    (cV : ∀ W, Below w.heap.size w W → Calls Tryz.prog 120 #[.float .f64 bv] W fun e w' => e = .returned (.string ⟨l1.toArray⟩) ∧ Below W.heap.size W w')
    (cT : ∀ W, Below w.heap.size w W → Calls Tryz.prog 121 #[.int .i64 ms] W fun e w' => e = .returned (.string ⟨l2.toArray⟩) ∧ Below W.heap.size W w') :
    Calls Tryz.prog 85 #[.agg #[.int .i64 ms, .float .f64 bv]] w fun e w' => e = .returned (.string ⟨(l1 ++ [32, 64, 91] ++ l2 ++ [93]).toArray⟩) ∧ Below w.heap.size w w' := by
  obtain ⟨s1, S1, a1⟩ := cat_ex l1 [32, 64, 91] (by simp; omega)
  obtain ⟨s2, S2, a2⟩ := cat_ex s1 l2 (by have := cat_len S1; simp at this; omega)
  obtain ⟨s3, S3, a3⟩ := cat_ex s2 [93] (by have := cat_len S1; have := cat_len S2; simp at *; omega)
  have hs3 : s3 = l1 ++ [32, 64, 91] ++ l2 ++ [93] := by rw [S3.out, S2.out, S1.out]
  rw [← hs3]
  clear hs3 n1 n2
  go_enter Tryz.func85, Tryz.ntmps85
  go_wp2_with fail
  have hW : Below w.heap.size w (w.alloc (.cells #[.int .i64 ms, .float .f64 bv] 81)).drew := ((Below.refl _ _).alloc (Nat.le_refl _) _).drew
  have cV0 := cV _ hW
  have k0 : (w.alloc (.cells #[.int .i64 ms, .float .f64 bv] 81)).drew.cell? ⟨w.heap.size, 0, none⟩ = some (.int .i64 ms) := by simp
  have k0' : (w.alloc (.cells #[.int .i64 ms, .float .f64 bv] 81)).drew.cell? ⟨w.heap.size, 1, none⟩ = some (.float .f64 bv) := by simp
  have HK := Lib.hid k0
  have HK' := Lib.hid k0'
  have HW := Lib.hid hW
  clear k0 k0' hW cV
  go_region_held3 (fun w' => w'.cell? ⟨w.heap.size, 0, none⟩ = some (.int .i64 ms) ∧ w'.cell? ⟨w.heap.size, 1, none⟩ = some (.float .f64 bv)) (go_keep) (first
    | (go_at_call 120; (with_reducible refine cV0.mono ?_); rintro e w1 ⟨rfl, hb1⟩; have k1 : w1.cell? ⟨w.heap.size, 0, none⟩ = some (.int .i64 ms) := (hb1.cell (by simp)).trans HK.out; have k1' : w1.cell? ⟨w.heap.size, 1, none⟩ = some (.float .f64 bv) := (hb1.cell (by simp)).trans HK'.out; have HB1 := Lib.hid hb1; clear hb1)
    | (go_at_call 121; (with_reducible refine (cT _ (HW.out.trans (HB1.out.mono (by simp)))).mono ?_); rintro e w2 ⟨rfl, hb2⟩; have k2 : w2.cell? ⟨w.heap.size, 0, none⟩ = some (.int .i64 ms) := (hb2.cell (by have := HB1.out.size; simp at this ⊢; omega)).trans k1; have k2' : w2.cell? ⟨w.heap.size, 1, none⟩ = some (.float .f64 bv) := (hb2.cell (by have := HB1.out.size; simp at this ⊢; omega)).trans k1'; have HB2 := Lib.hid hb2; clear hb2))
  all_goals
    go_wp2
    go_ret
    exact ⟨rfl, (HW.out.trans (HB1.out.mono (by simp))).trans (HB2.out.mono (by have := HB1.out.size; simp at this ⊢; omega))⟩

/-- SamplePair.String. -/
theorem pair_string (n ms : Int) (bv : Nat) (hI : IsT bv (decide (n < 0)) (125 * n.natAbs)) (hl : (valT n).length ≤ 40) (h1 : -1000000000000000 < ms) (h2 : ms < 1000000000000000) (w : World) (hT : Tabs w) :
    Calls Tryz.prog 85 #[.agg #[.int .i64 ms, .float .f64 bv]] w fun e w' => e = .returned (str (pairT n ms)) ∧ Below w.heap.size w w' :=
  pair_walk ms bv (valT n) (timeT ms) hl (Nat.le_trans (timeT_len ms h1 h2) (by decide)) w (fun W hW => value_string bv _ _ hI W (hT.below hW)) (fun W hW => time_string ms h1 h2 W (hT.below hW))

end Go.Proofs.YtdeejmkjhmpabaaGreatDoor
namespace Go.Proofs.YtdeejmkjhmpabaaGreatDoor
open Go.RowKit Go.Lib

/-- strconv.FormatInt(q, 10) of a number that is not below 0. -/
theorem fint (q : Nat) (hq : q ≤ 9223372036854775807) (w : World) (hT : Tabs w) :
    Calls Tryz.prog 54 #[.int .i64 (q : Int), .int .i64 10] w fun e w' => e = .returned (.string ⟨(decDigits q).toArray⟩) ∧ Below w.heap.size w w' :=
  (Tryz.strconv_FormatInt_10 (q : Int) (by omega) (by omega) w hT.at.pow).mono fun e w' ⟨h1, k, os, h2⟩ => ⟨by rw [h1, itoa_nonneg], by rw [h2]; exact below_grow _ w (Nat.le_refl _) k os⟩

theorem dec_len (q k : Nat) (hk : 1 ≤ k) (h : q < 10 ^ k) : (decDigits q).length ≤ k := by rw [decDigits_length]; exact nDigits_le k q hk h

theorem trim_tab : ∀ r : Fin 1000, r.val ≠ 0 → trimRightB ((decDigits (1000 + r.val)).drop 1) 48 = if r.val % 100 = 0 then [dg r.val 2] else if r.val % 10 = 0 then [dg r.val 2, dg r.val 1] else [dg r.val 2, dg r.val 1, dg r.val 0] := by decide +kernel

theorem dg_mod (A j : Nat) (hj : j < 3) : dg (A % 1000) j = dg A j := by
  unfold dg
  rcases (by omega : j = 0 ∨ j = 1 ∨ j = 2) with rfl | rfl | rfl <;> (congr 2; omega)

theorem num3_spec (A : Nat) : num3 A = decDigits (A / 1000) ++ (if A % 1000 = 0 then [] else 46 :: trimRightB ((decDigits (1000 + A % 1000)).drop 1) 48) := by
  unfold num3
  congr 1
  by_cases h : A % 1000 = 0
  · rw [if_pos h, if_pos h]
  · rw [if_neg h, if_neg h, trim_tab ⟨A % 1000, Nat.mod_lt _ (by decide)⟩ h]
    dsimp only
    rw [dg_mod A 2 (by decide), dg_mod A 1 (by decide), dg_mod A 0 (by decide)]
    have e1 : A % 1000 % 100 = A % 100 := by omega
    have e2 : A % 1000 % 10 = A % 10 := by omega
    rw [e1, e2]
    split
    · rfl
    · split <;> rfl

theorem dec4_len : ∀ r : Fin 1000, (decDigits (1000 + r.val)).length = 4 := by decide +kernel

/-- strings.TrimRight(s, "0"). -/
theorem trim0 (l : List UInt8) (hl : l.length ≤ 1000) (w : World) : Calls Tryz.prog 55 #[.string ⟨l.toArray⟩, .string ⟨#[48]⟩] w fun e w' => e = .returned (.string ⟨(trimRightB l 48).toArray⟩) ∧ w = w' :=
  (Tryz.strings_TrimRight_one ⟨l.toArray⟩ 48 (by decide) w (by show l.toArray.size ≤ _; simp; omega)).mono fun e w' ⟨h1, h2⟩ => ⟨h1, h2.symm⟩

theorem trim_len (l : List UInt8) (c : UInt8) : (trimRightB l c).length ≤ l.length := by
  unfold trimRightB
  rw [List.length_reverse]
  refine Nat.le_trans (List.dropWhile_sublist _).length_le ?_
  simp

theorem ba_ext {a : ByteArray} {l : List UInt8} (h : a.data.toList = l) : a = ⟨l.toArray⟩ := by
  subst h
  cases a
  simp

theorem slice_one (l : List UInt8) (h : 1 ≤ l.length) (w : World) : (Instr.slice 9 (.string ⟨l.toArray⟩) (some (.int .i64 1)) none none).run Tryz.prog w = .ok (.string ⟨(l.drop 1).toArray⟩) w := by
  rw [run_slice_string_l w 9 ⟨l.toArray⟩ Tryz.underlying9 .i64 1 (by decide) (by show (1 : Int) ≤ ((l.toArray.size : Nat) : Int); simp; omega)]
  congr 2
  exact ba_ext (extract_to_end ⟨l.toArray⟩ 1)

set_option maxRecDepth 100000 in
set_option maxHeartbeats 1000000 in
theorem timeText_pos (A : Nat) (hA : A < 1000000000000000) (w : World) (hT : Tabs w) :
    Calls Tryz.prog 28 #[.int .i64 (A : Int)] w fun e w' => e = .returned (.string ⟨(num3 A).toArray⟩) ∧ Below w.heap.size w w' := by
  have hspec := num3_spec A
  have c1 := fint (A / 1000) (by omega) w hT
  have hq : (A : Int) / 1000 = ((A / 1000 : Nat) : Int) := by omega
  have hr : (A : Int) % 1000 = ((A % 1000 : Nat) : Int) := by omega
  have l1 := dec_len (A / 1000) 15 (by decide) (by omega)
  obtain ⟨s1, S1, a1⟩ := cat_ex [] (decDigits (A / 1000)) (by simp; omega)
  by_cases h0 : A % 1000 = 0
  · rw [if_pos h0, List.append_nil] at hspec
    rw [hspec]
    rw [h0] at hr
    have hs1 : s1 = [] ++ decDigits (A / 1000) := S1.out
    have hgoal : decDigits (A / 1000) = s1 := by rw [hs1]; rfl
    rw [hgoal]
    generalize A / 1000 = q at *
    generalize decDigits q = d at *
    clear hs1 hspec l1 h0 hgoal S1
    go_enter Tryz.func28, Tryz.ntmps28
    go_wp2_with (go_at_call 54; (with_reducible refine c1.mono ?_); rintro e w1 ⟨rfl, hb1⟩)
    go_ret
    exact ⟨rfl, hb1⟩
  · rw [if_neg h0] at hspec
    have hr1000 : A % 1000 < 1000 := Nat.mod_lt _ (by decide)
    have l4 := dec4_len ⟨A % 1000, hr1000⟩
    dsimp only at l4
    obtain ⟨m, hm⟩ : ∃ m, m = 1000 + A % 1000 := ⟨_, rfl⟩
    have hmi : 1000 + ((A % 1000 : Nat) : Int) = (m : Int) := by omega
    rw [← hm] at hspec l4
    have c2 := fun W (hW : Below w.heap.size w W) => fint m (by omega) W (hT.below hW)
    have hsl := fun W => slice_one (decDigits m) (by omega) W
    have c3 := fun W => trim0 ((decDigits m).drop 1) (by rw [List.length_drop]; omega) W
    have l5 := trim_len ((decDigits m).drop 1) 48
    rw [List.length_drop, l4] at l5
    generalize trimRightB ((decDigits m).drop 1) 48 = t at *
    generalize (decDigits m).drop 1 = d5 at *
    generalize decDigits m = d4 at *
    obtain ⟨s2, S2, a2⟩ := cat_ex [46] t (by simp; omega)
    have n1 := cat_len S1
    have n2 := cat_len S2
    obtain ⟨s3, S3, a3⟩ := cat_ex s1 s2 (by simp at n1 n2; omega)
    have hs3 : (num3 A) = s3 := by rw [S3.out, S1.out, S2.out, hspec]; simp
    rw [hs3]
    have hne : ((A % 1000 : Nat) : Int) ≠ 0 := by omega
    have hne2 : (((A % 1000 : Nat) : Int) != 0) = true := by simp; omega
    generalize A / 1000 = q at *
    generalize decDigits q = d at *
    generalize A % 1000 = r at *
    clear hs3 hspec l1 l5 l4 h0 S1 S2 S3 n1 n2 hm hr1000
    go_enter Tryz.func28, Tryz.ntmps28
    go_wp2_with (first
      | (go_at_call 54; (with_reducible refine c1.mono ?_); rintro e w1 ⟨rfl, hb1⟩)
      | (go_at_call 54; (with_reducible refine (c2 _ hb1).mono ?_); rintro e w2 ⟨rfl, hb2⟩)
      | (go_at_call 55; (with_reducible refine (c3 _).mono ?_); rintro e w' ⟨rfl, rfl⟩))
    go_ret
    exact ⟨rfl, hb1.trans (hb2.mono hb1.size)⟩

set_option maxRecDepth 100000 in
set_option maxHeartbeats 1000000 in
theorem timeText_neg (A : Nat) (hA0 : 1 ≤ A) (hA : A < 1000000000000000) (w : World) (hT : Tabs w) :
    Calls Tryz.prog 28 #[.int .i64 (-(A : Int))] w fun e w' => e = .returned (.string ⟨([45] ++ num3 A).toArray⟩) ∧ Below w.heap.size w w' := by
  have hspec := num3_spec A
  have c1 := fint (A / 1000) (by omega) w hT
  have hq : (A : Int) / 1000 = ((A / 1000 : Nat) : Int) := by omega
  have hr : (A : Int) % 1000 = ((A % 1000 : Nat) : Int) := by omega
  have l1 := dec_len (A / 1000) 15 (by decide) (by omega)
  have hlt : (-(A : Int) < 0) = True := by simp; omega
  have hnn : -(-(A : Int)) = (A : Int) := by omega
  obtain ⟨s1, S1, a1⟩ := cat_ex [45] (decDigits (A / 1000)) (by simp; omega)
  by_cases h0 : A % 1000 = 0
  · rw [if_pos h0, List.append_nil] at hspec
    rw [hspec]
    rw [h0] at hr
    have hs1 : s1 = [45] ++ decDigits (A / 1000) := S1.out
    have hgoal : [45] ++ decDigits (A / 1000) = s1 := by rw [hs1]
    rw [hgoal]
    generalize A / 1000 = q at *
    generalize decDigits q = d at *
    clear hs1 hspec l1 h0 hgoal S1
    go_enter Tryz.func28, Tryz.ntmps28
    go_wp2_with (go_at_call 54; (with_reducible refine c1.mono ?_); rintro e w1 ⟨rfl, hb1⟩)
    go_ret
    exact ⟨rfl, hb1⟩
  · rw [if_neg h0] at hspec
    have hr1000 : A % 1000 < 1000 := Nat.mod_lt _ (by decide)
    have l4 := dec4_len ⟨A % 1000, hr1000⟩
    dsimp only at l4
    obtain ⟨m, hm⟩ : ∃ m, m = 1000 + A % 1000 := ⟨_, rfl⟩
    have hmi : 1000 + ((A % 1000 : Nat) : Int) = (m : Int) := by omega
    rw [← hm] at hspec l4
    have c2 := fun W (hW : Below w.heap.size w W) => fint m (by omega) W (hT.below hW)
    have hsl := fun W => slice_one (decDigits m) (by omega) W
    have c3 := fun W => trim0 ((decDigits m).drop 1) (by rw [List.length_drop]; omega) W
    have l5 := trim_len ((decDigits m).drop 1) 48
    rw [List.length_drop, l4] at l5
    generalize trimRightB ((decDigits m).drop 1) 48 = t at *
    generalize (decDigits m).drop 1 = d5 at *
    generalize decDigits m = d4 at *
    obtain ⟨s2, S2, a2⟩ := cat_ex [46] t (by simp; omega)
    have n1 := cat_len S1
    have n2 := cat_len S2
    obtain ⟨s3, S3, a3⟩ := cat_ex s1 s2 (by simp at n1 n2; omega)
    have hs3 : ([45] ++ num3 A) = s3 := by rw [S3.out, S1.out, S2.out, hspec]; simp
    rw [hs3]
    have hne : ((A % 1000 : Nat) : Int) ≠ 0 := by omega
    have hne2 : (((A % 1000 : Nat) : Int) != 0) = true := by simp; omega
    generalize A / 1000 = q at *
    generalize decDigits q = d at *
    generalize A % 1000 = r at *
    clear hs3 hspec l1 l5 l4 h0 S1 S2 S3 n1 n2 hm hr1000
    go_enter Tryz.func28, Tryz.ntmps28
    go_wp2_with (first
      | (go_at_call 54; (with_reducible refine c1.mono ?_); rintro e w1 ⟨rfl, hb1⟩)
      | (go_at_call 54; (with_reducible refine (c2 _ hb1).mono ?_); rintro e w2 ⟨rfl, hb2⟩)
      | (go_at_call 55; (with_reducible refine (c3 _).mono ?_); rintro e w' ⟨rfl, rfl⟩))
    go_ret
    exact ⟨rfl, hb1.trans (hb2.mono hb1.size)⟩

end Go.Proofs.YtdeejmkjhmpabaaGreatDoor
namespace Go.Proofs.YtdeejmkjhmpabaaGreatDoor
open Go.RowKit Go.Lib

/-- The decimals of r eighths. -/
def frac8 (r : Nat) : List UInt8 := match r with
  | 1 => [46, 49, 50, 53] | 2 => [46, 50, 53] | 3 => [46, 51, 55, 53] | 4 => [46, 53] | 5 => [46, 54, 50, 53] | 6 => [46, 55, 53] | 7 => [46, 56, 55, 53] | _ => []

theorem frac8_tab : ∀ r : Fin 8, (if 125 * r.val % 1000 = 0 then [] else if 125 * r.val % 100 = 0 then [46, dg (125 * r.val) 2] else if 125 * r.val % 10 = 0 then [46, dg (125 * r.val) 2, dg (125 * r.val) 1] else [46, dg (125 * r.val) 2, dg (125 * r.val) 1, dg (125 * r.val) 0]) = frac8 r.val := by decide +kernel

theorem num3_eighths (a : Nat) : num3 (125 * a) = decDigits (a / 8) ++ frac8 (a % 8) := by
  unfold num3
  have e1 : 125 * a / 1000 = a / 8 := by omega
  have e2 : 125 * a % 1000 = 125 * (a % 8) := by omega
  have e3 : 125 * (a % 8) % 1000 = 125 * (a % 8) := by omega
  have e4 : 125 * a % 100 = 125 * (a % 8) % 100 := by omega
  have e5 : 125 * a % 10 = 125 * (a % 8) % 10 := by omega
  have d : ∀ j, j < 3 → dg (125 * a) j = dg (125 * (a % 8)) j := fun j hj => by rw [← dg_mod _ j hj, e2]
  have ht := frac8_tab ⟨a % 8, Nat.mod_lt _ (by decide)⟩
  dsimp only at ht
  rw [← ht, e1, e2, e3, e4, e5, d 2 (by decide), d 1 (by decide), d 0 (by decide)]

def eightsObj : Obj := .cells #[.string ⟨#[]⟩, .string ⟨#[46, 49, 50, 53]⟩, .string ⟨#[46, 50, 53]⟩, .string ⟨#[46, 51, 55, 53]⟩, .string ⟨#[46, 53]⟩, .string ⟨#[46, 54, 50, 53]⟩, .string ⟨#[46, 55, 53]⟩, .string ⟨#[46, 56, 55, 53]⟩] 9

theorem eights_cell (w : World) (r : Nat) (hr : r < 8) : (w.alloc eightsObj).cell? ⟨w.heap.size, r, none⟩ = some (.string ⟨(frac8 r).toArray⟩) := by
  unfold eightsObj
  rcases (by omega : r = 0 ∨ r = 1 ∨ r = 2 ∨ r = 3 ∨ r = 4 ∨ r = 5 ∨ r = 6 ∨ r = 7) with rfl | rfl | rfl | rfl | rfl | rfl | rfl | rfl <;> simp [frac8]

set_option maxRecDepth 100000 in
set_option maxHeartbeats 2000000 in
theorem eighths_pos (q r : Nat) (x : Int) (hx : x = 8 * (q : Int) + r) (hr8 : r < 8) (hq1 : q < 100000000000000) (w : World) (hT : Tabs w) :
    Calls Tryz.prog 27 #[.int .i64 x] w fun e w' => e = .returned (.string ⟨(decDigits q ++ frac8 r).toArray⟩) ∧ Below w.heap.size w w' := by
  have hr : x.tmod 8 = (r : Int) := by rw [Int.tmod_eq_emod_of_nonneg (by omega)]; omega
  have hq : IntKind.i64.wrap (x.tdiv 8) = (q : Int) := by rw [Int.tdiv_eq_ediv_of_nonneg (by omega), IntWalk.i64_in _ (by omega)]; omega
  have hx0 : 0 ≤ x := by omega
  have hx2 : x ≤ 1000000000000000 := by omega
  have l1 := dec_len q 14 (by decide) hq1
  have l2 : (frac8 r).length ≤ 4 := by unfold frac8; split <;> simp
  have c1 := fun W (hW : Below w.heap.size w W) => fint q (by omega) W (hT.below hW)
  have hcell := fun W => eights_cell W r hr8
  obtain ⟨s1, S1, a1⟩ := cat_ex [] (decDigits q) (by simp; omega)
  have n1 := cat_len S1
  obtain ⟨s2, S2, a2⟩ := cat_ex s1 (frac8 r) (by simp at n1; omega)
  have hs : decDigits q ++ frac8 r = s2 := by rw [S2.out, S1.out]; rfl
  rw [hs]
  have hr0 : (0 : Int) ≤ (r : Int) := by omega
  have hr1 : (r : Int) < 8 := by omega
  have hW0 : Below w.heap.size w w.drew := (Below.refl _ _).drew
  have hW1 : Below w.heap.size w (w.alloc eightsObj).drew := ((Below.refl _ _).alloc (Nat.le_refl _) _).drew
  have HW0 := Lib.hid hW0
  have HW1 := Lib.hid hW1
  unfold eightsObj at hcell HW1
  generalize decDigits q = d at *
  generalize frac8 r = fr at *
  clear hx hs l1 l2 n1 S1 S2 hW0 hW1 hq1
  go_enter Tryz.func27, Tryz.ntmps27
  go_wp2_with fail
  go_region_with (first
    | (go_at_call 54; (with_reducible refine (c1 _ HW0.out).mono ?_); rintro e w1 ⟨rfl, hb1⟩)
    | (go_at_call 54; (with_reducible refine (c1 _ HW1.out).mono ?_); rintro e w1 ⟨rfl, hb1⟩; have kc := (hb1.cell (p := ⟨w.heap.size, r, none⟩) (by simp)).trans (hcell w)))
  all_goals
    go_wp2
    go_ret
    refine ⟨rfl, ?_⟩
    first
      | exact (HW0.out.trans hb1).alloc hb1.size _
      | exact HW1.out.trans (hb1.mono (by simp))

set_option maxRecDepth 100000 in
set_option maxHeartbeats 2000000 in
theorem eighths_neg (q r : Nat) (x : Int) (h0 : 1 ≤ x) (hx : x = 8 * (q : Int) + r) (hr8 : r < 8) (hq1 : q < 100000000000000) (w : World) (hT : Tabs w) :
    Calls Tryz.prog 27 #[.int .i64 (-x)] w fun e w' => e = .returned (.string ⟨([45] ++ (decDigits q ++ frac8 r)).toArray⟩) ∧ Below w.heap.size w w' := by
  have hr : x.tmod 8 = (r : Int) := by rw [Int.tmod_eq_emod_of_nonneg (by omega)]; omega
  have hq : IntKind.i64.wrap (x.tdiv 8) = (q : Int) := by rw [Int.tdiv_eq_ediv_of_nonneg (by omega), IntWalk.i64_in _ (by omega)]; omega
  have hx0 : 0 ≤ x := by omega
  have hlt : (-x < 0) = True := by simp; omega
  have hnn : -(-x) = x := by omega
  have hx2 : x ≤ 1000000000000000 := by omega
  have l1 := dec_len q 14 (by decide) hq1
  have l2 : (frac8 r).length ≤ 4 := by unfold frac8; split <;> simp
  have c1 := fun W (hW : Below w.heap.size w W) => fint q (by omega) W (hT.below hW)
  have hcell := fun W => eights_cell W r hr8
  obtain ⟨s1, S1, a1⟩ := cat_ex [45] (decDigits q) (by simp; omega)
  have n1 := cat_len S1
  obtain ⟨s2, S2, a2⟩ := cat_ex s1 (frac8 r) (by simp at n1; omega)
  have hs : [45] ++ (decDigits q ++ frac8 r) = s2 := by rw [S2.out, S1.out]; simp
  rw [hs]
  have hr0 : (0 : Int) ≤ (r : Int) := by omega
  have hr1 : (r : Int) < 8 := by omega
  have hW0 : Below w.heap.size w w.drew := (Below.refl _ _).drew
  have hW1 : Below w.heap.size w (w.alloc eightsObj).drew := ((Below.refl _ _).alloc (Nat.le_refl _) _).drew
  have HW0 := Lib.hid hW0
  have HW1 := Lib.hid hW1
  unfold eightsObj at hcell HW1
  generalize decDigits q = d at *
  generalize frac8 r = fr at *
  clear hx hs l1 l2 n1 S1 S2 hW0 hW1 hq1
  go_enter Tryz.func27, Tryz.ntmps27
  go_wp2_with fail
  go_region_with (first
    | (go_at_call 54; (with_reducible refine (c1 _ HW0.out).mono ?_); rintro e w1 ⟨rfl, hb1⟩)
    | (go_at_call 54; (with_reducible refine (c1 _ HW1.out).mono ?_); rintro e w1 ⟨rfl, hb1⟩; have kc := (hb1.cell (p := ⟨w.heap.size, r, none⟩) (by simp)).trans (hcell w)))
  all_goals
    go_wp2
    go_ret
    refine ⟨rfl, ?_⟩
    first
      | exact (HW0.out.trans hb1).alloc hb1.size _
      | exact HW1.out.trans (hb1.mono (by simp))

/-- spec.EighthsText. -/
theorem eighths_text (n : Int) (h1 : -562949953421312 < n) (h2 : n < 562949953421312) (w : World) (hT : Tabs w) :
    Calls Tryz.prog 27 #[.int .i64 n] w fun e w' => e = .returned (.string ⟨(valT n).toArray⟩) ∧ Below w.heap.size w w' := by
  unfold valT
  rw [num3_eighths]
  by_cases h0 : n < 0
  · have := eighths_neg (n.natAbs / 8) (n.natAbs % 8) n.natAbs (by omega) (by omega) (by omega) (by omega) w hT
    have e : -((n.natAbs : Nat) : Int) = n := by omega
    rw [e] at this
    simpa [sgnB, h0] using this
  · have := eighths_pos (n.natAbs / 8) (n.natAbs % 8) n.natAbs (by omega) (by omega) (by omega) w hT
    have e : ((n.natAbs : Nat) : Int) = n := by omega
    rw [e] at this
    simpa [sgnB, h0] using this

/-- spec.TimeText. -/
theorem time_text (ms : Int) (h1 : -1000000000000000 < ms) (h2 : ms < 1000000000000000) (w : World) (hT : Tabs w) :
    Calls Tryz.prog 28 #[.int .i64 ms] w fun e w' => e = .returned (.string ⟨(timeT ms).toArray⟩) ∧ Below w.heap.size w w' := by
  unfold timeT
  by_cases h0 : ms < 0
  · have := timeText_neg ms.natAbs (by omega) (by omega) w hT
    have e : -((ms.natAbs : Nat) : Int) = ms := by omega
    rw [e] at this
    simpa [sgnB, h0] using this
  · have := timeText_pos ms.natAbs (by omega) w hT
    have e : ((ms.natAbs : Nat) : Int) = ms := by omega
    rw [e] at this
    simpa [sgnB, h0] using this

theorem valT_len (n : Int) (h1 : -562949953421312 < n) (h2 : n < 562949953421312) : (valT n).length ≤ 40 := by
  unfold valT
  rw [num3_eighths, List.length_append, List.length_append]
  have l1 := dec_len (n.natAbs / 8) 14 (by decide) (by omega)
  have l2 : (frac8 (n.natAbs % 8)).length ≤ 4 := by unfold frac8; split <;> simp
  have l3 : (sgnB (decide (n < 0))).length ≤ 1 := by unfold sgnB; split <;> simp
  omega

set_option maxRecDepth 100000 in
set_option maxHeartbeats 1000000 in
/-- spec.PairText. -/
theorem pair_text (n ms : Int) (h1 : -562949953421312 < n) (h2 : n < 562949953421312) (h3 : -1000000000000000 < ms) (h4 : ms < 1000000000000000) (w : World) (hT : Tabs w) :
    Calls Tryz.prog 12 #[.int .i64 n, .int .i64 ms] w fun e w' => e = .returned (.string ⟨(pairT n ms).toArray⟩) ∧ Below w.heap.size w w' := by
  have c1 := eighths_text n h1 h2 w hT
  have c2 := fun W (hW : Below w.heap.size w W) => time_text ms h3 h4 W (hT.below hW)
  have n1 := valT_len n h1 h2
  have n2 := timeT_len ms h3 h4
  unfold pairT
  generalize valT n = l1 at *
  generalize timeT ms = l2 at *
  obtain ⟨s1, S1, a1⟩ := cat_ex l1 [32, 64, 91] (by simp; omega)
  obtain ⟨s2, S2, a2⟩ := cat_ex s1 l2 (by have := cat_len S1; simp at this; omega)
  obtain ⟨s3, S3, a3⟩ := cat_ex s2 [93] (by have := cat_len S1; have := cat_len S2; simp at *; omega)
  have hs3 : l1 ++ [32, 64, 91] ++ l2 ++ [93] = s3 := by rw [S3.out, S2.out, S1.out]
  rw [hs3]
  clear hs3 n1 n2 S1 S2 S3
  go_enter Tryz.func12, Tryz.ntmps12
  go_wp2_with (first
    | (go_at_call 27; (with_reducible refine c1.mono ?_); rintro e w1 ⟨rfl, hb1⟩)
    | (go_at_call 28; (with_reducible refine (c2 _ hb1).mono ?_); rintro e w2 ⟨rfl, hb2⟩))
  go_ret
  exact ⟨rfl, hb1.trans (hb2.mono hb1.size)⟩

end Go.Proofs.YtdeejmkjhmpabaaGreatDoor

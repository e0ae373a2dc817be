import Derived.Test.YtdeejmkjhmpabaaGreatDoorG1
import Derived.Lib.AppendIntMem
import Derived.Lib.IndexBytes
namespace Go.Proofs.YtdeejmkjhmpabaaGreatDoor
open Go.RowKit Go.Lib

/-- strconv.FormatInt(q, 10) of a number that is not below 0. -/
theorem fint (q : Nat) (hq : q ≤ 9223372036854775807) (w : World) (hT : Tabs w) :
    Calls Tryz.prog 54 #[.int .i64 (q : Int), .int .i64 10] w fun e w' => e = .returned (.string ⟨(decDigits q).toArray⟩) ∧ Below w.heap.size w w' :=
  (Tryz.strconv_FormatInt_10 (q : Int) (by omega) (by omega) w hT.at.pow).mono fun e w' ⟨h1, k, os, h2⟩ => ⟨by rw [h1, itoa_nonneg], by rw [h2]; exact below_grow _ w (Nat.le_refl _) k os⟩

theorem dec_len (q k : Nat) (hk : 1 ≤ k) (h : q < 10 ^ k) : (decDigits q).length ≤ k := by rw [decDigits_length]; exact nDigits_le k q hk h

theorem trim_tab : ∀ r : Fin 1000, r.val ≠ 0 → trimRightB ((decDigits (1000 + r.val)).drop 1) 48 = if r.val % 100 = 0 then [dg r.val 2] else if r.val % 10 = 0 then [dg r.val 2, dg r.val 1] else [dg r.val 2, dg r.val 1, dg r.val 0] := by decide +kernel

theorem dg_mod (A j : Nat) (hj : j < 3) : dg (A % 1000) j = dg A j := by
  unfold dg
  rcases (by omega : j = 0 ∨ j = 1 ∨ j = 2) with rfl | rfl | rfl <;> (congr 2; omega)

theorem num3_spec (A : Nat) : num3 A = decDigits (A / 1000) ++ (if A % 1000 = 0 then [] else 46 :: trimRightB ((decDigits (1000 + A % 1000)).drop 1) 48) := by
  unfold num3
  congr 1
  by_cases h : A % 1000 = 0
  · rw [if_pos h, if_pos h]
  · rw [if_neg h, if_neg h, trim_tab ⟨A % 1000, Nat.mod_lt _ (by decide)⟩ h]
    dsimp only
    rw [dg_mod A 2 (by decide), dg_mod A 1 (by decide), dg_mod A 0 (by decide)]
    have e1 : A % 1000 % 100 = A % 100 := by omega
    have e2 : A % 1000 % 10 = A % 10 := by omega
    rw [e1, e2]
    split
    · rfl
    · split <;> rfl

theorem dec4_len : ∀ r : Fin 1000, (decDigits (1000 + r.val)).length = 4 := by decide +kernel

/-- strings.TrimRight(s, "0"). -/
theorem trim0 (l : List UInt8) (hl : l.length ≤ 1000) (w : World) : Calls Tryz.prog 55 #[.string ⟨l.toArray⟩, .string ⟨#[48]⟩] w fun e w' => e = .returned (.string ⟨(trimRightB l 48).toArray⟩) ∧ w = w' :=
  (Tryz.strings_TrimRight_one ⟨l.toArray⟩ 48 (by decide) w (by show l.toArray.size ≤ _; simp; omega)).mono fun e w' ⟨h1, h2⟩ => ⟨h1, h2.symm⟩

theorem trim_len (l : List UInt8) (c : UInt8) : (trimRightB l c).length ≤ l.length := by
  unfold trimRightB
  rw [List.length_reverse]
  refine Nat.le_trans (List.dropWhile_sublist _).length_le ?_
  simp

theorem ba_ext {a : ByteArray} {l : List UInt8} (h : a.data.toList = l) : a = ⟨l.toArray⟩ := by
  subst h
  cases a
  simp

theorem slice_one (l : List UInt8) (h : 1 ≤ l.length) (w : World) : (Instr.slice 9 (.string ⟨l.toArray⟩) (some (.int .i64 1)) none none).run Tryz.prog w = .ok (.string ⟨(l.drop 1).toArray⟩) w := by
  rw [run_slice_string_l w 9 ⟨l.toArray⟩ Tryz.underlying9 .i64 1 (by decide) (by show (1 : Int) ≤ ((l.toArray.size : Nat) : Int); simp; omega)]
  congr 2
  exact ba_ext (extract_to_end ⟨l.toArray⟩ 1)

set_option maxRecDepth 100000 in
set_option maxHeartbeats 1000000 in
theorem timeText_pos (A : Nat) (hA : A < 1000000000000000) (w : World) (hT : Tabs w) :
    Calls Tryz.prog 28 #[.int .i64 (A : Int)] w fun e w' => e = .returned (.string ⟨(num3 A).toArray⟩) ∧ Below w.heap.size w w' := by
  have hspec := num3_spec A
  have c1 := fint (A / 1000) (by omega) w hT
  have hq : (A : Int) / 1000 = ((A / 1000 : Nat) : Int) := by omega
  have hr : (A : Int) % 1000 = ((A % 1000 : Nat) : Int) := by omega
  have l1 := dec_len (A / 1000) 15 (by decide) (by omega)
  obtain ⟨s1, S1, a1⟩ := cat_ex [] (decDigits (A / 1000)) (by simp; omega)
  by_cases h0 : A % 1000 = 0
  · rw [if_pos h0, List.append_nil] at hspec
    rw [hspec]
    rw [h0] at hr
    have hs1 : s1 = [] ++ decDigits (A / 1000) := S1.out
    have hgoal : decDigits (A / 1000) = s1 := by rw [hs1]; rfl
    rw [hgoal]
    generalize A / 1000 = q at *
    generalize decDigits q = d at *
    clear hs1 hspec l1 h0 hgoal S1
    go_enter Tryz.func28, Tryz.ntmps28
    go_wp2_with (go_at_call 54; (with_reducible refine c1.mono ?_); rintro e w1 ⟨rfl, hb1⟩)
    go_ret
    exact ⟨rfl, hb1⟩
  · rw [if_neg h0] at hspec
    have hr1000 : A % 1000 < 1000 := Nat.mod_lt _ (by decide)
    have l4 := dec4_len ⟨A % 1000, hr1000⟩
    dsimp only at l4
    obtain ⟨m, hm⟩ : ∃ m, m = 1000 + A % 1000 := ⟨_, rfl⟩
    have hmi : 1000 + ((A % 1000 : Nat) : Int) = (m : Int) := by omega
    rw [← hm] at hspec l4
    have c2 := fun W (hW : Below w.heap.size w W) => fint m (by omega) W (hT.below hW)
    have hsl := fun W => slice_one (decDigits m) (by omega) W
    have c3 := fun W => trim0 ((decDigits m).drop 1) (by rw [List.length_drop]; omega) W
    have l5 := trim_len ((decDigits m).drop 1) 48
    rw [List.length_drop, l4] at l5
    generalize trimRightB ((decDigits m).drop 1) 48 = t at *
    generalize (decDigits m).drop 1 = d5 at *
    generalize decDigits m = d4 at *
    obtain ⟨s2, S2, a2⟩ := cat_ex [46] t (by simp; omega)
    have n1 := cat_len S1
    have n2 := cat_len S2
    obtain ⟨s3, S3, a3⟩ := cat_ex s1 s2 (by simp at n1 n2; omega)
    have hs3 : (num3 A) = s3 := by rw [S3.out, S1.out, S2.out, hspec]; simp
    rw [hs3]
    have hne : ((A % 1000 : Nat) : Int) ≠ 0 := by omega
    have hne2 : (((A % 1000 : Nat) : Int) != 0) = true := by simp; omega
    generalize A / 1000 = q at *
    generalize decDigits q = d at *
    generalize A % 1000 = r at *
    clear hs3 hspec l1 l5 l4 h0 S1 S2 S3 n1 n2 hm hr1000
    go_enter Tryz.func28, Tryz.ntmps28
    go_wp2_with (first
      | (go_at_call 54; (with_reducible refine c1.mono ?_); rintro e w1 ⟨rfl, hb1⟩)
      | (go_at_call 54; (with_reducible refine (c2 _ hb1).mono ?_); rintro e w2 ⟨rfl, hb2⟩)
      | (go_at_call 55; (with_reducible refine (c3 _).mono ?_); rintro e w' ⟨rfl, rfl⟩))
    go_ret
    exact ⟨rfl, hb1.trans (hb2.mono hb1.size)⟩

set_option maxRecDepth 100000 in
set_option maxHeartbeats 1000000 in
theorem timeText_neg (A : Nat) (hA0 : 1 ≤ A) (hA : A < 1000000000000000) (w : World) (hT : Tabs w) :
    Calls Tryz.prog 28 #[.int .i64 (-(A : Int))] w fun e w' => e = .returned (.string ⟨([45] ++ num3 A).toArray⟩) ∧ Below w.heap.size w w' := by
  have hspec := num3_spec A
  have c1 := fint (A / 1000) (by omega) w hT
  have hq : (A : Int) / 1000 = ((A / 1000 : Nat) : Int) := by omega
  have hr : (A : Int) % 1000 = ((A % 1000 : Nat) : Int) := by omega
  have l1 := dec_len (A / 1000) 15 (by decide) (by omega)
  have hlt : (-(A : Int) < 0) = True := by simp; omega
  have hnn : -(-(A : Int)) = (A : Int) := by omega
  obtain ⟨s1, S1, a1⟩ := cat_ex [45] (decDigits (A / 1000)) (by simp; omega)
  by_cases h0 : A % 1000 = 0
  · rw [if_pos h0, List.append_nil] at hspec
    rw [hspec]
    rw [h0] at hr
    have hs1 : s1 = [45] ++ decDigits (A / 1000) := S1.out
    have hgoal : [45] ++ decDigits (A / 1000) = s1 := by rw [hs1]
    rw [hgoal]
    generalize A / 1000 = q at *
    generalize decDigits q = d at *
    clear hs1 hspec l1 h0 hgoal S1
    go_enter Tryz.func28, Tryz.ntmps28
    go_wp2_with (go_at_call 54; (with_reducible refine c1.mono ?_); rintro e w1 ⟨rfl, hb1⟩)
    go_ret
    exact ⟨rfl, hb1⟩
  · rw [if_neg h0] at hspec
    have hr1000 : A % 1000 < 1000 := Nat.mod_lt _ (by decide)
    have l4 := dec4_len ⟨A % 1000, hr1000⟩
    dsimp only at l4
    obtain ⟨m, hm⟩ : ∃ m, m = 1000 + A % 1000 := ⟨_, rfl⟩
    have hmi : 1000 + ((A % 1000 : Nat) : Int) = (m : Int) := by omega
    rw [← hm] at hspec l4
    have c2 := fun W (hW : Below w.heap.size w W) => fint m (by omega) W (hT.below hW)
    have hsl := fun W => slice_one (decDigits m) (by omega) W
    have c3 := fun W => trim0 ((decDigits m).drop 1) (by rw [List.length_drop]; omega) W
    have l5 := trim_len ((decDigits m).drop 1) 48
    rw [List.length_drop, l4] at l5
    generalize trimRightB ((decDigits m).drop 1) 48 = t at *
    generalize (decDigits m).drop 1 = d5 at *
    generalize decDigits m = d4 at *
    obtain ⟨s2, S2, a2⟩ := cat_ex [46] t (by simp; omega)
    have n1 := cat_len S1
    have n2 := cat_len S2
    obtain ⟨s3, S3, a3⟩ := cat_ex s1 s2 (by simp at n1 n2; omega)
    have hs3 : ([45] ++ num3 A) = s3 := by rw [S3.out, S1.out, S2.out, hspec]; simp
    rw [hs3]
    have hne : ((A % 1000 : Nat) : Int) ≠ 0 := by omega
    have hne2 : (((A % 1000 : Nat) : Int) != 0) = true := by simp; omega
    generalize A / 1000 = q at *
    generalize decDigits q = d at *
    generalize A % 1000 = r at *
    clear hs3 hspec l1 l5 l4 h0 S1 S2 S3 n1 n2 hm hr1000
    go_enter Tryz.func28, Tryz.ntmps28
    go_wp2_with (first
      | (go_at_call 54; (with_reducible refine c1.mono ?_); rintro e w1 ⟨rfl, hb1⟩)
      | (go_at_call 54; (with_reducible refine (c2 _ hb1).mono ?_); rintro e w2 ⟨rfl, hb2⟩)
      | (go_at_call 55; (with_reducible refine (c3 _).mono ?_); rintro e w' ⟨rfl, rfl⟩))
    go_ret
    exact ⟨rfl, hb1.trans (hb2.mono hb1.size)⟩

end Go.Proofs.YtdeejmkjhmpabaaGreatDoor

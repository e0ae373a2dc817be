/-
  float64(n) / 8 is a number for every n.
-/
import Derived.Laws.FloatArith
import Derived.Test.YtdeejmkjhmpabaaGreatDoorPa
namespace Go.Proofs.YtdeejmkjhmpabaaGreatDoor
open Ieee Sam

theorem not_nan (neg : Bool) (r : Nat) (h : r ≤ double.infRung) : (double.read (double.word neg r)).isNaN = false := by
  have hs : double.word neg r % double.signWeight = r := by
    rw [infRung_eq] at h
    unfold Format.word
    rw [sw_eq]
    split <;> omega
  unfold Format.read
  simp only [hs]
  split
  · rfl
  · split
    · rfl
    · split
      · rfl
      · omega

theorem nearest_not_nan (neg : Bool) (m : Nat) (p : Int) : (double.read (double.nearest neg m p)).isNaN = false := by
  unfold Format.nearest
  split
  · exact not_nan _ _ (Nat.zero_le _)
  · exact not_nan _ _ (Nat.min_le_right _ _)

theorem quotient_some (d : Datum) (k : Nat) (t : Bool) (n : Nat) (j : Int) (hd : d.isNaN = false) (hn : n ≠ 0) : ∃ q, d.quotient k (.number t n j) = some q := by
  cases d with
  | number s m i => simp [Datum.quotient, hn]
  | infinity s => simp [Datum.quotient]
  | nan s f => cases hd

theorem eighth_some (n : Int) : ∃ bv, floatBits .quo .f64 (floatOfInt .f64 n) 4620693217682128896 = some bv := by
  have h8 : double.read 4620693217682128896 = .number false (2 ^ 52) (-49) := by decide +kernel
  obtain ⟨q, hq⟩ := quotient_some (double.read (floatOfInt .f64 n)) (double.fractionBits + 2) false (2 ^ 52) (-49) (nearest_not_nan _ _ _) (by decide)
  exact ⟨double.write q, by
    show (((double.read (floatOfInt .f64 n)).quotient (double.fractionBits + 2) (double.read 4620693217682128896))).map double.write = _
    rw [h8, hq]; rfl⟩

end Go.Proofs.YtdeejmkjhmpabaaGreatDoor

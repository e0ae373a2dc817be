/-
  Equal: of sets, times, values, samples, vectors, where labels and values are the same.
-/
import Derived.Test.YtdeejmkjhmpabaaGreatDoorV4
namespace Go.Proofs.YtdeejmkjhmpabaaGreatDoor
open Go.RowKit Go.Lib Go.Maps Go.WideMaps

theorem getT_some {l : List Lab} (hN : Names l) {x : Lab} (hx : x ∈ l) : getT l x.1 = some x.2 := by
  have h1 : (getT l x.1).isSome = true := by
    rw [getT_any]
    exact List.any_eq_true.2 ⟨x, hx, by simp⟩
  obtain ⟨v, hv⟩ := Option.isSome_iff_exists.1 h1
  have hm := getT_mem hv
  rw [hv]
  congr 1
  unfold Names at hN
  obtain ⟨i, hi, ei⟩ := List.mem_iff_getElem.1 hm
  obtain ⟨j, hj, ej⟩ := List.mem_iff_getElem.1 hx
  have hp := List.pairwise_iff_getElem.1 hN
  by_cases hij : i = j
  · subst hij
    rw [ei] at ej
    rw [← ej]
  · exfalso
    rcases Nat.lt_or_gt_of_ne hij with h | h
    · have := hp i j (by simpa using hi) (by simpa using hj) h
      rw [List.getElem_map, List.getElem_map, ei, ej] at this
      exact this rfl
    · have := hp j i (by simpa using hj) (by simpa using hi) h
      rw [List.getElem_map, List.getElem_map, ei, ej] at this
      exact this rfl

set_option maxRecDepth 100000 in
set_option maxHeartbeats 1600000 in
/-- LabelSet.Equal, of two maps of the same labels. -/
theorem lset_equal (l : List Lab) (b1 b2 : Nat) (hF : Few l) (hN : Names l) (w : World) (hM1 : MapAt w b1 l) (hM2 : MapAt w b2 l) :
    Calls Tryz.prog 132 #[.map (some b1), .map (some b2)] w fun e w' => e = .returned (.bool true) ∧ Below w.heap.size w w' := by
  obtain ⟨n, hn⟩ : ∃ n, n = l.length := ⟨_, rfl⟩
  have hlen1 := fun ty => map_len Tryz.underlying71 hM1 hN ty
  have hlen2 := fun ty => map_len Tryz.underlying71 hM2 hN ty
  rw [← hn] at hlen1 hlen2
  have HN := Lib.hid hN
  have HF := Lib.hid hF
  have HM2 := Lib.hid hM2
  have Hn := Lib.hid hn
  clear hN hF hn
  go_enter Tryz.func132, Tryz.ntmps132
  go_wp2_with (first
    | (at_range; refine wpList_range_own _ rfl _ 71 rfl 111 110 keyed111 Tryz.underlying71 _ b1 l.length _ rfl hM1 ?_; intro w2 hrg2 hg2 hs2)
    | go_in)
  try go_frame
  have hBel2 : Hid (Below w.heap.size w w2) := (Below.refl _ _).grown hg2 (Nat.le_refl _) (fun k hk => by cases hk)
  have HRG := Lib.hid hrg2
  clear hrg2 hg2 hs2 hM1 hM2
  go_loopw [] (fun wr => ∃ left cnt xs, Hid (wr.ranges Tryz.prog 111 (plainElem Tryz.prog 110) b1 w.heap.size l.length (LabMap l) left cnt) ∧ Hid (Col l left xs) ∧ Hid (Below w.heap.size w wr)) (fun wr => wr.rangeLeft b1 w.heap.size)
  case atStart => exact ⟨_, _, [], HRG.out, Col.start l, hBel2.out⟩
  case round =>
    obtain ⟨left, cnt, xs, HR, HC, HB⟩ := hrel
    rename World => wr
    have hm0 := HR.out.left_eq
    have hrg := HR.out
    go_wp2_with (first
      | (at_next; refine next_labs _ rfl _ rfl b1 w.heap.size l.length l HN.out left cnt xs rfl hrg HC.out ?_ ?_)
      | go_in)
    · intro _
      go_wp2
      go_ret
      exact ⟨rfl, HB.out⟩
    · intro xn xv w3 left' cnt' hx hC hrg3 hlt hg3 hs3 hen
      have hB3 : Hid (Below w.heap.size w w3) := HB.out.grown hg3 HB.out.size (fun k hk => by cases hk; exact Nat.le_refl _)
      have hlook := map_look Tryz.underlying71 (HM2.out.below hB3.out) HN.out xn (by have := (HF.out.2 _ hx).1; dsimp only at this; omega)
      rw [show getT l xn = some xv from getT_some HN.out hx] at hlook
      simp only [Option.getD_some, Option.isSome_some] at hlook
      have hm3 := hrg3.left_eq
      have HR3 := Lib.hid hrg3
      have HC3 := Lib.hid hC
      clear hrg hrg3 hg3 hs3 hx hC
      go_wp2
      go_roundw
      case rel => exact ⟨_, _, _, HR3, HC3, hB3⟩
      case measure => rw [hm3, hm0]; exact hlt

theorem metric_equal (l : List Lab) (b1 b2 : Nat) (hF : Few l) (hN : Names l) (w : World) (hM1 : MapAt w b1 l) (hM2 : MapAt w b2 l) :
    Calls Tryz.prog 90 #[.map (some b1), .map (some b2)] w fun e w' => e = .returned (.bool true) ∧ Below w.heap.size w w' := by
  have hc := lset_equal l b1 b2 hF hN w hM1 hM2
  clear hM1 hM2 hF hN
  go_enter Tryz.func90, Tryz.ntmps90
  go_wp2_with (go_at_call 132; (with_reducible refine hc.mono ?_); rintro e w1 ⟨rfl, hb1⟩)
  go_ret
  exact ⟨rfl, hb1⟩

theorem time_equal (a b : Int) (w : World) : Calls Tryz.prog 91 #[.int .i64 a, .int .i64 b] w fun e w' => e = .returned (.bool (a == b)) ∧ w = w' := by
  go_enter Tryz.func91, Tryz.ntmps91
  go_wp2
  go_ret
  exact ⟨rfl, rfl⟩

/-- A number's bits are equal to themselves. -/
theorem order_self {e8 : Int} {bv : Nat} (h : BvOf e8 bv) : (FloatKind.f64.format.order bv bv == some .eq) = true := by
  have hn : (Ieee.double.read bv).isNaN = false := by
    unfold BvOf at h
    have h8 : Ieee.double.read 4620693217682128896 = .number false (2 ^ 52) (-49) := by decide +kernel
    have h' : (((Ieee.double.read (floatOfInt .f64 e8)).quotient (Ieee.double.fractionBits + 2) (Ieee.double.read 4620693217682128896))).map Ieee.double.write = some bv := h
    rw [h8] at h'
    obtain ⟨q, hq, rfl⟩ := Option.map_eq_some_iff.1 h'
    have hnn := nearest_not_nan (decide (e8 < 0)) e8.natAbs 0
    cases q with
    | number s m i => exact nearest_not_nan s m i
    | infinity s => exact not_nan s _ (Nat.le_refl _)
    | nan s f =>
      exfalso
      have hx : (Ieee.double.read (floatOfInt .f64 e8)).isNaN = false := hnn
      cases hd : Ieee.double.read (floatOfInt .f64 e8) with
      | number s m i => rw [hd] at hq; simp [Ieee.Datum.quotient] at hq
      | infinity s => rw [hd] at hq; simp [Ieee.Datum.quotient] at hq
      | nan s f => rw [hd] at hx; cases hx
  show ((Ieee.double.read bv).order (Ieee.double.read bv) == some .eq) = true
  cases hd : Ieee.double.read bv with
  | number s m i => simp [Ieee.Datum.order]
  | infinity s => simp [Ieee.Datum.order]
  | nan s f => rw [hd] at hn; cases hn

theorem value_equal (e8 : Int) (bv : Nat) (h : BvOf e8 bv) (w : World) : Calls Tryz.prog 93 #[.float .f64 bv, .float .f64 bv] w fun e w' => e = .returned (.bool true) ∧ w = w' := by
  have ho := order_self h
  clear h
  go_enter Tryz.func93, Tryz.ntmps93
  go_wp2
  go_ret
  exact ⟨rfl, rfl⟩

end Go.Proofs.YtdeejmkjhmpabaaGreatDoor

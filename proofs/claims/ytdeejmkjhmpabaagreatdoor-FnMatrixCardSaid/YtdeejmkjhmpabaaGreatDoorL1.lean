/-
  spec.Few, InOrder, Legacy; laws.ordered, setFits; the bounds zzFits.
-/
import Derived.Test.YtdeejmkjhmpabaaGreatDoorM3
import Derived.Test.YtdeejmkjhmpabaaGreatDoorBf
import Derived.BigQuiet
namespace Go.Proofs.YtdeejmkjhmpabaaGreatDoor
open Go.RowKit Go.Lib Go.Maps Go.WideMaps

/-- The call says false, or true and P holds. -/
def SaysB (P : Prop) (e : Ending) : Prop := ∃ b, e = .returned (.bool b) ∧ (b = true → P)
theorem SaysB.no (P : Prop) : SaysB P (.returned (.bool false)) := ⟨false, rfl, fun h => by cases h⟩
theorem SaysB.yes {P : Prop} (h : P) : SaysB P (.returned (.bool true)) := ⟨true, rfl, fun _ => h⟩
theorem SaysB.of {P : Prop} {b : Bool} (h : b = true → P) : SaysB P (.returned (.bool b)) := ⟨b, rfl, h⟩

theorem less_iff' : ∀ x y : List UInt8, Op.bytesLess x y = true ↔ x < y
  | _, [] => by simp [Op.bytesLess]
  | [], _ :: _ => by simp [Op.bytesLess]
  | a :: x, b :: y => by
    rw [List.cons_lt_cons_iff, ← less_iff' x y]
    simp [Op.bytesLess]

set_option maxRecDepth 100000 in
set_option maxHeartbeats 1600000 in
/-- spec.Few. -/
theorem few_any (l : List Lab) (n : Nat) (a : Option Addr) (c : Nat) (hn : l.length = n) (hb : n ≤ 9223372036854775807) (w : World) (hL : LabsAt w a l) :
    Calls Tryz.prog 94 #[.slice a n c] w fun e w' => SaysB (Few l) e ∧ w = w' := by
  have HN := Lib.hid hn
  have HL := Lib.hid hL
  clear hn hL
  go_enter Tryz.func94, Tryz.ntmps94
  go_wp2_with fail
  go_loopw [3] (fun v3 wr => ∃ i, i ≤ n ∧ v3 = .int .i64 (i : Int) ∧ Hid (∀ x ∈ l.take i, x.1.length ≤ 300 ∧ x.2.length ≤ 300) ∧ w = wr) (fun v3 _ => n - (intOf v3).toNat)
  case atStart => exact ⟨0, Nat.zero_le _, rfl, by show ∀ x ∈ l.take 0, _; simp, by first | rfl | trivial⟩
  case round =>
    obtain ⟨i, hk, rfl, HF, rfl⟩ := hrel
    by_cases hlt : i < n
    · obtain ⟨x, hx⟩ : ∃ x, l[i]? = some x := ⟨l[i]'(by rw [HN.out]; exact hlt), List.getElem?_eq_getElem _⟩
      obtain ⟨b, o, rfl, c1, c2⟩ := HL.out i x hx
      have HX := Lib.hid hx
      unfold str at c1 c2
      obtain ⟨x1, x2⟩ := x
      dsimp only at c1 c2
      clear hx
      by_cases h1 : x1 = []
      · subst h1
        go_wp2
        go_ret
        exact ⟨SaysB.no _, rfl⟩
      · have hne : (x1 == []) = false := by rw [beq_eq_false_iff_ne]; exact h1
        clear h1
        by_cases h2 : x1.length ≤ 300
        · by_cases h3 : x2.length ≤ 300
          · have H23 := Lib.hid (And.intro h2 h3)
            have h2' : ¬ ((x1.length : Int) > 300) := by omega
            have h3' : ¬ ((x2.length : Int) > 300) := by omega
            clear h2 h3
            go_wp2
            go_roundw
            case rel =>
              refine ⟨i + 1, by omega, by go_num, ?_, by first | rfl | trivial⟩
              show ∀ x ∈ l.take (i + 1), _
              rw [take_snoc' l i _ HX.out]
              intro y hy
              rcases List.mem_append.1 hy with hy | hy
              · exact HF.out y hy
              · have : y = (x1, x2) := by simpa using hy
                subst this
                exact H23.out
            case measure => simp [intOf]; omega
          · have h2' : ¬ ((x1.length : Int) > 300) := by omega
            have h3' : ((x2.length : Int) > 300) := by omega
            clear h2 h3
            go_wp2
            go_ret
            exact ⟨SaysB.no _, rfl⟩
        · have h2' : ((x1.length : Int) > 300) := by omega
          clear h2
          go_wp2
          go_ret
          exact ⟨SaysB.no _, rfl⟩
    · have hkn : i = n := by omega
      subst hkn
      go_wp2
      go_ret
      refine ⟨SaysB.of fun h => ?_, rfl⟩
      have h10 : i ≤ 10 := by have := of_decide_eq_true h; omega
      have := HF.out
      rw [← HN.out, List.take_length] at this
      exact ⟨by rw [HN.out]; exact h10, this⟩

set_option maxRecDepth 100000 in
set_option maxHeartbeats 1600000 in
/-- spec.InOrder. -/
theorem inorder_any (l : List Lab) (n : Nat) (a : Option Addr) (c : Nat) (hn : l.length = n) (hb : n ≤ 9223372036854775807) (w : World) (hL : LabsAt w a l) :
    Calls Tryz.prog 95 #[.slice a n c] w fun e w' => SaysB (Ord l) e ∧ Below w.heap.size w w' := by
  have HN := Lib.hid hn
  have HL := Lib.hid hL
  clear hn hL
  go_enter Tryz.func95, Tryz.ntmps95
  go_wp2_with fail
  go_loopw [3] (fun v3 wr => ∃ i, i ≤ n + 1 ∧ 1 ≤ i ∧ v3 = .int .i64 (i : Int) ∧ Hid (n ≤ i ∨ i < n) ∧ Hid (∀ j x y, j + 1 < i → l[j]? = some x → l[j + 1]? = some y → x.1 < y.1) ∧ Hid (Below w.heap.size w wr)) (fun v3 _ => n + 1 - (intOf v3).toNat)
  case atStart => exact ⟨1, by omega, Nat.le_refl _, rfl, by show n ≤ 1 ∨ 1 < n; omega, (fun j x y h => by omega), Below.refl _ _⟩
  case round =>
    obtain ⟨i, hk, hi1, rfl, _, HF, HBE⟩ := hrel
    rename World => wr
    by_cases hlt : i < n
    · obtain ⟨j, rfl⟩ : ∃ j, i = j + 1 := ⟨i - 1, by omega⟩
      obtain ⟨x, hx⟩ : ∃ x, l[j]? = some x := ⟨l[j]'(by rw [HN.out]; omega), List.getElem?_eq_getElem _⟩
      obtain ⟨y, hy⟩ : ∃ y, l[j + 1]? = some y := ⟨l[j + 1]'(by rw [HN.out]; exact hlt), List.getElem?_eq_getElem _⟩
      obtain ⟨b, o, rfl, c1, _⟩ := (HL.out.below HBE.out) j x hx
      obtain ⟨b', o', hbo, d1, _⟩ := (HL.out.below HBE.out) (j + 1) y hy
      cases hbo
      have HX := Lib.hid hx
      have HY := Lib.hid hy
      unfold str at c1 d1
      clear hx hy
      obtain ⟨jj, hjj⟩ : ∃ jj, jj = j + 1 := ⟨_, rfl⟩
      rw [← hjj] at d1 hlt hk hi1
      rw [← hjj]
      have hj1 : (jj : Int) - 1 = (j : Int) := by omega
      have HJ := Lib.hid hjj
      have hjl : j < n := by omega
      clear hjj
      obtain ⟨x1, x2⟩ := x
      obtain ⟨y1, y2⟩ := y
      dsimp only at c1 d1
      by_cases hxy : x1 < y1
      · have hb1 : Op.bytesLess x1 y1 = true := (less_iff' x1 y1).2 hxy
        have HXY := Lib.hid hxy
        clear hxy
        go_wp2_with fail
        go_quiet (fail)
        go_wp2
        go_roundw
        case rel =>
          refine ⟨jj + 1, by omega, by omega, by go_num, by show n ≤ jj + 1 ∨ jj + 1 < n; omega, ?_, HBE.out.trans (by exact ⟨rfl, rfl, rfl, Nat.le_refl _, fun _ _ => rfl⟩)⟩
          intro k x y hkk h1 h2
          have hj := HJ.out
          by_cases e : k = j
          · subst e
            rw [HX.out] at h1
            rw [HY.out] at h2
            cases h1; cases h2
            exact HXY.out
          · exact HF.out k x y (by omega) h1 h2
        case measure => simp [intOf]; omega
      · have hb1 : Op.bytesLess x1 y1 = false := by
          cases hh : Op.bytesLess x1 y1 with
          | false => rfl
          | true => exact absurd ((less_iff' x1 y1).1 hh) hxy
        clear hxy
        go_wp2_with fail
        go_quiet (fail)
        go_wp2
        go_ret
        exact ⟨SaysB.no _, HBE.out.trans (by exact ⟨rfl, rfl, rfl, Nat.le_refl _, fun _ _ => rfl⟩)⟩
    · go_wp2
      go_ret
      refine ⟨SaysB.yes ?_, HBE.out⟩
      unfold Ord
      have hadj : ∀ j x y, l[j]? = some x → l[j + 1]? = some y → x.1 < y.1 := fun j x y h1 h2 => by
        have := (List.getElem?_eq_some_iff.1 h2).1
        rw [HN.out] at this
        exact HF.out j x y (by omega) h1 h2
      rw [List.pairwise_iff_getElem]
      intro p q hp hq hpq
      induction q with
      | zero => omega
      | succ q ih =>
        have hq' : q < l.length := by omega
        have hlast := hadj q _ _ (List.getElem?_eq_getElem hq') (List.getElem?_eq_getElem hq)
        by_cases e : p = q
        · subst e; exact hlast
        · exact List.lt_trans (ih hq' (by omega)) hlast

end Go.Proofs.YtdeejmkjhmpabaaGreatDoor

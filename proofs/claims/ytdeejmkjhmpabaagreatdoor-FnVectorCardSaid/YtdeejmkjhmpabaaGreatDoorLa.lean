/-
  spec.Few, InOrder, Legacy; laws.ordered, setFits; the bounds zzFits.
  spec.Legacy, laws.ordered, setFits; the bounds zzFits.
  The bounds zzFits; spec.Same.
  spec.Same; laws.eighths, bits.
-/
import Derived.Test.YtdeejmkjhmpabaaGreatDoorM3
import Derived.Test.YtdeejmkjhmpabaaGreatDoorBf
import Derived.BigQuiet
import Derived.Test.YtdeejmkjhmpabaaGreatDoorFa
import Derived.Laws.StructEq
namespace Go.Proofs.YtdeejmkjhmpabaaGreatDoor
open Go.RowKit Go.Lib Go.Maps Go.WideMaps

/-- The call says false, or true and P holds. -/
def SaysB (P : Prop) (e : Ending) : Prop := ∃ b, e = .returned (.bool b) ∧ (b = true → P)
theorem SaysB.no (P : Prop) : SaysB P (.returned (.bool false)) := ⟨false, rfl, fun h => by cases h⟩
theorem SaysB.yes {P : Prop} (h : P) : SaysB P (.returned (.bool true)) := ⟨true, rfl, fun _ => h⟩
theorem SaysB.of {P : Prop} {b : Bool} (h : b = true → P) : SaysB P (.returned (.bool b)) := ⟨b, rfl, h⟩

theorem less_iff' : ∀ x y : List UInt8, Op.bytesLess x y = true ↔ x < y
  | _, [] => by simp [Op.bytesLess]
  | [], _ :: _ => by simp [Op.bytesLess]
  | a :: x, b :: y => by
    rw [List.cons_lt_cons_iff, ← less_iff' x y]
    simp [Op.bytesLess]

set_option maxRecDepth 100000 in
set_option maxHeartbeats 1600000 in
/-- spec.Few. -/
theorem few_any (l : List Lab) (n : Nat) (a : Option Addr) (c : Nat) (hn : l.length = n) (hb : n ≤ 9223372036854775807) (w : World) (hL : LabsAt w a l) :
    Calls Tryz.prog 94 #[.slice a n c] w fun e w' => SaysB (Few l) e ∧ w = w' := by
  have HN := Lib.hid hn
  have HL := Lib.hid hL
  clear hn hL
  go_enter Tryz.func94, Tryz.ntmps94
  go_wp2_with fail
  go_loopw [3] (fun v3 wr => ∃ i, i ≤ n ∧ v3 = .int .i64 (i : Int) ∧ Hid (∀ x ∈ l.take i, x.1.length ≤ 300 ∧ x.2.length ≤ 300) ∧ w = wr) (fun v3 _ => n - (intOf v3).toNat)
  case atStart => exact ⟨0, Nat.zero_le _, rfl, by show ∀ x ∈ l.take 0, _; simp, by first | rfl | trivial⟩
  case round =>
    obtain ⟨i, hk, rfl, HF, rfl⟩ := hrel
    by_cases hlt : i < n
    · obtain ⟨x, hx⟩ : ∃ x, l[i]? = some x := ⟨l[i]'(by rw [HN.out]; exact hlt), List.getElem?_eq_getElem _⟩
      obtain ⟨b, o, rfl, c1, c2⟩ := HL.out i x hx
      have HX := Lib.hid hx
      unfold str at c1 c2
      obtain ⟨x1, x2⟩ := x
      dsimp only at c1 c2
      clear hx
      by_cases h1 : x1 = []
      · subst h1
        go_wp2
        go_ret
        exact ⟨SaysB.no _, rfl⟩
      · have hne : (x1 == []) = false := by rw [beq_eq_false_iff_ne]; exact h1
        clear h1
        by_cases h2 : x1.length ≤ 300
        · by_cases h3 : x2.length ≤ 300
          · have H23 := Lib.hid (And.intro h2 h3)
            have h2' : ¬ ((x1.length : Int) > 300) := by omega
            have h3' : ¬ ((x2.length : Int) > 300) := by omega
            clear h2 h3
            go_wp2
            go_roundw
            case rel =>
              refine ⟨i + 1, by omega, by go_num, ?_, by first | rfl | trivial⟩
              show ∀ x ∈ l.take (i + 1), _
              rw [take_snoc' l i _ HX.out]
              intro y hy
              rcases List.mem_append.1 hy with hy | hy
              · exact HF.out y hy
              · have : y = (x1, x2) := by simpa using hy
                subst this
                exact H23.out
            case measure => simp [intOf]; omega
          · have h2' : ¬ ((x1.length : Int) > 300) := by omega
            have h3' : ((x2.length : Int) > 300) := by omega
            clear h2 h3
            go_wp2
            go_ret
            exact ⟨SaysB.no _, rfl⟩
        · have h2' : ((x1.length : Int) > 300) := by omega
          clear h2
          go_wp2
          go_ret
          exact ⟨SaysB.no _, rfl⟩
    · have hkn : i = n := by omega
      subst hkn
      go_wp2
      go_ret
      refine ⟨SaysB.of fun h => ?_, rfl⟩
      have h10 : i ≤ 10 := by have := of_decide_eq_true h; omega
      have := HF.out
      rw [← HN.out, List.take_length] at this
      exact ⟨by rw [HN.out]; exact h10, this⟩

set_option maxRecDepth 100000 in
set_option maxHeartbeats 1600000 in
/-- spec.InOrder. -/
theorem inorder_any (l : List Lab) (n : Nat) (a : Option Addr) (c : Nat) (hn : l.length = n) (hb : n ≤ 9223372036854775807) (w : World) (hL : LabsAt w a l) :
    Calls Tryz.prog 95 #[.slice a n c] w fun e w' => SaysB (Ord l) e ∧ Below w.heap.size w w' := by
  have HN := Lib.hid hn
  have HL := Lib.hid hL
  clear hn hL
  go_enter Tryz.func95, Tryz.ntmps95
  go_wp2_with fail
  go_loopw [3] (fun v3 wr => ∃ i, i ≤ n + 1 ∧ 1 ≤ i ∧ v3 = .int .i64 (i : Int) ∧ Hid (n ≤ i ∨ i < n) ∧ Hid (∀ j x y, j + 1 < i → l[j]? = some x → l[j + 1]? = some y → x.1 < y.1) ∧ Hid (Below w.heap.size w wr)) (fun v3 _ => n + 1 - (intOf v3).toNat)
  case atStart => exact ⟨1, by omega, Nat.le_refl _, rfl, by show n ≤ 1 ∨ 1 < n; omega, (fun j x y h => by omega), Below.refl _ _⟩
  case round =>
    obtain ⟨i, hk, hi1, rfl, _, HF, HBE⟩ := hrel
    rename World => wr
    by_cases hlt : i < n
    · obtain ⟨j, rfl⟩ : ∃ j, i = j + 1 := ⟨i - 1, by omega⟩
      obtain ⟨x, hx⟩ : ∃ x, l[j]? = some x := ⟨l[j]'(by rw [HN.out]; omega), List.getElem?_eq_getElem _⟩
      obtain ⟨y, hy⟩ : ∃ y, l[j + 1]? = some y := ⟨l[j + 1]'(by rw [HN.out]; exact hlt), List.getElem?_eq_getElem _⟩
      obtain ⟨b, o, rfl, c1, _⟩ := (HL.out.below HBE.out) j x hx
      obtain ⟨b', o', hbo, d1, _⟩ := (HL.out.below HBE.out) (j + 1) y hy
      cases hbo
      have HX := Lib.hid hx
      have HY := Lib.hid hy
      unfold str at c1 d1
      clear hx hy
      obtain ⟨jj, hjj⟩ : ∃ jj, jj = j + 1 := ⟨_, rfl⟩
      rw [← hjj] at d1 hlt hk hi1
      rw [← hjj]
      have hj1 : (jj : Int) - 1 = (j : Int) := by omega
      have HJ := Lib.hid hjj
      have hjl : j < n := by omega
      clear hjj
      obtain ⟨x1, x2⟩ := x
      obtain ⟨y1, y2⟩ := y
      dsimp only at c1 d1
      by_cases hxy : x1 < y1
      · have hb1 : Op.bytesLess x1 y1 = true := (less_iff' x1 y1).2 hxy
        have HXY := Lib.hid hxy
        clear hxy
        go_wp2_with fail
        go_quiet (fail)
        go_wp2
        go_roundw
        case rel =>
          refine ⟨jj + 1, by omega, by omega, by go_num, by show n ≤ jj + 1 ∨ jj + 1 < n; omega, ?_, HBE.out.trans (by exact ⟨rfl, rfl, rfl, Nat.le_refl _, fun _ _ => rfl⟩)⟩
          intro k x y hkk h1 h2
          have hj := HJ.out
          by_cases e : k = j
          · subst e
            rw [HX.out] at h1
            rw [HY.out] at h2
            cases h1; cases h2
            exact HXY.out
          · exact HF.out k x y (by omega) h1 h2
        case measure => simp [intOf]; omega
      · have hb1 : Op.bytesLess x1 y1 = false := by
          cases hh : Op.bytesLess x1 y1 with
          | false => rfl
          | true => exact absurd ((less_iff' x1 y1).1 hh) hxy
        clear hxy
        go_wp2_with fail
        go_quiet (fail)
        go_wp2
        go_ret
        exact ⟨SaysB.no _, HBE.out.trans (by exact ⟨rfl, rfl, rfl, Nat.le_refl _, fun _ _ => rfl⟩)⟩
    · go_wp2
      go_ret
      refine ⟨SaysB.yes ?_, HBE.out⟩
      unfold Ord
      have hadj : ∀ j x y, l[j]? = some x → l[j + 1]? = some y → x.1 < y.1 := fun j x y h1 h2 => by
        have := (List.getElem?_eq_some_iff.1 h2).1
        rw [HN.out] at this
        exact HF.out j x y (by omega) h1 h2
      rw [List.pairwise_iff_getElem]
      intro p q hp hq hpq
      induction q with
      | zero => omega
      | succ q ih =>
        have hq' : q < l.length := by omega
        have hlast := hadj q _ _ (List.getElem?_eq_getElem hq') (List.getElem?_eq_getElem hq)
        by_cases e : p = q
        · subst e; exact hlast
        · exact List.lt_trans (ih hq' (by omega)) hlast

end Go.Proofs.YtdeejmkjhmpabaaGreatDoor
namespace Go.Proofs.YtdeejmkjhmpabaaGreatDoor
open Go.RowKit Go.Lib Go.Maps Go.WideMaps

set_option maxRecDepth 100000 in
set_option maxHeartbeats 3200000 in
/-- spec.Legacy: it says something. -/
theorem legacy_any (s : List UInt8) (hs : s.length ≤ 9223372036854775807) (w : World) : Calls Tryz.prog 68 #[.string ⟨s.toArray⟩, .bool false] w fun e w' => SaysB True e ∧ w = w' := by
  obtain ⟨n, hn⟩ : ∃ n, n = s.length := ⟨_, rfl⟩
  have HN := Lib.hid hn
  clear hn
  go_enter Tryz.func68, Tryz.ntmps68
  go_wp2_with fail
  go_loopw [5] (fun v5 wr => ∃ i, i ≤ s.length ∧ v5 = .int .i64 (i : Int) ∧ w = wr) (fun v5 _ => s.length - (intOf v5).toNat)
  case atStart => exact ⟨0, Nat.zero_le _, rfl, by first | rfl | trivial⟩
  case round =>
    obtain ⟨i, hk, rfl, rfl⟩ := hrel
    by_cases hlt : i < s.length
    · obtain ⟨x, hx⟩ : ∃ x, s[i] = x := ⟨_, rfl⟩
      go_wp2
      all_goals first
        | (go_ret
           exact ⟨SaysB.no _, rfl⟩)
        | (go_roundw
           case rel => exact ⟨i + 1, by omega, by go_num, by first | rfl | trivial⟩
           case measure => simp [intOf]; omega)
    · have hkn : i = s.length := by omega
      subst hkn
      go_wp2
      go_ret
      exact ⟨SaysB.of fun _ => trivial, rfl⟩

set_option maxRecDepth 100000 in
set_option maxHeartbeats 400000 in
/-- laws.ordered. -/
theorem ordered_any (l : List Lab) (n : Nat) (a : Option Addr) (c : Nat) (hn : l.length = n) (hb : n ≤ 9223372036854775807) (w : World) (hL : LabsAt w a l) :
    Calls Tryz.prog 69 #[.slice a n c] w fun e w' => SaysB (Few l ∧ Ord l) e ∧ Below w.heap.size w w' := by
  have h1 := few_any l n a c hn hb w hL
  have h2 := inorder_any l n a c hn hb w hL
  clear hL hn hb
  go_enter Tryz.func69, Tryz.ntmps69
  go_wp2_with (first
    | (go_at_call 94; (with_reducible refine h1.mono ?_); rintro e w1 ⟨⟨b1, rfl, hb1⟩, rfl⟩; cases b1)
    | (go_at_call 95; (with_reducible refine h2.mono ?_); rintro e w1 ⟨⟨b2, rfl, hb2⟩, hB⟩))
  all_goals go_ret
  · exact ⟨SaysB.no _, Below.refl _ _⟩
  · exact ⟨SaysB.of fun h => ⟨hb1 trivial, hb2 h⟩, hB⟩

set_option maxRecDepth 100000 in
set_option maxHeartbeats 1600000 in
/-- laws.setFits. -/
theorem setfits_any (l : List Lab) (n : Nat) (a : Option Addr) (c : Nat) (hn : l.length = n) (hb : n ≤ 9223372036854775807) (hs : ∀ x ∈ l, x.1.length ≤ 9223372036854775807) (w : World) (hL : LabsAt w a l) :
    Calls Tryz.prog 44 #[.slice a n c] w fun e w' => SaysB (Few l ∧ Ord l) e ∧ Below w.heap.size w w' := by
  have h1 := ordered_any l n a c hn hb w hL
  have HN := Lib.hid hn
  have HL := Lib.hid hL
  have HS := Lib.hid hs
  clear hn hL hs
  go_enter Tryz.func44, Tryz.ntmps44
  go_wp2_with fail
  go_loopw [3] (fun v3 wr => ∃ i, i ≤ n ∧ v3 = .int .i64 (i : Int) ∧ w = wr) (fun v3 _ => n - (intOf v3).toNat)
  case atStart => exact ⟨0, Nat.zero_le _, rfl, by first | rfl | trivial⟩
  case round =>
    obtain ⟨i, hk, rfl, rfl⟩ := hrel
    by_cases hlt : i < n
    · obtain ⟨x, hx⟩ : ∃ x, l[i]? = some x := ⟨l[i]'(by rw [HN.out]; exact hlt), List.getElem?_eq_getElem _⟩
      obtain ⟨b, o, rfl, c1, c2⟩ := HL.out i x hx
      have hle := legacy_any x.1 (HS.out x (List.mem_of_getElem? hx)) w
      unfold str at c1 c2
      obtain ⟨x1, x2⟩ := x
      dsimp only at c1 c2 hle
      clear hx
      go_wp2_with (go_at_call 68; (with_reducible refine hle.mono ?_); rintro e w1 ⟨⟨b1, rfl, _⟩, rfl⟩; cases b1)
      · go_ret
        exact ⟨SaysB.no _, Below.refl _ _⟩
      · go_roundw
        case rel => exact ⟨i + 1, by omega, by go_num, by first | rfl | trivial⟩
        case measure => simp [intOf]; omega
    · have hkn : i = n := by omega
      subst hkn
      go_wp2_with (go_at_call 69; (with_reducible refine h1.mono ?_); rintro e w1 ⟨⟨b1, rfl, hb1⟩, hB⟩)
      go_ret
      exact ⟨SaysB.of hb1, hB⟩

end Go.Proofs.YtdeejmkjhmpabaaGreatDoor
namespace Go.Proofs.YtdeejmkjhmpabaaGreatDoor
open Go.RowKit Go.Lib Go.Maps Go.WideMaps

/-- A point: labels, eighths, milliseconds. -/
abbrev Pt := List Lab × Int × Int

/-- The slice a holds points. -/
def PtsAt (w : World) (a : Option Addr) (L : List Pt) : Prop :=
  ∀ i x, L[i]? = some x → ∃ b o la lc, a = some ⟨b, o, none⟩ ∧ w.cell? ⟨b, o + i * 3, none⟩ = some (.slice la x.1.length lc) ∧ w.cell? ⟨b, o + i * 3 + 1, none⟩ = some (.int .i64 x.2.1) ∧ w.cell? ⟨b, o + i * 3 + 2, none⟩ = some (.int .i64 x.2.2) ∧ LabsAt w la x.1 ∧ (la = none → lc = 0)

theorem PtsAt.below {w w' : World} {a : Option Addr} {L : List Pt} (h : PtsAt w a L) (hb : Below w.heap.size w w') : PtsAt w' a L := by
  intro i x hx
  obtain ⟨b, o, la, lc, ha, h0, h1, h2, h3, h4⟩ := h i x hx
  have hlt : b < w.heap.size := World.block_lt_of_cell? w _ h1
  exact ⟨b, o, la, lc, ha, (hb.cell (p := ⟨b, o + i * 3, none⟩) hlt).trans h0, (hb.cell (p := ⟨b, o + i * 3 + 1, none⟩) hlt).trans h1, (hb.cell (p := ⟨b, o + i * 3 + 2, none⟩) hlt).trans h2, h3.below hb, h4⟩

set_option maxRecDepth 100000 in
set_option maxHeartbeats 800000 in
theorem fits4_any (x1 x2 : List UInt8) (w : World) : Calls Tryz.prog 67 #[.agg #[.string ⟨x1.toArray⟩, .string ⟨x2.toArray⟩]] w fun e w' => SaysB True e ∧ Below w.heap.size w w' := by
  have hB : Below w.heap.size w (w.alloc (.cells #[.string ⟨x1.toArray⟩, .string ⟨x2.toArray⟩] 59)) := (Below.refl _ _).alloc (Nat.le_refl _) _
  go_enter Tryz.func67, Tryz.ntmps67
  go_wp2
  all_goals
    go_ret
    first
      | exact ⟨SaysB.no _, hB⟩
      | exact ⟨SaysB.yes trivial, hB⟩

set_option maxRecDepth 100000 in
set_option maxHeartbeats 1600000 in
theorem fits3_any (l : List Lab) (n : Nat) (a : Option Addr) (c : Nat) (hn : l.length = n) (w : World) (hL : LabsAt w a l) :
    Calls Tryz.prog 43 #[.slice a n c] w fun e w' => SaysB True e ∧ Below w.heap.size w w' := by
  have HN := Lib.hid hn
  have HL := Lib.hid hL
  clear hn hL
  by_cases hbig : (n : Int) > 2147483647
  · go_enter Tryz.func43, Tryz.ntmps43
    go_wp2
    go_ret
    exact ⟨SaysB.no _, Below.refl _ _⟩
  · go_enter Tryz.func43, Tryz.ntmps43
    go_wp2_with fail
    go_loopw [10] (fun v10 wr => ∃ i, i ≤ n ∧ v10 = .int .i64 (i : Int) ∧ Hid (Below w.heap.size w wr)) (fun v10 _ => n - (intOf v10).toNat)
    case atStart => exact ⟨0, Nat.zero_le _, rfl, Below.refl _ _⟩
    case round =>
      obtain ⟨i, hk, rfl, HB⟩ := hrel
      rename World => wr
      by_cases hlt : i < n
      · obtain ⟨x, hx⟩ : ∃ x, l[i]? = some x := ⟨l[i]'(by rw [HN.out]; exact hlt), List.getElem?_eq_getElem _⟩
        obtain ⟨b, o, rfl, c1, c2⟩ := (HL.out.below HB.out) i x hx
        unfold str at c1 c2
        obtain ⟨x1, x2⟩ := x
        dsimp only at c1 c2
        have h4 := fits4_any x1 x2 (wr.alloc (.cells #[.string ⟨x1.toArray⟩, .string ⟨x2.toArray⟩] 59))
        have HA : Hid (Below w.heap.size w (wr.alloc (.cells #[.string ⟨x1.toArray⟩, .string ⟨x2.toArray⟩] 59))) := HB.out.alloc HB.out.size _
        clear hx
        go_wp2_with (go_at_call 67; (with_reducible refine h4.mono ?_); rintro e w1 ⟨⟨b1, rfl, _⟩, hb1⟩; cases b1)
        · go_ret
          exact ⟨SaysB.no _, HA.out.trans (hb1.mono HA.out.size)⟩
        · go_roundw
          case rel => exact ⟨i + 1, by omega, by go_num, HA.out.trans (hb1.mono HA.out.size)⟩
          case measure => simp [intOf]; omega
      · have hkn : i = n := by omega
        subst hkn
        go_wp2
        go_ret
        exact ⟨SaysB.yes trivial, HB.out⟩

set_option maxRecDepth 100000 in
set_option maxHeartbeats 800000 in
theorem fits12_any (l : List Lab) (n : Nat) (a : Option Addr) (c : Nat) (e8 ms : Int) (hn : l.length = n) (w : World) (hL : LabsAt w a l) :
    Calls Tryz.prog 18 #[.agg #[.slice a n c, .int .i64 e8, .int .i64 ms]] w fun e w' => SaysB True e ∧ Below w.heap.size w w' := by
  have hB : Below w.heap.size w (w.alloc (.cells #[.slice a n c, .int .i64 e8, .int .i64 ms] 35)) := (Below.refl _ _).alloc (Nat.le_refl _) _
  have h3 := fits3_any l n a c hn (w.alloc (.cells #[.slice a n c, .int .i64 e8, .int .i64 ms] 35)) (hL.below hB)
  have HB := Lib.hid hB
  clear hL hn hB
  go_enter Tryz.func18, Tryz.ntmps18
  go_wp2_with (go_at_call 43; (with_reducible refine h3.mono ?_); rintro e w1 ⟨⟨b1, rfl, _⟩, hb1⟩; cases b1)
  all_goals
    go_ret
    first
      | exact ⟨SaysB.no _, HB.out.trans (hb1.mono HB.out.size)⟩
      | exact ⟨SaysB.yes trivial, HB.out.trans (hb1.mono HB.out.size)⟩

set_option maxRecDepth 100000 in
set_option maxHeartbeats 1600000 in
theorem fits13_any (L : List Pt) (n : Nat) (a : Option Addr) (c : Nat) (hn : L.length = n) (w : World) (hL : PtsAt w a L) :
    Calls Tryz.prog 5 #[.slice a n c] w fun e w' => SaysB True e ∧ Below w.heap.size w w' := by
  have HN := Lib.hid hn
  have HL := Lib.hid hL
  clear hn hL
  by_cases hbig : (n : Int) > 2147483647
  · go_enter Tryz.func5, Tryz.ntmps5
    go_wp2
    go_ret
    exact ⟨SaysB.no _, Below.refl _ _⟩
  · go_enter Tryz.func5, Tryz.ntmps5
    go_wp2_with fail
    go_loopw [10] (fun v10 wr => ∃ i, i ≤ n ∧ v10 = .int .i64 (i : Int) ∧ Hid (Below w.heap.size w wr)) (fun v10 _ => n - (intOf v10).toNat)
    case atStart => exact ⟨0, Nat.zero_le _, rfl, Below.refl _ _⟩
    case round =>
      obtain ⟨i, hk, rfl, HB⟩ := hrel
      rename World => wr
      by_cases hlt : i < n
      · obtain ⟨x, hx⟩ : ∃ x, L[i]? = some x := ⟨L[i]'(by rw [HN.out]; exact hlt), List.getElem?_eq_getElem _⟩
        obtain ⟨b, o, la, lc, rfl, c1, c2, c3, hla, _⟩ := (HL.out.below HB.out) i x hx
        obtain ⟨l, e8, ms⟩ := x
        dsimp only at c1 c2 c3 hla
        obtain ⟨m, hm⟩ : ∃ m, m = l.length := ⟨_, rfl⟩
        rw [← hm] at c1
        have HA : Hid (Below w.heap.size w (wr.alloc (.cells #[.slice la m lc, .int .i64 e8, .int .i64 ms] 35))) := HB.out.alloc HB.out.size _
        have h4 := fits12_any l m la lc e8 ms hm.symm (wr.alloc (.cells #[.slice la m lc, .int .i64 e8, .int .i64 ms] 35)) (hla.below ((Below.refl _ _).alloc (Nat.le_refl _) _))
        clear hx hla hm
        go_wp2_with (go_at_call 18; (with_reducible refine h4.mono ?_); rintro e w1 ⟨⟨b1, rfl, _⟩, hb1⟩; cases b1)
        · go_ret
          exact ⟨SaysB.no _, HA.out.trans (hb1.mono HA.out.size)⟩
        · go_roundw
          case rel => exact ⟨i + 1, by omega, by go_num, HA.out.trans (hb1.mono HA.out.size)⟩
          case measure => simp [intOf]; omega
      · have hkn : i = n := by omega
        subst hkn
        go_wp2
        go_ret
        exact ⟨SaysB.yes trivial, HB.out⟩

end Go.Proofs.YtdeejmkjhmpabaaGreatDoor
namespace Go.Proofs.YtdeejmkjhmpabaaGreatDoor
open Go.RowKit Go.Lib Go.Maps Go.WideMaps

set_option maxHeartbeats 400000 in
theorem bits_any (bv : Nat) (w : World) : Calls Tryz.prog 9 #[.float .f64 bv] w fun e w' => e = .returned (.int .u64 (bv : Nat)) ∧ w = w' := by
  have hc := c22 bv
  go_enter Tryz.func9, Tryz.ntmps9
  go_wp2
  go_ret
  exact ⟨rfl, rfl⟩

set_option maxHeartbeats 400000 in
theorem eighths_any (n : Int) (bv : Nat) (hq : floatBits .quo .f64 (floatOfInt .f64 n) 4620693217682128896 = some bv) (w : World) :
    Calls Tryz.prog 8 #[.int .i64 n] w fun e w' => e = .returned (.tuple #[.float .f64 bv, .bool (decide (-562949953421312 < n) && decide (n < 562949953421312))]) ∧ w = w' := by
  have hq := fun w => run_float_arith (P := Tryz.prog) w .quo 30 .f64 _ _ bv hq
  by_cases h1 : n > -562949953421312
  · go_enter Tryz.func8, Tryz.ntmps8
    go_wp2
    go_ret2
    exact ⟨by simp [h1], rfl⟩
  · go_enter Tryz.func8, Tryz.ntmps8
    go_wp2
    go_ret2
    have : ¬ (-562949953421312 < n) := by omega
    exact ⟨by simp [this], rfl⟩

theorem eq59 (x1 x2 y1 y2 : List UInt8) (w : World) : (Op.equalIn 10000 59 (.agg #[.string ⟨x1.toArray⟩, .string ⟨x2.toArray⟩]) (.agg #[.string ⟨y1.toArray⟩, .string ⟨y2.toArray⟩])).run Tryz.prog w = .ok (x1 == y1 && x2 == y2) w := by
  have u9 := Tryz.underlying9
  have a9 := Tryz.isAgg9
  have z9 := Tryz.sizeOf9
  have hf : Tryz.prog.underlying 59 = some (.struct (Tryz.prog.fieldsOf 59)) := by kernel_rfl
  have hp : Tryz.prog.stoodInHeld 59 = false := by kernel_rfl
  have h1 : ∀ w, (Op.equalIn 9999 9 (.string ⟨x1.toArray⟩) (.string ⟨y1.toArray⟩)).run Tryz.prog w = .ok (x1 == y1) w := fun w => by
    rw [show (9999 : Nat) = 9998 + 1 from rfl, run_equalIn_string w 9998 9 _ _ u9]; simp
  have h2 : ∀ w, (Op.equalIn 9999 9 (.string ⟨x2.toArray⟩) (.string ⟨y2.toArray⟩)).run Tryz.prog w = .ok (x2 == y2) w := fun w => by
    rw [show (9999 : Nat) = 9998 + 1 from rfl, run_equalIn_string w 9998 9 _ _ u9]; simp
  rw [show (10000 : Nat) = 9999 + 1 from rfl, run_equalIn_agg w 9999 59 _ _ hf hp]
  simp only [Program.fieldsOf, Tryz.underlying59]
  go_simp
  cases h : x1 == y1 <;> cases h' : x2 == y2 <;> simp_all

theorem neq59 (x1 x2 y1 y2 : List UInt8) (w : World) : (binOp .neq 59 (.agg #[.string ⟨x1.toArray⟩, .string ⟨x2.toArray⟩]) (.agg #[.string ⟨y1.toArray⟩, .string ⟨y2.toArray⟩])).run Tryz.prog w = .ok (.bool (!(x1 == y1 && x2 == y2))) w := by
  rw [run_neq_struct, eq59]
  rfl

set_option maxRecDepth 100000 in
set_option maxHeartbeats 1600000 in
theorem same_any (l1 l2 : List Lab) (n1 n2 : Nat) (a1 a2 : Option Addr) (c1 c2 : Nat) (h1 : l1.length = n1) (h2 : l2.length = n2) (hb : n1 ≤ 9223372036854775807) (w : World) (hL1 : LabsAt w a1 l1) (hL2 : LabsAt w a2 l2) :
    Calls Tryz.prog 16 #[.slice a1 n1 c1, .slice a2 n2 c2] w fun e w' => e = .returned (.bool (decide (l1 = l2))) ∧ Below w.heap.size w w' := by
  have H1 := Lib.hid h1
  have H2 := Lib.hid h2
  have HL1 := Lib.hid hL1
  have HL2 := Lib.hid hL2
  obtain ⟨bb, hbb⟩ : ∃ bb, bb = decide (l1 = l2) := ⟨_, rfl⟩
  rw [← hbb]
  have HBB := Lib.hid hbb
  clear h1 h2 hL1 hL2 hbb
  by_cases hne : n1 = n2
  · subst hne
    go_enter Tryz.func16, Tryz.ntmps16
    go_wp2_with fail
    go_loopw [5] (fun v5 wr => ∃ i, i ≤ n1 ∧ v5 = .int .i64 (i : Int) ∧ Hid (∀ j, j < i → l1[j]? = l2[j]?) ∧ Hid (Below w.heap.size w wr)) (fun v5 _ => n1 - (intOf v5).toNat)
    case atStart => exact ⟨0, Nat.zero_le _, rfl, fun j h => by omega, Below.refl _ _⟩
    case round =>
      obtain ⟨i, hk, rfl, HS, HB⟩ := hrel
      rename World => wr
      by_cases hlt : i < n1
      · obtain ⟨x, hx⟩ : ∃ x, l1[i]? = some x := ⟨l1[i]'(by rw [H1.out]; exact hlt), List.getElem?_eq_getElem _⟩
        obtain ⟨y, hy⟩ : ∃ y, l2[i]? = some y := ⟨l2[i]'(by rw [H2.out]; exact hlt), List.getElem?_eq_getElem _⟩
        obtain ⟨b, o, rfl, p1, p2⟩ := (HL1.out.below HB.out) i x hx
        obtain ⟨b', o', rfl, q1, q2⟩ := (HL2.out.below HB.out) i y hy
        have HX := Lib.hid hx
        have HY := Lib.hid hy
        unfold str at p1 p2 q1 q2
        obtain ⟨x1, x2⟩ := x
        obtain ⟨y1, y2⟩ := y
        dsimp only at p1 p2 q1 q2
        clear hx hy
        by_cases e : (x1, x2) = (y1, y2)
        · injection e with e1 e2
          subst e1 e2
          go_wp2_with fail
          go_quiet (fail)
          go_wp2
          go_roundw
          case rel =>
            refine ⟨i + 1, by omega, by go_num, fun j hj => ?_, HB.out.trans (by exact ⟨rfl, rfl, rfl, Nat.le_refl _, fun _ _ => rfl⟩)⟩
            by_cases hji : j = i
            · subst hji; rw [HX.out, HY.out]
            · exact HS.out j (by omega)
          case measure => simp [intOf]; omega
        · have hxy : (x1 == y1 && x2 == y2) = false := by
            cases h : (x1 == y1 && x2 == y2) with
            | false => rfl
            | true =>
              rw [Bool.and_eq_true, beq_iff_eq, beq_iff_eq] at h
              exact absurd (by rw [h.1, h.2]) e
          have hbb : bb = false := by
            rw [HBB.out]
            exact decide_eq_false (fun h => by subst h; have := HX.out.symm.trans HY.out; exact e (Option.some.inj this))
          subst hbb
          have hnq : ∀ w, (binOp .neq 59 (.agg #[.string ⟨x1.toArray⟩, .string ⟨x2.toArray⟩]) (.agg #[.string ⟨y1.toArray⟩, .string ⟨y2.toArray⟩])).run Tryz.prog w = .ok (.bool true) w := fun w => by rw [neq59, hxy]; rfl
          clear e hxy
          go_wp2_with fail
          go_quiet (fail)
          go_wp2
          go_ret
          exact ⟨rfl, HB.out.trans (by exact ⟨rfl, rfl, rfl, Nat.le_refl _, fun _ _ => rfl⟩)⟩
      · have hkn : i = n1 := by omega
        subst hkn
        have hbb : bb = true := by
          rw [HBB.out]
          refine decide_eq_true (List.ext_getElem? fun j => ?_)
          by_cases hj : j < i
          · exact HS.out j hj
          · rw [List.getElem?_eq_none (by rw [H1.out]; omega), List.getElem?_eq_none (by rw [H2.out]; omega)]
        subst hbb
        go_wp2
        go_ret
        exact ⟨rfl, HB.out⟩
  · have hbb : bb = false := by
      rw [HBB.out]
      exact decide_eq_false (fun h => hne (by rw [← H1.out, ← H2.out, h]))
    subst hbb
    have hn : ((n1 : Int) == (n2 : Int)) = false := by simpa using fun h => hne (by omega)
    clear hne
    go_enter Tryz.func16, Tryz.ntmps16
    go_wp2
    go_ret
    exact ⟨rfl, Below.refl _ _⟩

end Go.Proofs.YtdeejmkjhmpabaaGreatDoor

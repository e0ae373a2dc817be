/-
  The bounds zzFits; spec.Same.
-/
import Derived.Test.YtdeejmkjhmpabaaGreatDoorL1
namespace Go.Proofs.YtdeejmkjhmpabaaGreatDoor
open Go.RowKit Go.Lib Go.Maps Go.WideMaps

/-- A point: labels, eighths, milliseconds. -/
abbrev Pt := List Lab × Int × Int

/-- The slice a holds points. -/
def PtsAt (w : World) (a : Option Addr) (L : List Pt) : Prop :=
  ∀ i x, L[i]? = some x → ∃ b o la lc, a = some ⟨b, o, none⟩ ∧ w.cell? ⟨b, o + i * 3, none⟩ = some (.slice la x.1.length lc) ∧ w.cell? ⟨b, o + i * 3 + 1, none⟩ = some (.int .i64 x.2.1) ∧ w.cell? ⟨b, o + i * 3 + 2, none⟩ = some (.int .i64 x.2.2) ∧ LabsAt w la x.1 ∧ (la = none → lc = 0)

theorem PtsAt.below {w w' : World} {a : Option Addr} {L : List Pt} (h : PtsAt w a L) (hb : Below w.heap.size w w') : PtsAt w' a L := by
  intro i x hx
  obtain ⟨b, o, la, lc, ha, h0, h1, h2, h3, h4⟩ := h i x hx
  have hlt : b < w.heap.size := World.block_lt_of_cell? w _ h1
  exact ⟨b, o, la, lc, ha, (hb.cell (p := ⟨b, o + i * 3, none⟩) hlt).trans h0, (hb.cell (p := ⟨b, o + i * 3 + 1, none⟩) hlt).trans h1, (hb.cell (p := ⟨b, o + i * 3 + 2, none⟩) hlt).trans h2, h3.below hb, h4⟩

set_option maxRecDepth 100000 in
set_option maxHeartbeats 800000 in
theorem fits4_any (x1 x2 : List UInt8) (w : World) : Calls Tryz.prog 67 #[.agg #[.string ⟨x1.toArray⟩, .string ⟨x2.toArray⟩]] w fun e w' => SaysB True e ∧ Below w.heap.size w w' := by
  have hB : Below w.heap.size w (w.alloc (.cells #[.string ⟨x1.toArray⟩, .string ⟨x2.toArray⟩] 59)) := (Below.refl _ _).alloc (Nat.le_refl _) _
  go_enter Tryz.func67, Tryz.ntmps67
  go_wp2
  all_goals
    go_ret
    first
      | exact ⟨SaysB.no _, hB⟩
      | exact ⟨SaysB.yes trivial, hB⟩

set_option maxRecDepth 100000 in
set_option maxHeartbeats 1600000 in
theorem fits3_any (l : List Lab) (n : Nat) (a : Option Addr) (c : Nat) (hn : l.length = n) (w : World) (hL : LabsAt w a l) :
    Calls Tryz.prog 43 #[.slice a n c] w fun e w' => SaysB True e ∧ Below w.heap.size w w' := by
  have HN := Lib.hid hn
  have HL := Lib.hid hL
  clear hn hL
  by_cases hbig : (n : Int) > 2147483647
  · go_enter Tryz.func43, Tryz.ntmps43
    go_wp2
    go_ret
    exact ⟨SaysB.no _, Below.refl _ _⟩
  · go_enter Tryz.func43, Tryz.ntmps43
    go_wp2_with fail
    go_loopw [10] (fun v10 wr => ∃ i, i ≤ n ∧ v10 = .int .i64 (i : Int) ∧ Hid (Below w.heap.size w wr)) (fun v10 _ => n - (intOf v10).toNat)
    case atStart => exact ⟨0, Nat.zero_le _, rfl, Below.refl _ _⟩
    case round =>
      obtain ⟨i, hk, rfl, HB⟩ := hrel
      rename World => wr
      by_cases hlt : i < n
      · obtain ⟨x, hx⟩ : ∃ x, l[i]? = some x := ⟨l[i]'(by rw [HN.out]; exact hlt), List.getElem?_eq_getElem _⟩
        obtain ⟨b, o, rfl, c1, c2⟩ := (HL.out.below HB.out) i x hx
        unfold str at c1 c2
        obtain ⟨x1, x2⟩ := x
        dsimp only at c1 c2
        have h4 := fits4_any x1 x2 (wr.alloc (.cells #[.string ⟨x1.toArray⟩, .string ⟨x2.toArray⟩] 59))
        have HA : Hid (Below w.heap.size w (wr.alloc (.cells #[.string ⟨x1.toArray⟩, .string ⟨x2.toArray⟩] 59))) := HB.out.alloc HB.out.size _
        clear hx
        go_wp2_with (go_at_call 67; (with_reducible refine h4.mono ?_); rintro e w1 ⟨⟨b1, rfl, _⟩, hb1⟩; cases b1)
        · go_ret
          exact ⟨SaysB.no _, HA.out.trans (hb1.mono HA.out.size)⟩
        · go_roundw
          case rel => exact ⟨i + 1, by omega, by go_num, HA.out.trans (hb1.mono HA.out.size)⟩
          case measure => simp [intOf]; omega
      · have hkn : i = n := by omega
        subst hkn
        go_wp2
        go_ret
        exact ⟨SaysB.yes trivial, HB.out⟩

set_option maxRecDepth 100000 in
set_option maxHeartbeats 800000 in
theorem fits12_any (l : List Lab) (n : Nat) (a : Option Addr) (c : Nat) (e8 ms : Int) (hn : l.length = n) (w : World) (hL : LabsAt w a l) :
    Calls Tryz.prog 18 #[.agg #[.slice a n c, .int .i64 e8, .int .i64 ms]] w fun e w' => SaysB True e ∧ Below w.heap.size w w' := by
  have hB : Below w.heap.size w (w.alloc (.cells #[.slice a n c, .int .i64 e8, .int .i64 ms] 35)) := (Below.refl _ _).alloc (Nat.le_refl _) _
  have h3 := fits3_any l n a c hn (w.alloc (.cells #[.slice a n c, .int .i64 e8, .int .i64 ms] 35)) (hL.below hB)
  have HB := Lib.hid hB
  clear hL hn hB
  go_enter Tryz.func18, Tryz.ntmps18
  go_wp2_with (go_at_call 43; (with_reducible refine h3.mono ?_); rintro e w1 ⟨⟨b1, rfl, _⟩, hb1⟩; cases b1)
  all_goals
    go_ret
    first
      | exact ⟨SaysB.no _, HB.out.trans (hb1.mono HB.out.size)⟩
      | exact ⟨SaysB.yes trivial, HB.out.trans (hb1.mono HB.out.size)⟩

set_option maxRecDepth 100000 in
set_option maxHeartbeats 1600000 in
theorem fits13_any (L : List Pt) (n : Nat) (a : Option Addr) (c : Nat) (hn : L.length = n) (w : World) (hL : PtsAt w a L) :
    Calls Tryz.prog 5 #[.slice a n c] w fun e w' => SaysB True e ∧ Below w.heap.size w w' := by
  have HN := Lib.hid hn
  have HL := Lib.hid hL
  clear hn hL
  by_cases hbig : (n : Int) > 2147483647
  · go_enter Tryz.func5, Tryz.ntmps5
    go_wp2
    go_ret
    exact ⟨SaysB.no _, Below.refl _ _⟩
  · go_enter Tryz.func5, Tryz.ntmps5
    go_wp2_with fail
    go_loopw [10] (fun v10 wr => ∃ i, i ≤ n ∧ v10 = .int .i64 (i : Int) ∧ Hid (Below w.heap.size w wr)) (fun v10 _ => n - (intOf v10).toNat)
    case atStart => exact ⟨0, Nat.zero_le _, rfl, Below.refl _ _⟩
    case round =>
      obtain ⟨i, hk, rfl, HB⟩ := hrel
      rename World => wr
      by_cases hlt : i < n
      · obtain ⟨x, hx⟩ : ∃ x, L[i]? = some x := ⟨L[i]'(by rw [HN.out]; exact hlt), List.getElem?_eq_getElem _⟩
        obtain ⟨b, o, la, lc, rfl, c1, c2, c3, hla, _⟩ := (HL.out.below HB.out) i x hx
        obtain ⟨l, e8, ms⟩ := x
        dsimp only at c1 c2 c3 hla
        obtain ⟨m, hm⟩ : ∃ m, m = l.length := ⟨_, rfl⟩
        rw [← hm] at c1
        have HA : Hid (Below w.heap.size w (wr.alloc (.cells #[.slice la m lc, .int .i64 e8, .int .i64 ms] 35))) := HB.out.alloc HB.out.size _
        have h4 := fits12_any l m la lc e8 ms hm.symm (wr.alloc (.cells #[.slice la m lc, .int .i64 e8, .int .i64 ms] 35)) (hla.below ((Below.refl _ _).alloc (Nat.le_refl _) _))
        clear hx hla hm
        go_wp2_with (go_at_call 18; (with_reducible refine h4.mono ?_); rintro e w1 ⟨⟨b1, rfl, _⟩, hb1⟩; cases b1)
        · go_ret
          exact ⟨SaysB.no _, HA.out.trans (hb1.mono HA.out.size)⟩
        · go_roundw
          case rel => exact ⟨i + 1, by omega, by go_num, HA.out.trans (hb1.mono HA.out.size)⟩
          case measure => simp [intOf]; omega
      · have hkn : i = n := by omega
        subst hkn
        go_wp2
        go_ret
        exact ⟨SaysB.yes trivial, HB.out⟩

end Go.Proofs.YtdeejmkjhmpabaaGreatDoor

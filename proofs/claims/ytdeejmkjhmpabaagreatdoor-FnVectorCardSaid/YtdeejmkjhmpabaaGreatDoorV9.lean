/-
  impl.VectorEqual, where labels and values are the same.
-/
import Derived.Test.YtdeejmkjhmpabaaGreatDoorV8
namespace Go.Proofs.YtdeejmkjhmpabaaGreatDoor
open Go.RowKit Go.Lib Go.Maps Go.WideMaps

set_option maxRecDepth 100000 in
set_option maxHeartbeats 3200000 in
/-- The closure of VectorEqual. -/
theorem vequal_make (L1 L2 : List Pt) (S1 S2 : Nat → PtM) (n1 n2 c1 c2 lb ob sb : Nat) (a1 a2 : Option Addr) (hn1 : L1.length = n1) (hn2 : L2.length = n2) (hn12 : n1 ≤ 12) (hn22 : n2 ≤ 12) (hsame : n1 = n2 → ∀ (k : Nat) (x y : Pt), L1[k]? = some x → L2[k]? = some y → x.1 = y.1 ∧ x.2.1 = y.2.1)
    (hok1 : ∀ x ∈ L1, PtOk x) (hok2 : ∀ x ∈ L2, Few x.1) (w : World) (hV1 : VecIn w a1 L1 S1) (hV2 : VecIn w a2 L2 S2) (hlb : w.cell? ⟨lb, 0, none⟩ = some (.slice a1 n1 c1)) (hob : w.cell? ⟨ob, 0, none⟩ = some (.slice a2 n2 c2)) (hsb : w.cell? ⟨sb, 0, none⟩ = some (.bool false)) (hfz : w.frozen? ⟨sb, 0, none⟩ = false) (d1 : sb ≠ lb) (d2 : sb ≠ ob) :
    Calls Tryz.prog 41 #[.pointer (some ⟨lb, 0, none⟩), .pointer (some ⟨ob, 0, none⟩), .pointer (some ⟨sb, 0, none⟩)] w fun e w' => e = .returned (.tuple #[]) ∧ ∃ w1, Below w.heap.size w w1 ∧ w' = w1.setCell ⟨sb, 0, none⟩ (.bool (decide (timesV L1 = timesV L2))) := by
  obtain ⟨r, hr⟩ : ∃ r, r = decide (timesV L1 = timesV L2) := ⟨_, rfl⟩
  have hv1 := vector_any L1 S1 n1 a1 c1 hn1 hn12 (fun x hx => (hok1 x hx).2.1.1) w.drew (hV1.below (Below.refl _ _).drew)
  have hv2 := fun W (hW : Below w.heap.size w W) => vector_any L2 S2 n2 a2 c2 hn2 hn22 hok2 W (hV2.below hW)
  have hve := fun (W : World) (m1 m2 : Option Addr) (e1 e2 : Nat) (P1 P2 : Nat → Prop) (hP : ∀ a b, P1 a → P2 b → a ≠ b) (h1 : VRowP W m1 L1 P1) (h2 : VRowP W m2 L2 P2) => vector_equal L1 L2 n1 n2 e1 e2 m1 m2 P1 P2 hn1 hn2 hn12 hP hsame hok1 W h1 h2
  rw [← hr]
  simp only [← hr] at hve
  have l1 := World.block_lt_of_cell? w _ hlb
  have l2 := World.block_lt_of_cell? w _ hob
  have l3 := World.block_lt_of_cell? w _ hsb
  have f0 : ∀ W, Below w.heap.size w W → W.cell? ⟨lb, 0, none⟩ = some (.slice a1 n1 c1) ∧ W.cell? ⟨ob, 0, none⟩ = some (.slice a2 n2 c2) ∧ W.cell? ⟨sb, 0, none⟩ = some (.bool false) ∧ W.frozen? ⟨sb, 0, none⟩ = false := fun W hW =>
    ⟨(hW.cell (p := ⟨lb, 0, none⟩) l1).trans hlb, (hW.cell (p := ⟨ob, 0, none⟩) l2).trans hob, (hW.cell (p := ⟨sb, 0, none⟩) l3).trans hsb, (hW.frozen (p := ⟨sb, 0, none⟩) l3).trans hfz⟩
  have HN1 := Lib.hid hn1
  have HN2 := Lib.hid hn2
  have HF0 := Lib.hid f0
  have HV2 := Lib.hid hv2
  have HVE := Lib.hid hve
  clear hV1 hV2 hn1 hn2 hok1 hok2 hsame hv2 hve f0 hr l1 l2 l3
  go_enter Tryz.func41, Tryz.ntmps41
  go_wp2_with fail
  go_region_held3 (fun w' => w'.cell? ⟨lb, 0, none⟩ = some (.slice a1 n1 c1) ∧ w'.cell? ⟨ob, 0, none⟩ = some (.slice a2 n2 c2)) (go_keep) (first
    | (go_at_call 35; (with_reducible refine hv1.mono ?_); rintro e w1 ⟨v, Q, Bm, rfl, hO⟩; have hO' := hO; rw [← HN1.out] at hO'; obtain ⟨ad1, cp1, hve1, hr1⟩ := hO'.vrowP; rw [HN1.out] at hve1; subst hve1; have HB1 : Hid (Below w.heap.size w w1) := (Below.refl _ w).drew.trans hO.bel; have HR1 := Lib.hid hr1; obtain ⟨x1, x2, _, _⟩ := HF0.out w1 HB1.out; clear hO hO' hr1)
    | (go_at_call 35; (with_reducible refine (HV2.out _ HB1.out).mono ?_); rintro e w2 ⟨v, Q2, Bm2, rfl, hO⟩; have hO' := hO; rw [← HN2.out] at hO'; obtain ⟨ad2, cp2, hve2, hr2⟩ := hO'.vrowP; rw [HN2.out] at hve2; subst hve2; have HB2 : Hid (Below w.heap.size w w2) := HB1.out.trans (hO.bel.mono HB1.out.size); obtain ⟨y1, y2, _, _⟩ := HF0.out w2 HB2.out; have hc := HVE.out w2 ad1 ad2 cp1 cp2 _ _ (fun a b ha hb e => by have h1 := ha.2; have h2 := hb.1; omega) (HR1.out.below hO.bel) hr2; clear hO hO' hr2)
    | (go_at_call 42; (with_reducible refine hc.mono ?_); rintro e w3 ⟨rfl, hb3⟩; have HB3 : Hid (Below w.heap.size w w3) := HB2.out.trans (hb3.mono HB2.out.size); obtain ⟨z1, z2, z3, z4⟩ := HF0.out w3 HB3.out; clear hb3))
  all_goals
    go_end0
    exact ⟨rfl, w3, HB3.out, rfl⟩

set_option maxRecDepth 100000 in
set_option maxHeartbeats 1600000 in
/-- impl.VectorEqual. -/
theorem vequal_any (L1 L2 : List Pt) (S1 S2 : Nat → PtM) (n1 n2 c1 c2 : Nat) (a1 a2 : Option Addr) (hn1 : L1.length = n1) (hn2 : L2.length = n2) (hn12 : n1 ≤ 12) (hn22 : n2 ≤ 12) (hsame : n1 = n2 → ∀ (k : Nat) (x y : Pt), L1[k]? = some x → L2[k]? = some y → x.1 = y.1 ∧ x.2.1 = y.2.1)
    (hok1 : ∀ x ∈ L1, PtOk x) (hok2 : ∀ x ∈ L2, Few x.1) (w : World) (hV1 : VecIn w a1 L1 S1) (hV2 : VecIn w a2 L2 S2) :
    Calls Tryz.prog 17 #[.slice a1 n1 c1, .slice a2 n2 c2] w fun e w' => e = .returned (.bool (decide (timesV L1 = timesV L2))) ∧ Below w.heap.size w w' := by
  have hmf : ∀ (fn : Fn) (first cap : Array Value) (w : World), (Instr.makeFunc fn first cap).run Tryz.prog w = .ok (.func fn first cap) w := fun _ _ _ _ => rfl
  obtain ⟨r, hr⟩ : ∃ r, r = decide (timesV L1 = timesV L2) := ⟨_, rfl⟩
  obtain ⟨w1, hw1⟩ : ∃ w1, w1 = ((w.alloc (.cells #[.slice a1 n1 c1] 25)).alloc (.cells #[.slice a2 n2 c2] 25)).alloc (.cells #[.bool false] 4) := ⟨_, rfl⟩
  obtain ⟨w2, hw2⟩ : ∃ w2, w2 = w1.alloc (.cells #[.bool false] 4) := ⟨_, rfl⟩
  have hs1 : w1.heap.size = w.heap.size + 3 := by rw [hw1]; simp
  have hs2 : w2.heap.size = w.heap.size + 4 := by rw [hw2]; simp; omega
  have hB1 : Below w.heap.size w w1 := by rw [hw1]; exact (((Below.refl _ _).alloc (Nat.le_refl _) _).alloc (by simp) _).alloc (by simp; omega) _
  have hB2 : Below w.heap.size w w2 := by rw [hw2]; exact hB1.alloc (by omega) _
  have hB12 : Below w1.heap.size w1 w2 := by rw [hw2]; exact (Below.refl _ _).alloc (Nat.le_refl _) _
  obtain ⟨wA, hwA⟩ : ∃ wA, wA = w.alloc (.cells #[.slice a1 n1 c1] 25) := ⟨_, rfl⟩
  obtain ⟨wB, hwB⟩ : ∃ wB, wB = wA.alloc (.cells #[.slice a2 n2 c2] 25) := ⟨_, rfl⟩
  have hsA : wA.heap.size = w.heap.size + 1 := by rw [hwA]; simp
  have hsB : wB.heap.size = w.heap.size + 2 := by rw [hwB]; simp; omega
  have hw1B : w1 = wB.alloc (.cells #[.bool false] 4) := by rw [hw1, hwB, hwA]
  have bB2 : Below wB.heap.size wB w2 := by rw [hw2, hw1B]; exact ((Below.refl _ _).alloc (Nat.le_refl _) _).alloc (by simp) _
  have bA2 : Below wA.heap.size wA w2 := ((Below.refl _ _).alloc (Nat.le_refl _) (.cells #[.slice a2 n2 c2] 25)).trans (hwB ▸ bB2.mono (by omega))
  have x0 : w2.cell? ⟨w.heap.size, 0, none⟩ = some (.slice a1 n1 c1) := (bA2.cell (p := ⟨w.heap.size, 0, none⟩) (by show w.heap.size < _; omega)).trans (by rw [hwA]; simp)
  have x1 : w2.cell? ⟨w.heap.size + 1, 0, none⟩ = some (.slice a2 n2 c2) := (bB2.cell (p := ⟨w.heap.size + 1, 0, none⟩) (by show w.heap.size + 1 < _; omega)).trans (by rw [hwB, ← hsA]; simp)
  have x2 : w2.cell? ⟨w.heap.size + 2, 0, none⟩ = some (.bool false) := (hB12.cell (p := ⟨w.heap.size + 2, 0, none⟩) (by show w.heap.size + 2 < _; omega)).trans (by rw [hw1B, ← hsB]; simp)
  have x3 : w2.frozen? ⟨w.heap.size + 2, 0, none⟩ = false := (hB12.frozen (p := ⟨w.heap.size + 2, 0, none⟩) (by show w.heap.size + 2 < _; omega)).trans (by rw [hw1B, ← hsB]; simp)
  have x4 : w2.cell? ⟨w1.heap.size, 0, none⟩ = some (.bool false) := by rw [hw2]; simp
  have x5 : w2.frozen? ⟨w1.heap.size, 0, none⟩ = false := by rw [hw2]; simp
  have hmk := vequal_make L1 L2 S1 S2 n1 n2 c1 c2 w.heap.size (w.heap.size + 1) (w.heap.size + 2) a1 a2 hn1 hn2 hn12 hn22 hsame hok1 hok2 w2 (hV1.below hB2) (hV2.below hB2) x0 x1 x2 x3 (by omega) (by omega)
  rw [← hr] at hmk ⊢
  have hsf := safe_any 41 #[.pointer (some ⟨w.heap.size, 0, none⟩), .pointer (some ⟨w.heap.size + 1, 0, none⟩), .pointer (some ⟨w.heap.size + 2, 0, none⟩)] (fun w => by kernel_rfl) w.heap.size w1 w2 hw2 (by omega)
    (fun W => W.cell? ⟨w.heap.size + 2, 0, none⟩ = some (.bool r) ∧ W.frozen? ⟨w.heap.size + 2, 0, none⟩ = false)
    (hmk.mono (by
      rintro e w' ⟨rfl, W, hBW, rfl⟩
      have y1 : W.cell? ⟨w.heap.size + 2, 0, none⟩ = some (.bool false) := (hBW.cell (p := ⟨w.heap.size + 2, 0, none⟩) (by show w.heap.size + 2 < _; omega)).trans x2
      have y2 : W.frozen? ⟨w.heap.size + 2, 0, none⟩ = false := (hBW.frozen (p := ⟨w.heap.size + 2, 0, none⟩) (by show w.heap.size + 2 < _; omega)).trans x3
      refine ⟨rfl, (hBW.mono (by omega)).setCell (by show w.heap.size ≤ w.heap.size + 2; omega) _, ?_, ?_, ?_⟩
      · rw [World.cell?_setCell_other]
        · exact (hBW.cell (p := ⟨w1.heap.size, 0, none⟩) (by show w1.heap.size < _; omega)).trans x4
        · intro e; injection e with e _; omega
      · rw [World.frozen?_setCell]
        exact (hBW.frozen (p := ⟨w1.heap.size, 0, none⟩) (by show w1.heap.size < _; omega)).trans x5
      · exact ⟨World.cell?_setCell_same _ _ _ y1, by rw [World.frozen?_setCell]; exact y2⟩))
    (by
      rintro W ⟨h1, h2⟩
      refine ⟨?_, by rw [World.frozen?_setCell]; exact h2⟩
      rw [World.cell?_setCell_other]
      · exact h1
      · intro e; injection e with e _; omega)
  have HW1 := Lib.hid hw1
  have HB1 := Lib.hid hB1
  clear hw1B hwB hsB hwA hsA bA2 bB2 hw1 hw2 hs1 hs2 hB1 hB2 hB12 x0 x1 x2 x3 x4 x5 hmk hn1 hn2 hok1 hok2 hsame hV1 hV2 hr
  go_enter Tryz.func17, Tryz.ntmps17
  go_wp2_with (rw [← HW1.out]; go_at_call 29; (with_reducible refine hsf.mono ?_); rintro e w3 ⟨rfl, hb3, z1, z2⟩)
  have z3 : (w3.setCell ⟨w.heap.size + 2, 0, none⟩ (.bool r)).cell? ⟨w.heap.size + 2, 0, none⟩ = some (.bool r) := World.cell?_setCell_same _ _ _ z1
  refine bodyPost_ret (v := .bool r) (by simp [results, Tryz.results17, go_sem, z3]) rfl ?_
  exact ⟨rfl, (HB1.out.trans hb3).setCell (by show w.heap.size ≤ w.heap.size + 2; omega) _⟩

end Go.Proofs.YtdeejmkjhmpabaaGreatDoor

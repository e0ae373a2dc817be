/-
  impl.VectorSorted.
-/
import Derived.Test.YtdeejmkjhmpabaaGreatDoorVc
namespace Go.Proofs.YtdeejmkjhmpabaaGreatDoor
open Go.RowKit Go.Lib Go.Maps Go.WideMaps

/-- The row that has been handed out, above B. -/
structure OW (B ob : Nat) (Lp : List Pt) (n : Nat) (S : Nat → PtM) (v : Value) (W : World) : Prop where
  row : W.ownsRow B 41 3 v n (smpRow Lp S n)
  cell : W.cell? ⟨ob, 0, none⟩ = some v
  frz : W.frozen? ⟨ob, 0, none⟩ = false
  lab : ∀ j x, j < n → Lp[j]? = some x → ∃ g, (S j).1 = some ⟨g, 0, none⟩ ∧ LabsAt W (some ⟨g, 0, none⟩) x.1 ∧ BvOf x.2.1 (S j).2.2 ∧ B ≤ g

theorem OW.grown {B ob n fl : Nat} {Lp : List Pt} {S : Nat → PtM} {v : Value} {W W' : World} (h : OW B ob Lp n S v W) (hfl : fl < B) (hg : W.grownBy W' (some fl)) (hc : W'.cell? ⟨ob, 0, none⟩ = some v) (hf : W'.frozen? ⟨ob, 0, none⟩ = false) : OW B ob Lp n S v W' := by
  refine ⟨h.row.kept hg ?_, hc, hf, fun j x hj hx => ?_⟩
  · cases hob : v.ownBlock with
    | none => exact Or.inl rfl
    | some N => exact Or.inr (fun e => by cases e; have := (h.row.lt fl hob).1; omega)
  · obtain ⟨g, e1, e2, e3, e4⟩ := h.lab j x hj hx
    exact ⟨g, e1, labs_grown e2 hg (fun _ e => by cases e; omega), e3, e4⟩

theorem smpRow_get (L : List Pt) (S : Nat → PtM) : ∀ (n i : Nat) (x : Pt), i < n → L[i]? = some x → n ≤ L.length →
    (smpRow L S n)[i * 3]? = some (.slice (S i).1 x.1.length (S i).2.1) ∧ (smpRow L S n)[i * 3 + 1]? = some (.int .u64 ((S i).2.2 : Nat)) ∧ (smpRow L S n)[i * 3 + 2]? = some (.int .i64 x.2.2) := by
  intro n
  induction n with
  | zero => intro i x h; omega
  | succ n ih =>
    intro i x hi hx hn
    have hy : L[n]? = some (L[n]'(by omega)) := List.getElem?_eq_getElem _
    rw [smpRow_succ L S n _ hy]
    have hl := smpRow_len L S n
    by_cases hin : i = n
    · subst hin
      rw [hx] at hy
      have e : L[i]'(by omega) = x := (Option.some.inj hy).symm
      rw [e]
      refine ⟨?_, ?_, ?_⟩
      · rw [List.getElem?_append_right (by omega), hl, Nat.sub_self]; rfl
      · rw [List.getElem?_append_right (by omega), hl, Nat.add_sub_cancel_left]; rfl
      · rw [List.getElem?_append_right (by omega), hl, Nat.add_sub_cancel_left]; rfl
    · obtain ⟨h1, h2, h3⟩ := ih i x (by omega) hx (by omega)
      exact ⟨by rw [List.getElem?_append_left (by omega)]; exact h1, by rw [List.getElem?_append_left (by omega)]; exact h2, by rw [List.getElem?_append_left (by omega)]; exact h3⟩

/-- A row of samples of one's own is such as the laws hand them. -/
theorem OW.vecIn {B ob n : Nat} {Lp : List Pt} {S : Nat → PtM} {v : Value} {W : World} (hn : Lp.length = n) (h : OW B ob Lp n S v W) : ∃ ad cp, v = .slice ad n cp ∧ VecIn W ad Lp S ∧ ∀ j, j < n → (S j).1 ≠ none := by
  have hr := h.row
  have hnn : ∀ j, j < n → (S j).1 ≠ none := fun j hj e => by
    obtain ⟨g, e1, _⟩ := h.lab j _ hj (List.getElem?_eq_getElem (show j < Lp.length by omega))
    rw [e] at e1; cases e1
  rcases h.row.2 with ⟨hnil, h0⟩ | ⟨g, cap, cur, hv, _⟩
  · subst h0
    exact ⟨none, 0, hnil, fun i x hx => by have := (List.getElem?_eq_some_iff.1 hx).1; omega, hnn⟩
  · refine ⟨_, _, hv, fun i x hx => ?_, hnn⟩
    have hi : i < n := by have := (List.getElem?_eq_some_iff.1 hx).1; omega
    rw [hv] at hr
    obtain ⟨c1, c2, c3⟩ := smpRow_get Lp S n i x hi hx (by omega)
    obtain ⟨g2, e1, e2, e3, _⟩ := h.lab i x hi hx
    refine ⟨g, 0, rfl, ?_, ?_, ?_, by rw [e1]; exact e2, e3⟩
    · rw [Nat.zero_add, hr.cellAt _ (by omega), c1]
    · rw [Nat.zero_add, hr.cellAt _ (by omega), c2]
    · rw [Nat.zero_add, hr.cellAt _ (by omega), c3]

theorem arrV_len (L : List Pt) (n : Nat) (p : Nat → Nat) : (arrV L n p).length = n := by simp [arrV, lst]

set_option maxRecDepth 100000 in
set_option maxHeartbeats 1600000 in
/-- impl.VectorSorted. -/
theorem vsorted_any (L : List Pt) (S0 : Nat → PtM) (n c : Nat) (a : Option Addr) (hn : L.length = n) (hn12 : n ≤ 12) (hok : ∀ x ∈ L, PtOk x) (hO : Ord2 n (ltV L)) (hdif : ∀ i j, i < n → j < n → i ≠ j → (L[i]!).1 ≠ (L[j]!).1) (w : World) (hV : VecIn w a L S0) :
    Calls Tryz.prog 14 #[.slice a n c] w fun e w' => ∃ p S ad cp, Arr n p ∧ Srt (ltV L) n p ∧ e = .returned (.slice ad n cp) ∧ VecIn w' ad (arrV L n p) S ∧ (∀ j, j < n → (S j).1 ≠ none) ∧ Below w.heap.size w w' := by
  have hmf : ∀ (fn : Fn) (first cap : Array Value) (w : World), (Instr.makeFunc fn first cap).run Tryz.prog w = .ok (.func fn first cap) w := fun _ _ _ _ => rfl
  obtain ⟨wA, hwA⟩ : ∃ wA, wA = w.alloc (.cells #[.slice a n c] 25) := ⟨_, rfl⟩
  obtain ⟨w1, hw1⟩ : ∃ w1, w1 = (w.alloc (.cells #[.slice a n c] 25)).alloc (.cells #[.slice none 0 0] 25) := ⟨_, rfl⟩
  obtain ⟨w2, hw2⟩ : ∃ w2, w2 = w1.alloc (.cells #[.bool false] 4) := ⟨_, rfl⟩
  have hsA : wA.heap.size = w.heap.size + 1 := by rw [hwA]; simp
  have hs1 : w1.heap.size = w.heap.size + 2 := by rw [hw1]; simp
  have hs2 : w2.heap.size = w.heap.size + 3 := by rw [hw2]; simp; omega
  have hw1A : w1 = wA.alloc (.cells #[.slice none 0 0] 25) := by rw [hw1, hwA]
  have hBA : Below w.heap.size w wA := by rw [hwA]; exact (Below.refl _ _).alloc (Nat.le_refl _) _
  have hB1 : Below w.heap.size w w1 := by rw [hw1A]; exact hBA.alloc (by omega) _
  have hB2 : Below w.heap.size w w2 := by rw [hw2]; exact hB1.alloc (by omega) _
  have hB12 : Below w1.heap.size w1 w2 := by rw [hw2]; exact (Below.refl _ _).alloc (Nat.le_refl _) _
  have bA2 : Below wA.heap.size wA w2 := by rw [hw2, hw1A]; exact ((Below.refl _ _).alloc (Nat.le_refl _) _).alloc (by simp) _
  have x0 : w2.cell? ⟨w.heap.size, 0, none⟩ = some (.slice a n c) := (bA2.cell (p := ⟨w.heap.size, 0, none⟩) (by show w.heap.size < _; omega)).trans (by rw [hwA]; simp)
  have x1 : w2.cell? ⟨w.heap.size + 1, 0, none⟩ = some (.slice none 0 0) := (hB12.cell (p := ⟨w.heap.size + 1, 0, none⟩) (by show w.heap.size + 1 < _; omega)).trans (by rw [hw1A, ← hsA]; simp)
  have x3 : w2.frozen? ⟨w.heap.size + 1, 0, none⟩ = false := (hB12.frozen (p := ⟨w.heap.size + 1, 0, none⟩) (by show w.heap.size + 1 < _; omega)).trans (by rw [hw1A, ← hsA]; simp)
  have x4 : w2.cell? ⟨w1.heap.size, 0, none⟩ = some (.bool false) := by rw [hw2]; simp
  have x5 : w2.frozen? ⟨w1.heap.size, 0, none⟩ = false := by rw [hw2]; simp
  have hmk := vsort_make L S0 n c w.heap.size (w.heap.size + 1) a hn hn12 hok hO hdif w2 (hV.below hB2) x0 x1 x3
  have hsf := safe_any 34 #[.pointer (some ⟨w.heap.size, 0, none⟩), .pointer (some ⟨w.heap.size + 1, 0, none⟩)] (fun w => by kernel_rfl) w.heap.size w1 w2 hw2 (by omega)
    (fun W => ∃ p S v B, w2.heap.size ≤ B ∧ Arr n p ∧ Srt (ltV L) n p ∧ OW B (w.heap.size + 1) (arrV L n p) n S v W)
    (hmk.mono (by
      rintro e w' ⟨rfl, p, S, v, w4, hA, hS, hB4, hov⟩
      have hsz := hB4.size
      refine ⟨rfl, (hB4.mono (by omega)).grown hov.gr (by omega) (fun k hk => by cases hk; omega), ?_, ?_, p, S, v, w4.heap.size, hsz, hA, hS, hov.row, hov.cell, hov.frz, hov.lab⟩
      · exact (grown_cell hov.gr (p := ⟨w1.heap.size, 0, none⟩) (by show w1.heap.size < _; omega) (fun e => by have := Option.some.inj e; dsimp only at this; omega)).1.trans ((hB4.cell (p := ⟨w1.heap.size, 0, none⟩) (by show w1.heap.size < _; omega)).trans x4)
      · exact (grown_cell hov.gr (p := ⟨w1.heap.size, 0, none⟩) (by show w1.heap.size < _; omega) (fun e => by have := Option.some.inj e; dsimp only at this; omega)).2.trans ((hB4.frozen (p := ⟨w1.heap.size, 0, none⟩) (by show w1.heap.size < _; omega)).trans x5)))
    (by
      rintro W ⟨p, S, v, B, hsz, hA, hS, hw⟩
      refine ⟨p, S, v, B, hsz, hA, hS, hw.grown (fl := w1.heap.size) (by omega) (setCell_grown W ⟨w1.heap.size, 0, none⟩ _) ?_ (by rw [World.frozen?_setCell]; exact hw.frz)⟩
      rw [World.cell?_setCell_other]
      · exact hw.cell
      · intro e; injection e with e _; omega)
  have HW1 := Lib.hid hw1
  have HB1 := Lib.hid hB1
  have HS2 := Lib.hid hs2
  clear hwA hsA hw1A hBA bA2 hw1 hw2 hs1 hs2 hB1 hB2 hB12 x0 x1 x3 x4 x5 hmk hn hok hO hdif hV
  go_enter Tryz.func14, Tryz.ntmps14
  go_wp2_with (rw [← HW1.out]; go_at_call 29; (with_reducible refine hsf.mono ?_); rintro e w3 ⟨rfl, hb3, p, S, v, B, hsz, hA, hS, hw⟩; obtain ⟨ad, cp, hv, hvi, _⟩ := hw.vecIn (arrV_len L n p); subst hv; have z1 := hw.cell; have z2 := hw.frz)
  have z3 : (w3.setCell ⟨w.heap.size + 1, 0, none⟩ (.slice ad n cp)).cell? ⟨w.heap.size + 1, 0, none⟩ = some (.slice ad n cp) := World.cell?_setCell_same _ _ _ z1
  have hw' := hw.grown (fl := w.heap.size + 1) (by have := HS2.out; omega) (setCell_grown w3 ⟨w.heap.size + 1, 0, none⟩ (.slice ad n cp)) z3 (by rw [World.frozen?_setCell]; exact z2)
  obtain ⟨ad', cp', hv', hvi', hnn⟩ := hw'.vecIn (arrV_len L n p)
  cases hv'
  refine bodyPost_ret (v := .slice ad n cp) (by simp [results, Tryz.results14, go_sem, z3]) rfl ?_
  exact ⟨p, S, ad, cp, hA, hS, rfl, hvi', hnn, (HB1.out.trans hb3).setCell (by show w.heap.size ≤ w.heap.size + 1; omega) _⟩

end Go.Proofs.YtdeejmkjhmpabaaGreatDoor

/-
  The arguments, read: points and whole numbers in memory.
-/
import Derived.Test.YtdeejmkjhmpabaaGreatDoorX2
import Derived.Deep.Slices
import Derived.Deep.Fields
import Derived.ChangeSame
import Derived.Lib.LaidU8
namespace Go.Proofs.YtdeejmkjhmpabaaGreatDoor
open Go.RowKit Go.Lib Go.ChangeShapes Go.WideShapes Go.Deep

theorem list_two {α : Type} : ∀ l : List α, l.length = 2 → ∃ a b, l = [a, b]
  | [a, b], _ => ⟨a, b, rfl⟩
theorem list_three {α : Type} : ∀ l : List α, l.length = 3 → ∃ a b c, l = [a, b, c]
  | [a, b, c], _ => ⟨a, b, c, rfl⟩

section
variable {H : Type} {enc : TypeId × Value → H} {w : World} {base : Nat} {spare : Nat → Bool} {held : Bool}

/-- A slice that reads: its elements, each by what its cells are. -/
theorem elems_of {t e : TypeId} {k fuel : Nat} {cs : List Value} {x : DataW H × List MemPlace} (ht : Tryz.prog.underlying t = some (.slice e)) (hk : Tryz.prog.cellsOf e = k) (hk0 : 0 < k) {α : Type} (z : α) (R : List Value → α → Prop)
    (hR : ∀ (fuel : Nat) (cs : List Value) (y : DataW H × List MemPlace), DataW.trod enc Tryz.prog w base spare held fuel e cs = some y → ∃ v, R cs v) (hne : ∀ v cs, R cs v → cs ≠ []) (h : DataW.trod enc Tryz.prog w base spare held fuel t cs = some x) :
    ∃ (la : Option Addr) (l : List α) (lc : Nat), cs = [.slice la l.length lc] ∧ (la = none → lc = 0) ∧ l.length ≤ maxLen ∧
      ∀ i v, l[i]? = some v → ∃ b o cs', la = some ⟨b, o, none⟩ ∧ R cs' v ∧ ∀ j, j < k → w.cell? ⟨b, o + i * k + j, none⟩ = cs'[j]? := by
  rcases open_slice ht h with ⟨rfl, _⟩ | ⟨a, len, cap, m, n, D, Pl, rfl, _, hl, hm, hmm, _, hi⟩
  · exact ⟨none, [], 0, rfl, fun _ => rfl, by simp, fun i v hv => by simp at hv⟩
  · have hlm : len ≤ m := by rw [hmm]; split <;> omega
    have hex : ∀ i, ∃ v : α, i < len → ∃ cs', R cs' v ∧ ∀ j, j < k → w.cell? ((a.add (i * k)).add j) = cs'[j]? := fun i => by
      by_cases hil : i < len
      · obtain ⟨cs', hc, htr⟩ := hi i (by omega)
        rw [hk] at hc
        obtain ⟨_, _, hat⟩ := World.cells?_some hc
        obtain ⟨v, hv⟩ := hR _ _ _ htr
        exact ⟨v, fun _ => ⟨cs', hv, hat⟩⟩
      · exact ⟨z, fun h => absurd h hil⟩
    obtain ⟨f, hf⟩ := Classical.axiomOfChoice hex
    have hll : ((List.range len).map f).length = len := by simp
    refine ⟨some a, (List.range len).map f, cap, by rw [hll], (fun e => by cases e), by rw [hll]; omega, fun i v hv => ?_⟩
    have hil : i < len := by have := (List.getElem?_eq_some_iff.1 hv).1; rwa [hll] at this
    rw [List.getElem?_map, List.getElem?_range hil] at hv
    cases hv
    obtain ⟨cs', h1, h2⟩ := hf i hil
    obtain ⟨cs0, r1, r2⟩ := hf 0 (by omega)
    obtain ⟨b, o, sp⟩ := a
    have hsp : sp = none := by
      have h0 := r2 0 hk0
      rw [Nat.zero_mul] at h0
      cases cs0 with
      | nil => exact absurd rfl (hne _ _ r1)
      | cons v0 r => exact Go.Proofs.cell_spot (w := w) (b := b) (o := o) (v := v0) h0
    subst hsp
    refine ⟨b, o, cs', rfl, h1, fun j hj => ?_⟩
    have := h2 j hj
    rwa [Addr.add_lit, Addr.add_lit] at this

/-- A label. -/
theorem lab_of {fuel : Nat} {cs : List Value} {y : DataW H × List MemPlace} (h : DataW.trod enc Tryz.prog w base spare held fuel 59 cs = some y) : ∃ v : Lab, cs = [.string ⟨v.1.toArray⟩, .string ⟨v.2.toArray⟩] ∧ v.1.length ≤ maxLen := by
  obtain ⟨xs, n, _, _, hc, hl, hf⟩ := DataW.trod_struct Tryz.underlying59 h
  rw [show Tryz.prog.cellsOf 59 = 2 by kernel_rfl] at hc
  obtain ⟨c0, c1, rfl⟩ := list_two cs hc
  · have hl' : xs.length = 2 := hl
    have h0 : DataW.trod enc Tryz.prog w base spare held n 9 (([c0, c1].drop 0).take (Tryz.prog.cellsOf 9)) = some (xs[0]'(by omega)) := (hf 0 _ rfl).trans (List.getElem?_eq_getElem (by omega))
    have h1 : DataW.trod enc Tryz.prog w base spare held n 9 (([c0, c1].drop 1).take (Tryz.prog.cellsOf 9)) = some (xs[1]'(by omega)) := (hf 1 _ rfl).trans (List.getElem?_eq_getElem (by omega))
    have e : Tryz.prog.cellsOf 9 = 1 := by kernel_rfl
    rw [e] at h0 h1
    obtain ⟨s0, e0, _, b0⟩ := DataW.trod_string Tryz.underlying9 h0
    obtain ⟨s1, e1, _, _⟩ := DataW.trod_string Tryz.underlying9 h1
    simp at e0 e1
    subst e0 e1
    exact ⟨(s0.data.toList, s1.data.toList), rfl, by simpa using b0⟩

/-- Labels. -/
theorem labs_of {fuel : Nat} {cs : List Value} {y : DataW H × List MemPlace} (h : DataW.trod enc Tryz.prog w base spare held fuel 33 cs = some y) :
    ∃ (la : Option Addr) (l : List Lab) (lc : Nat), cs = [.slice la l.length lc] ∧ (la = none → lc = 0) ∧ LabsAt w la l ∧ l.length ≤ maxLen ∧ ∀ v ∈ l, v.1.length ≤ maxLen := by
  obtain ⟨la, l, lc, h1, h2, h3, h4⟩ := elems_of Tryz.underlying33 (show Tryz.prog.cellsOf 59 = 2 by kernel_rfl) (by decide) ([], []) (fun cs (v : Lab) => cs = [.string ⟨v.1.toArray⟩, .string ⟨v.2.toArray⟩] ∧ v.1.length ≤ maxLen) (fun _ _ _ h => lab_of h) (fun v cs h => by rw [h.1]; simp) h
  refine ⟨la, l, lc, h1, h2, fun i v hv => ?_, h3, fun v hv => ?_⟩
  · obtain ⟨b, o, cs', ha, ⟨rfl, _⟩, hc⟩ := h4 i v hv
    exact ⟨b, o, ha, hc 0 (by decide), hc 1 (by decide)⟩
  · obtain ⟨i, hi⟩ := List.mem_iff_getElem?.1 hv
    obtain ⟨_, _, _, _, ⟨_, hb⟩, _⟩ := h4 i v hi
    exact hb

/-- A point. -/
def PtCells (w : World) (cs : List Value) (p : Pt) : Prop :=
  ∃ la lc, cs = [.slice la p.1.length lc, .int .i64 p.2.1, .int .i64 p.2.2] ∧ (la = none → lc = 0) ∧ LabsAt w la p.1 ∧ p.1.length ≤ maxLen ∧ ∀ v ∈ p.1, v.1.length ≤ maxLen

theorem pt_of {fuel : Nat} {cs : List Value} {y : DataW H × List MemPlace} (h : DataW.trod enc Tryz.prog w base spare held fuel 35 cs = some y) : ∃ p, PtCells w cs p := by
  obtain ⟨xs, n, _, _, hc, hl, hf⟩ := DataW.trod_struct Tryz.underlying35 h
  rw [show Tryz.prog.cellsOf 35 = 3 by kernel_rfl] at hc
  obtain ⟨c0, c1, c2, rfl⟩ := list_three cs hc
  · have hl' : xs.length = 3 := hl
    have h0 : DataW.trod enc Tryz.prog w base spare held n 33 (([c0, c1, c2].drop 0).take (Tryz.prog.cellsOf 33)) = some (xs[0]'(by omega)) := (hf 0 _ rfl).trans (List.getElem?_eq_getElem (by omega))
    have h1 : DataW.trod enc Tryz.prog w base spare held n 2 (([c0, c1, c2].drop 1).take (Tryz.prog.cellsOf 2)) = some (xs[1]'(by omega)) := (hf 1 _ rfl).trans (List.getElem?_eq_getElem (by omega))
    have h2 : DataW.trod enc Tryz.prog w base spare held n 2 (([c0, c1, c2].drop 2).take (Tryz.prog.cellsOf 2)) = some (xs[2]'(by omega)) := (hf 2 _ rfl).trans (List.getElem?_eq_getElem (by omega))
    rw [show Tryz.prog.cellsOf 33 = 1 by kernel_rfl] at h0
    rw [show Tryz.prog.cellsOf 2 = 1 by kernel_rfl] at h1 h2
    obtain ⟨la, l, lc, e0, q1, q2, q3, q4⟩ := labs_of h0
    obtain ⟨e8, e1, _, _⟩ := DataW.trod_int Tryz.underlying2 h1
    obtain ⟨ms, e2, _, _⟩ := DataW.trod_int Tryz.underlying2 h2
    simp at e0 e1 e2
    subst e0 e1 e2
    exact ⟨(l, e8, ms), la, lc, rfl, q1, q2, q3, q4⟩

/-- Points. -/
theorem pts_of {fuel : Nat} {cs : List Value} {y : DataW H × List MemPlace} (h : DataW.trod enc Tryz.prog w base spare held fuel 22 cs = some y) :
    ∃ (a : Option Addr) (L : List Pt) (c : Nat), cs = [.slice a L.length c] ∧ (a = none → c = 0) ∧ L.length ≤ maxLen ∧ PtsAt w a L ∧ ∀ x ∈ L, x.1.length ≤ maxLen ∧ ∀ y ∈ x.1, y.1.length ≤ maxLen := by
  obtain ⟨a, L, c, h1, h2, h3, h4⟩ := elems_of Tryz.underlying22 (show Tryz.prog.cellsOf 35 = 3 by kernel_rfl) (by decide) ([], 0, 0) (PtCells w) (fun _ _ _ h => pt_of h) (fun v cs h => by obtain ⟨_, _, e, _⟩ := h; rw [e]; simp) h
  refine ⟨a, L, c, h1, h2, h3, fun i x hx => ?_, fun x hx => ?_⟩
  · obtain ⟨b, o, cs', ha, ⟨la, lc, rfl, q1, q2, _, _⟩, hc⟩ := h4 i x hx
    exact ⟨b, o, la, lc, ha, hc 0 (by decide), hc 1 (by decide), hc 2 (by decide), q2, q1⟩
  · obtain ⟨i, hi⟩ := List.mem_iff_getElem?.1 hx
    obtain ⟨_, _, _, _, ⟨_, _, _, _, _, q3, q4⟩, _⟩ := h4 i x hi
    exact ⟨q3, q4⟩

/-- Whole numbers. -/
theorem nums_of {fuel : Nat} {cs : List Value} {y : DataW H × List MemPlace} (h : DataW.trod enc Tryz.prog w base spare held fuel 23 cs = some y) :
    ∃ (a : Option Addr) (ps : List Int) (c : Nat), cs = [.slice a ps.length c] ∧ ps.length ≤ maxLen ∧ IntsAt w a ps := by
  obtain ⟨a, L, c, h1, _, h3, h4⟩ := elems_of Tryz.underlying23 (show Tryz.prog.cellsOf 2 = 1 by kernel_rfl) (by decide) (0 : Int) (fun cs (v : Int) => cs = [.int .i64 v]) (fun _ _ _ h => by
    obtain ⟨n, e, _, _⟩ := DataW.trod_int Tryz.underlying2 h
    exact ⟨n, e⟩) (fun v cs h => by rw [h]; simp) h
  refine ⟨a, L, c, h1, h3, fun i x hx => ?_⟩
  obtain ⟨b, o, cs', ha, rfl, hc⟩ := h4 i x hx
  have := hc 0 (by decide)
  rw [Nat.mul_one, Nat.add_zero] at this
  exact ⟨b, o, ha, this⟩

end
end Go.Proofs.YtdeejmkjhmpabaaGreatDoor

/-
  FnVector's parts, as laws.
-/
import Derived.Test.YtdeejmkjhmpabaaGreatDoorVd
import Derived.Test.YtdeejmkjhmpabaaGreatDoorV9
import Derived.Test.YtdeejmkjhmpabaaGreatDoorV5
import Derived.Test.YtdeejmkjhmpabaaGreatDoorDa
import Derived.Test.YtdeejmkjhmpabaaGreatDoorX2
namespace Go.Proofs.YtdeejmkjhmpabaaGreatDoor
open Go.RowKit Go.Lib Go.Maps Go.WideMaps

theorem get_bang (L : List Pt) (k : Nat) (hk : k < L.length) : L[k]? = some (L[k]!) := by
  rw [List.getElem?_eq_getElem hk]; simp [hk]

/-- What points hands is such as the samples' functions take. -/
theorem pts_vecIn {w w2 : World} {a : Option Addr} {L : List Pt} {S : Nat → PtM} {n : Nat} {v : Value} (hn : L.length = n) (hF : PtsFix w2 a L S) (hrow : w2.ownsRow w.heap.size 41 3 v n (smpRow L S n)) :
    ∃ ad cp, v = .slice ad n cp ∧ n ≤ cp ∧ cp ≤ maxLen ∧ (ad = none → n = 0 ∧ cp = 0) ∧ VecIn w2 ad L S := by
  obtain ⟨ad, cp, hv, h1, h2, hnone, hsome⟩ := ownsRow_form hrow
  refine ⟨ad, cp, hv, h1, h2, hnone, fun i x hx => ?_⟩
  have hi : i < n := by have := (List.getElem?_eq_some_iff.1 hx).1; omega
  cases had : ad with
  | none => have := (hnone had).1; omega
  | some p =>
    obtain ⟨hp, _, _⟩ := hsome p had
    rw [hv, had, hp] at hrow
    obtain ⟨c1, c2, c3⟩ := smpRow_get L S n i x hi hx (by omega)
    obtain ⟨_, k1, _, k3⟩ := hF i x hx
    refine ⟨p.block, 0, by rw [← hp], ?_, ?_, ?_, k1, k3⟩
    · rw [Nat.zero_add, hrow.cellAt _ (by omega), c1]
    · rw [Nat.zero_add, hrow.cellAt _ (by omega), c2]
    · rw [Nat.zero_add, hrow.cellAt _ (by omega), c3]

theorem AllOk.all {L : List Pt} {n : Nat} (hn : L.length = n) (h : AllOk L n) : ∀ x ∈ L, PtOk x := fun x hx => by
  obtain ⟨j, hj⟩ := List.mem_iff_getElem?.1 hx
  exact h.ok j x (by have := (List.getElem?_eq_some_iff.1 hj).1; omega) hj

theorem AllOk.neq {L : List Pt} {n : Nat} (hn : L.length = n) (h : AllOk L n) : ∀ i j, i < n → j < n → i ≠ j → (L[i]!).1 ≠ (L[j]!).1 := fun i j hi hj hij => by
  have h1 := get_bang L i (by omega)
  have h2 := get_bang L j (by omega)
  rcases Nat.lt_or_gt_of_ne hij with hl | hl
  · exact fun e => h.dif i j _ _ hl hj h1 h2 e.symm
  · exact h.dif j i _ _ hl hi h2 h1

theorem AllOk.ordV {L : List Pt} {n : Nat} (hn : L.length = n) (h : AllOk L n) : Ord2 n (ltV L) where
  irr a := befT_irrefl _
  trans a b c h1 h2 := befT_trans h1 h2
  total a b ha hb hab := befT_total (h.ok a _ ha (get_bang L a (by omega))).2.1.2 (h.ok b _ hb (get_bang L b (by omega))).2.1.2 (h.neq hn a b ha hb hab)

/-- The text of the first samples. -/
theorem lines_take (L : List Pt) (j : Nat) (x : Pt) (h : L[j]? = some x) : Lib.join ((linesV L).take (j + 1)) [10] = (if j = 0 then [] else Lib.join ((linesV L).take j) [10] ++ [10]) ++ smT x :=
  join_take (linesV L) j (smT x) (by unfold linesV; rw [List.getElem?_map, h]; rfl)

theorem lines_len (L : List Pt) (n : Nat) (_hn : L.length = n) (hok : ∀ x ∈ L, PtOk x) (j : Nat) (hj : j ≤ 12) : (Lib.join ((linesV L).take j) [10]).length ≤ 700000 := by
  have h1 := join_len ((linesV L).take j) [10] 50100 (fun z hz => by
    obtain ⟨r, hr, rfl⟩ := List.mem_map.1 (List.mem_of_mem_take hz)
    exact smT_len (hok r hr))
  have h2 : ((linesV L).take j).length * (50100 + [(10 : UInt8)].length) ≤ 12 * 50101 := Nat.mul_le_mul (by rw [List.length_take]; omega) (by simp)
  omega

/-- The times, one of them a millisecond on. -/
theorem times_turned (L : List Pt) (k : Nat) (x : Pt) (hx : L[k]? = some x) : timesV L ≠ timesV (L.set k (x.1, x.2.1, x.2.2 + 1)) := by
  intro e
  have hk := (List.getElem?_eq_some_iff.1 hx).1
  have h1 : (timesV L)[k]? = some x.2.2 := by unfold timesV; rw [List.getElem?_map, hx]; rfl
  have h2 : (timesV (L.set k (x.1, x.2.1, x.2.2 + 1)))[k]? = some (x.2.2 + 1) := by unfold timesV; rw [List.getElem?_map, List.getElem?_set_self hk]; rfl
  rw [e, h2] at h1
  have := Option.some.inj h1
  omega

theorem times_tail (L : List Pt) (hL : L ≠ []) : timesV L ≠ timesV (L.drop 1) := by
  intro e
  have h := congrArg List.length e
  simp only [timesV, List.length_map, List.length_drop] at h
  have : 0 < L.length := List.length_pos_iff.2 hL
  omega

end Go.Proofs.YtdeejmkjhmpabaaGreatDoor

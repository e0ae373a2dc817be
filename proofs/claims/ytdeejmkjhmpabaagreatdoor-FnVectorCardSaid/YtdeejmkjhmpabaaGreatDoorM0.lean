/-
  Sets of labels: a list in memory, and the map that the package makes of it.
-/
import Derived.Test.YtdeejmkjhmpabaaGreatDoorGa
import Derived.Maps.RangeWalk
import Derived.Maps.StringElems
import Derived.Maps.OwnSet
import Derived.Maps.Views
import Derived.Maps.OwnOps
import Derived.StringKeys
namespace Go.Proofs.YtdeejmkjhmpabaaGreatDoor
open Go.RowKit Go.Lib Go.Maps Go.WideMaps

abbrev Lab := List UInt8 × List UInt8

/-- The slice a, n long, holds the labels l. -/
def LabsAt (w : World) (a : Option Addr) (l : List Lab) : Prop :=
  ∀ i x, l[i]? = some x → ∃ b o, a = some ⟨b, o, none⟩ ∧ w.cell? ⟨b, o + i * 2, none⟩ = some (str x.1) ∧ w.cell? ⟨b, o + i * 2 + 1, none⟩ = some (str x.2)

theorem LabsAt.below {w w' : World} {a : Option Addr} {l : List Lab} (h : LabsAt w a l) (hb : Below w.heap.size w w') : LabsAt w' a l := by
  intro i x hx
  obtain ⟨b, o, ha, h1, h2⟩ := h i x hx
  have hlt : b < w.heap.size := World.block_lt_of_cell? w _ h1
  exact ⟨b, o, ha, (hb.cell (p := ⟨b, o + i * 2, none⟩) hlt).trans h1, (hb.cell (p := ⟨b, o + i * 2 + 1, none⟩) hlt).trans h2⟩

/-- The map of labels, as a datum. -/
def LabMap (l : List Lab) : DataW Unit := l.foldl (fun D x => D.put (.string x.1) (.lit (.string x.2))) (.map [])

theorem labMap_snoc (l : List Lab) (x : Lab) : LabMap (l ++ [x]) = (LabMap l).put (.string x.1) (.lit (.string x.2)) := by simp [LabMap, List.foldl_append]

def Names (l : List Lab) : Prop := (l.map Prod.fst).Nodup

theorem keyLit (k : List UInt8) : WideAt.IsKeyLit (.string k) := trivial

theorem snocInd {α : Type} {p : List α → Prop} (h0 : p []) (h1 : ∀ l x, p l → p (l ++ [x])) (l : List α) : p l := by
  have : ∀ r : List α, p r.reverse := fun r => by
    induction r with
    | nil => exact h0
    | cons x r ih => rw [List.reverse_cons]; exact h1 _ x ih
  have h := this l.reverse
  rwa [List.reverse_reverse] at h

theorem labMap_tidy (l : List Lab) : Tidy (LabMap l) := by
  induction l using snocInd with
  | h0 => exact tidy_empty
  | h1 l x ih => rw [labMap_snoc]; exact ih.put (keyLit _) _

theorem lit_ne {a b : List UInt8} (h : a ≠ b) : (Lit.string a) ≠ .string b := fun e => h (by cases e; rfl)

theorem labMap_has (l : List Lab) (k : List UInt8) : has (LabMap l) (.string k) = l.any (fun x => x.1 == k) := by
  induction l using snocInd with
  | h0 => rfl
  | h1 l x ih =>
    rw [labMap_snoc, List.any_append, List.any_cons, List.any_nil, Bool.or_false]
    by_cases h : k = x.1
    · subst h
      rw [has_put_same (labMap_tidy l).isMap (keyLit _)]
      simp
    · rw [has_put_other (lit_ne h), ih]
      have : (x.1 == k) = false := by simpa using fun e => h e.symm
      rw [this, Bool.or_false]

theorem names_snoc {l : List Lab} {x : Lab} (h : Names (l ++ [x])) : Names l ∧ ∀ y ∈ l, y.1 ≠ x.1 := by
  unfold Names at h ⊢
  rw [List.map_append, List.nodup_append] at h
  obtain ⟨h1, _, h3⟩ := h
  exact ⟨h1, fun y hy => h3 y.1 (List.mem_map.2 ⟨y, hy, rfl⟩) x.1 (by simp)⟩

theorem labMap_at (l : List Lab) (z : DataW Unit) : Names l → ∀ x ∈ l, (LabMap l).atKey (.string x.1) z = .lit (.string x.2) := by
  induction l using snocInd with
  | h0 => intro _ x hx; cases hx
  | h1 l y ih =>
    intro hn x hx
    obtain ⟨h1, h2⟩ := names_snoc hn
    rw [labMap_snoc]
    rcases List.mem_append.1 hx with hx | hx
    · rw [atKey_put_other (lit_ne (h2 x hx)), ih h1 x hx]
    · have : x = y := by simpa using hx
      subst this
      rw [atKey_put_same (labMap_tidy l).isMap (keyLit _)]

theorem labMap_size (l : List Lab) : Names l → size (LabMap l) = l.length := by
  induction l using snocInd with
  | h0 => intro _; rfl
  | h1 l y ih =>
    intro hn
    obtain ⟨h1, h2⟩ := names_snoc hn
    rw [labMap_snoc, size_put (labMap_tidy l), labMap_has, ih h1]
    have : l.any (fun x => x.1 == y.1) = false := by
      rw [List.any_eq_false]
      intro x hx
      simpa using h2 x hx
    rw [this]
    simp

/-- Block b is a map of the labels l. -/
def MapAt (w : World) (b : Nat) (l : List Lab) : Prop := w.ownsMap Tryz.prog 111 (plainElem Tryz.prog 110) b l.length (LabMap l)

theorem MapAt.below {w w' : World} {b : Nat} {l : List Lab} (h : MapAt w b l) (hb : Below w.heap.size w w') : MapAt w' b l := by
  have hlt := h.lt
  obtain ⟨es, clock, h1, h2⟩ := h
  exact ⟨es, clock, (hb.block b hlt).trans h1, h2⟩

theorem keyed111 : Maps.Keyed Tryz.prog 111 := Maps.string_keyed Tryz.underlying111

theorem key_str (k : List UInt8) (hk : k.length ≤ 1000) : keyOf Tryz.prog 111 (.string ⟨k.toArray⟩) = some (.string k) := by
  have := keyOf_string_mk (P := Tryz.prog) (k := 111) Tryz.underlying111 (s := ⟨k.toArray⟩) (by show k.toArray.size ≤ _; unfold maxLen; simp; omega)
  simpa using this

theorem elem_str (v : List UInt8) (hv : v.length ≤ 1000) : plainElem (H := Unit) Tryz.prog 110 (.string ⟨v.toArray⟩) = some (.lit (.string v), []) := by
  have := plainElem_string (H := Unit) (P := Tryz.prog) (e := 110) Tryz.underlying110 (s := ⟨v.toArray⟩) (by show v.toArray.size ≤ _; unfold maxLen; simp; omega)
  simpa using this

/-- Names and values of at most 300 bytes, at most ten. -/
def Few (l : List Lab) : Prop := l.length ≤ 10 ∧ ∀ x ∈ l, x.1.length ≤ 300 ∧ x.2.length ≤ 300

theorem take_snoc' {α : Type} (l : List α) (k : Nat) (x : α) (h : l[k]? = some x) : l.take (k + 1) = l.take k ++ [x] := by
  rw [List.take_add_one, h]; rfl

set_option maxRecDepth 100000 in
set_option maxHeartbeats 1000000 in
/-- impl.set: the map of the labels. -/
theorem set_any (l : List Lab) (a : Option Addr) (c : Nat) (hF : Few l) (w : World) (hL : LabsAt w a l) :
    Calls Tryz.prog 31 #[.slice a l.length c] w fun e w' => e = .returned (.map (some w.heap.size)) ∧ MapAt w' w.heap.size l ∧ Below w.heap.size w w' := by
  have hmm := @run_makeMap Tryz.prog
  obtain ⟨n, hn⟩ : ∃ n, n = l.length := ⟨_, rfl⟩
  have hn10 : n ≤ 10 := by rw [hn]; exact hF.1
  rw [← hn]
  have HN := Lib.hid hn
  have HF := Lib.hid hF
  clear hn hF
  go_enter Tryz.func31, Tryz.ntmps31
  go_wp2_with fail
  go_loopw [9] (fun v9 wr => ∃ k, k ≤ n ∧ v9 = .int .i64 (k : Int) ∧ Hid (MapAt wr w.heap.size (l.take k)) ∧ Hid (Below w.heap.size w wr)) (fun v9 _ => n - (intOf v9).toNat)
  case atStart => exact ⟨0, Nat.zero_le _, rfl, World.ownsMap_made w Tryz.prog 111 _, (Below.refl _ _).alloc (Nat.le_refl _) _⟩
  case round =>
    obtain ⟨k, hk, rfl, HM, HB⟩ := hrel
    rename World => wr
    by_cases hlt : k < n
    · obtain ⟨x, hx⟩ : ∃ x, l[k]? = some x := ⟨l[k]'(by rw [← HN.out]; exact hlt), List.getElem?_eq_getElem _⟩
      obtain ⟨b, o, rfl, c1, c2⟩ := (hL.below HB.out) k x hx
      have hxl := HF.out.2 x (List.mem_of_getElem? hx)
      have hM := HM.out
      unfold MapAt at hM
      have htl : (l.take k).length = k := by rw [List.length_take, ← HN.out]; omega
      rw [htl] at hM
      have hkey := key_str x.1 (by omega)
      have hval := elem_str x.2 (by omega)
      have HX := Lib.hid hx
      unfold str at c1 c2
      clear hx htl hxl
      go_wp2_with (at_mapUpdate; refine wpList_mapUpdate_own _ rfl _ _ _ 71 rfl 111 110 keyed111 Tryz.underlying71 _ w.heap.size k _ rfl (hM.alloc _) (by unfold maxLen; omega) _ _ (.string x.1) rfl rfl hkey (.lit (.string x.2)) [] hval ?_; intro w1 hown1 hgrow1)
      go_roundw
      case rel =>
        refine ⟨k + 1, by omega, by go_num, ?_, ?_⟩
        · show MapAt _ _ _
          unfold MapAt
          rw [take_snoc' l k x HX.out, labMap_snoc]
          refine hown1.mono ?_
          rw [List.length_append, List.length_take, ← HN.out]; simp; omega
        · exact (HB.out.alloc HB.out.size _).grown hgrow1 (by have := HB.out.size; simp; omega) (fun j hj => by cases hj; exact Nat.le_refl _)
      case measure => simp [intOf]; omega
    · have hkn : k = n := by omega
      subst hkn
      go_wp2
      go_ret
      have hM := HM.out
      rw [HN.out, List.take_length] at hM
      exact ⟨rfl, hM, HB.out⟩

end Go.Proofs.YtdeejmkjhmpabaaGreatDoor

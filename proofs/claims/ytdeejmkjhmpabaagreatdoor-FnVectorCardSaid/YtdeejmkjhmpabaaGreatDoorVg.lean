/-
  FnVector: the copy in an own row, and one of its times a millisecond on.
-/
import Derived.Test.YtdeejmkjhmpabaaGreatDoorVe
namespace Go.Proofs.YtdeejmkjhmpabaaGreatDoor
open Go.RowKit Go.Lib Go.Maps Go.WideMaps

theorem smpRow_one (L : List Pt) (S : Nat → PtM) (n : Nat) : ∀ u ∈ smpRow L S n, u.oneCell' = true := fun u hu => by
  unfold smpRow at hu
  obtain ⟨k, _, hk⟩ := List.mem_flatMap.1 hu
  simp at hk
  rcases hk with rfl | rfl | rfl <;> rfl

/-- The cells of samples in memory, one by one. -/
theorem VecIn.cells {w : World} {b o n : Nat} {L : List Pt} {S : Nat → PtM} (hn : L.length = n) (h : VecIn w (some ⟨b, o, none⟩) L S) : ∀ j u, (smpRow L S n)[j]? = some u → w.cell? ⟨b, o + j, none⟩ = some u := by
  intro j u hj
  have hlt : j < n * 3 := by have := (List.getElem?_eq_some_iff.1 hj).1; rwa [smpRow_len] at this
  have hi : j / 3 < n := by omega
  have hx : L[j / 3]? = some (L[j / 3]'(by omega)) := List.getElem?_eq_getElem _
  obtain ⟨b', o', e, c0, c1, c2, _⟩ := h (j / 3) _ hx
  cases e
  obtain ⟨g0, g1, g2⟩ := smpRow_get L S n (j / 3) _ hi hx (by omega)
  have hr : j % 3 = 0 ∨ j % 3 = 1 ∨ j % 3 = 2 := by omega
  rcases hr with hr | hr | hr
  · have e : j = j / 3 * 3 := by omega
    rw [e, g0] at hj
    rw [e, c0, ← hj]
  · have e : j = j / 3 * 3 + 1 := by omega
    rw [e, g1] at hj
    rw [e, ← Nat.add_assoc, c1, ← hj]
  · have e : j = j / 3 * 3 + 2 := by omega
    rw [e, g2] at hj
    rw [e, ← Nat.add_assoc, c2, ← hj]

/-- append of samples onto an empty row that has just been made. -/
theorem wp_other {ops : Array Oper} {rest : List Oper} {o : Oper} {a : Act} {Q : Exit → Act → World → Prop} (w : World) (hgd : o.guard = none) (s x : Operand)
    (ho : o.op = .call { callee := .builtin .append, args := #[s, x], argTypes := #[25, 25] }) (ad : Option Addr) (n cp : Nat) (L : List Pt) (S : Nat → PtM) (hLn : L.length = n)
    (hs : a.eval s = .slice (some ⟨w.heap.size, 0, none⟩) 0 0) (hx : a.eval x = .slice ad n cp) (hV : VecIn w ad L S) (hnil : ad = none → n = 0 ∧ cp = 0) (hn : n ≤ 1000)
    (h : ∀ v' w', w'.ownsRow w.heap.size 41 3 v' n (smpRow L S n) → Below w.heap.size w w' → wpList Tryz.prog ops Q rest (a.put o.dst v') w') :
    wpList Tryz.prog ops Q (o :: rest) a (w.alloc (.cells #[] 41)) := by
  obtain ⟨i, hi, hz0, hz1, hz2⟩ := info_parts info41
  have hown : (w.alloc (.cells #[] 41)).ownsRow w.heap.size 41 3 (.slice (some ⟨w.heap.size, 0, none⟩) 0 0) 0 [] := World.ownsRow_lit w #[] 0 (Nat.le_refl _) (Nat.zero_le _) rfl
  cases ad with
  | none =>
    obtain ⟨rfl, rfl⟩ := hnil rfl
    have hxs : smpRow L S 0 = [] := rfl
    rw [hxs] at h
    exact wpList_append_own_none hgd s x 25 ho w.heap.size 41 i 3 Tryz.underlying25 hi _ 0 [] hs hown hx (h _ _ hown ((Below.refl _ _).alloc (Nat.le_refl _) _))
  | some d =>
    have hlen : (smpRow L S n).length = n * 3 := smpRow_len L S n
    refine wpList_append_own_at _ hgd s x 25 ho w.heap.size 41 i _ 3 40 Tryz.underlying25 hi hz0 hz1 hz2 rfl (by decide) _ 0 [] hs hown d n cp (smpRow L S n) hx hlen ?_ (smpRow_one L S n) ?_ ?_ (by simp) ?_
    · intro j u hj
      have hlt : j < n * 3 := by have := (List.getElem?_eq_some_iff.1 hj).1; omega
      obtain ⟨b, o', e, _⟩ := hV 0 _ (List.getElem?_eq_getElem (show 0 < L.length by omega))
      cases e
      have hc := hV.cells hLn j u hj
      have e : (⟨b, o', none⟩ : Addr).add j = ⟨b, o' + j, none⟩ := by cases j <;> simp [Addr.add]
      rw [e, World.cell?_alloc_lt _ _ ⟨b, o' + j, none⟩ (World.block_lt_of_cell? w _ hc), hc]
    · unfold maxLen; omega
    · omega
    · intro v' w' k1 k2 _ _
      rw [List.nil_append, Nat.zero_add] at k1
      exact h v' w' k1 (((Below.refl _ _).alloc (Nat.le_refl _) _).grown k2 (by simp) (fun k hk => by cases hk; exact Nat.le_refl _))

/-- The copy is such as VectorEqual takes. -/
theorem other_vecIn {w w' : World} {a : Option Addr} {L : List Pt} {S : Nat → PtM} {n : Nat} {v : Value} (hn : L.length = n) (hV : VecIn w a L S) (hb : Below w.heap.size w w') (hrow : w'.ownsRow w.heap.size 41 3 v n (smpRow L S n)) :
    ∃ ad cp, v = .slice ad n cp ∧ VecIn w' ad L S := by
  obtain ⟨ad, cp, hv, h1, h2, hnone, hsome⟩ := ownsRow_form hrow
  refine ⟨ad, cp, hv, fun i x hx => ?_⟩
  have hi : i < n := by have := (List.getElem?_eq_some_iff.1 hx).1; omega
  cases had : ad with
  | none => have := (hnone had).1; omega
  | some p =>
    obtain ⟨hp, _, _⟩ := hsome p had
    rw [hv, had, hp] at hrow
    obtain ⟨c1, c2, c3⟩ := smpRow_get L S n i x hi hx (by omega)
    obtain ⟨_, _, _, _, _, _, k1, k2⟩ := hV i x hx
    refine ⟨p.block, 0, by rw [← hp], ?_, ?_, ?_, k1.below hb, k2⟩
    · rw [Nat.zero_add, hrow.cellAt _ (by omega), c1]
    · rw [Nat.zero_add, hrow.cellAt _ (by omega), c2]
    · rw [Nat.zero_add, hrow.cellAt _ (by omega), c3]

/-- One of the copy's times. -/
theorem other_time {w w' : World} {L : List Pt} {S : Nat → PtM} {n g cp k : Nat} {x : Pt} (hn : L.length = n) (hx : L[k]? = some x) (hrow : w'.ownsRow w.heap.size 41 3 (.slice (some ⟨g, 0, none⟩) n cp) n (smpRow L S n)) :
    w'.cell? ⟨g, k * 3 + 2, none⟩ = some (.int .i64 x.2.2) ∧ w'.frozen? ⟨g, k * 3 + 2, none⟩ = false ∧ w.heap.size ≤ g := by
  have hk : k < n := by have := (List.getElem?_eq_some_iff.1 hx).1; omega
  obtain ⟨_, _, c3⟩ := smpRow_get L S n k x hk hx (by omega)
  exact ⟨by rw [hrow.cellAt _ (by omega), c3], hrow.frozenAt _, (hrow.lt g rfl).1⟩

/-- The copy, one of its times a millisecond on. -/
theorem turned_vecIn {w w' : World} {a : Option Addr} {L : List Pt} {S : Nat → PtM} {n g cp k : Nat} {x : Pt} (hn : L.length = n) (hx : L[k]? = some x) (hV : VecIn w a L S) (hb : Below w.heap.size w w') (hrow : w'.ownsRow w.heap.size 41 3 (.slice (some ⟨g, 0, none⟩) n cp) n (smpRow L S n)) :
    VecIn (w'.setCell ⟨g, k * 3 + 2, none⟩ (.int .i64 (x.2.2 + 1))) (some ⟨g, 0, none⟩) (L.set k (x.1, x.2.1, x.2.2 + 1)) S ∧ Below w.heap.size w (w'.setCell ⟨g, k * 3 + 2, none⟩ (.int .i64 (x.2.2 + 1))) := by
  obtain ⟨z1, z2, z3⟩ := other_time hn hx hrow
  have hbs : Below w.heap.size w (w'.setCell ⟨g, k * 3 + 2, none⟩ (.int .i64 (x.2.2 + 1))) := hb.setCell z3 _
  refine ⟨fun i y hy => ?_, hbs⟩
  have hk : k < L.length := (List.getElem?_eq_some_iff.1 hx).1
  obtain ⟨ad', cp', e, hV'⟩ := other_vecIn hn hV hb hrow
  cases e
  by_cases hik : i = k
  · subst hik
    rw [List.getElem?_set_self hk] at hy
    cases hy
    obtain ⟨b, o, e, c0, c1, c2, _, _⟩ := hV' i x hx
    cases e
    obtain ⟨_, _, _, _, _, _, k1, k2⟩ := hV i x hx
    refine ⟨g, 0, rfl, ?_, ?_, ?_, k1.below hbs, k2⟩
    · rw [World.cell?_setCell_other]
      · exact c0
      · intro e; injection e with _ e; omega
    · rw [World.cell?_setCell_other]
      · exact c1
      · intro e; injection e with _ e; omega
    · rw [Nat.zero_add]
      exact World.cell?_setCell_same _ _ _ z1
  · rw [List.getElem?_set_ne (fun e => hik e.symm)] at hy
    obtain ⟨b, o, e, c0, c1, c2, _, _⟩ := hV' i y hy
    cases e
    obtain ⟨_, _, _, _, _, _, k1, k2⟩ := hV i y hy
    refine ⟨g, 0, rfl, ?_, ?_, ?_, k1.below hbs, k2⟩
    · rw [World.cell?_setCell_other]
      · exact c0
      · intro e; injection e with _ e; omega
    · rw [World.cell?_setCell_other]
      · exact c1
      · intro e; injection e with _ e; omega
    · rw [World.cell?_setCell_other]
      · exact c2
      · intro e; injection e with _ e; omega

/-- The samples behind the first. -/
theorem VecIn.tail {w : World} {b o : Nat} {L : List Pt} {S : Nat → PtM} (h : VecIn w (some ⟨b, o, none⟩) L S) : VecIn w (some ⟨b, o + 3, none⟩) (L.drop 1) (fun i => S (i + 1)) := by
  intro i x hx
  rw [List.getElem?_drop] at hx
  obtain ⟨b', o', e, c0, c1, c2, k1, k2⟩ := h (1 + i) x hx
  cases e
  refine ⟨b, o + 3, rfl, ?_, ?_, ?_, ?_, ?_⟩
  · rw [show o + 3 + i * 3 = o + (1 + i) * 3 by omega, c0, Nat.add_comm 1 i]
  · rw [show o + 3 + i * 3 + 1 = o + (1 + i) * 3 + 1 by omega, c1, Nat.add_comm 1 i]
  · rw [show o + 3 + i * 3 + 2 = o + (1 + i) * 3 + 2 by omega, c2]
  · rw [Nat.add_comm 1 i] at k1; exact k1
  · rw [Nat.add_comm 1 i] at k2; exact k2

theorem VecIn.none (w : World) (a : Option Addr) (S : Nat → PtM) : VecIn w a [] S := fun i x hx => by simp at hx

theorem set_same {L : List Pt} {k : Nat} {x : Pt} (hx : L[k]? = some x) : ∀ (j : Nat) (y z : Pt), L[j]? = some y → (L.set k (x.1, x.2.1, x.2.2 + 1))[j]? = some z → y.1 = z.1 ∧ y.2.1 = z.2.1 := by
  intro j y z hy hz
  by_cases hjk : j = k
  · subst hjk
    rw [List.getElem?_set_self (List.getElem?_eq_some_iff.1 hx).1] at hz
    rw [hx] at hy
    cases hy
    cases hz
    exact ⟨rfl, rfl⟩
  · rw [List.getElem?_set_ne (fun e => hjk e.symm), hy] at hz
    cases hz
    exact ⟨rfl, rfl⟩

theorem set_few {L : List Pt} {k : Nat} {x : Pt} (hok : ∀ y ∈ L, PtOk y) (hx : L[k]? = some x) : ∀ y ∈ L.set k (x.1, x.2.1, x.2.2 + 1), Few y.1 := by
  intro y hy
  rcases List.mem_or_eq_of_mem_set hy with h | h
  · exact (hok y h).2.1.1
  · rw [h]
    exact (hok x (List.mem_of_getElem? hx)).2.1.1

theorem list_same (L : List Pt) : ∀ (j : Nat) (y z : Pt), L[j]? = some y → L[j]? = some z → y.1 = z.1 ∧ y.2.1 = z.2.1 := by
  intro j y z hy hz
  rw [hy] at hz
  cases hz
  exact ⟨rfl, rfl⟩

end Go.Proofs.YtdeejmkjhmpabaaGreatDoor

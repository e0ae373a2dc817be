/-
  Choosing the least again and again: plain; and rows of streams in memory.
-/
import Derived.Test.YtdeejmkjhmpabaaGreatDoorIs
import Derived.Laws.OwnMore
namespace Go.Proofs.YtdeejmkjhmpabaaGreatDoor

/-- C has been chosen, in order; q is left. -/
structure Sel (n : Nat) (lt : Nat → Nat → Bool) (C q : List Nat) : Prop where
  perm : (C ++ q).Perm (List.range n)
  ord : C.Pairwise (fun x y => lt x y = true)
  low : ∀ x ∈ C, ∀ y ∈ q, lt x y = true

/-- Place k holds the least of the first i. -/
def Least (lt : Nat → Nat → Bool) (q : List Nat) (k i : Nat) : Prop := ∀ j x y, q[k]? = some x → j < i → q[j]? = some y → j ≠ k → lt x y = true

section
variable {n : Nat} {lt : Nat → Nat → Bool} {C q : List Nat}

theorem Sel.start : Sel n lt [] (List.range n) := ⟨by simp, List.Pairwise.nil, fun x h => by cases h⟩

theorem Sel.nodup (h : Sel n lt C q) : q.Nodup := by
  have := (h.perm.nodup_iff).2 List.nodup_range
  exact (List.nodup_append.1 this).2.1

theorem Sel.below (h : Sel n lt C q) {x : Nat} (hx : x ∈ q) : x < n := by
  have := h.perm.mem_iff.1 (List.mem_append_right C hx)
  simpa using this

theorem Sel.len (h : Sel n lt C q) : C.length + q.length = n := by
  have := h.perm.length_eq
  simpa using this

theorem Least.start : Least lt q 0 1 := fun j x y _ h _ hne => by omega

theorem q_ne (h : Sel n lt C q) {i j x y : Nat} (hi : q[i]? = some x) (hj : q[j]? = some y) (hne : i ≠ j) : x ≠ y := fun e => by
  subst e
  obtain ⟨hi', hi2⟩ := List.getElem?_eq_some_iff.1 hi
  obtain ⟨hj', hj2⟩ := List.getElem?_eq_some_iff.1 hj
  have hp := List.pairwise_iff_getElem.1 h.nodup
  rcases Nat.lt_or_gt_of_ne hne with hlt | hlt
  · exact hp i j hi' hj' hlt (hi2.trans hj2.symm)
  · exact hp j i hj' hi' hlt (hj2.trans hi2.symm)

theorem Least.keep (hO : Ord2 n lt) (h : Sel n lt C q) {k i x y : Nat} (hL : Least lt q k i) (hk : k < i) (hx : q[k]? = some x) (hy : q[i]? = some y) (ht : lt y x = false) : Least lt q k (i + 1) := by
  intro j x' y' hx' hj hy' hne
  rw [hx] at hx'
  cases hx'
  by_cases hji : j = i
  · subst hji
    rw [hy] at hy'
    cases hy'
    rcases hO.total x y (h.below (List.mem_of_getElem? hx)) (h.below (List.mem_of_getElem? hy)) (q_ne h hx hy (by omega)) with h1 | h1
    · exact h1
    · rw [ht] at h1; cases h1
  · exact hL j x y' hx (by omega) hy' hne

theorem Least.turn (hO : Ord2 n lt) {k i x y : Nat} (hL : Least lt q k i) (hk : k < i) (hx : q[k]? = some x) (hy : q[i]? = some y) (ht : lt y x = true) : Least lt q i (i + 1) := by
  intro j x' y' hx' hj hy' hne
  rw [hy] at hx'
  cases hx'
  by_cases hjk : j = k
  · subst hjk
    rw [hx] at hy'
    cases hy'
    exact ht
  · exact hO.trans _ _ _ ht (hL j x y' hx (by omega) hy' hjk)

theorem Sel.step (h : Sel n lt C q) {k x : Nat} (hx : q[k]? = some x) (hL : Least lt q k q.length) : Sel n lt (C ++ [x]) (q.eraseIdx k) := by
  obtain ⟨hk, hkx⟩ := List.getElem?_eq_some_iff.1 hx
  have hp : (x :: q.eraseIdx k).Perm q := by
    have e : q = q.take k ++ x :: q.drop (k + 1) := by
      rw [← hkx, ← List.drop_eq_getElem_cons hk, List.take_append_drop]
    rw [List.eraseIdx_eq_take_drop_succ]
    conv => rhs; rw [e]
    exact List.perm_middle.symm
  refine ⟨?_, ?_, ?_⟩
  · rw [List.append_assoc]
    exact (hp.append_left C).trans h.perm
  · rw [List.pairwise_append]
    exact ⟨h.ord, List.pairwise_singleton _ _, fun a ha b hb => by
      have : b = x := by simpa using hb
      subst this
      exact h.low a ha b (List.mem_of_getElem? hx)⟩
  · intro a ha y hy
    obtain ⟨j, hj, hjy⟩ := List.mem_eraseIdx_iff_getElem?.1 hy
    have hyq : y ∈ q := List.mem_of_getElem? hjy
    rcases List.mem_append.1 ha with ha | ha
    · exact h.low a ha y hyq
    · have : a = x := by simpa using ha
      subst this
      exact hL j a y hx (List.getElem?_eq_some_iff.1 hjy).1 hjy hj

theorem Sel.done (h : Sel n lt C []) : C.Pairwise (fun x y => lt x y = true) ∧ ∀ x, x ∈ C ↔ x < n := by
  refine ⟨h.ord, fun x => ?_⟩
  have := h.perm.mem_iff (a := x)
  rw [List.append_nil] at this
  rw [this]
  simp
end

/-! ### Rows of things of two cells -/

def rowS (f : Nat → List Value) (q : List Nat) : List Value := q.flatMap f

section
variable {f : Nat → List Value}

theorem rowS_len (hf : ∀ k, (f k).length = 2) (q : List Nat) : (rowS f q).length = q.length * 2 := by
  induction q with
  | nil => rfl
  | cons x q ih =>
    show (f x ++ rowS f q).length = _
    rw [List.length_append, hf, ih, List.length_cons]
    omega

theorem rowS_get (hf : ∀ k, (f k).length = 2) (q : List Nat) : ∀ (j x : Nat), q[j]? = some x → (rowS f q)[j * 2]? = (f x)[0]? ∧ (rowS f q)[j * 2 + 1]? = (f x)[1]? := by
  induction q with
  | nil => intro j x h; simp at h
  | cons y q ih =>
    intro j x h
    have e : rowS f (y :: q) = f y ++ rowS f q := rfl
    rw [e]
    cases j with
    | zero =>
      simp at h
      subst h
      exact ⟨List.getElem?_append_left (by rw [hf]; omega), List.getElem?_append_left (by rw [hf]; omega)⟩
    | succ j =>
      simp at h
      have := ih j x h
      rw [List.getElem?_append_right (by rw [hf]; omega), List.getElem?_append_right (by rw [hf]; omega), hf]
      have e1 : (j + 1) * 2 - 2 = j * 2 := by omega
      have e2 : (j + 1) * 2 + 1 - 2 = j * 2 + 1 := by omega
      rw [e1, e2]
      exact this

theorem rowS_append (p q : List Nat) : rowS f (p ++ q) = rowS f p ++ rowS f q := List.flatMap_append

theorem rowS_take (hf : ∀ k, (f k).length = 2) (q : List Nat) (k : Nat) (hk : k ≤ q.length) : (rowS f q).take (k * 2) = rowS f (q.take k) := by
  have e : rowS f q = rowS f (q.take k) ++ rowS f (q.drop k) := by rw [← rowS_append, List.take_append_drop]
  rw [e, List.take_left']
  rw [rowS_len hf, List.length_take, Nat.min_eq_left hk]

theorem rowS_drop (hf : ∀ k, (f k).length = 2) (q : List Nat) (k : Nat) (hk : k ≤ q.length) : (rowS f q).drop (k * 2) = rowS f (q.drop k) := by
  have e : rowS f q = rowS f (q.take k) ++ rowS f (q.drop k) := by rw [← rowS_append, List.take_append_drop]
  rw [e, List.drop_left']
  rw [rowS_len hf, List.length_take, Nat.min_eq_left hk]

theorem rowS_erase (q : List Nat) (k : Nat) : rowS f (q.take k) ++ rowS f (q.drop (k + 1)) = rowS f (q.eraseIdx k) := by
  rw [← rowS_append, List.eraseIdx_eq_take_drop_succ]

theorem rowS_mem (q : List Nat) {v : Value} (h : v ∈ rowS f q) : ∃ x ∈ q, v ∈ f x := by
  obtain ⟨x, hx, hv⟩ := List.mem_flatMap.1 h
  exact ⟨x, hx, hv⟩
end

/-- The first k of an own row. -/
theorem ownsRow_take {w : World} {base : Nat} {e : TypeId} {size n cap g : Nat} {xs : List Value} (h : w.ownsRow base e size (.slice (some ⟨g, 0, none⟩) n cap) n xs) (k : Nat) (hk : k ≤ n) :
    w.ownsRow base e size (.slice (some ⟨g, 0, none⟩) k cap) k (xs.take (k * size)) := by
  have hle : k * size ≤ n * size := Nat.mul_le_mul_right _ hk
  obtain ⟨hl, h⟩ := h
  refine ⟨by rw [List.length_take, hl]; omega, Or.inr ?_⟩
  rcases h with ⟨h0, _⟩ | ⟨g', cap', cur, hv, h1, h2, h3, h4, h5, h6⟩
  · cases h0
  · cases hv
    refine ⟨g, cap, cur, rfl, h1, h2, by omega, h4, h5, ?_⟩
    rw [← h6, List.take_take, Nat.min_eq_left hle]

/-- What an own row looks like. -/
theorem ownsRow_form {w : World} {base : Nat} {e : TypeId} {size n : Nat} {v : Value} {xs : List Value} (h : w.ownsRow base e size v n xs) :
    ∃ ad cap, v = .slice ad n cap ∧ n ≤ cap ∧ cap ≤ maxLen ∧ (ad = none → n = 0 ∧ cap = 0) ∧ ∀ a, ad = some a → a = ⟨a.block, 0, none⟩ ∧ base ≤ a.block ∧ a.block < w.heap.size := by
  rcases h.2 with ⟨h0, h1⟩ | ⟨g, cap, cur, hv, h1, h2, h3, h4, h5, h6⟩
  · subst h1
    exact ⟨none, 0, h0, Nat.le_refl _, Nat.zero_le _, fun _ => ⟨rfl, rfl⟩, fun a ha => by cases ha⟩
  · exact ⟨_, cap, hv, h3, h4, (fun e => by cases e), fun a ha => by cases ha; exact ⟨rfl, h1, (Array.getElem?_eq_some_iff.1 h2).1⟩⟩

end Go.Proofs.YtdeejmkjhmpabaaGreatDoor

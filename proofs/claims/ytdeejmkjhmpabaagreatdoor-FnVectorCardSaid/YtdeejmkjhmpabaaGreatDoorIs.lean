/-
  Sorting by insertion, plain: an arrangement of n things, by a strict order.
-/
import Derived.Test.YtdeejmkjhmpabaaGreatDoorBf
namespace Go.Proofs.YtdeejmkjhmpabaaGreatDoor

/-- An arrangement of 0 .. n - 1. -/
structure Arr (n : Nat) (p : Nat → Nat) : Prop where
  into : ∀ k, k < n → p k < n
  inj : ∀ a b, a < n → b < n → p a = p b → a = b
  surj : ∀ x, x < n → ∃ k, k < n ∧ p k = x

/-- The order is strict and total on 0 .. n - 1. -/
structure Ord2 (n : Nat) (lt : Nat → Nat → Bool) : Prop where
  irr : ∀ a, lt a a = false
  trans : ∀ a b c, lt a b = true → lt b c = true → lt a c = true
  total : ∀ a b, a < n → b < n → a ≠ b → lt a b = true ∨ lt b a = true

def swp (p : Nat → Nat) (i j : Nat) : Nat → Nat := fun k => if k = i then p j else if k = j then p i else p k

theorem swp_swp (i j k : Nat) : (if (if k = i then j else if k = j then i else k) = i then j else if (if k = i then j else if k = j then i else k) = j then i else (if k = i then j else if k = j then i else k)) = k := by
  by_cases h1 : k = i
  · subst h1
    by_cases h2 : j = k
    · subst h2; simp
    · simp [h2]
  · by_cases h2 : k = j
    · subst h2; simp [h1]
    · simp [h1, h2]

theorem swp_eq (p : Nat → Nat) (i j k : Nat) : swp p i j k = p (if k = i then j else if k = j then i else k) := by
  unfold swp
  split
  · rfl
  · split <;> rfl

theorem Arr.swp {n : Nat} {p : Nat → Nat} (h : Arr n p) {i j : Nat} (hi : i < n) (hj : j < n) : Arr n (swp p i j) := by
  have hb : ∀ k, k < n → (if k = i then j else if k = j then i else k) < n := fun k hk => by split; exact hj; split; exact hi; exact hk
  refine ⟨fun k hk => ?_, fun a b ha hb' hab => ?_, fun x hx => ?_⟩
  · rw [swp_eq]; exact h.into _ (hb k hk)
  · rw [swp_eq, swp_eq] at hab
    have := h.inj _ _ (hb a ha) (hb b hb') hab
    have e1 := swp_swp i j a
    have e2 := swp_swp i j b
    rw [this] at e1
    exact e1.symm.trans e2
  · obtain ⟨k, hk, rfl⟩ := h.surj x hx
    refine ⟨if k = i then j else if k = j then i else k, hb k hk, ?_⟩
    rw [swp_eq, swp_swp]

theorem Arr.id (n : Nat) : Arr n (fun k => k) := ⟨fun _ h => h, fun _ _ _ _ h => h, fun x hx => ⟨x, hx, rfl⟩⟩

/-- The first i stand in order. -/
def Srt (lt : Nat → Nat → Bool) (i : Nat) (p : Nat → Nat) : Prop := ∀ a b, a < b → b < i → lt (p a) (p b) = true

/-- .. up to and with i, but for what stands at j. -/
def Ins (lt : Nat → Nat → Bool) (i j : Nat) (p : Nat → Nat) : Prop := ∀ a b, a < b → b ≤ i → b ≠ j → lt (p a) (p b) = true

theorem Srt.ins {lt : Nat → Nat → Bool} {i : Nat} {p : Nat → Nat} (h : Srt lt i p) : Ins lt i i p := fun a b h1 h2 h3 => h a b h1 (by omega)

theorem Ins.swap {lt : Nat → Nat → Bool} {i j : Nat} {p : Nat → Nat} (h : Ins lt i (j + 1) p) (hj : j + 1 ≤ i) (ht : lt (p (j + 1)) (p j) = true) : Ins lt i j (swp p (j + 1) j) := by
  intro a b hab hb hbj
  unfold swp
  by_cases h1 : b = j + 1
  · subst h1
    rw [if_pos rfl]
    by_cases h2 : a = j
    · subst h2
      rw [if_neg (by omega), if_pos rfl]
      exact ht
    · rw [if_neg (by omega), if_neg h2]
      exact h a j (by omega) (by omega) (by omega)
  · rw [if_neg h1, if_neg hbj]
    by_cases h2 : a = j + 1
    · rw [if_pos h2]
      exact h j b (by omega) hb h1
    · rw [if_neg h2]
      by_cases h3 : a = j
      · rw [if_pos h3]
        exact h (j + 1) b (by omega) hb h1
      · rw [if_neg h3]
        exact h a b hab hb h1

theorem Ins.zero {lt : Nat → Nat → Bool} {i : Nat} {p : Nat → Nat} (h : Ins lt i 0 p) : Srt lt (i + 1) p := fun a b h1 h2 => h a b h1 (by omega) (by omega)

theorem Ins.stop {n : Nat} {lt : Nat → Nat → Bool} {i j : Nat} {p : Nat → Nat} (h : Ins lt i (j + 1) p) (hO : Ord2 n lt) (hA : Arr n p) (hi : i < n) (hj : j + 1 ≤ i) (ht : lt (p (j + 1)) (p j) = false) : Srt lt (i + 1) p := by
  have hl : lt (p j) (p (j + 1)) = true := by
    have hne : p j ≠ p (j + 1) := fun e => by have := hA.inj _ _ (by omega) (by omega) e; omega
    rcases hO.total _ _ (hA.into j (by omega)) (hA.into (j + 1) (by omega)) hne with h1 | h1
    · exact h1
    · rw [ht] at h1; cases h1
  intro a b hab hb
  by_cases h1 : b = j + 1
  · subst h1
    by_cases h2 : a = j
    · subst h2; exact hl
    · exact hO.trans _ _ _ (h a j (by omega) (by omega) (by omega)) hl
  · exact h a b hab (by omega) h1

/-- The arrangement, as a list. -/
def lst (n : Nat) (p : Nat → Nat) : List Nat := (List.range n).map p

theorem lst_pairwise {lt : Nat → Nat → Bool} {n : Nat} {p : Nat → Nat} (h : Srt lt n p) : (lst n p).Pairwise (fun x y => lt x y = true) := by
  unfold lst
  rw [List.pairwise_map, List.pairwise_iff_getElem]
  intro i j hi hj hij
  simp at hi hj ⊢
  exact h i j hij hj

theorem lst_mem {n : Nat} {p : Nat → Nat} (h : Arr n p) (x : Nat) : x ∈ lst n p ↔ x < n := by
  unfold lst
  rw [List.mem_map]
  constructor
  · rintro ⟨k, hk, rfl⟩; exact h.into k (by simpa using hk)
  · intro hx
    obtain ⟨k, hk, rfl⟩ := h.surj x hx
    exact ⟨k, by simpa using hk, rfl⟩

/-- Two lists of 0 .. n - 1 in order are the same. -/
theorem lists_same {n : Nat} {lt : Nat → Nat → Bool} (hO : Ord2 n lt) {L1 L2 : List Nat} (h1 : L1.Pairwise (fun x y => lt x y = true)) (h2 : L2.Pairwise (fun x y => lt x y = true)) (m1 : ∀ x, x ∈ L1 ↔ x < n) (m2 : ∀ x, x ∈ L2 ↔ x < n) : L1 = L2 := by
  have nd : ∀ L : List Nat, L.Pairwise (fun x y => lt x y = true) → L.Nodup := fun L h => h.imp (fun h e => by subst e; rw [hO.irr] at h; cases h)
  have hp : L1.Perm L2 := (List.perm_ext_iff_of_nodup (nd _ h1) (nd _ h2)).2 fun x => by rw [m1, m2]
  exact List.Perm.eq_of_pairwise (fun x y _ _ a b => by have := hO.trans _ _ _ a b; rw [hO.irr] at this; cases this) h1 h2 hp

end Go.Proofs.YtdeejmkjhmpabaaGreatDoor

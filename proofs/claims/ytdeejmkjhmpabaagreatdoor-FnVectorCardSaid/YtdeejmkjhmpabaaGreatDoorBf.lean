/-
  Which set of labels comes ahead: the plain order.
-/
import Derived.Test.YtdeejmkjhmpabaaGreatDoorM1
namespace Go.Proofs.YtdeejmkjhmpabaaGreatDoor
open Go.RowKit Go.Lib Go.Maps Go.WideMaps

/-- Along the names ns. -/
def befGo (a b : List Lab) : List (List UInt8) → Bool
  | [] => false
  | n :: ns => match getT a n, getT b n with
    | none, _ => true
    | some _, none => false
    | some x, some y => if x = y then befGo a b ns else decide (x < y)

def namesT (a b : List Lab) : List (List UInt8) := (a.map Prod.fst ++ b.map Prod.fst).mergeSort leB

/-- a comes ahead of b. -/
def befT (a b : List Lab) : Bool := if a.length = b.length then befGo a b (namesT a b) else decide (a.length < b.length)

/-- A value that is lacking comes first. -/
def optLt : Option (List UInt8) → Option (List UInt8) → Prop
  | none, some _ => True
  | some x, some y => x < y
  | _, _ => False

theorem bytes_or (x y : List UInt8) (h : x ≠ y) : x < y ∨ y < x := by
  by_cases h1 : x < y
  · exact Or.inl h1
  · by_cases h2 : y < x
    · exact Or.inr h2
    · exact absurd (List.le_antisymm (List.not_lt.1 h2) (List.not_lt.1 h1)) h

theorem optLt_irrefl (x : Option (List UInt8)) : ¬ optLt x x := by
  cases x with
  | none => exact id
  | some x => exact List.lt_irrefl x

theorem optLt_trans {x y z : Option (List UInt8)} (h : optLt x y) (k : optLt y z) : optLt x z := by
  cases x <;> cases y <;> cases z <;> first | exact h.elim | exact k.elim | trivial | exact List.lt_trans h k

/-- a comes ahead of b: at the first name at which they differ. -/
def Bef (a b : List Lab) : Prop := ∃ n, optLt (getT a n) (getT b n) ∧ ∀ m, m < n → getT a m = getT b m

theorem Bef.irrefl (a : List Lab) : ¬ Bef a a := fun ⟨_, h, _⟩ => optLt_irrefl _ h

theorem Bef.trans {a b c : List Lab} (h : Bef a b) (k : Bef b c) : Bef a c := by
  obtain ⟨n, h1, h2⟩ := h
  obtain ⟨m, k1, k2⟩ := k
  by_cases e : n = m
  · subst e
    exact ⟨n, optLt_trans h1 k1, fun p hp => (h2 p hp).trans (k2 p hp)⟩
  · rcases bytes_or n m e with hnm | hmn
    · exact ⟨n, by rw [← k2 n hnm]; exact h1, fun p hp => (h2 p hp).trans (k2 p (List.lt_trans hp hnm))⟩
    · exact ⟨m, by rw [h2 m hmn]; exact k1, fun p hp => (h2 p (List.lt_trans hp hmn)).trans (k2 p hp)⟩

theorem le_lt {x y : List UInt8} (h : x ≤ y) (hn : y ≠ x) : x < y := by
  rcases bytes_or x y (fun e => hn e.symm) with h1 | h1
  · exact h1
  · exact absurd h1 (List.not_lt.2 h)

theorem befGo_iff (a b : List Lab) : ∀ L : List (List UInt8), L.Pairwise (fun x y => x ≤ y) → (∀ n ∈ L, getT a n = none → getT b n = none → False) →
    (befGo a b L = true ↔ ∃ n ∈ L, optLt (getT a n) (getT b n) ∧ ∀ m ∈ L, m < n → getT a m = getT b m) := by
  intro L
  induction L with
  | nil => intro _ _; simp [befGo]
  | cons n ns ih =>
    intro hs hc
    obtain ⟨h1, h2⟩ := List.pairwise_cons.1 hs
    have hleast : ∀ m ∈ n :: ns, ¬ m < n := fun m hm hlt => by
      rcases List.mem_cons.1 hm with rfl | hm
      · exact List.lt_irrefl _ hlt
      · exact List.not_lt.2 (h1 m hm) hlt
    have hsame : (∃ p ∈ n :: ns, optLt (getT a p) (getT b p) ∧ ∀ m ∈ n :: ns, m < p → getT a m = getT b m) → ¬ optLt (getT a n) (getT b n) → getT a n = getT b n := by
      rintro ⟨p, hp, hlt, hall⟩ hn
      by_cases e : p = n
      · subst e; exact absurd hlt hn
      · have : n < p := by
          rcases List.mem_cons.1 hp with rfl | hp
          · exact absurd rfl e
          · exact le_lt (h1 p hp) e
        exact hall n List.mem_cons_self this
    unfold befGo
    cases ha : getT a n with
    | none =>
      cases hb : getT b n with
      | none => exact (hc n List.mem_cons_self ha hb).elim
      | some y =>
        simp only [true_iff]
        exact ⟨n, List.mem_cons_self, by rw [ha, hb]; trivial, fun m hm hlt => (hleast m hm hlt).elim⟩
    | some x =>
      cases hb : getT b n with
      | none =>
        simp only [Bool.false_eq_true, false_iff]
        intro h
        have := hsame h (by rw [ha, hb]; exact id)
        rw [ha, hb] at this
        cases this
      | some y =>
        by_cases e : x = y
        · subst e
          simp only [if_true]
          rw [ih h2 (fun m hm => hc m (List.mem_cons_of_mem _ hm))]
          constructor
          · rintro ⟨p, hp, hlt, hall⟩
            refine ⟨p, List.mem_cons_of_mem _ hp, hlt, fun m hm hmp => ?_⟩
            rcases List.mem_cons.1 hm with rfl | hm
            · rw [ha, hb]
            · exact hall m hm hmp
          · rintro ⟨p, hp, hlt, hall⟩
            rcases List.mem_cons.1 hp with rfl | hp
            · rw [ha, hb] at hlt; exact (optLt_irrefl _ hlt).elim
            · exact ⟨p, hp, hlt, fun m hm => hall m (List.mem_cons_of_mem _ hm)⟩
        · simp only [e, if_false, decide_eq_true_iff]
          constructor
          · intro hlt
            exact ⟨n, List.mem_cons_self, by rw [ha, hb]; exact hlt, fun m hm hmn => (hleast m hm hmn).elim⟩
          · intro h
            by_cases hl : x < y
            · exact hl
            · have := hsame h (by rw [ha, hb]; exact hl)
              rw [ha, hb] at this
              exact absurd (Option.some.inj this) e

theorem namesT_mem (a b : List Lab) (n : List UInt8) : n ∈ namesT a b ↔ (getT a n).isSome = true ∨ (getT b n).isSome = true := by
  unfold namesT
  rw [(List.mergeSort_perm _ _).mem_iff, List.mem_append, getT_any, getT_any, List.any_eq_true, List.any_eq_true, List.mem_map, List.mem_map]
  simp

theorem namesT_sorted (a b : List Lab) : (namesT a b).Pairwise (fun x y => x ≤ y) := by
  have h := List.pairwise_mergeSort (le := leB) (fun x y z h1 h2 => by simp [leB] at *; exact List.le_trans h1 h2) (fun x y => by simp [leB]; exact List.le_total x y) (a.map Prod.fst ++ b.map Prod.fst)
  exact h.imp (fun h => by simpa [leB] using h)

theorem befT_iff {a b : List Lab} (hl : a.length = b.length) : befT a b = true ↔ Bef a b := by
  unfold befT
  rw [if_pos hl, befGo_iff a b _ (namesT_sorted a b) (fun n hn ha hb => by rw [namesT_mem, ha, hb] at hn; simp at hn)]
  have hout : ∀ m, m ∉ namesT a b → getT a m = getT b m := fun m hm => by
    rw [namesT_mem] at hm
    cases ha : getT a m <;> cases hb : getT b m <;> simp [ha, hb] at hm ⊢
  constructor
  · rintro ⟨n, _, h1, h2⟩
    refine ⟨n, h1, fun m hm => ?_⟩
    by_cases hmem : m ∈ namesT a b
    · exact h2 m hmem hm
    · exact hout m hmem
  · rintro ⟨n, h1, h2⟩
    refine ⟨n, ?_, h1, fun m _ hm => h2 m hm⟩
    rw [namesT_mem]
    cases ha : getT a n <;> cases hb : getT b n <;> simp [ha, hb, optLt] at h1 ⊢

theorem befGo_eq (a b : List Lab) : ∀ L : List (List UInt8), befGo a b L = false → befGo b a L = false → ∀ n ∈ L, getT a n = getT b n := by
  intro L
  induction L with
  | nil => intro _ _ n hn; cases hn
  | cons n ns ih =>
    intro h1 h2
    unfold befGo at h1 h2
    cases ha : getT a n with
    | none => rw [ha] at h1; simp at h1
    | some x =>
      cases hb : getT b n with
      | none => rw [hb] at h2; simp at h2
      | some y =>
        rw [ha, hb] at h1 h2
        simp only at h1 h2
        by_cases e : x = y
        · subst e
          simp only [if_true] at h1 h2
          intro m hm
          rcases List.mem_cons.1 hm with rfl | hm
          · rw [ha, hb]
          · exact ih h1 h2 m hm
        · rw [if_neg e] at h1
          rw [if_neg (fun h => e h.symm)] at h2
          rcases bytes_or x y e with h | h
          · simp [h] at h1
          · simp [h] at h2

/-- Labels in order, each name once. -/
def Ord (l : List Lab) : Prop := l.Pairwise (fun x y => x.1 < y.1)

theorem Ord.names {l : List Lab} (h : Ord l) : Names l := by
  unfold Names
  rw [List.Nodup, List.pairwise_map]
  exact h.imp (fun h e => by rw [e] at h; exact List.lt_irrefl _ h)

theorem ord_ext {a b : List Lab} (ha : Ord a) (hb : Ord b) (h : ∀ n, getT a n = getT b n) : a = b := by
  have hmem : ∀ x, x ∈ a ↔ x ∈ b := fun x => ⟨fun hx => by
    have := getT_of ha.names hx
    rw [h] at this
    exact getT_mem this, fun hx => by
    have := getT_of hb.names hx
    rw [← h] at this
    exact getT_mem this⟩
  have hnd : ∀ {l : List Lab}, Ord l → l.Nodup := fun {l} hl => hl.imp (fun h e => by rw [e] at h; exact List.lt_irrefl _ h)
  have hp : a.Perm b := (List.perm_ext_iff_of_nodup (hnd ha) (hnd hb)).2 hmem
  exact List.Perm.eq_of_pairwise (fun x y _ _ h1 h2 => (List.lt_irrefl _ (List.lt_trans h1 h2)).elim) ha hb hp

/-- Of two different sets one comes ahead. -/
theorem befT_total {a b : List Lab} (ha : Ord a) (hb : Ord b) (h : a ≠ b) : befT a b = true ∨ befT b a = true := by
  by_cases hl : a.length = b.length
  · by_cases h1 : befT a b = true
    · exact Or.inl h1
    · by_cases h2 : befT b a = true
      · exact Or.inr h2
      · exfalso
        unfold befT at h1 h2
        rw [if_pos hl] at h1
        rw [if_pos hl.symm] at h2
        have e : namesT b a = namesT a b := mergeSort_of_perm (List.perm_append_comm)
        rw [e] at h2
        have heq := befGo_eq a b (namesT a b) (by simpa using h1) (by simpa using h2)
        refine h (ord_ext ha hb fun n => ?_)
        by_cases hm : n ∈ namesT a b
        · exact heq n hm
        · rw [namesT_mem] at hm
          cases ha' : getT a n <;> cases hb' : getT b n <;> simp [ha', hb'] at hm ⊢
  · unfold befT
    rw [if_neg hl, if_neg (fun e => hl e.symm)]
    simp only [decide_eq_true_iff]
    omega

theorem befT_irrefl (a : List Lab) : befT a a = false := by
  cases h : befT a a with
  | false => rfl
  | true => exact (Bef.irrefl a ((befT_iff rfl).1 h)).elim

theorem befT_trans {a b c : List Lab} (h : befT a b = true) (k : befT b c = true) : befT a c = true := by
  by_cases h1 : a.length = b.length
  · by_cases h2 : b.length = c.length
    · exact (befT_iff (h1.trans h2)).2 (((befT_iff h1).1 h).trans ((befT_iff h2).1 k))
    · unfold befT at k ⊢
      rw [if_neg h2] at k
      rw [if_neg (by omega)]
      simp at k ⊢
      omega
  · unfold befT at h
    rw [if_neg h1] at h
    simp at h
    by_cases h2 : b.length = c.length
    · unfold befT
      rw [if_neg (by omega)]
      simp
      omega
    · unfold befT at k ⊢
      rw [if_neg h2] at k
      simp at k
      rw [if_neg (by omega)]
      simp
      omega

end Go.Proofs.YtdeejmkjhmpabaaGreatDoor

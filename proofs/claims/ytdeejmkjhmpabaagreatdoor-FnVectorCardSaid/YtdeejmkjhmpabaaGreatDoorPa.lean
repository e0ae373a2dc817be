/-
  Floats: what a division by 8 or by 1000 gives, and that the shortest decimal between the float's neighbours is the number that was divided.
-/
import Ieee.Arith
namespace Go.Proofs.YtdeejmkjhmpabaaGreatDoor.Sam
open Ieee
def wordOf (neg : Bool) (M : Nat) (Q : Int) : Nat := (if neg then 2 ^ 63 else 0) + ((Q + 1074).toNat * 2 ^ 52 + M)

theorem log2_eq {n L : Nat} (h1 : 2 ^ L ≤ n) (h2 : n < 2 ^ (L + 1)) : n.log2 = L := by
  have h0 : n ≠ 0 := by have := Nat.two_pow_pos L; omega
  have a := (Nat.le_log2 h0).2 h1
  have b := (Nat.log2_lt h0).2 h2
  omega

theorem word_eq (neg : Bool) (r : Nat) : double.word neg r = (if neg then 2 ^ 63 else 0) + r := by
  unfold Format.word Format.signWeight double
  cases neg <;> simp

theorem least : double.leastPlace = -1074 := by decide +kernel
theorem binade_eq : double.binade = 2 ^ 52 := rfl
theorem infRung_eq : double.infRung = 2047 * 2 ^ 52 := by decide +kernel
theorem sw_eq : double.signWeight = 2 ^ 63 := rfl

theorem read_wordOf (neg : Bool) (M : Nat) (Q : Int) (h1 : 2 ^ 52 ≤ M) (h2 : M < 2 ^ 53) (hq1 : -1000 ≤ Q) (hq2 : Q ≤ 900) :
    double.read (wordOf neg M Q) = .number neg M Q := by
  have hlt : (Q + 1074).toNat * 2 ^ 52 + M < 2047 * 2 ^ 52 := by omega
  have e1 : wordOf neg M Q / 2 ^ 63 % 2 = if neg then 1 else 0 := by unfold wordOf; cases neg <;> simp <;> omega
  have e2 : wordOf neg M Q % 2 ^ 63 = (Q + 1074).toNat * 2 ^ 52 + M := by unfold wordOf; cases neg <;> simp <;> omega
  unfold Format.read
  rw [sw_eq, infRung_eq, binade_eq, least, e1, e2]
  dsimp only
  rw [if_neg (by omega), if_pos hlt]
  have e3 : ((Q + 1074).toNat * 2 ^ 52 + M) % 2 ^ 52 = M - 2 ^ 52 := by omega
  have e4 : ((Q + 1074).toNat * 2 ^ 52 + M) / 2 ^ 52 = (Q + 1074).toNat + 1 := by omega
  rw [e3, e4]
  have e5 : (-1074 : Int) + (((Q + 1074).toNat + 1 - 1 : Nat) : Int) = Q := by omega
  rw [e5]
  have e6 : 2 ^ 52 + (M - 2 ^ 52) = M := by omega
  rw [e6]
  cases neg <;> rfl

theorem below_inf {t c P : Nat} (h1 : t ≤ 2000) (h2 : c ≤ 2 * P) : t * P + c ≤ 2047 * P := by
  have := Nat.mul_le_mul_right P h1
  omega

/-- A number of at most 53 bits is had exactly. -/
theorem nearest_exact (neg : Bool) (n L : Nat) (place : Int) (h1 : 2 ^ L ≤ n) (h2 : n < 2 ^ (L + 1)) (hL : L ≤ 52) (hp1 : -900 ≤ place) (hp2 : place ≤ 800) :
    double.nearest neg n place = wordOf neg (n * 2 ^ (52 - L)) (place + L - 52) := by
  have h0 : n ≠ 0 := by have := Nat.two_pow_pos L; omega
  have hm1 : 2 ^ 52 ≤ n * 2 ^ (52 - L) := by
    have : 2 ^ 52 = 2 ^ L * 2 ^ (52 - L) := by rw [← Nat.pow_add]; congr 1; omega
    rw [this]; exact Nat.mul_le_mul_right _ h1
  have hm2 : n * 2 ^ (52 - L) < 2 ^ 53 := by
    have : 2 ^ 53 = 2 ^ (L + 1) * 2 ^ (52 - L) := by rw [← Nat.pow_add]; congr 1; omega
    rw [this]; exact Nat.mul_lt_mul_of_pos_right h2 (Nat.two_pow_pos _)
  unfold Format.nearest
  rw [if_neg h0, log2_eq h1 h2, least, binade_eq, infRung_eq, word_eq]
  have ef : ((double.fractionBits : Nat) : Int) = 52 := rfl
  rw [ef]
  have el : max (place + (L : Int) - 52) (-1074) = place + L - 52 := by omega
  rw [el]
  have e1 : (place - (place + (L : Int) - 52)).toNat = 52 - L := by omega
  have e2 : (place + (L : Int) - 52 - place).toNat = 0 := by omega
  rw [e1, e2]
  have e3 : Toward.even.cut neg (n <<< (52 - L)) 0 = n * 2 ^ (52 - L) := by
    unfold Toward.cut
    simp [Nat.shiftLeft_eq, Nat.mod_one]
  rw [e3]
  unfold wordOf
  have e4 : (place + (L : Int) - 52 - -1074).toNat = (place + (L : Int) - 52 + 1074).toNat := by omega
  rw [e4]
  rw [Nat.min_eq_left (below_inf (by omega) (Nat.le_of_lt (by rw [← Nat.pow_succ']; exact hm2)))]


/-- 'float64(n)' of a whole number from 1 below 2^53. -/
theorem nearest_nat (neg : Bool) (n L : Nat) (h1 : 2 ^ L ≤ n) (h2 : n < 2 ^ (L + 1)) (hL : L ≤ 52) :
    double.nearest neg n 0 = wordOf neg (n * 2 ^ (52 - L)) ((L : Int) - 52) := by
  have := nearest_exact neg n L 0 h1 h2 hL (by omega) (by omega)
  simpa using this

theorem nearest_zero (neg : Bool) (place : Int) : double.nearest neg 0 place = if neg then 2 ^ 63 else 0 := by
  unfold Format.nearest
  rw [if_pos rfl, word_eq]
  rfl


theorem cut_eq (neg : Bool) (q g : Nat) (h : g ≤ q.log2 + 2) :
    Toward.even.cut neg q g = q / 2 ^ g + (if 2 ^ g < 2 * (q % 2 ^ g) ∨ (2 ^ g = 2 * (q % 2 ^ g) ∧ q / 2 ^ g % 2 = 1) then 1 else 0) := by
  unfold Toward.cut
  rw [Nat.min_eq_left h, Nat.shiftLeft_eq, Nat.one_mul]
  dsimp only
  congr 1
  by_cases b1 : 2 ^ g < 2 * (q % 2 ^ g)
  · simp [b1]
  · by_cases b2 : 2 ^ g = 2 * (q % 2 ^ g) ∧ q / 2 ^ g % 2 = 1
    · rw [if_pos (Or.inr b2)]
      have t1 : (2 ^ g == 2 * (q % 2 ^ g)) = true := by simpa using b2.1
      have t2 : (q / 2 ^ g % 2 == 1) = true := by simpa using b2.2
      rw [t1, t2]
      simp
    · rw [if_neg (by rintro (h | h); exact b1 h; exact b2 h)]
      have t1 : ((2 ^ g == 2 * (q % 2 ^ g)) && (q / 2 ^ g % 2 == 1)) = false := by
        simp only [Bool.and_eq_false_iff, beq_eq_false_iff_ne]
        by_cases b3 : 2 ^ g = 2 * (q % 2 ^ g)
        · exact Or.inr fun h => b2 ⟨b3, h⟩
        · exact Or.inl b3
      rw [t1]
      simp [b1]

theorem round_spec (q G k A : Nat) (hG : G = 4 ∨ G = 8) (hk : k = q / G + (if G < 2 * (q % G) ∨ (G = 2 * (q % G) ∧ q / G % 2 = 1) then 1 else 0)) (h1 : A * G ≤ q) (h2 : q < 2 * A * G) :
    2 * q ≤ 2 * (k * G) + G ∧ 2 * (k * G) ≤ 2 * q + G ∧ (k % 2 = 1 → 2 * q < 2 * (k * G) + G ∧ 2 * (k * G) < 2 * q + G) ∧ A ≤ k ∧ k ≤ 2 * A := by
  rcases hG with rfl | rfl
  · split at hk <;> omega
  · split at hk <;> omega

/-- What the cut gives, as inequalities. -/
theorem cut_spec (neg : Bool) (q g k : Nat) (hg : g = 2 ∨ g = 3) (h1 : 2 ^ 52 * 2 ^ g ≤ q) (h2 : q < 2 * 2 ^ 52 * 2 ^ g) (hk : k = Toward.even.cut neg q g) :
    2 * q ≤ 2 * (k * 2 ^ g) + 2 ^ g ∧ 2 * (k * 2 ^ g) ≤ 2 * q + 2 ^ g ∧ (k % 2 = 1 → 2 * q < 2 * (k * 2 ^ g) + 2 ^ g ∧ 2 * (k * 2 ^ g) < 2 * q + 2 ^ g) ∧ 2 ^ 52 ≤ k ∧ k ≤ 2 * 2 ^ 52 := by
  have hG : 2 ^ g = 4 ∨ 2 ^ g = 8 := by rcases hg with rfl | rfl <;> simp
  have hl : 52 + g ≤ q.log2 := (Nat.le_log2 (by
    have := Nat.two_pow_pos g
    intro h; subst h
    have : 0 < 2 ^ 52 * 2 ^ g := Nat.mul_pos (Nat.two_pow_pos _) this
    exact absurd h1 (Nat.not_le.2 this))).2 (by rw [Nat.pow_add]; exact h1)
  rw [cut_eq neg q g (by omega)] at hk
  exact round_spec q (2 ^ g) k (2 ^ 52) hG hk h1 h2

/-- The nearest of q with 54 + 1 or 55 + 1 bits: two or three bits are dropped. 'kept' may be 2^53. -/
theorem nearest_drop (neg : Bool) (q g : Nat) (place : Int) (hg : g = 2 ∨ g = 3) (h1 : 2 ^ 52 * 2 ^ g ≤ q) (h2 : q < 2 * 2 ^ 52 * 2 ^ g) (hp1 : -900 ≤ place) (hp2 : place ≤ 700) :
    double.nearest neg q place = wordOf neg (Toward.even.cut neg q g) (place + g) := by
  have hc := (cut_spec neg q g _ hg h1 h2 rfl).2.2.2.2
  generalize hcut : Toward.even.cut neg q g = c at hc
  have h0 : q ≠ 0 := by
    have := Nat.two_pow_pos g
    intro h; subst h
    have : 0 < 2 ^ 52 * 2 ^ g := Nat.mul_pos (Nat.two_pow_pos _) this
    exact absurd h1 (Nat.not_le.2 this)
  have hl : q.log2 = 52 + g := by
    refine log2_eq ?_ ?_
    · rw [Nat.pow_add]; exact h1
    · rw [Nat.pow_succ, Nat.pow_add, Nat.mul_comm _ 2, ← Nat.mul_assoc]; exact h2
  unfold Format.nearest
  rw [if_neg h0, hl, least, binade_eq, infRung_eq, word_eq]
  have ef : ((double.fractionBits : Nat) : Int) = 52 := rfl
  rw [ef]
  have el : max (place + ((52 + g : Nat) : Int) - 52) (-1074) = place + g := by omega
  rw [el]
  have e1 : (place - (place + (g : Int))).toNat = 0 := by omega
  have e2 : (place + (g : Int) - place).toNat = g := by omega
  rw [e1, e2, Nat.shiftLeft_zero, hcut]
  unfold wordOf
  have e4 : (place + (g : Int) - -1074).toNat = (place + (g : Int) + 1074).toNat := by omega
  rw [e4]
  rw [Nat.min_eq_left (below_inf (by omega) hc)]
/-- M * 2^-f is the double nearest to A / 1000, or A / 1000 itself. -/
structure Fl (A M f : Nat) : Prop where
  m1 : 2 ^ 52 ≤ M
  m2 : M < 2 ^ 53
  f1 : 7 ≤ f
  f2 : f ≤ 62
  hi : 2 * (A * 2 ^ f) ≤ 1000 * (2 * M + 1)
  lo : 1000 * (2 * M) ≤ 2 * (A * 2 ^ f) + 1000
  odd : M % 2 = 1 → 2 * (A * 2 ^ f) < 1000 * (2 * M + 1) ∧ 1000 * (2 * M) < 2 * (A * 2 ^ f) + 1000
  edge : M = 2 ^ 52 → 4000 * M ≤ 4 * (A * 2 ^ f) + 1000
  exact : f < 10 → A * 2 ^ f = 1000 * M ∧ A % 5 = 0

theorem log2_spec {a : Nat} (h : 1 ≤ a) : 2 ^ a.log2 ≤ a ∧ a < 2 ^ (a.log2 + 1) :=
  ⟨Nat.log2_self_le (by omega), Nat.lt_log2_self⟩

theorem log2_le {a k : Nat} (h : 1 ≤ a) (h2 : a < 2 ^ (k + 1)) : a.log2 ≤ k := by
  have := (Nat.log2_lt (by omega : a ≠ 0)).2 h2
  omega

theorem left_just {a L : Nat} (h1 : 2 ^ L ≤ a) (h2 : a < 2 ^ (L + 1)) (hL : L ≤ 52) : 2 ^ 52 ≤ a * 2 ^ (52 - L) ∧ a * 2 ^ (52 - L) < 2 ^ 53 := by
  constructor
  · have : 2 ^ 52 = 2 ^ L * 2 ^ (52 - L) := by rw [← Nat.pow_add]; congr 1; omega
    rw [this]; exact Nat.mul_le_mul_right _ h1
  · have : 2 ^ 53 = 2 ^ (L + 1) * 2 ^ (52 - L) := by rw [← Nat.pow_add]; congr 1; omega
    rw [this]; exact Nat.mul_lt_mul_of_pos_right h2 (Nat.two_pow_pos _)

theorem word_1000 : double.nearest false 1000 0 = wordOf false (1000 * 2 ^ 43) (-43) := nearest_nat false 1000 9 (by decide) (by decide) (by decide)
theorem word_8 : double.nearest false 8 0 = wordOf false (2 ^ 52) (-49) := nearest_nat false 8 3 (by decide) (by decide) (by decide)

theorem quot_eq (neg : Bool) (m n : Nat) (i j : Int) (hm1 : 2 ^ 52 ≤ m) (hm2 : m < 2 ^ 53) (hn1 : 2 ^ 52 ≤ n) (hn2 : n < 2 ^ 53) (hi1 : -1000 ≤ i) (hi2 : i ≤ 900) (hj1 : -1000 ≤ j) (hj2 : j ≤ 900) :
    double.div (wordOf neg m i) (wordOf false n j) = some (double.nearest neg (2 * (m * 2 ^ 54 / n) + (if m * 2 ^ 54 % n = 0 then 0 else 1)) (i - j - 55)) := by
  unfold Format.div
  rw [read_wordOf neg m i hm1 hm2 hi1 hi2, read_wordOf false n j hn1 hn2 hj1 hj2]
  have hn0 : n ≠ 0 := by have := Nat.two_pow_pos 52; omega
  have e1 : m.log2 = 52 := log2_eq hm1 hm2
  have e2 : n.log2 = 52 := log2_eq hn1 hn2
  have e3 : double.fractionBits + 2 = 54 := rfl
  unfold Datum.quotient
  dsimp only
  rw [if_neg hn0, e1, e2, e3]
  simp only [Bool.xor_false, Option.map_some, Option.some.injEq]
  unfold Format.write
  simp only [Nat.add_sub_cancel, Nat.shiftLeft_eq]
  have e4 : (i - j - ((54 : Nat) : Int) - 1) = i - j - 55 := by omega
  rw [e4]
  congr 1
  by_cases h : m * 2 ^ 54 % n = 0
  · rw [if_pos h, h]; rfl
  · rw [if_neg h]
    have : (m * 2 ^ 54 % n != 0) = true := by simpa using h
    rw [this]; rfl

theorem carry_of {T T' P k : Nat} (hk : k = 2 * P) (hT : T' = T + 1) : T * P + k = T' * P + P := by
  subst hT hk; rw [Nat.add_mul, Nat.one_mul, Nat.two_mul, Nat.add_assoc]

theorem carry_fl {a X k P : Nat} (M Y f' : Nat) (hY : a * 2 ^ f' = Y) (hk : k = 2 * P) (hX : X = 2 * Y) (f1 : 10 ≤ f') (f2 : f' ≤ 62)
    (b1 : 2 * X ≤ 1000 * (2 * k + 1)) (b2 : 1000 * (2 * k) ≤ 2 * X + 1000) (hM : M = P) (hP : P = 2 ^ 52) : Fl a M f' := by
  subst hM
  have e1 : 2 * Y ≤ 1000 * (2 * M + 1) := by omega
  have e2 : 1000 * (2 * M) ≤ 2 * Y + 1000 := by omega
  have e3 : 4000 * M ≤ 4 * Y + 1000 := by omega
  refine ⟨Nat.le_of_eq hP.symm, hP ▸ by decide, by omega, f2, ?_, ?_, ?_, ?_, fun h => by omega⟩
  · rw [hY]; exact e1
  · rw [hY]; exact e2
  · intro h; rw [hP] at h; exact absurd h (by decide)
  · intro _; rw [hY]; exact e3

/-- 'float64(±a) / 1000'. -/
theorem div_1000 (neg : Bool) (a : Nat) (h0 : 1 ≤ a) (h1 : a < 1000000000000000) :
    ∃ M f : Nat, double.div (double.nearest neg a 0) (double.nearest false 1000 0) = some (wordOf neg M (-(f : Int))) ∧ Fl a M f := by
  obtain ⟨l1, l2⟩ := log2_spec h0
  have hL : a.log2 ≤ 49 := log2_le h0 (by omega)
  generalize hLL : a.log2 = L at l1 l2 hL
  obtain ⟨m1, m2⟩ := left_just l1 l2 (by omega)
  generalize hm : a * 2 ^ (52 - L) = m at m1 m2
  rw [word_1000, nearest_nat neg a L l1 l2 (by omega), hm]
  rw [quot_eq neg m (1000 * 2 ^ 43) _ _ m1 m2 (by decide) (by decide) (by omega) (by omega) (by omega) (by omega)]
  have d1 : m * 2 ^ 54 / (1000 * 2 ^ 43) = m * 2048 / 1000 := by
    have e : m * 2 ^ 54 = m * 2048 * 2 ^ 43 := by rw [Nat.mul_assoc]
    rw [e]; exact Nat.mul_div_mul_right _ _ (Nat.two_pow_pos 43)
  have d2 : m * 2 ^ 54 % (1000 * 2 ^ 43) = m * 2048 % 1000 * 2 ^ 43 := by
    have e : m * 2 ^ 54 = m * 2048 * 2 ^ 43 := by rw [Nat.mul_assoc]
    rw [e]; exact Nat.mul_mod_mul_right _ _ _
  have d3 : (if m * 2 ^ 54 % (1000 * 2 ^ 43) = 0 then 0 else 1) = (if m * 2048 % 1000 = 0 then 0 else 1) := by
    rw [d2]
    by_cases h : m * 2048 % 1000 = 0
    · rw [if_pos h, h, Nat.zero_mul, if_pos rfl]
    · rw [if_neg h, if_neg]
      intro h'
      rcases Nat.mul_eq_zero.1 h' with h' | h'
      · exact h h'
      · exact absurd h' (by decide)
  rw [d1, d3]
  generalize hq : 2 * (m * 2048 / 1000) + (if m * 2048 % 1000 = 0 then 0 else 1) = q
  have hpl : (L : Int) - 52 - -43 - 55 = (L : Int) - 64 := by omega
  rw [hpl]
  have key : ∃ g, (g = 2 ∨ g = 3) ∧ 2 ^ 52 * 2 ^ g ≤ q ∧ q < 2 * 2 ^ 52 * 2 ^ g := by
    by_cases hb : q < 2 ^ 55
    · exact ⟨2, Or.inl rfl, by split at hq <;> omega, by omega⟩
    · exact ⟨3, Or.inr rfl, by omega, by split at hq <;> omega⟩
  obtain ⟨g, hg, g1, g2⟩ := key
  rw [nearest_drop neg q g _ hg g1 g2 (by omega) (by omega)]
  generalize hk : Toward.even.cut neg q g = k
  obtain ⟨c1, c2, c3, c4, c5⟩ := cut_spec neg q g k hg g1 g2 hk.symm
  -- the place
  obtain ⟨f, hf⟩ : ∃ f : Nat, f + L + g = 64 := ⟨64 - L - g, by omega⟩
  have hfp : (L : Int) - 64 + g = -(f : Int) := by omega
  rw [hfp]
  have hX : a * 2 ^ f * 2 ^ g = 4096 * m := by
    rw [← hm, Nat.mul_assoc, ← Nat.pow_add, show (4096 : Nat) = 2 ^ 12 by rfl, Nat.mul_left_comm, ← Nat.pow_add]
    congr 2
    omega
  generalize hXX : a * 2 ^ f = X at hX
  have base : 2 * X ≤ 1000 * (2 * k + 1) ∧ 1000 * (2 * k) ≤ 2 * X + 1000 ∧ (k % 2 = 1 → 2 * X < 1000 * (2 * k + 1) ∧ 1000 * (2 * k) < 2 * X + 1000) ∧ (k = 2 ^ 52 → 4000 * k ≤ 4 * X + 1000) := by
    rcases hg with rfl | rfl
    · simp only [Nat.reducePow] at *
      refine ⟨?_, ?_, ?_, ?_⟩
      · clear c3 c4 c5; split at hq <;> omega
      · clear c3 c4 c5; split at hq <;> omega
      · intro ho; obtain ⟨o1, o2⟩ := c3 ho; clear c1 c2 c3 c4 c5; split at hq <;> omega
      · intro he; clear c1 c2 c3 c4 c5; split at hq <;> omega
    · simp only [Nat.reducePow] at *
      refine ⟨?_, ?_, ?_, ?_⟩
      · clear c3 c4 c5; split at hq <;> omega
      · clear c3 c4 c5; split at hq <;> omega
      · intro ho; obtain ⟨o1, o2⟩ := c3 ho; clear c1 c2 c3 c4 c5; split at hq <;> omega
      · intro he; clear c1 c2 c3 c4 c5; split at hq <;> omega
  obtain ⟨b1, b2, b3, b4⟩ := base
  by_cases hc : k = 2 * 2 ^ 52
  · -- the carry
    obtain ⟨f', rfl⟩ : ∃ f', f = f' + 1 := ⟨f - 1, by omega⟩
    have hX' : X = 2 * (a * 2 ^ f') := by rw [← hXX, Nat.pow_succ]; rw [← Nat.mul_assoc, Nat.mul_comm]
    refine ⟨2 ^ 52, f', ?_, ?_⟩
    · exact congrArg (fun z => some ((if neg then 2 ^ 63 else 0) + z)) (carry_of hc (show (-((f' : Nat) : Int) + 1074).toNat = (-((f' + 1 : Nat) : Int) + 1074).toNat + 1 by omega))
    · exact carry_fl _ (a * 2 ^ f') f' rfl hc hX' (by omega) (by omega) b1 b2 rfl rfl
  · exact ⟨k, f, rfl, c4, by omega, by omega, by omega, by rw [hXX]; exact b1, by rw [hXX]; exact b2, by rw [hXX]; exact b3, by rw [hXX]; exact b4, fun h => by omega⟩

/-- 'float64(±a) / 8'. -/
theorem div_8 (neg : Bool) (a : Nat) (h0 : 1 ≤ a) (h1 : a < 562949953421312) :
    ∃ M f : Nat, double.div (double.nearest neg a 0) (double.nearest false 8 0) = some (wordOf neg M (-(f : Int))) ∧ Fl (125 * a) M f := by
  obtain ⟨l1, l2⟩ := log2_spec h0
  have hL : a.log2 ≤ 48 := log2_le h0 (by omega)
  generalize hLL : a.log2 = L at l1 l2 hL
  obtain ⟨m1, m2⟩ := left_just l1 l2 (by omega)
  have hX : a * 2 ^ (55 - L) = 8 * (a * 2 ^ (52 - L)) := by
    rw [show 55 - L = (52 - L) + 3 by omega, Nat.pow_add, ← Nat.mul_assoc]
    generalize a * 2 ^ (52 - L) = y
    omega
  generalize hm : a * 2 ^ (52 - L) = m at m1 m2 hX
  rw [word_8, nearest_nat neg a L l1 l2 (by omega), hm]
  rw [quot_eq neg m (2 ^ 52) _ _ m1 m2 (by decide) (by decide) (by omega) (by omega) (by omega) (by omega)]
  have d1 : m * 2 ^ 54 / 2 ^ 52 = m * 4 := by omega
  have d2 : m * 2 ^ 54 % 2 ^ 52 = 0 := by omega
  rw [d1, d2, if_pos rfl]
  have g1 : 2 ^ 52 * 2 ^ 3 ≤ 2 * (m * 4) + 0 := by omega
  have g2 : 2 * (m * 4) + 0 < 2 * 2 ^ 52 * 2 ^ 3 := by omega
  rw [nearest_drop neg _ 3 _ (Or.inr rfl) g1 g2 (by omega) (by omega)]
  generalize hk : Toward.even.cut neg (2 * (m * 4) + 0) 3 = k
  obtain ⟨c1, c2, c3, c4, c5⟩ := cut_spec neg _ 3 k (Or.inr rfl) g1 g2 hk.symm
  have hkm : k = m := by simp only [Nat.reducePow] at *; omega
  refine ⟨m, 55 - L, ?_, ?_⟩
  · rw [hkm]
    congr 2
    omega
  · have hX' : 125 * a * 2 ^ (55 - L) = 1000 * m := by rw [Nat.mul_assoc, hX]; omega
    exact ⟨m1, m2, by omega, by omega, by rw [hX']; omega, by rw [hX']; omega, fun _ => by rw [hX']; omega, fun _ => by rw [hX']; omega, fun _ => ⟨hX', by omega⟩⟩

theorem div_zero (n : Nat) (j : Int) (hn1 : 2 ^ 52 ≤ n) (hn2 : n < 2 ^ 53) (hj1 : -1000 ≤ j) (hj2 : j ≤ 900) :
    double.div (double.nearest false 0 0) (wordOf false n j) = some 0 := by
  unfold Format.div
  rw [read_wordOf false n j hn1 hn2 hj1 hj2, nearest_zero]
  have hz : double.read (if false then 2 ^ 63 else 0) = .number false 0 (-1074) := by decide +kernel
  rw [hz]
  have hn0 : n ≠ 0 := by have := Nat.two_pow_pos 52; omega
  unfold Datum.quotient
  dsimp only
  rw [if_neg hn0]
  simp only [Bool.xor_false, Option.map_some, Option.some.injEq, Nat.zero_shiftLeft, Nat.zero_div, Nat.zero_mod, Nat.mul_zero]
  unfold Format.write
  exact nearest_zero false _
/-- x * 10^p / 2^F with a sticky last bit. -/
def uU (x p F : Nat) : Nat := x * 10 ^ p / 2 ^ F ||| (if x * 10 ^ p % 2 ^ F = 0 then 0 else 1)

theorem or_one (q : Nat) : q ||| 1 = q / 2 * 2 + 1 := by
  have h := Nat.two_pow_add_eq_or_of_lt (i := 1) (b := 1) (by decide) (q / 2)
  apply Nat.eq_of_testBit_eq
  intro i
  rw [Nat.testBit_or]
  have e : q / 2 * 2 + 1 = 2 ^ 1 * (q / 2) + 1 := by omega
  rw [e]
  cases i with
  | zero => simp
  | succ i => simp [Nat.testBit_succ]; congr 1; omega

theorem uU_cases (N B u : Nat) (hu : u = N / B ||| (if N % B = 0 then 0 else 1)) : (N % B = 0 ∧ u = N / B) ∨ (N % B ≠ 0 ∧ u = N / B / 2 * 2 + 1) := by
  by_cases h : N % B = 0
  · rw [if_pos h] at hu; exact Or.inl ⟨h, by simpa using hu⟩
  · rw [if_neg h, or_one] at hu; exact Or.inr ⟨h, hu⟩

theorem L1 {N k B : Nat} (_hB : 0 < B) (h : N ≤ k * B) : N / B < k ∨ (N / B = k ∧ N % B = 0) := by
  have h1 : N / B ≤ k := Nat.div_le_of_le_mul (by rw [Nat.mul_comm]; exact h)
  rcases Nat.lt_or_ge (N / B) k with h2 | h2
  · exact Or.inl h2
  · have e : N / B = k := by omega
    have h3 := Nat.div_add_mod N B
    rw [e, Nat.mul_comm] at h3
    exact Or.inr ⟨e, by omega⟩
theorem L2 {N k B : Nat} (hB : 0 < B) (h : k * B ≤ N) : k ≤ N / B := (Nat.le_div_iff_mul_le hB).2 h
theorem L3 {N k B : Nat} (h : N < k * B) : N / B < k := Nat.div_lt_of_lt_mul (by rw [Nat.mul_comm]; exact h)
theorem L4 {N k B : Nat} (hB : 0 < B) (h : k * B < N) : k < N / B ∨ (k = N / B ∧ N % B ≠ 0) := by
  have h1 := L2 hB (Nat.le_of_lt h)
  rcases Nat.lt_or_ge k (N / B) with h2 | h2
  · exact Or.inl h2
  · have e : k = N / B := by omega
    have h3 := Nat.div_add_mod N B
    rw [← e, Nat.mul_comm] at h3
    exact Or.inr ⟨e, by omega⟩

/-- What the two ends of the interval come to. -/
theorem ends {Nn Nx B D un ux o : Nat} (hB : 0 < B) (hn : un = Nn / B ||| (if Nn % B = 0 then 0 else 1)) (hx : ux = Nx / B ||| (if Nx % B = 0 then 0 else 1))
    (ho : o = 0 ∨ o = 1) (h1 : Nn ≤ 4 * D * B) (h2 : 4 * D * B ≤ Nx) (h3 : o = 1 → Nn < 4 * D * B ∧ 4 * D * B < Nx) (hw : Nx < Nn + 40 * B) :
    (un + o + 3) / 4 ≤ D ∧ D ≤ (ux - o) / 4 ∧ (ux - o) / 4 < (un + o + 3) / 4 + 10 := by
  have cn := uU_cases Nn B un hn
  have cx := uU_cases Nx B ux hx
  have a1 := L1 hB h1
  have a2 := L2 hB h2
  -- the width, in units of B
  have w1 : Nx / B < Nn / B + 41 := by
    have d1 := Nat.div_add_mod Nn B
    have d2 := Nat.mod_lt Nn hB
    refine L3 ?_
    rw [Nat.add_mul, Nat.mul_comm (Nn / B) B]
    omega
  rcases ho with rfl | rfl
  · refine ⟨by omega, by omega, ?_⟩
    have w2 : Nx / B = Nn / B + 40 → Nn % B ≠ 0 := by
      intro e h
      have d1 := Nat.div_add_mod Nn B
      have d2 := Nat.div_add_mod Nx B
      rw [e, Nat.mul_add, Nat.mul_comm B 40] at d2
      omega
    omega
  · obtain ⟨b1, b2⟩ := h3 rfl
    have a3 := L3 b1
    have a4 := L4 hB b2
    exact ⟨by omega, by omega, by omega⟩

theorem far {Nn Nx B A un ux o : Nat} (hB : 0 < B) (hn : un = Nn / B ||| (if Nn % B = 0 then 0 else 1)) (hx : ux = Nx / B ||| (if Nx % B = 0 then 0 else 1))
    (h5 : 5 ≤ A) (h1 : 4 * (A - 5) * B < Nn) (h2 : Nx < 4 * (A + 5) * B) : A - 5 < (un + o + 3) / 4 ∧ (ux - o) / 4 < A + 5 := by
  have cn := uU_cases Nn B un hn
  have cx := uU_cases Nx B ux hx
  have a1 := L4 hB h1
  have a2 := L3 h2
  exact ⟨by omega, by omega⟩

/-- Ten to the p stands between the powers of two that the float's last bit needs. -/
structure Pw (f p : Nat) (sk : Bool) : Prop where
  p3 : 3 ≤ p
  p19 : p ≤ 19
  lo : if sk then 3 * 10 ^ (p - 1) < 4 * 2 ^ f else 10 ^ (p - 1) < 2 ^ f
  small : f < 10 → p = 3
  big : 10 ≤ f → 4 ≤ p

theorem mx_eq (M : Nat) : M * 2 ^ 11 + 2 ^ 10 = (2 * M + 1) * 1024 := by omega
theorem mn_eq (M : Nat) (sk : Bool) (h : 1 ≤ M) : M * 2 ^ 11 - (if sk then 2 ^ 9 else 2 ^ 10) = if sk then (4 * M - 1) * 512 else (2 * M - 1) * 1024 := by
  cases sk <;> simp <;> omega

theorem short_spec (A M f p F mn mx o dmin dmax : Nat) (sk : Bool) (h : Fl A M f) (hp : Pw f p sk) (hF : F = f + 9) (hsk : sk = true ↔ M = 2 ^ 52)
    (hmn : mn = M * 2 ^ 11 - (if sk then 2 ^ 9 else 2 ^ 10)) (hmx : mx = M * 2 ^ 11 + 2 ^ 10) (ho : o = M % 2)
    (hdn : dmin = (uU mn p F + o + 3) / 4) (hdx : dmax = (uU mx p F - o) / 4) :
    (dmin ≤ dmax / 10 * 10 ∧ dmax / 10 * 1000 = A * 10 ^ (p - 1)) ∨ (dmax / 10 * 10 < dmin ∧ p = 3 ∧ (dmin = dmax → dmin = A) ∧ dmin ≤ dmax ∧ uU (M * 2 ^ 11) p F = 4 * A ∧ A ≤ dmax) := by
  obtain ⟨K, hK⟩ : ∃ K, K = 10 ^ (p - 3) := ⟨_, rfl⟩
  have e10 : 10 ^ p = 1000 * K := by rw [hK, show (1000 : Nat) = 10 ^ 3 by rfl, ← Nat.pow_add]; congr 1; have := hp.p3; omega
  have e10' : 10 ^ (p - 1) = 100 * K := by rw [hK, show (100 : Nat) = 10 ^ 2 by rfl, ← Nat.pow_add]; congr 1; have := hp.p3; omega
  obtain ⟨X, hX⟩ : ∃ X, X = A * 2 ^ f := ⟨_, rfl⟩
  obtain ⟨T, hT⟩ : ∃ T, T = 2 ^ f := ⟨_, rfl⟩
  have hB : 0 < 2 ^ F := Nat.two_pow_pos _
  have eB : 2 ^ F = 512 * T := by rw [hF, Nat.pow_add, hT]; omega
  have hDB : 4 * (A * K) * 2 ^ F = 2048 * (X * K) := by
    rw [eB, hX, ← hT]
    have : 4 * (A * K) * (512 * T) = 2048 * (A * T * K) := by
      rw [show (2048 : Nat) = 4 * 512 by rfl]
      simp only [Nat.mul_assoc, Nat.mul_left_comm, Nat.mul_comm]
    exact this
  have hi := h.hi; have lo := h.lo; have odd := h.odd; have edge := h.edge
  rw [← hX] at hi lo odd edge
  have hedge : sk = true → 4000 * M ≤ 4 * X + 1000 := fun h => edge (hsk.1 h)
  have hodd : sk = true → M % 2 = 0 := fun h => by rw [hsk.1 h]
  clear edge hsk
  have hm1 : 1 ≤ M := Nat.le_trans (by decide) h.m1
  have hNx : mx * 10 ^ p = (2 * M + 1) * 1024 * (1000 * K) := by rw [hmx, e10, mx_eq]
  have hNn : mn * 10 ^ p = (if sk then (4 * M - 1) * 512 else (2 * M - 1) * 1024) * (1000 * K) := by
    rw [hmn, e10, mn_eq M sk hm1]
  have key : (uU mn p F + o + 3) / 4 ≤ A * K ∧ A * K ≤ (uU mx p F - o) / 4 ∧ (uU mx p F - o) / 4 < (uU mn p F + o + 3) / 4 + 10 := by
    refine ends hB rfl rfl (by omega) ?_ ?_ ?_ ?_
    · rw [hDB, hNn]
      cases sk with
      | true =>
        have := hedge rfl
        simp only [if_true]
        have e : (4 * M - 1) * 1000 ≤ 4 * X := by omega
        have := Nat.mul_le_mul_right (512 * K) e
        calc (4 * M - 1) * 512 * (1000 * K) = (4 * M - 1) * 1000 * (512 * K) := by simp only [Nat.mul_assoc, Nat.mul_left_comm, Nat.mul_comm]
          _ ≤ 4 * X * (512 * K) := this
          _ = 2048 * (X * K) := by rw [show (2048 : Nat) = 4 * 512 by rfl]; simp only [Nat.mul_assoc, Nat.mul_left_comm, Nat.mul_comm]
      | false =>
        simp only [Bool.false_eq_true, if_false]
        have e : (2 * M - 1) * 1000 ≤ 2 * X := by omega
        have := Nat.mul_le_mul_right (1024 * K) e
        calc (2 * M - 1) * 1024 * (1000 * K) = (2 * M - 1) * 1000 * (1024 * K) := by simp only [Nat.mul_assoc, Nat.mul_left_comm, Nat.mul_comm]
          _ ≤ 2 * X * (1024 * K) := this
          _ = 2048 * (X * K) := by rw [show (2048 : Nat) = 2 * 1024 by rfl]; simp only [Nat.mul_assoc, Nat.mul_left_comm, Nat.mul_comm]
    · rw [hDB, hNx]
      have e : 2 * X ≤ (2 * M + 1) * 1000 := by omega
      have := Nat.mul_le_mul_right (1024 * K) e
      calc 2048 * (X * K) = 2 * X * (1024 * K) := by rw [show (2048 : Nat) = 2 * 1024 by rfl]; simp only [Nat.mul_assoc, Nat.mul_left_comm, Nat.mul_comm]
        _ ≤ (2 * M + 1) * 1000 * (1024 * K) := this
        _ = (2 * M + 1) * 1024 * (1000 * K) := by simp only [Nat.mul_assoc, Nat.mul_left_comm, Nat.mul_comm]
    · intro h1
      obtain ⟨o1, o2⟩ := odd (by omega)
      have hs : sk = false := by
        cases hs' : sk with
        | false => rfl
        | true => have := hodd hs'; omega
      have hK0 : 0 < 1024 * K := by rw [hK]; exact Nat.mul_pos (by decide) (Nat.pow_pos (by decide))
      rw [hDB, hNn, hNx, hs]
      simp only [Bool.false_eq_true, if_false]
      constructor
      · have e : (2 * M - 1) * 1000 < 2 * X := by omega
        have := Nat.mul_lt_mul_of_pos_right e hK0
        calc (2 * M - 1) * 1024 * (1000 * K) = (2 * M - 1) * 1000 * (1024 * K) := by simp only [Nat.mul_assoc, Nat.mul_left_comm, Nat.mul_comm]
          _ < 2 * X * (1024 * K) := this
          _ = 2048 * (X * K) := by rw [show (2048 : Nat) = 2 * 1024 by rfl]; simp only [Nat.mul_assoc, Nat.mul_left_comm, Nat.mul_comm]
      · have e : 2 * X < (2 * M + 1) * 1000 := by omega
        have := Nat.mul_lt_mul_of_pos_right e hK0
        calc 2048 * (X * K) = 2 * X * (1024 * K) := by rw [show (2048 : Nat) = 2 * 1024 by rfl]; simp only [Nat.mul_assoc, Nat.mul_left_comm, Nat.mul_comm]
          _ < (2 * M + 1) * 1000 * (1024 * K) := this
          _ = (2 * M + 1) * 1024 * (1000 * K) := by simp only [Nat.mul_assoc, Nat.mul_left_comm, Nat.mul_comm]
    · have hlo := hp.lo
      rw [e10', ← hT] at hlo
      rw [hNx, hNn, eB]
      cases sk with
      | true =>
        simp only [if_true] at hlo ⊢
        have e1 : (2 * M + 1) * 1024 * (1000 * K) = (4 * M + 2) * (512000 * K) := by
          rw [show 4 * M + 2 = (2 * M + 1) * 2 by omega, show (512000 : Nat) = 512 * 1000 by rfl]
          simp only [Nat.mul_assoc]
          congr 1
          omega
        have e2 : (4 * M - 1) * 512 * (1000 * K) = (4 * M - 1) * (512000 * K) := by
          rw [show (512000 : Nat) = 512 * 1000 by rfl]; simp only [Nat.mul_assoc]
        rw [e1, e2]
        have e3 : (4 * M + 2) * (512000 * K) = (4 * M - 1) * (512000 * K) + 3 * (512000 * K) := by rw [← Nat.add_mul]; congr 1; omega
        omega
      | false =>
        simp only [Bool.false_eq_true, if_false] at hlo ⊢
        have e1 : (2 * M + 1) * 1024 * (1000 * K) = (2 * M + 1) * (1024000 * K) := by
          rw [show (1024000 : Nat) = 1024 * 1000 by rfl]; simp only [Nat.mul_assoc]
        have e2 : (2 * M - 1) * 1024 * (1000 * K) = (2 * M - 1) * (1024000 * K) := by
          rw [show (1024000 : Nat) = 1024 * 1000 by rfl]; simp only [Nat.mul_assoc]
        rw [e1, e2]
        have e3 : (2 * M + 1) * (1024000 * K) = (2 * M - 1) * (1024000 * K) + 2 * (1024000 * K) := by rw [← Nat.add_mul]; congr 1; omega
        omega
  rw [← hdn, ← hdx] at key
  obtain ⟨k1, k2, k3⟩ := key
  by_cases hten : A * K % 10 = 0
  · refine Or.inl ⟨by omega, ?_⟩
    have hd : dmax / 10 * 10 = A * K := by omega
    rw [e10']
    calc dmax / 10 * 1000 = dmax / 10 * 10 * 100 := by omega
      _ = A * K * 100 := by rw [hd]
      _ = A * (100 * K) := by rw [Nat.mul_assoc, Nat.mul_comm K 100]
  · have hf : f < 10 := by
      rcases Nat.lt_or_ge f 10 with h1 | h1
      · exact h1
      · exfalso
        have hp4 := hp.big h1
        have : K = 10 * 10 ^ (p - 4) := by rw [hK, show p - 3 = p - 4 + 1 by omega, Nat.pow_succ]; omega
        exact hten (by rw [this, Nat.mul_left_comm, Nat.mul_mod_right])
    have hp3 := hp.small hf
    have hK1 : K = 1 := by rw [hK, hp3]
    obtain ⟨ex, h5⟩ := h.exact hf
    rw [hK1, Nat.mul_one] at k1 k2 hten
    have hex : X = 1000 * M := by rw [hX]; exact ex
    -- exact: the ends stand less than five away
    have hN : M * 2 ^ 11 * 10 ^ p = 4 * A * 2 ^ F := by
      have := hDB
      rw [hK1, Nat.mul_one, Nat.mul_one] at this
      rw [this, e10, hK1, hex]
      omega
    have hu : uU (M * 2 ^ 11) p F = 4 * A := by
      unfold uU
      rw [hN, Nat.mul_mod_left, if_pos rfl, Nat.mul_div_cancel _ hB]
      simp
    have hT7 : 128 ≤ T := by rw [hT]; exact Nat.pow_le_pow_right (n := 2) (by decide) h.f1
    have hA5 : 5 ≤ A := by
      rcases Nat.lt_or_ge A 5 with h6 | h6
      · have : A = 0 := by omega
        rw [this, Nat.zero_mul] at hX
        omega
      · exact h6
    have hXA : X = A * T := by rw [hX, hT]
    have nf := far (A := A) (o := o) hB (show uU mn p F = mn * 10 ^ p / 2 ^ F ||| (if mn * 10 ^ p % 2 ^ F = 0 then 0 else 1) from rfl) (show uU mx p F = mx * 10 ^ p / 2 ^ F ||| (if mx * 10 ^ p % 2 ^ F = 0 then 0 else 1) from rfl) hA5
      (by
        rw [hNn, eB, hK1]
        have e1 : 4 * (A - 5) * (512 * T) = 2048 * (A * T) - 10240 * T := by
          rw [Nat.mul_sub, Nat.sub_mul, show 4 * A * (512 * T) = 2048 * (A * T) by rw [show (2048 : Nat) = 4 * 512 by rfl]; simp only [Nat.mul_assoc, Nat.mul_left_comm, Nat.mul_comm]]
          congr 1
          omega
        rw [e1, ← hXA, hex]
        cases sk <;> simp <;> omega)
      (by
        rw [hNx, eB, hK1]
        have e1 : 4 * (A + 5) * (512 * T) = 2048 * (A * T) + 10240 * T := by
          rw [Nat.mul_add, Nat.add_mul, show 4 * A * (512 * T) = 2048 * (A * T) by rw [show (2048 : Nat) = 4 * 512 by rfl]; simp only [Nat.mul_assoc, Nat.mul_left_comm, Nat.mul_comm]]
          congr 1
          omega
        rw [e1, ← hXA, hex]
        omega)
    rw [← hdn, ← hdx] at nf
    obtain ⟨n1, n2⟩ := nf
    exact Or.inr ⟨by omega, hp3, fun e => by omega, by omega, hu, k2⟩
def pOf (f : Nat) : Nat := (f * 78913 + 262143) / 262144
def pSk (f : Nat) : Nat := (f * 631305 + 261663 + 2097151) / 2097152
def lp (p : Nat) : Nat := p * 108853 / 32768
/-- The table's upper half at place p. -/
def hT (p : Nat) : Nat := 10 ^ p * 2 ^ (63 - lp p)

theorem pOf_int (f : Nat) : -((-(f : Int) * 78913) / 262144) = (pOf f : Int) := by unfold pOf; omega
theorem pSk_int (f : Nat) : -((-(f : Int) * 631305 - 261663) / 2097152) = (pSk f : Int) := by unfold pSk; omega
theorem lp_int (p : Nat) : (p : Int) * 108853 / 32768 = (lp p : Int) := by unfold lp; omega

theorem pOf_tab : ∀ f : Fin 63, 7 ≤ f.val → 3 ≤ pOf f.val ∧ pOf f.val ≤ 19 ∧ 10 ^ (pOf f.val - 1) < 2 ^ f.val ∧ (f.val < 10 → pOf f.val = 3) ∧ (10 ≤ f.val → 4 ≤ pOf f.val) ∧ lp (pOf f.val) ≤ f.val + 8 ∧ f.val + 8 - lp (pOf f.val) < 64 := by decide +kernel
theorem pSk_tab : ∀ f : Fin 63, 7 ≤ f.val → 3 ≤ pSk f.val ∧ pSk f.val ≤ 19 ∧ 3 * 10 ^ (pSk f.val - 1) < 4 * 2 ^ f.val ∧ (f.val < 10 → pSk f.val = 3) ∧ (10 ≤ f.val → 4 ≤ pSk f.val) ∧ lp (pSk f.val) ≤ f.val + 8 ∧ f.val + 8 - lp (pSk f.val) < 64 := by decide +kernel
theorem hT_tab : ∀ p : Fin 20, hT p.val < 18446744073709551616 ∧ lp p.val ≤ 63 ∧ 9223372036854775808 ≤ hT p.val := by decide +kernel

theorem pw_of (f : Nat) (h1 : 7 ≤ f) (h2 : f ≤ 62) : Pw f (pOf f) false := by
  obtain ⟨a, b, c, d, e, _⟩ := pOf_tab ⟨f, by omega⟩ h1
  exact ⟨a, b, by simpa using c, d, e⟩
theorem pw_sk (f : Nat) (h1 : 7 ≤ f) (h2 : f ≤ 62) : Pw f (pSk f) true := by
  obtain ⟨a, b, c, d, e, _⟩ := pSk_tab ⟨f, by omega⟩ h1
  exact ⟨a, b, by simpa using c, d, e⟩

/-- uscale's arithmetic, over the product's two halves. -/
def uH (hi mid S : Nat) : Nat := if hi / 2 ^ S * 2 ^ S = hi then hi / 2 ^ S ||| (if 1 < mid then 1 else 0) else hi / 2 ^ S ||| 1

theorem uH_eq (x p F S hi mid : Nat) (hx : x % 2 = 0) (hl : lp p ≤ 63) (hS : S + lp p + 1 = F)
    (e1 : hi = x * hT p / 2 ^ 64) (e2 : mid = x * hT p % 2 ^ 64) : uH hi mid S = uU x p F := by
  obtain ⟨N, hN⟩ : ∃ N, N = x * 10 ^ p := ⟨_, rfl⟩
  have hP : x * hT p = N * 2 ^ (63 - lp p) := by rw [hN, hT, Nat.mul_assoc]
  have hTT : 2 ^ F * 2 ^ (63 - lp p) = 2 ^ 64 * 2 ^ S := by rw [← Nat.pow_add, ← Nat.pow_add]; congr 1; omega
  have hd : hi / 2 ^ S = N / 2 ^ F := by
    rw [e1, Nat.div_div_eq_div_mul, hP, ← hTT]
    exact Nat.mul_div_mul_right _ _ (Nat.two_pow_pos _)
  have hm : (x * hT p) % (2 ^ 64 * 2 ^ S) = N % 2 ^ F * 2 ^ (63 - lp p) := by
    rw [hP, ← hTT]; exact Nat.mul_mod_mul_right _ _ _
  have hm2 : (x * hT p) % (2 ^ 64 * 2 ^ S) = mid + 2 ^ 64 * (hi % 2 ^ S) := by
    rw [Nat.mod_mul, e1, e2]
  have hz : N % 2 ^ F = 0 ↔ (mid = 0 ∧ hi % 2 ^ S = 0) := by
    have hpos : 0 < 2 ^ (63 - lp p) := Nat.two_pow_pos _
    constructor
    · intro h
      rw [h, Nat.zero_mul, hm2] at hm
      constructor <;> omega
    · rintro ⟨h3, h4⟩
      rw [h3, h4] at hm2
      rw [hm2] at hm
      have : N % 2 ^ F * 2 ^ (63 - lp p) = 0 := by rw [← hm]
      rcases Nat.mul_eq_zero.1 this with h5 | h5
      · exact h5
      · omega
  have hdm : hi / 2 ^ S * 2 ^ S = hi ↔ hi % 2 ^ S = 0 := by
    have := Nat.div_add_mod hi (2 ^ S)
    rw [Nat.mul_comm] at this
    generalize hi / 2 ^ S * 2 ^ S = y at *
    omega
  have heven : mid % 2 = 0 := by
    rw [e2, Nat.mod_mod_of_dvd _ (by decide : 2 ∣ 2 ^ 64), Nat.mul_mod, hx]
    simp
  have hmid : 1 < mid ↔ mid ≠ 0 := by omega
  unfold uH uU
  rw [← hN, ← hd]
  by_cases h0 : hi % 2 ^ S = 0
  · rw [if_pos (hdm.2 h0)]
    by_cases h1 : mid = 0
    · rw [if_neg (by omega), if_pos (hz.2 ⟨h1, h0⟩)]
    · rw [if_pos (by omega), if_neg (fun h => h1 (hz.1 h).1)]
  · rw [if_neg (fun h => h0 (hdm.1 h)), if_neg (fun h => h0 (hz.1 h).2)]
end Go.Proofs.YtdeejmkjhmpabaaGreatDoor.Sam

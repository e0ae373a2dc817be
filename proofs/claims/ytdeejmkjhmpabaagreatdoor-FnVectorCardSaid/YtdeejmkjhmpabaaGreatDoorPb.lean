/-
  The text of a number of thousandths, digit by digit.
-/
import Derived.Test.YtdeejmkjhmpabaaGreatDoorF4
namespace Go.Proofs.YtdeejmkjhmpabaaGreatDoor
open Go.RowKit Go.Lib

/-- A thousandths in decimals, with no nought at the end. -/
def num3 (A : Nat) : List UInt8 :=
  decDigits (A / 1000) ++ (if A % 1000 = 0 then [] else if A % 100 = 0 then [46, dg A 2] else if A % 10 = 0 then [46, dg A 2, dg A 1] else [46, dg A 2, dg A 1, dg A 0])

def bytesV (l : List UInt8) : List Value := l.map fun c => .int .u8 (c.toNat : Int)

/-- What fmtEFG lays for the digits D, nd of them, the point behind dp. -/
def fText (D : Nat → Int) (nd : Nat) (dp : Int) : List Value :=
  if (nd : Int) ≤ dp then digs D 0 nd ++ List.replicate (dp.toNat - nd) (.int .u8 48)
  else if 0 < dp then digs D 0 dp.toNat ++ [.int .u8 46] ++ digs D dp.toNat (nd - dp.toNat)
  else [.int .u8 48] ++ [.int .u8 46] ++ List.replicate (-dp).toNat (.int .u8 48) ++ digs D 0 nd

/-- The digits of d, from the left. -/
def DD (d : Nat) (t : Nat) : Int := 48 + ((d / 10 ^ (nDigits d - 1 - t) % 10 : Nat) : Int)

theorem dgV (u j : Nat) : Value.int .u8 ((dg u j).toNat : Int) = .int .u8 (48 + ((u / 10 ^ j % 10 : Nat) : Int)) := by
  rw [dg_nat]; simp

theorem bytesV_dec (d : Nat) : bytesV (decDigits d) = digs (DD d) 0 (nDigits d) := by
  rw [decDigits_eq]
  unfold bytesV digs DD
  rw [List.map_map]
  refine List.map_congr_left fun t _ => ?_
  simp only [Function.comp, Nat.zero_add]
  exact dgV d _

theorem nDigits_div (d f : Nat) (h : f < nDigits d) : nDigits (d / 10 ^ f) = nDigits d - f := by
  induction f with
  | zero => simp
  | succ f ih =>
    have h1 := ih (by omega)
    have h2 : ¬ d / 10 ^ f < 10 := by
      intro h3
      rw [nDigits_small h3] at h1
      omega
    rw [nDigits_big h2] at h1
    rw [Nat.pow_succ, ← Nat.div_div_eq_div_mul]
    omega

theorem digs_hi (d f : Nat) (h : f < nDigits d) : digs (DD d) 0 (nDigits d - f) = bytesV (decDigits (d / 10 ^ f)) := by
  rw [bytesV_dec, nDigits_div d f h]
  unfold digs
  refine List.map_congr_left fun t ht => ?_
  have ht' : t < nDigits d - f := by simpa using ht
  simp only [DD, Nat.zero_add]
  have e : f + (nDigits d - f - 1 - t) = nDigits d - 1 - t := by omega
  rw [nDigits_div d f h, Nat.div_div_eq_div_mul, ← Nat.pow_add, e]

theorem digs_mul (d z : Nat) (hd : 1 ≤ d) : digs (DD d) 0 (nDigits d) ++ List.replicate z (.int .u8 48) = bytesV (decDigits (d * 10 ^ z)) := by
  rw [bytesV_dec, nDigits_mul d z hd]
  induction z with
  | zero =>
    simp
  | succ z ih =>
    rw [zeros_succ, ← List.append_assoc, ih, ← Nat.add_assoc, digs_succ]
    congr 1
    · unfold digs
      refine List.map_congr_left fun t ht => ?_
      have ht' : t < nDigits d + z := by simpa using ht
      simp only [DD, Nat.zero_add]
      rw [nDigits_mul d z hd, nDigits_mul d (z + 1) hd]
      have e : nDigits d + (z + 1) - 1 - t = (nDigits d + z - 1 - t) + 1 := by omega
      rw [e, Nat.pow_succ 10 z, ← Nat.mul_assoc, Nat.pow_succ 10 (nDigits d + z - 1 - t), Nat.mul_div_mul_right _ _ (by decide)]
    · simp only [DD, Nat.zero_add]
      rw [nDigits_mul d (z + 1) hd]
      have e : nDigits d + (z + 1) - 1 - (nDigits d + z) = 0 := by omega
      rw [e, Nat.pow_zero, Nat.div_one, Nat.pow_succ, ← Nat.mul_assoc, Nat.mul_mod_left]
      rfl

theorem pow_ne_ten {d A f : Nat} (h : A * 10 ^ f = d * 1000) (hd : d % 10 ≠ 0) : f ≤ 3 := by
  rcases Nat.lt_or_ge 3 f with h4 | h4
  · exfalso
    obtain ⟨g, rfl⟩ : ∃ g, f = g + 4 := ⟨f - 4, by omega⟩
    rw [Nat.pow_add, ← Nat.mul_assoc] at h
    have : d = A * 10 ^ g * 10 := by
      generalize A * 10 ^ g = y at *
      omega
    rw [this] at hd
    exact hd (Nat.mul_mod_left _ _)
  · exact h4

/-- The lowest f digits. -/
def lowd (d f : Nat) : List Value := (List.range f).map fun t => .int .u8 (48 + ((d / 10 ^ (f - 1 - t) % 10 : Nat) : Int))

theorem low_long (d f : Nat) (h : f < nDigits d) : digs (DD d) (nDigits d - f) f = lowd d f := by
  unfold digs lowd
  refine List.map_congr_left fun t ht => ?_
  have ht' : t < f := by simpa using ht
  have e : nDigits d - 1 - (nDigits d - f + t) = f - 1 - t := by omega
  simp only [DD, e]

theorem low_short (d f : Nat) (h : nDigits d ≤ f) : List.replicate (f - nDigits d) (Value.int .u8 48) ++ digs (DD d) 0 (nDigits d) = lowd d f := by
  refine List.ext_getElem (by simp [digs, lowd]; omega) fun t h1 h2 => ?_
  have ht : t < f := by simpa [lowd] using h2
  by_cases hs : t < f - nDigits d
  · rw [List.getElem_append_left (by simpa using hs), List.getElem_replicate]
    simp only [lowd, List.getElem_map, List.getElem_range]
    have : d / 10 ^ (f - 1 - t) = 0 := Nat.div_eq_of_lt (Nat.lt_of_lt_of_le (lt_pow_nDigits d) (Nat.pow_le_pow_right (by decide) (by omega)))
    rw [this]
    rfl
  · rw [List.getElem_append_right (by simpa using hs)]
    simp only [lowd, digs, DD, List.getElem_map, List.getElem_range, List.length_replicate, Nat.zero_add]
    have e : nDigits d - 1 - (t - (f - nDigits d)) = f - 1 - t := by omega
    rw [e]

theorem num3_f (A d f : Nat) (hf1 : 1 ≤ f) (hf3 : f ≤ 3) (hA : A * 10 ^ f = d * 1000) (hd : d % 10 ≠ 0) : bytesV (num3 A) = bytesV (decDigits (d / 10 ^ f)) ++ [.int .u8 46] ++ lowd d f := by
  have hb : ∀ l : List UInt8, bytesV (decDigits (d / 10 ^ f) ++ l) = bytesV (decDigits (d / 10 ^ f)) ++ bytesV l := fun l => by simp [bytesV]
  rcases (by omega : f = 1 ∨ f = 2 ∨ f = 3) with rfl | rfl | rfl
  · have e : A = d * 100 := by omega
    have e1 : A / 1000 = d / 10 ^ 1 := by omega
    unfold num3
    rw [e1, if_neg (by omega), if_pos (by omega), hb, List.append_assoc]
    congr 1
    have e2 : A / 10 ^ 2 = d := by omega
    simp only [bytesV, List.map_cons, List.map_nil, dgV, e2, lowd, List.range_succ, List.range_zero]
    simp
  · have e : A = d * 10 := by omega
    have e1 : A / 1000 = d / 10 ^ 2 := by omega
    unfold num3
    rw [e1, if_neg (by omega), if_neg (by omega), if_pos (by omega), hb, List.append_assoc]
    congr 1
    have e2 : A / 10 ^ 2 = d / 10 := by omega
    have e3 : A / 10 ^ 1 = d := by omega
    simp only [bytesV, List.map_cons, List.map_nil, dgV, e2, e3, lowd, List.range_succ, List.range_zero]
    simp
  · have e : A = d := by omega
    have e1 : A / 1000 = d / 10 ^ 3 := by omega
    unfold num3
    rw [e1, if_neg (by omega), if_neg (by omega), if_neg (by omega), hb, List.append_assoc]
    congr 1
    subst e
    simp only [bytesV, List.map_cons, List.map_nil, dgV, lowd, List.range_succ, List.range_zero]
    simp

theorem fText_num3 (A d d' z P : Nat) (hd : d = d' * 10 ^ z) (hd' : d' % 10 ≠ 0) (hA : d * 1000 = A * 10 ^ P) :
    fText (DD d') (nDigits d') ((nDigits d : Int) - P) = bytesV (num3 A) := by
  have h1 : 1 ≤ d' := by omega
  have hn : nDigits d = nDigits d' + z := by rw [hd]; exact nDigits_mul d' z h1
  have hpos := nDigits_pos d'
  unfold fText
  by_cases hzP : P ≤ z
  · rw [if_pos (by omega)]
    obtain ⟨j, rfl⟩ : ∃ j, z = P + j := ⟨z - P, by omega⟩
    have hA' : A = d' * 10 ^ j * 1000 := by
      have h10 : 0 < 10 ^ P := Nat.pow_pos (by decide)
      refine Nat.eq_of_mul_eq_mul_right h10 ?_
      rw [← hA, hd, Nat.pow_add]
      simp only [Nat.mul_assoc, Nat.mul_left_comm, Nat.mul_comm]
    have e : ((nDigits d : Int) - P).toNat - nDigits d' = j := by omega
    rw [e, digs_mul d' j h1]
    unfold num3
    rw [hA', Nat.mul_div_cancel _ (by decide), Nat.mul_mod_left, if_pos rfl, List.append_nil]
  · rw [if_neg (by omega)]
    obtain ⟨f, rfl⟩ : ∃ f, P = z + f := ⟨P - z, by omega⟩
    have hA' : A * 10 ^ f = d' * 1000 := by
      have h10 : 0 < 10 ^ z := Nat.pow_pos (by decide)
      refine Nat.eq_of_mul_eq_mul_right h10 ?_
      have : A * 10 ^ f * 10 ^ z = A * 10 ^ (z + f) := by rw [Nat.pow_add]; simp only [Nat.mul_left_comm, Nat.mul_comm]
      rw [this, ← hA, hd]
      simp only [Nat.mul_assoc, Nat.mul_left_comm, Nat.mul_comm]
    have hf3 := pow_ne_ten hA' hd'
    have hf1 : 1 ≤ f := by omega
    rw [num3_f A d' f hf1 hf3 hA' hd']
    by_cases hpos2 : f < nDigits d'
    · rw [if_pos (by omega)]
      have e : ((nDigits d : Int) - ((z + f : Nat) : Int)).toNat = nDigits d' - f := by omega
      have e2 : nDigits d' - (nDigits d' - f) = f := by omega
      rw [e, e2, digs_hi d' f hpos2, low_long d' f hpos2]
    · rw [if_neg (by omega)]
      have e : (-((nDigits d : Int) - ((z + f : Nat) : Int))).toNat = f - nDigits d' := by omega
      have e0 : d' / 10 ^ f = 0 := Nat.div_eq_of_lt (Nat.lt_of_lt_of_le (lt_pow_nDigits d') (Nat.pow_le_pow_right (by decide) (by omega)))
      have e00 : bytesV (decDigits 0) = [.int .u8 48] := by rw [decDigits_one (by decide)]; rfl
      rw [e, e0, e00, List.append_assoc, low_short d' f (by omega)]

end Go.Proofs.YtdeejmkjhmpabaaGreatDoor

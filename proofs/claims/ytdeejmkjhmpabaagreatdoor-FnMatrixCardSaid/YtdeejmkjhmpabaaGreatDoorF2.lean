import Derived.Test.YtdeejmkjhmpabaaGreatDoorF1
import Derived.Lib.Hide
namespace Go.Proofs.YtdeejmkjhmpabaaGreatDoor
open Go.RowKit

/-- The three cells of the scaler. -/
def Sc (b : Nat) (H S : Nat) (w : World) : Prop := w.cell? ⟨b, 0, none⟩ = some (.int .u64 (H : Int)) ∧ w.cell? ⟨b, 0 + 1, none⟩ = some (.int .u64 0) ∧ w.cell? ⟨b, 0 + 2, none⟩ = some (.int .i64 (S : Int))

/-- uscale at one number. -/
def US (x u : Nat) (b H S : Nat) : Prop := ∀ w, Sc b H S w → Calls Tryz.prog 216 #[.int .u64 (x : Int), .pointer (some ⟨b, 0, none⟩)] w fun e w' => e = .returned (.int .u64 (u : Int)) ∧ ∃ n, w' = w.drewN n

theorem US.call {x u b H S : Nat} {w : World} (h : US x u b H S) (hs : Sc b H S w) : Calls Tryz.prog 216 #[.int .u64 (x : Int), .pointer (some ⟨b, 0, none⟩)] w fun e w' => e = .returned (.int .u64 (u : Int)) ∧ ∃ n, w' = w.drewN n := h w hs
theorem sc_new (w : World) (H S : Nat) : Sc w.heap.size H S (w.alloc (.cells #[.int .u64 (H : Int), .int .u64 0, .int .i64 (S : Int)] 269)) := by
  refine ⟨?_, ?_, ?_⟩ <;> simp
theorem Sc.drewN {b H S : Nat} {w : World} (h : Sc b H S w) (n : Nat) : Sc b H S (w.drewN n) := by
  obtain ⟨h1, h2, h3⟩ := h
  exact ⟨by simpa using h1, by simpa using h2, by simpa using h3⟩

/-- How the answer comes of the interval's ends. -/
def shortOut (dn dx A p : Nat) : Value := if dn ≤ dx / 10 * 10 then .tuple #[.int .u64 ((dx / 10 : Nat) : Int), .int .i64 (-((p : Int) - 1))] else .tuple #[.int .u64 (A : Int), .int .i64 (-(p : Int))]

set_option maxRecDepth 100000 in
set_option maxHeartbeats 2000000 in
theorem short_walk_a (m mn mx M o f p l S H un ux um u1 u2 dn dx A : Nat) (e : Int) (w : World)
    (ht : ((m : Int) == 9223372036854775808) = false) (hmn : (m : Int) - 1024 = (mn : Int)) (hmx : (m : Int) + 1024 = (mx : Int)) (hsh : (m : Int) / 2048 = (M : Int)) (hM : M ≤ 9007199254740992)
    (bm1 : 9223372036854775808 ≤ m) (bm2 : m ≤ 18446744073709549568) (ho : o ≤ 1)
    (hand : bits .and .i64 (M : Int) 1 = (o : Int)) (he1 : e + 11 = -(f : Int)) (be1 : -100 ≤ e) (_be2 : e ≤ 0)
    (cl : ∀ w, Calls Tryz.prog 152 #[.int .i64 (-(f : Int))] w fun e w' => e = .returned (.int .i64 (-(p : Int))) ∧ w = w')
    (c2 : ∀ w, Calls Tryz.prog 215 #[.int .i64 (p : Int)] w fun e w' => e = .returned (.int .i64 (l : Int)) ∧ w = w')
    (hp : p ≤ 19) (hl : l ≤ 100) (hS1 : e + (l : Int) + 3 = -(S : Int))
    (q0 : ∀ o1, (w.alloc o1).cell? ⟨15, (p + 348) * 2, none⟩ = some (.int .u64 (H : Int))) (q1 : ∀ o1, (w.alloc o1).cell? ⟨15, (p + 348) * 2 + 1, none⟩ = some (.int .u64 0))
    (cn : US mn un w.heap.size H S) (cx : US mx ux w.heap.size H S) (cm : US m um w.heap.size H S)
    (n1 : ∀ w, Calls Tryz.prog 217 #[.int .u64 (un : Int), .int .i64 (o : Int)] w fun e w' => e = .returned (.int .u64 (u1 : Int)) ∧ w = w')
    (n2 : ∀ w, Calls Tryz.prog 217 #[.int .u64 (ux : Int), .int .i64 (-(o : Int))] w fun e w' => e = .returned (.int .u64 (u2 : Int)) ∧ w = w')
    (k1 : ∀ w, Calls Tryz.prog 218 #[.int .u64 (u1 : Int)] w fun e w' => e = .returned (.int .u64 (dn : Int)) ∧ w = w')
    (k2 : ∀ w, Calls Tryz.prog 219 #[.int .u64 (u2 : Int)] w fun e w' => e = .returned (.int .u64 (dx : Int)) ∧ w = w')
    (bdx : dx ≤ 1000000000000000000) (bdn : dn ≤ 1000000000000000000)
    (hcase : dn ≤ dx / 10 * 10 ∨ (dx / 10 * 10 < dn ∧ dn ≤ dx ∧ (dn = dx → dn = A) ∧ ∀ w, Calls Tryz.prog 220 #[.int .u64 (um : Int)] w fun e w' => e = .returned (.int .u64 (A : Int)) ∧ w = w')) :
    Calls Tryz.prog 209 #[.int .u64 (m : Int), .int .i64 e] w fun e w' => e = .returned (shortOut dn dx A p) ∧ Below w.heap.size w w' := by
  rcases hcase with hc | ⟨hc, hle, heq, c3⟩
  · have hout : shortOut dn dx A p = .tuple #[.int .u64 ((dx / 10 : Nat) : Int), .int .i64 (-((p : Int) - 1))] := by unfold shortOut; rw [if_pos hc]
    rw [hout]
    have hge : decide ((dn : Int) ≤ (dx : Int) / 10 * 10) = true := by simp; omega
    clear hout
    go_enter Tryz.func209, Tryz.ntmps209
    go_wp2_with (first | (go_at_call 152; (with_reducible refine (cl _).mono ?_); rintro e w' ⟨rfl, rfl⟩) | (go_at_call 215; (with_reducible refine (c2 _).mono ?_); rintro e w' ⟨rfl, rfl⟩) | (go_at_call 214; go_in))
    go_end0
    have s0 := sc_new w H S
    go_wp2_with (first
      | (go_at_call 216; (with_reducible refine (US.call cn s0).mono ?_); rintro e w' ⟨rfl, nd1, rfl⟩)
      | (go_at_call 216; (with_reducible refine (US.call cx (s0.drewN _)).mono ?_); rintro e w' ⟨rfl, nd2, rfl⟩)
      | (go_at_call 216; (with_reducible refine (US.call cm (s0.drewN _)).mono ?_); rintro e w' ⟨rfl, nd3, rfl⟩)
      | (go_at_call 217; (with_reducible refine (n1 _).mono ?_); rintro e w' ⟨rfl, rfl⟩)
      | (go_at_call 217; (with_reducible refine (n2 _).mono ?_); rintro e w' ⟨rfl, rfl⟩)
      | (go_at_call 218; (with_reducible refine (k1 _).mono ?_); rintro e w' ⟨rfl, rfl⟩)
      | (go_at_call 219; (with_reducible refine (k2 _).mono ?_); rintro e w' ⟨rfl, rfl⟩))
    go_ret2
    exact ⟨rfl, below_drewN ((Below.refl _ _).alloc (Nat.le_refl _) _) _⟩
  · have hout : shortOut dn dx A p = .tuple #[.int .u64 (A : Int), .int .i64 (-(p : Int))] := by unfold shortOut; rw [if_neg (by omega)]
    rw [hout]
    have hge : decide ((dn : Int) ≤ (dx : Int) / 10 * 10) = false := by simp; omega
    clear hout
    by_cases hlt : dn < dx
    · have hlt2 : decide ((dn : Int) < (dx : Int)) = true := by simp; omega
      clear heq
      go_enter Tryz.func209, Tryz.ntmps209
      go_wp2_with (first | (go_at_call 152; (with_reducible refine (cl _).mono ?_); rintro e w' ⟨rfl, rfl⟩) | (go_at_call 215; (with_reducible refine (c2 _).mono ?_); rintro e w' ⟨rfl, rfl⟩) | (go_at_call 214; go_in))
      go_end0
      have s0 := sc_new w H S
      go_wp2_with (first
        | (go_at_call 216; (with_reducible refine (US.call cn s0).mono ?_); rintro e w' ⟨rfl, nd1, rfl⟩)
        | (go_at_call 216; (with_reducible refine (US.call cx (s0.drewN _)).mono ?_); rintro e w' ⟨rfl, nd2, rfl⟩)
        | (go_at_call 216; (with_reducible refine (US.call cm (s0.drewN _)).mono ?_); rintro e w' ⟨rfl, nd3, rfl⟩)
        | (go_at_call 217; (with_reducible refine (n1 _).mono ?_); rintro e w' ⟨rfl, rfl⟩)
        | (go_at_call 217; (with_reducible refine (n2 _).mono ?_); rintro e w' ⟨rfl, rfl⟩)
        | (go_at_call 218; (with_reducible refine (k1 _).mono ?_); rintro e w' ⟨rfl, rfl⟩)
        | (go_at_call 219; (with_reducible refine (k2 _).mono ?_); rintro e w' ⟨rfl, rfl⟩)
        | (go_at_call 220; (with_reducible refine (c3 _).mono ?_); rintro e w' ⟨rfl, rfl⟩))
      go_ret2
      exact ⟨rfl, below_drewN ((Below.refl _ _).alloc (Nat.le_refl _) _) _⟩
    · have hlt2 : decide ((dn : Int) < (dx : Int)) = false := by simp; omega
      have hA := Lib.hid (heq (by omega))
      clear heq
      go_enter Tryz.func209, Tryz.ntmps209
      go_wp2_with (first | (go_at_call 152; (with_reducible refine (cl _).mono ?_); rintro e w' ⟨rfl, rfl⟩) | (go_at_call 215; (with_reducible refine (c2 _).mono ?_); rintro e w' ⟨rfl, rfl⟩) | (go_at_call 214; go_in))
      go_end0
      have s0 := sc_new w H S
      go_wp2_with (first
        | (go_at_call 216; (with_reducible refine (US.call cn s0).mono ?_); rintro e w' ⟨rfl, nd1, rfl⟩)
        | (go_at_call 216; (with_reducible refine (US.call cx (s0.drewN _)).mono ?_); rintro e w' ⟨rfl, nd2, rfl⟩)
        | (go_at_call 216; (with_reducible refine (US.call cm (s0.drewN _)).mono ?_); rintro e w' ⟨rfl, nd3, rfl⟩)
        | (go_at_call 217; (with_reducible refine (n1 _).mono ?_); rintro e w' ⟨rfl, rfl⟩)
        | (go_at_call 217; (with_reducible refine (n2 _).mono ?_); rintro e w' ⟨rfl, rfl⟩)
        | (go_at_call 218; (with_reducible refine (k1 _).mono ?_); rintro e w' ⟨rfl, rfl⟩)
        | (go_at_call 219; (with_reducible refine (k2 _).mono ?_); rintro e w' ⟨rfl, rfl⟩))
      go_ret2
      exact ⟨by rw [← hA.out]; rfl, below_drewN ((Below.refl _ _).alloc (Nat.le_refl _) _) _⟩


set_option maxRecDepth 100000 in
set_option maxHeartbeats 2000000 in
theorem short_walk_b (m mn mx M o f p l S H un ux um u1 u2 dn dx A : Nat) (e : Int) (w : World)
    (ht : ((m : Int) == 9223372036854775808) = true) (hmn : (m : Int) - 512 = (mn : Int)) (hmx : (m : Int) + 1024 = (mx : Int)) (hsh : (m : Int) / 2048 = (M : Int)) (hM : M ≤ 9007199254740992)
    (bm1 : 9223372036854775808 ≤ m) (bm2 : m ≤ 18446744073709549568) (ho : o ≤ 1)
    (hand : bits .and .i64 (M : Int) 1 = (o : Int)) (he1 : e + 11 = -(f : Int)) (be1 : -100 ≤ e) (_be2 : e ≤ 0)
    (cl : ∀ w, Calls Tryz.prog 213 #[.int .i64 (-(f : Int))] w fun e w' => e = .returned (.int .i64 (-(p : Int))) ∧ w = w')
    (c2 : ∀ w, Calls Tryz.prog 215 #[.int .i64 (p : Int)] w fun e w' => e = .returned (.int .i64 (l : Int)) ∧ w = w')
    (hp : p ≤ 19) (hl : l ≤ 100) (hS1 : e + (l : Int) + 3 = -(S : Int))
    (q0 : ∀ o1, (w.alloc o1).cell? ⟨15, (p + 348) * 2, none⟩ = some (.int .u64 (H : Int))) (q1 : ∀ o1, (w.alloc o1).cell? ⟨15, (p + 348) * 2 + 1, none⟩ = some (.int .u64 0))
    (cn : US mn un w.heap.size H S) (cx : US mx ux w.heap.size H S) (cm : US m um w.heap.size H S)
    (n1 : ∀ w, Calls Tryz.prog 217 #[.int .u64 (un : Int), .int .i64 (o : Int)] w fun e w' => e = .returned (.int .u64 (u1 : Int)) ∧ w = w')
    (n2 : ∀ w, Calls Tryz.prog 217 #[.int .u64 (ux : Int), .int .i64 (-(o : Int))] w fun e w' => e = .returned (.int .u64 (u2 : Int)) ∧ w = w')
    (k1 : ∀ w, Calls Tryz.prog 218 #[.int .u64 (u1 : Int)] w fun e w' => e = .returned (.int .u64 (dn : Int)) ∧ w = w')
    (k2 : ∀ w, Calls Tryz.prog 219 #[.int .u64 (u2 : Int)] w fun e w' => e = .returned (.int .u64 (dx : Int)) ∧ w = w')
    (bdx : dx ≤ 1000000000000000000) (bdn : dn ≤ 1000000000000000000)
    (hcase : dn ≤ dx / 10 * 10 ∨ (dx / 10 * 10 < dn ∧ dn ≤ dx ∧ (dn = dx → dn = A) ∧ ∀ w, Calls Tryz.prog 220 #[.int .u64 (um : Int)] w fun e w' => e = .returned (.int .u64 (A : Int)) ∧ w = w')) :
    Calls Tryz.prog 209 #[.int .u64 (m : Int), .int .i64 e] w fun e w' => e = .returned (shortOut dn dx A p) ∧ Below w.heap.size w w' := by
  rcases hcase with hc | ⟨hc, hle, heq, c3⟩
  · have hout : shortOut dn dx A p = .tuple #[.int .u64 ((dx / 10 : Nat) : Int), .int .i64 (-((p : Int) - 1))] := by unfold shortOut; rw [if_pos hc]
    rw [hout]
    have hge : decide ((dn : Int) ≤ (dx : Int) / 10 * 10) = true := by simp; omega
    clear hout
    go_enter Tryz.func209, Tryz.ntmps209
    go_wp2_with (first | (go_at_call 213; (with_reducible refine (cl _).mono ?_); rintro e w' ⟨rfl, rfl⟩) | (go_at_call 215; (with_reducible refine (c2 _).mono ?_); rintro e w' ⟨rfl, rfl⟩) | (go_at_call 214; go_in))
    go_end0
    have s0 := sc_new w H S
    go_wp2_with (first
      | (go_at_call 216; (with_reducible refine (US.call cn s0).mono ?_); rintro e w' ⟨rfl, nd1, rfl⟩)
      | (go_at_call 216; (with_reducible refine (US.call cx (s0.drewN _)).mono ?_); rintro e w' ⟨rfl, nd2, rfl⟩)
      | (go_at_call 216; (with_reducible refine (US.call cm (s0.drewN _)).mono ?_); rintro e w' ⟨rfl, nd3, rfl⟩)
      | (go_at_call 217; (with_reducible refine (n1 _).mono ?_); rintro e w' ⟨rfl, rfl⟩)
      | (go_at_call 217; (with_reducible refine (n2 _).mono ?_); rintro e w' ⟨rfl, rfl⟩)
      | (go_at_call 218; (with_reducible refine (k1 _).mono ?_); rintro e w' ⟨rfl, rfl⟩)
      | (go_at_call 219; (with_reducible refine (k2 _).mono ?_); rintro e w' ⟨rfl, rfl⟩))
    go_ret2
    exact ⟨rfl, below_drewN ((Below.refl _ _).alloc (Nat.le_refl _) _) _⟩
  · have hout : shortOut dn dx A p = .tuple #[.int .u64 (A : Int), .int .i64 (-(p : Int))] := by unfold shortOut; rw [if_neg (by omega)]
    rw [hout]
    have hge : decide ((dn : Int) ≤ (dx : Int) / 10 * 10) = false := by simp; omega
    clear hout
    by_cases hlt : dn < dx
    · have hlt2 : decide ((dn : Int) < (dx : Int)) = true := by simp; omega
      clear heq
      go_enter Tryz.func209, Tryz.ntmps209
      go_wp2_with (first | (go_at_call 213; (with_reducible refine (cl _).mono ?_); rintro e w' ⟨rfl, rfl⟩) | (go_at_call 215; (with_reducible refine (c2 _).mono ?_); rintro e w' ⟨rfl, rfl⟩) | (go_at_call 214; go_in))
      go_end0
      have s0 := sc_new w H S
      go_wp2_with (first
        | (go_at_call 216; (with_reducible refine (US.call cn s0).mono ?_); rintro e w' ⟨rfl, nd1, rfl⟩)
        | (go_at_call 216; (with_reducible refine (US.call cx (s0.drewN _)).mono ?_); rintro e w' ⟨rfl, nd2, rfl⟩)
        | (go_at_call 216; (with_reducible refine (US.call cm (s0.drewN _)).mono ?_); rintro e w' ⟨rfl, nd3, rfl⟩)
        | (go_at_call 217; (with_reducible refine (n1 _).mono ?_); rintro e w' ⟨rfl, rfl⟩)
        | (go_at_call 217; (with_reducible refine (n2 _).mono ?_); rintro e w' ⟨rfl, rfl⟩)
        | (go_at_call 218; (with_reducible refine (k1 _).mono ?_); rintro e w' ⟨rfl, rfl⟩)
        | (go_at_call 219; (with_reducible refine (k2 _).mono ?_); rintro e w' ⟨rfl, rfl⟩)
        | (go_at_call 220; (with_reducible refine (c3 _).mono ?_); rintro e w' ⟨rfl, rfl⟩))
      go_ret2
      exact ⟨rfl, below_drewN ((Below.refl _ _).alloc (Nat.le_refl _) _) _⟩
    · have hlt2 : decide ((dn : Int) < (dx : Int)) = false := by simp; omega
      have hA := Lib.hid (heq (by omega))
      clear heq
      go_enter Tryz.func209, Tryz.ntmps209
      go_wp2_with (first | (go_at_call 213; (with_reducible refine (cl _).mono ?_); rintro e w' ⟨rfl, rfl⟩) | (go_at_call 215; (with_reducible refine (c2 _).mono ?_); rintro e w' ⟨rfl, rfl⟩) | (go_at_call 214; go_in))
      go_end0
      have s0 := sc_new w H S
      go_wp2_with (first
        | (go_at_call 216; (with_reducible refine (US.call cn s0).mono ?_); rintro e w' ⟨rfl, nd1, rfl⟩)
        | (go_at_call 216; (with_reducible refine (US.call cx (s0.drewN _)).mono ?_); rintro e w' ⟨rfl, nd2, rfl⟩)
        | (go_at_call 216; (with_reducible refine (US.call cm (s0.drewN _)).mono ?_); rintro e w' ⟨rfl, nd3, rfl⟩)
        | (go_at_call 217; (with_reducible refine (n1 _).mono ?_); rintro e w' ⟨rfl, rfl⟩)
        | (go_at_call 217; (with_reducible refine (n2 _).mono ?_); rintro e w' ⟨rfl, rfl⟩)
        | (go_at_call 218; (with_reducible refine (k1 _).mono ?_); rintro e w' ⟨rfl, rfl⟩)
        | (go_at_call 219; (with_reducible refine (k2 _).mono ?_); rintro e w' ⟨rfl, rfl⟩))
      go_ret2
      exact ⟨by rw [← hA.out]; rfl, below_drewN ((Below.refl _ _).alloc (Nat.le_refl _) _) _⟩


theorem tab_cell {w : World} (hT : Tabs w) (p : Nat) (hp : p ≤ 19) : (∀ o1, (w.alloc o1).cell? ⟨15, (p + 348) * 2, none⟩ = some (.int .u64 (Sam.hT p : Nat))) ∧ (∀ o1, (w.alloc o1).cell? ⟨15, (p + 348) * 2 + 1, none⟩ = some (.int .u64 0)) :=
  ⟨fun o1 => ((hT.below ((Below.refl _ _).alloc (Nat.le_refl _) o1)).at.p10 p hp).1, fun o1 => ((hT.below ((Below.refl _ _).alloc (Nat.le_refl _) o1)).at.p10 p hp).2⟩

theorem uU_lt {f p : Nat} {sk : Bool} (hp : Sam.Pw f p sk) (x : Nat) (hx : x < 18446744073709551616) : Sam.uU x p (f + 9) < 500000000000000003 := by
  have h3 : 3 * 10 ^ p ≤ 40 * 2 ^ f := by
    have e : 10 ^ p = 10 * 10 ^ (p - 1) := by
      have := hp.p3
      rw [show p = p - 1 + 1 by omega, Nat.pow_succ, Nat.add_sub_cancel, Nat.mul_comm]
    have := hp.lo
    rw [e]
    cases sk <;> simp at this <;> omega
  have hd : x * 10 ^ p / 2 ^ (f + 9) < 500000000000000001 := by
    refine Nat.div_lt_of_lt_mul ?_
    rw [Nat.pow_add]
    have e1 : 3 * (x * 10 ^ p) ≤ x * (40 * 2 ^ f) := by
      rw [Nat.mul_left_comm]; exact Nat.mul_le_mul_left _ h3
    have e2 : x * (40 * 2 ^ f) ≤ 18446744073709551616 * (40 * 2 ^ f) := Nat.mul_le_mul_right _ (Nat.le_of_lt hx)
    have hpos : 0 < 2 ^ f := Nat.two_pow_pos _
    generalize x * 10 ^ p = N at *
    generalize x * (40 * 2 ^ f) = N2 at *
    generalize 2 ^ f = T at *
    omega
  have hc := Sam.uU_cases (x * 10 ^ p) (2 ^ (f + 9)) (Sam.uU x p (f + 9)) rfl
  generalize x * 10 ^ p / 2 ^ (f + 9) = q at *
  generalize Sam.uU x p (f + 9) = u at *
  omega

theorem uU_ge {f p : Nat} {sk : Bool} (_hp : Sam.Pw f p sk) (x : Nat) (hx : 4611686018427387904 ≤ x) (hf : 2 ^ f ≤ 10 ^ p) : 4 ≤ Sam.uU x p (f + 9) := by
  have hd : 8 ≤ x * 10 ^ p / 2 ^ (f + 9) := by
    refine (Nat.le_div_iff_mul_le (Nat.two_pow_pos _)).2 ?_
    rw [Nat.pow_add]
    have e1 : 4611686018427387904 * 2 ^ f ≤ x * 10 ^ p := Nat.mul_le_mul hx hf
    generalize x * 10 ^ p = N at *
    generalize 2 ^ f = T at *
    omega
  have hc := Sam.uU_cases (x * 10 ^ p) (2 ^ (f + 9)) (Sam.uU x p (f + 9)) rfl
  generalize x * 10 ^ p / 2 ^ (f + 9) = q at *
  generalize Sam.uU x p (f + 9) = u at *
  omega

theorem pOf_ge : ∀ f : Fin 63, 2 ^ f.val ≤ 10 ^ Sam.pOf f.val := by decide +kernel
theorem pSk_ge : ∀ f : Fin 63, 2 ^ f.val ≤ 10 ^ Sam.pSk f.val := by decide +kernel

/-- What is left over the walks: the answer's value. -/
theorem short_post {A p dn dx : Nat} (hp3 : 3 ≤ p) (hp19 : p ≤ 19) (hdx : dx < 500000000000000003) (hA : A ≤ dx ∨ dn ≤ dx / 10 * 10)
    (h : (dn ≤ dx / 10 * 10 ∧ dx / 10 * 1000 = A * 10 ^ (p - 1)) ∨ (dx / 10 * 10 < dn ∧ p = 3)) :
    ∃ d P : Nat, shortOut dn dx A p = .tuple #[.int .u64 (d : Int), .int .i64 (-(P : Int))] ∧ d * 1000 = A * 10 ^ P ∧ 2 ≤ P ∧ P ≤ 19 ∧ d < 1000000000000000000 := by
  unfold shortOut
  rcases h with ⟨h1, h2⟩ | ⟨h1, h2⟩
  · rw [if_pos h1]
    have e : ((p : Int) - 1) = ((p - 1 : Nat) : Int) := by omega
    exact ⟨dx / 10, p - 1, by rw [e], h2, by omega, by omega, by omega⟩
  · rw [if_neg (by omega)]
    exact ⟨A, p, rfl, by rw [h2], by omega, by omega, by omega⟩

/-- shortFloat gives a decimal d * 10^-P that is A / 1000. -/
theorem shortFloat_any (A M f : Nat) (h : Sam.Fl A M f) (w : World) (hT : Tabs w) :
    Calls Tryz.prog 209 #[.int .u64 ((M * 2048 : Nat) : Int), .int .i64 (-((f + 11 : Nat) : Int))] w fun e w' => (∃ d P : Nat, e = .returned (.tuple #[.int .u64 (d : Int), .int .i64 (-(P : Int))]) ∧ d * 1000 = A * 10 ^ P ∧ 2 ≤ P ∧ P ≤ 19 ∧ d < 1000000000000000000) ∧ Below w.heap.size w w' := by
  have m1 : 4503599627370496 ≤ M := h.m1
  have m2 : M < 9007199254740992 := h.m2
  have f1 := h.f1; have f2 := h.f2
  have hand := and_1 M (by omega)
  have ho : M % 2 ≤ 1 := by omega
  by_cases hsk : M = 2 ^ 52
  · have hp := Sam.pw_sk f f1 f2
    obtain ⟨_, _, _, _, _, t1, t2⟩ := Sam.pSk_tab ⟨f, by omega⟩ f1
    have hge := pSk_ge ⟨f, by omega⟩
    have hint := Sam.pSk_int f
    dsimp only at t1 t2 hge
    generalize Sam.pSk f = p at *
    have hp19 := hp.p19
    have hp3 := hp.p3
    obtain ⟨hH, hl, _⟩ := Sam.hT_tab ⟨p, by omega⟩
    dsimp only at hH hl
    obtain ⟨q0, q1⟩ := tab_cell hT p hp19
    obtain ⟨mn, hmn⟩ : ∃ mn, mn = M * 2048 - 512 := ⟨_, rfl⟩
    obtain ⟨mx, hmx⟩ : ∃ mx, mx = M * 2048 + 1024 := ⟨_, rfl⟩
    obtain ⟨o, hoo⟩ : ∃ o, o = M % 2 := ⟨_, rfl⟩
    obtain ⟨dn, hdn⟩ : ∃ dn, dn = (Sam.uU mn p (f + 9) + o + 3) / 4 := ⟨_, rfl⟩
    obtain ⟨dx, hdx⟩ : ∃ dx, dx = (Sam.uU mx p (f + 9) - o) / 4 := ⟨_, rfl⟩
    have sp := Sam.short_spec A M f p (f + 9) mn mx o dn dx true h hp rfl (by simp [hsk]) (by rw [hmn]; rfl) (by rw [hmx]) hoo hdn hdx
    have hx2 : mn % 2 = 0 := by omega
    have hx3 : mx % 2 = 0 := by omega
    have hx4 : M * 2048 % 2 = 0 := by omega
    have b1 : mn < 18446744073709551616 := by omega
    have b2 : mx < 18446744073709551616 := by omega
    have b3 : M * 2048 < 18446744073709551616 := by omega
    have u1 := uU_lt hp mn b1
    have u2 := uU_lt hp mx b2
    have u4 := uU_ge hp mx (by omega) hge
    have hcase : dn ≤ dx / 10 * 10 ∨ (dx / 10 * 10 < dn ∧ dn ≤ dx ∧ (dn = dx → dn = A) ∧ ∀ w, Calls Tryz.prog 220 #[.int .u64 ((Sam.uU (M * 2048) p (f + 9) : Nat) : Int)] w fun e w' => e = .returned (.int .u64 (A : Int)) ∧ w = w') := by
      rcases sp with ⟨s1, _⟩ | ⟨s1, s2, s3, s4, s5, s6⟩
      · exact Or.inl s1
      · have hu3 := uU_lt hp (M * 2048) b3
        refine Or.inr ⟨s1, s4, s3, fun w => round_any A _ w ?_ s5⟩
        rw [show M * 2 ^ 11 = M * 2048 from rfl] at s5
        omega
    have hA : A ≤ dx ∨ dn ≤ dx / 10 * 10 := by
      rcases sp with ⟨s1, _⟩ | ⟨s1, s2, s3, s4, s5, s6⟩
      · exact Or.inr s1
      · exact Or.inl s6
    have hpost := short_post hp3 hp19 (dn := dn) (dx := dx) (A := A) (by omega) hA (by
      rcases sp with ⟨s1, s2⟩ | ⟨s1, s2, _⟩
      · exact Or.inl ⟨s1, s2⟩
      · exact Or.inr ⟨s1, s2⟩)
    have hwalk := short_walk_b (M * 2048) mn mx M o f p (Sam.lp p) (f + 8 - Sam.lp p) (Sam.hT p) (Sam.uU mn p (f + 9)) (Sam.uU mx p (f + 9)) (Sam.uU (M * 2048) p (f + 9)) (Sam.uU mn p (f + 9) + o) (Sam.uU mx p (f + 9) - o) dn dx A (-((f + 11 : Nat) : Int)) w
      (by rw [show M = 4503599627370496 from hsk]; rfl) (by omega) (by omega) (by omega) (by omega) (by omega) (by omega) (by omega) (by rw [hoo]; exact hand) (by omega) (by omega) (by omega)
      (fun w => skewed_any f p w (by omega) hint) (fun w => log2_any p (Sam.lp p) w (by omega) (Sam.lp_int p)) hp19 (by omega) (by omega) q0 q1
      (fun w ⟨c0, c1, c2⟩ => uscale_any mn p (f + 8 - Sam.lp p) (f + 9) _ b1 hx2 hp19 (by omega) (by omega) w c0 c1 c2)
      (fun w ⟨c0, c1, c2⟩ => uscale_any mx p (f + 8 - Sam.lp p) (f + 9) _ b2 hx3 hp19 (by omega) (by omega) w c0 c1 c2)
      (fun w ⟨c0, c1, c2⟩ => uscale_any (M * 2048) p (f + 8 - Sam.lp p) (f + 9) _ b3 hx4 hp19 (by omega) (by omega) w c0 c1 c2)
      (fun w => nudge_up _ o w (by omega) (by omega)) (fun w => nudge_down _ o w (by omega) (by omega) u4)
      (fun w => by rw [hdn]; exact ceil_any _ w (by omega)) (fun w => by rw [hdx]; exact floor_any _ w (by omega)) (by omega) (by omega) hcase
    obtain ⟨d, P, hs, hrest⟩ := hpost
    exact hwalk.mono fun e w' ⟨he, hb⟩ => ⟨⟨d, P, by rw [he, hs], hrest⟩, hb⟩
  · have hp := Sam.pw_of f f1 f2
    obtain ⟨_, _, _, _, _, t1, t2⟩ := Sam.pOf_tab ⟨f, by omega⟩ f1
    have hge := pOf_ge ⟨f, by omega⟩
    have hint := Sam.pOf_int f
    dsimp only at t1 t2 hge
    generalize Sam.pOf f = p at *
    have hp19 := hp.p19
    have hp3 := hp.p3
    obtain ⟨hH, hl, _⟩ := Sam.hT_tab ⟨p, by omega⟩
    dsimp only at hH hl
    obtain ⟨q0, q1⟩ := tab_cell hT p hp19
    obtain ⟨mn, hmn⟩ : ∃ mn, mn = M * 2048 - 1024 := ⟨_, rfl⟩
    obtain ⟨mx, hmx⟩ : ∃ mx, mx = M * 2048 + 1024 := ⟨_, rfl⟩
    obtain ⟨o, hoo⟩ : ∃ o, o = M % 2 := ⟨_, rfl⟩
    obtain ⟨dn, hdn⟩ : ∃ dn, dn = (Sam.uU mn p (f + 9) + o + 3) / 4 := ⟨_, rfl⟩
    obtain ⟨dx, hdx⟩ : ∃ dx, dx = (Sam.uU mx p (f + 9) - o) / 4 := ⟨_, rfl⟩
    have sp := Sam.short_spec A M f p (f + 9) mn mx o dn dx false h hp rfl (by simp [hsk]) (by rw [hmn]; rfl) (by rw [hmx]) hoo hdn hdx
    have hx2 : mn % 2 = 0 := by omega
    have hx3 : mx % 2 = 0 := by omega
    have hx4 : M * 2048 % 2 = 0 := by omega
    have b1 : mn < 18446744073709551616 := by omega
    have b2 : mx < 18446744073709551616 := by omega
    have b3 : M * 2048 < 18446744073709551616 := by omega
    have u1 := uU_lt hp mn b1
    have u2 := uU_lt hp mx b2
    have u4 := uU_ge hp mx (by omega) hge
    have hcase : dn ≤ dx / 10 * 10 ∨ (dx / 10 * 10 < dn ∧ dn ≤ dx ∧ (dn = dx → dn = A) ∧ ∀ w, Calls Tryz.prog 220 #[.int .u64 ((Sam.uU (M * 2048) p (f + 9) : Nat) : Int)] w fun e w' => e = .returned (.int .u64 (A : Int)) ∧ w = w') := by
      rcases sp with ⟨s1, _⟩ | ⟨s1, s2, s3, s4, s5, s6⟩
      · exact Or.inl s1
      · have hu3 := uU_lt hp (M * 2048) b3
        refine Or.inr ⟨s1, s4, s3, fun w => round_any A _ w ?_ s5⟩
        rw [show M * 2 ^ 11 = M * 2048 from rfl] at s5
        omega
    have hA : A ≤ dx ∨ dn ≤ dx / 10 * 10 := by
      rcases sp with ⟨s1, _⟩ | ⟨s1, s2, s3, s4, s5, s6⟩
      · exact Or.inr s1
      · exact Or.inl s6
    have hpost := short_post hp3 hp19 (dn := dn) (dx := dx) (A := A) (by omega) hA (by
      rcases sp with ⟨s1, s2⟩ | ⟨s1, s2, _⟩
      · exact Or.inl ⟨s1, s2⟩
      · exact Or.inr ⟨s1, s2⟩)
    have hwalk := short_walk_a (M * 2048) mn mx M o f p (Sam.lp p) (f + 8 - Sam.lp p) (Sam.hT p) (Sam.uU mn p (f + 9)) (Sam.uU mx p (f + 9)) (Sam.uU (M * 2048) p (f + 9)) (Sam.uU mn p (f + 9) + o) (Sam.uU mx p (f + 9) - o) dn dx A (-((f + 11 : Nat) : Int)) w
      (by have : M ≠ 4503599627370496 := hsk; simp; omega) (by omega) (by omega) (by omega) (by omega) (by omega) (by omega) (by omega) (by rw [hoo]; exact hand) (by omega) (by omega) (by omega)
      (fun w => log10_any f p w (by omega) hint) (fun w => log2_any p (Sam.lp p) w (by omega) (Sam.lp_int p)) hp19 (by omega) (by omega) q0 q1
      (fun w ⟨c0, c1, c2⟩ => uscale_any mn p (f + 8 - Sam.lp p) (f + 9) _ b1 hx2 hp19 (by omega) (by omega) w c0 c1 c2)
      (fun w ⟨c0, c1, c2⟩ => uscale_any mx p (f + 8 - Sam.lp p) (f + 9) _ b2 hx3 hp19 (by omega) (by omega) w c0 c1 c2)
      (fun w ⟨c0, c1, c2⟩ => uscale_any (M * 2048) p (f + 8 - Sam.lp p) (f + 9) _ b3 hx4 hp19 (by omega) (by omega) w c0 c1 c2)
      (fun w => nudge_up _ o w (by omega) (by omega)) (fun w => nudge_down _ o w (by omega) (by omega) u4)
      (fun w => by rw [hdn]; exact ceil_any _ w (by omega)) (fun w => by rw [hdx]; exact floor_any _ w (by omega)) (by omega) (by omega) hcase
    obtain ⟨d, P, hs, hrest⟩ := hpost
    exact hwalk.mono fun e w' ⟨he, hb⟩ => ⟨⟨d, P, by rw [he, hs], hrest⟩, hb⟩

end Go.Proofs.YtdeejmkjhmpabaaGreatDoor

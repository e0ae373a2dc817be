/-
  
  
  
-/
import Derived.Test.YtdeejmkjhmpabaaGreatDoorProg
import Derived.Test.YtdeejmkjhmpabaaGreatDoorW0
import Derived.Test.YtdeejmkjhmpabaaGreatDoorPa
import Derived.Test.YtdeejmkjhmpabaaGreatDoorSh
import Derived.Deep.QuietTactic
import Derived.BigQuiet
import Derived.Lib.LaidTab
import Derived.Lib.ItoaNum
import Derived.Lib.PrintData
import Derived.Shelf.Unicode.DecodeSlow
import Derived.Lib.Hide
import Derived.Lib.ItoaMem
namespace Go.Proofs.YtdeejmkjhmpabaaGreatDoor
open Go.RowKit

/-! ### The library's tables -/
structure TabsAt (w : World) : Prop where
  pow : Lib.TabIs Tryz.prog w "internal/strconv.uint64pow10" .u64 Lib.pow10Tab
  p10 : ∀ p, p ≤ 19 → w.cell? ⟨15, (p + 348) * 2, none⟩ = some (.int .u64 (Sam.hT p : Nat)) ∧ w.cell? ⟨15, (p + 348) * 2 + 1, none⟩ = some (.int .u64 0)
  prints : Lib.PrintTabsAt 7 8 9 10 Lib.goPrintTabs w
  u8 : Lib.Utf8Tabs 5 6 w
  size : 17 ≤ w.heap.size

/-- The tables lie, and lie in every later world. -/
def Tabs (w : World) : Prop := ∀ w', Below w.heap.size w w' → TabsAt w'
theorem Tabs.at {w : World} (h : Tabs w) : TabsAt w := h w (Below.refl _ _)
theorem Tabs.below {w w' : World} (h : Tabs w) (hb : Below w.heap.size w w') : Tabs w' := fun w2 h2 => h w2 (hb.trans (h2.mono hb.size))

/-! ### Small functions -/
theorem ret_int {k : IntKind} {a b : Int} (h : a = b) : Ending.returned (.int k a) = .returned (.int k b) := by rw [h]

set_option maxHeartbeats 400000 in
theorem bool2u_any (b : Bool) (w : World) : Calls Tryz.prog 230 #[.bool b] w fun e w' => e = .returned (.int .u64 (if b then 1 else 0)) ∧ w = w' := by
  cases b
  all_goals
    go_enter Tryz.func230, Tryz.ntmps230
    go_wp2
    go_ret
    exact ⟨rfl, rfl⟩

set_option maxHeartbeats 400000 in
theorem log10_any (f p : Nat) (w : World) (hf : f ≤ 100) (hp : Hid (-((-(f : Int) * 78913) / 262144) = (p : Int))) :
    Calls Tryz.prog 152 #[.int .i64 (-(f : Int))] w fun e w' => e = .returned (.int .i64 (-(p : Int))) ∧ w = w' := by
  go_enter Tryz.func152, Tryz.ntmps152
  go_wp2
  go_ret
  refine ⟨?_, rfl⟩
  have := hp.out
  show Ending.returned (.int .i64 _) = _
  congr 2
  omega

set_option maxHeartbeats 400000 in
theorem skewed_any (f p : Nat) (w : World) (hf : f ≤ 100) (hp : Hid (-((-(f : Int) * 631305 - 261663) / 2097152) = (p : Int))) :
    Calls Tryz.prog 213 #[.int .i64 (-(f : Int))] w fun e w' => e = .returned (.int .i64 (-(p : Int))) ∧ w = w' := by
  go_enter Tryz.func213, Tryz.ntmps213
  go_wp2
  go_ret
  refine ⟨?_, rfl⟩
  have := hp.out
  show Ending.returned (.int .i64 _) = _
  congr 2
  omega

set_option maxHeartbeats 400000 in
theorem log2_any (p l : Nat) (w : World) (hf : p ≤ 30) (hp : Hid ((p : Int) * 108853 / 32768 = (l : Int))) :
    Calls Tryz.prog 215 #[.int .i64 (p : Int)] w fun e w' => e = .returned (.int .i64 (l : Int)) ∧ w = w' := by
  go_enter Tryz.func215, Tryz.ntmps215
  go_wp2
  go_ret
  refine ⟨?_, rfl⟩
  have := hp.out
  show Ending.returned (.int .i64 _) = _
  congr 2

set_option maxHeartbeats 400000 in
theorem nudge_up (u o : Nat) (w : World) (hu : u < 18446744073709551610) (ho : o ≤ 1) :
    Calls Tryz.prog 217 #[.int .u64 (u : Int), .int .i64 (o : Int)] w fun e w' => e = .returned (.int .u64 ((u + o : Nat) : Int)) ∧ w = w' := by
  have e : IntKind.u64.wrap ((u : Int) + (o : Int)) = (u : Int) + o := by rw [IntKind.wrap_u64]; omega
  go_enter Tryz.func217, Tryz.ntmps217
  go_wp2
  go_ret
  exact ⟨rfl, rfl⟩

theorem down_wrap (u : Nat) (h : 4 ≤ u) (hu : u < 18446744073709551610) : IntKind.u64.wrap ((u : Int) + IntKind.u64.wrap (-1)) = (u : Int) - 1 := by
  have e : IntKind.u64.wrap (-1) = 18446744073709551615 := by decide
  rw [e, IntKind.wrap_u64]
  omega
theorem down_one (u : Nat) (h : 4 ≤ u) : ((u - 1 : Nat) : Int) = (u : Int) - 1 := by omega

set_option maxRecDepth 100000 in
set_option maxHeartbeats 400000 in
theorem nudge_down (u o : Nat) (w : World) (hu : u < 18446744073709551610) (ho : o ≤ 1) (h : 4 ≤ u) :
    Calls Tryz.prog 217 #[.int .u64 (u : Int), .int .i64 (-(o : Int))] w fun e w' => e = .returned (.int .u64 ((u - o : Nat) : Int)) ∧ w = w' := by
  rcases (by omega : o = 0 ∨ o = 1) with rfl | rfl
  · go_enter Tryz.func217, Tryz.ntmps217
    go_wp2
    go_ret
    exact ⟨rfl, rfl⟩
  · go_enter Tryz.func217, Tryz.ntmps217
    go_wp2
    go_ret
    exact ⟨ret_int (by rw [down_wrap u h hu, down_one u h]), rfl⟩

set_option maxHeartbeats 400000 in
theorem ceil_any (u : Nat) (w : World) (hu : u < 18446744073709551610) :
    Calls Tryz.prog 218 #[.int .u64 (u : Int)] w fun e w' => e = .returned (.int .u64 (((u + 3) / 4 : Nat) : Int)) ∧ w = w' := by
  go_enter Tryz.func218, Tryz.ntmps218
  go_wp2
  go_ret
  exact ⟨rfl, rfl⟩

set_option maxHeartbeats 400000 in
theorem floor_any (u : Nat) (w : World) (hu : u < 18446744073709551610) :
    Calls Tryz.prog 219 #[.int .u64 (u : Int)] w fun e w' => e = .returned (.int .u64 ((u / 4 : Nat) : Int)) ∧ w = w' := by
  go_enter Tryz.func219, Tryz.ntmps219
  go_wp2
  go_ret
  exact ⟨rfl, rfl⟩

set_option maxHeartbeats 400000 in
theorem round_any (A u : Nat) (w : World) (hA : A < 1000000000000000000) (hu : u = 4 * A) :
    Calls Tryz.prog 220 #[.int .u64 (u : Int)] w fun e w' => e = .returned (.int .u64 (A : Int)) ∧ w = w' := by
  subst hu
  have ha : bits .and .u64 (A : Int) 1 = ((A &&& 1 : Nat) : Int) := bits_and_u64_nat A 1 (by omega) (by decide)
  rw [Nat.and_one_is_mod] at ha
  have e1 : ((4 * A : Nat) : Int) / 4 = (A : Int) := by omega
  have hm : A % 2 < 2 := Nat.mod_lt _ (by decide)
  generalize hr : A % 2 = r at ha hm
  clear hr
  go_enter Tryz.func220, Tryz.ntmps220
  go_wp2
  go_ret
  refine ⟨?_, rfl⟩
  show Ending.returned (.int .u64 _) = _
  congr 2
  omega

theorem mul64_any (x H hi mid : Nat) (hx : x < 18446744073709551616) (hH : H < 18446744073709551616) (e1 : hi = x * H / 18446744073709551616) (e2 : mid = x * H % 18446744073709551616) (w : World) :
    Calls Tryz.prog 229 #[.int .u64 (x : Int), .int .u64 (H : Int)] w fun e w' => e = .returned (.tuple #[.int .u64 (hi : Int), .int .u64 (mid : Int)]) ∧ w = w' := by
  subst e1 e2
  exact (Tryz.bits_Mul64 x H hx hH w).mono fun e w' ⟨h1, h2⟩ => ⟨h1, h2.symm⟩

set_option maxHeartbeats 400000 in
theorem uscale_walk (x H hi mid S b q z : Nat) (w : World)
    (cM : ∀ w, Calls Tryz.prog 229 #[.int .u64 (x : Int), .int .u64 (H : Int)] w fun e w' => e = .returned (.tuple #[.int .u64 (hi : Int), .int .u64 (mid : Int)]) ∧ w = w')
    (cZ : ∀ w, Calls Tryz.prog 229 #[.int .u64 (x : Int), .int .u64 0] w fun e w' => e = .returned (.tuple #[.int .u64 0, .int .u64 0]) ∧ w = w')
    (hand : bits .and .i64 (S : Int) 63 = (S : Int))
    (hs1 : (hi : Int) / 2 ^ min S 64 = (q : Int)) (hs2 : IntKind.u64.wrap ((q : Int) * 2 ^ min S 64) = (z : Int))
    (ho1 : bits .or .u64 (q : Int) 1 = ((q ||| 1 : Nat) : Int)) (ho0 : bits .or .u64 (q : Int) 0 = ((q ||| 0 : Nat) : Int))
    (bm : mid ≤ 18446744073709551615) (bh : hi ≤ 18446744073709551615)
    (c0 : w.cell? ⟨b, 0, none⟩ = some (.int .u64 (H : Int))) (c1 : w.cell? ⟨b, 0 + 1, none⟩ = some (.int .u64 0)) (c2 : w.cell? ⟨b, 0 + 2, none⟩ = some (.int .i64 (S : Int))) :
    Calls Tryz.prog 216 #[.int .u64 (x : Int), .pointer (some ⟨b, 0, none⟩)] w fun e w' => e = .returned (.int .u64 ((if z = hi then q ||| (if 1 < mid then 1 else 0) else q ||| 1 : Nat) : Int)) ∧ ∃ n, w' = w.drewN n := by
  by_cases hzz : z = hi
  · have m0 : ((mid : Int) < 0) = False := by simp
    have ht : ((hi : Int) != (hi : Int)) = false := by simp
    rw [if_pos hzz]
    subst hzz
    by_cases hm : 1 < mid
    · rw [if_pos hm]
      have m1 : decide (1 < (mid : Int)) = true := by simp; omega
      go_enter Tryz.func216, Tryz.ntmps216
      go_wp2_with (first | (go_at_call 229; (with_reducible refine (cM _).mono ?_); rintro e w' ⟨rfl, rfl⟩) | (go_at_call 229; (with_reducible refine (cZ _).mono ?_); rintro e w' ⟨rfl, rfl⟩) | (go_at_call 230; (with_reducible refine (bool2u_any _ _).mono ?_); rintro e w' ⟨rfl, rfl⟩))
      go_quiet ((go_at_call 230; exact Calls.quiet_of_same ((bool2u_any _ _).mono fun e w' ⟨h1, h2⟩ => ⟨h1, h2.symm⟩)))
      go_wp2
      go_ret
      exact ⟨rfl, _, rfl⟩
    · rw [if_neg hm]
      have m1 : decide (1 < (mid : Int)) = false := by simp; omega
      go_enter Tryz.func216, Tryz.ntmps216
      go_wp2_with (first | (go_at_call 229; (with_reducible refine (cM _).mono ?_); rintro e w' ⟨rfl, rfl⟩) | (go_at_call 229; (with_reducible refine (cZ _).mono ?_); rintro e w' ⟨rfl, rfl⟩) | (go_at_call 230; (with_reducible refine (bool2u_any _ _).mono ?_); rintro e w' ⟨rfl, rfl⟩))
      go_quiet ((go_at_call 230; exact Calls.quiet_of_same ((bool2u_any _ _).mono fun e w' ⟨h1, h2⟩ => ⟨h1, h2.symm⟩)))
      go_wp2
      go_ret
      exact ⟨rfl, _, rfl⟩
  · have ht : ((z : Int) != (hi : Int)) = true := by simp; omega
    rw [if_neg hzz]
    go_enter Tryz.func216, Tryz.ntmps216
    go_wp2_with (first | (go_at_call 229; (with_reducible refine (cM _).mono ?_); rintro e w' ⟨rfl, rfl⟩) | (go_at_call 229; (with_reducible refine (cZ _).mono ?_); rintro e w' ⟨rfl, rfl⟩) | (go_at_call 230; (with_reducible refine (bool2u_any _ _).mono ?_); rintro e w' ⟨rfl, rfl⟩))
    go_ret
    exact ⟨rfl, 0, rfl⟩


theorem uscale_any (x p S F b : Nat) (hx : x < 18446744073709551616) (hx2 : x % 2 = 0) (hp : p ≤ 19) (hS : S < 64) (hF : S + Sam.lp p + 1 = F) (w : World)
    (c0 : w.cell? ⟨b, 0, none⟩ = some (.int .u64 (Sam.hT p : Nat))) (c1 : w.cell? ⟨b, 0 + 1, none⟩ = some (.int .u64 0)) (c2 : w.cell? ⟨b, 0 + 2, none⟩ = some (.int .i64 (S : Int))) :
    Calls Tryz.prog 216 #[.int .u64 (x : Int), .pointer (some ⟨b, 0, none⟩)] w fun e w' => e = .returned (.int .u64 (Sam.uU x p F : Nat)) ∧ ∃ n, w' = w.drewN n := by
  obtain ⟨hH, hl, _⟩ := Sam.hT_tab ⟨p, by omega⟩
  dsimp only at hH hl
  obtain ⟨hi, e1⟩ : ∃ hi, hi = x * Sam.hT p / 18446744073709551616 := ⟨_, rfl⟩
  obtain ⟨mid, e2⟩ : ∃ mid, mid = x * Sam.hT p % 18446744073709551616 := ⟨_, rfl⟩
  have hhi : hi < 18446744073709551616 := by
    rw [e1]; exact Nat.div_lt_of_lt_mul (Nat.mul_lt_mul'' hx hH)
  have hmid : mid < 18446744073709551616 := by rw [e2]; exact Nat.mod_lt _ (by decide)
  have hq : hi / 2 ^ S < 18446744073709551616 := Nat.lt_of_le_of_lt (Nat.div_le_self _ _) hhi
  have hqq : hi / 2 ^ S * 2 ^ S ≤ hi := Nat.div_mul_le_self _ _
  have e := Sam.uH_eq x p F S hi mid hx2 hl hF e1 e2
  unfold Sam.uH at e
  rw [← e]
  have hmin : min S 64 = S := by omega
  refine uscale_walk x (Sam.hT p) hi mid S b (hi / 2 ^ S) (hi / 2 ^ S * 2 ^ S) w (fun w => mul64_any x _ hi mid hx hH e1 e2 w) (fun w => mul64_any x 0 0 0 hx (by decide) (by simp) (by simp) w) (and_63 S hS) ?_ ?_ ?_ ?_ (by omega) (by omega) c0 c1 c2
  · rw [hmin]; norm_cast
  · rw [hmin, IntKind.wrap_u64]
    have : ((hi / 2 ^ S : Nat) : Int) * 2 ^ S = ((hi / 2 ^ S * 2 ^ S : Nat) : Int) := by norm_cast
    rw [this]
    generalize hi / 2 ^ S * 2 ^ S = z at hqq
    omega
  · exact bits_or_u64_nat _ 1 hq (by decide)
  · exact bits_or_u64_nat _ 0 hq (by decide)

end Go.Proofs.YtdeejmkjhmpabaaGreatDoor
namespace Go.Proofs.YtdeejmkjhmpabaaGreatDoor
open Go.RowKit

/-- The three cells of the scaler. -/
def Sc (b : Nat) (H S : Nat) (w : World) : Prop := w.cell? ⟨b, 0, none⟩ = some (.int .u64 (H : Int)) ∧ w.cell? ⟨b, 0 + 1, none⟩ = some (.int .u64 0) ∧ w.cell? ⟨b, 0 + 2, none⟩ = some (.int .i64 (S : Int))

/-- uscale at one number. -/
def US (x u : Nat) (b H S : Nat) : Prop := ∀ w, Sc b H S w → Calls Tryz.prog 216 #[.int .u64 (x : Int), .pointer (some ⟨b, 0, none⟩)] w fun e w' => e = .returned (.int .u64 (u : Int)) ∧ ∃ n, w' = w.drewN n

theorem US.call {x u b H S : Nat} {w : World} (h : US x u b H S) (hs : Sc b H S w) : Calls Tryz.prog 216 #[.int .u64 (x : Int), .pointer (some ⟨b, 0, none⟩)] w fun e w' => e = .returned (.int .u64 (u : Int)) ∧ ∃ n, w' = w.drewN n := h w hs
theorem sc_new (w : World) (H S : Nat) : Sc w.heap.size H S (w.alloc (.cells #[.int .u64 (H : Int), .int .u64 0, .int .i64 (S : Int)] 269)) := by
  refine ⟨?_, ?_, ?_⟩ <;> simp
theorem Sc.drewN {b H S : Nat} {w : World} (h : Sc b H S w) (n : Nat) : Sc b H S (w.drewN n) := by
  obtain ⟨h1, h2, h3⟩ := h
  exact ⟨by simpa using h1, by simpa using h2, by simpa using h3⟩

/-- How the answer comes of the interval's ends. -/
def shortOut (dn dx A p : Nat) : Value := if dn ≤ dx / 10 * 10 then .tuple #[.int .u64 ((dx / 10 : Nat) : Int), .int .i64 (-((p : Int) - 1))] else .tuple #[.int .u64 (A : Int), .int .i64 (-(p : Int))]

set_option maxRecDepth 100000 in
set_option maxHeartbeats 2000000 in
theorem short_walk_a (m mn mx M o f p l S H un ux um u1 u2 dn dx A : Nat) (e : Int) (w : World)
    (ht : ((m : Int) == 9223372036854775808) = false) (hmn : (m : Int) - 1024 = (mn : Int)) (hmx : (m : Int) + 1024 = (mx : Int)) (hsh : (m : Int) / 2048 = (M : Int)) (hM : M ≤ 9007199254740992)
    (bm1 : 9223372036854775808 ≤ m) (bm2 : m ≤ 18446744073709549568) (ho : o ≤ 1)
    (hand : bits .and .i64 (M : Int) 1 = (o : Int)) (he1 : e + 11 = -(f : Int)) (be1 : -100 ≤ e) (_be2 : e ≤ 0)
    (cl : ∀ w, Calls Tryz.prog 152 #[.int .i64 (-(f : Int))] w fun e w' => e = .returned (.int .i64 (-(p : Int))) ∧ w = w')
    (c2 : ∀ w, Calls Tryz.prog 215 #[.int .i64 (p : Int)] w fun e w' => e = .returned (.int .i64 (l : Int)) ∧ w = w')
    (hp : p ≤ 19) (hl : l ≤ 100) (hS1 : e + (l : Int) + 3 = -(S : Int))
    (q0 : ∀ o1, (w.alloc o1).cell? ⟨15, (p + 348) * 2, none⟩ = some (.int .u64 (H : Int))) (q1 : ∀ o1, (w.alloc o1).cell? ⟨15, (p + 348) * 2 + 1, none⟩ = some (.int .u64 0))
    (cn : US mn un w.heap.size H S) (cx : US mx ux w.heap.size H S) (cm : US m um w.heap.size H S)
    (n1 : ∀ w, Calls Tryz.prog 217 #[.int .u64 (un : Int), .int .i64 (o : Int)] w fun e w' => e = .returned (.int .u64 (u1 : Int)) ∧ w = w')
    (n2 : ∀ w, Calls Tryz.prog 217 #[.int .u64 (ux : Int), .int .i64 (-(o : Int))] w fun e w' => e = .returned (.int .u64 (u2 : Int)) ∧ w = w')
    (k1 : ∀ w, Calls Tryz.prog 218 #[.int .u64 (u1 : Int)] w fun e w' => e = .returned (.int .u64 (dn : Int)) ∧ w = w')
    (k2 : ∀ w, Calls Tryz.prog 219 #[.int .u64 (u2 : Int)] w fun e w' => e = .returned (.int .u64 (dx : Int)) ∧ w = w')
    (bdx : dx ≤ 1000000000000000000) (bdn : dn ≤ 1000000000000000000)
    (hcase : dn ≤ dx / 10 * 10 ∨ (dx / 10 * 10 < dn ∧ dn ≤ dx ∧ (dn = dx → dn = A) ∧ ∀ w, Calls Tryz.prog 220 #[.int .u64 (um : Int)] w fun e w' => e = .returned (.int .u64 (A : Int)) ∧ w = w')) :
    Calls Tryz.prog 209 #[.int .u64 (m : Int), .int .i64 e] w fun e w' => e = .returned (shortOut dn dx A p) ∧ Below w.heap.size w w' := by
  rcases hcase with hc | ⟨hc, hle, heq, c3⟩
  · have hout : shortOut dn dx A p = .tuple #[.int .u64 ((dx / 10 : Nat) : Int), .int .i64 (-((p : Int) - 1))] := by unfold shortOut; rw [if_pos hc]
    rw [hout]
    have hge : decide ((dn : Int) ≤ (dx : Int) / 10 * 10) = true := by simp; omega
    clear hout
    go_enter Tryz.func209, Tryz.ntmps209
    go_wp2_with (first | (go_at_call 152; (with_reducible refine (cl _).mono ?_); rintro e w' ⟨rfl, rfl⟩) | (go_at_call 215; (with_reducible refine (c2 _).mono ?_); rintro e w' ⟨rfl, rfl⟩) | (go_at_call 214; go_in))
    go_end0
    have s0 := sc_new w H S
    go_wp2_with (first
      | (go_at_call 216; (with_reducible refine (US.call cn s0).mono ?_); rintro e w' ⟨rfl, nd1, rfl⟩)
      | (go_at_call 216; (with_reducible refine (US.call cx (s0.drewN _)).mono ?_); rintro e w' ⟨rfl, nd2, rfl⟩)
      | (go_at_call 216; (with_reducible refine (US.call cm (s0.drewN _)).mono ?_); rintro e w' ⟨rfl, nd3, rfl⟩)
      | (go_at_call 217; (with_reducible refine (n1 _).mono ?_); rintro e w' ⟨rfl, rfl⟩)
      | (go_at_call 217; (with_reducible refine (n2 _).mono ?_); rintro e w' ⟨rfl, rfl⟩)
      | (go_at_call 218; (with_reducible refine (k1 _).mono ?_); rintro e w' ⟨rfl, rfl⟩)
      | (go_at_call 219; (with_reducible refine (k2 _).mono ?_); rintro e w' ⟨rfl, rfl⟩))
    go_ret2
    exact ⟨rfl, below_drewN ((Below.refl _ _).alloc (Nat.le_refl _) _) _⟩
  · have hout : shortOut dn dx A p = .tuple #[.int .u64 (A : Int), .int .i64 (-(p : Int))] := by unfold shortOut; rw [if_neg (by omega)]
    rw [hout]
    have hge : decide ((dn : Int) ≤ (dx : Int) / 10 * 10) = false := by simp; omega
    clear hout
    by_cases hlt : dn < dx
    · have hlt2 : decide ((dn : Int) < (dx : Int)) = true := by simp; omega
      clear heq
      go_enter Tryz.func209, Tryz.ntmps209
      go_wp2_with (first | (go_at_call 152; (with_reducible refine (cl _).mono ?_); rintro e w' ⟨rfl, rfl⟩) | (go_at_call 215; (with_reducible refine (c2 _).mono ?_); rintro e w' ⟨rfl, rfl⟩) | (go_at_call 214; go_in))
      go_end0
      have s0 := sc_new w H S
      go_wp2_with (first
        | (go_at_call 216; (with_reducible refine (US.call cn s0).mono ?_); rintro e w' ⟨rfl, nd1, rfl⟩)
        | (go_at_call 216; (with_reducible refine (US.call cx (s0.drewN _)).mono ?_); rintro e w' ⟨rfl, nd2, rfl⟩)
        | (go_at_call 216; (with_reducible refine (US.call cm (s0.drewN _)).mono ?_); rintro e w' ⟨rfl, nd3, rfl⟩)
        | (go_at_call 217; (with_reducible refine (n1 _).mono ?_); rintro e w' ⟨rfl, rfl⟩)
        | (go_at_call 217; (with_reducible refine (n2 _).mono ?_); rintro e w' ⟨rfl, rfl⟩)
        | (go_at_call 218; (with_reducible refine (k1 _).mono ?_); rintro e w' ⟨rfl, rfl⟩)
        | (go_at_call 219; (with_reducible refine (k2 _).mono ?_); rintro e w' ⟨rfl, rfl⟩)
        | (go_at_call 220; (with_reducible refine (c3 _).mono ?_); rintro e w' ⟨rfl, rfl⟩))
      go_ret2
      exact ⟨rfl, below_drewN ((Below.refl _ _).alloc (Nat.le_refl _) _) _⟩
    · have hlt2 : decide ((dn : Int) < (dx : Int)) = false := by simp; omega
      have hA := Lib.hid (heq (by omega))
      clear heq
      go_enter Tryz.func209, Tryz.ntmps209
      go_wp2_with (first | (go_at_call 152; (with_reducible refine (cl _).mono ?_); rintro e w' ⟨rfl, rfl⟩) | (go_at_call 215; (with_reducible refine (c2 _).mono ?_); rintro e w' ⟨rfl, rfl⟩) | (go_at_call 214; go_in))
      go_end0
      have s0 := sc_new w H S
      go_wp2_with (first
        | (go_at_call 216; (with_reducible refine (US.call cn s0).mono ?_); rintro e w' ⟨rfl, nd1, rfl⟩)
        | (go_at_call 216; (with_reducible refine (US.call cx (s0.drewN _)).mono ?_); rintro e w' ⟨rfl, nd2, rfl⟩)
        | (go_at_call 216; (with_reducible refine (US.call cm (s0.drewN _)).mono ?_); rintro e w' ⟨rfl, nd3, rfl⟩)
        | (go_at_call 217; (with_reducible refine (n1 _).mono ?_); rintro e w' ⟨rfl, rfl⟩)
        | (go_at_call 217; (with_reducible refine (n2 _).mono ?_); rintro e w' ⟨rfl, rfl⟩)
        | (go_at_call 218; (with_reducible refine (k1 _).mono ?_); rintro e w' ⟨rfl, rfl⟩)
        | (go_at_call 219; (with_reducible refine (k2 _).mono ?_); rintro e w' ⟨rfl, rfl⟩))
      go_ret2
      exact ⟨by rw [← hA.out]; rfl, below_drewN ((Below.refl _ _).alloc (Nat.le_refl _) _) _⟩


set_option maxRecDepth 100000 in
set_option maxHeartbeats 2000000 in
theorem short_walk_b (m mn mx M o f p l S H un ux um u1 u2 dn dx A : Nat) (e : Int) (w : World)
    (ht : ((m : Int) == 9223372036854775808) = true) (hmn : (m : Int) - 512 = (mn : Int)) (hmx : (m : Int) + 1024 = (mx : Int)) (hsh : (m : Int) / 2048 = (M : Int)) (hM : M ≤ 9007199254740992)
    (bm1 : 9223372036854775808 ≤ m) (bm2 : m ≤ 18446744073709549568) (ho : o ≤ 1)
    (hand : bits .and .i64 (M : Int) 1 = (o : Int)) (he1 : e + 11 = -(f : Int)) (be1 : -100 ≤ e) (_be2 : e ≤ 0)
    (cl : ∀ w, Calls Tryz.prog 213 #[.int .i64 (-(f : Int))] w fun e w' => e = .returned (.int .i64 (-(p : Int))) ∧ w = w')
    (c2 : ∀ w, Calls Tryz.prog 215 #[.int .i64 (p : Int)] w fun e w' => e = .returned (.int .i64 (l : Int)) ∧ w = w')
    (hp : p ≤ 19) (hl : l ≤ 100) (hS1 : e + (l : Int) + 3 = -(S : Int))
    (q0 : ∀ o1, (w.alloc o1).cell? ⟨15, (p + 348) * 2, none⟩ = some (.int .u64 (H : Int))) (q1 : ∀ o1, (w.alloc o1).cell? ⟨15, (p + 348) * 2 + 1, none⟩ = some (.int .u64 0))
    (cn : US mn un w.heap.size H S) (cx : US mx ux w.heap.size H S) (cm : US m um w.heap.size H S)
    (n1 : ∀ w, Calls Tryz.prog 217 #[.int .u64 (un : Int), .int .i64 (o : Int)] w fun e w' => e = .returned (.int .u64 (u1 : Int)) ∧ w = w')
    (n2 : ∀ w, Calls Tryz.prog 217 #[.int .u64 (ux : Int), .int .i64 (-(o : Int))] w fun e w' => e = .returned (.int .u64 (u2 : Int)) ∧ w = w')
    (k1 : ∀ w, Calls Tryz.prog 218 #[.int .u64 (u1 : Int)] w fun e w' => e = .returned (.int .u64 (dn : Int)) ∧ w = w')
    (k2 : ∀ w, Calls Tryz.prog 219 #[.int .u64 (u2 : Int)] w fun e w' => e = .returned (.int .u64 (dx : Int)) ∧ w = w')
    (bdx : dx ≤ 1000000000000000000) (bdn : dn ≤ 1000000000000000000)
    (hcase : dn ≤ dx / 10 * 10 ∨ (dx / 10 * 10 < dn ∧ dn ≤ dx ∧ (dn = dx → dn = A) ∧ ∀ w, Calls Tryz.prog 220 #[.int .u64 (um : Int)] w fun e w' => e = .returned (.int .u64 (A : Int)) ∧ w = w')) :
    Calls Tryz.prog 209 #[.int .u64 (m : Int), .int .i64 e] w fun e w' => e = .returned (shortOut dn dx A p) ∧ Below w.heap.size w w' := by
  rcases hcase with hc | ⟨hc, hle, heq, c3⟩
  · have hout : shortOut dn dx A p = .tuple #[.int .u64 ((dx / 10 : Nat) : Int), .int .i64 (-((p : Int) - 1))] := by unfold shortOut; rw [if_pos hc]
    rw [hout]
    have hge : decide ((dn : Int) ≤ (dx : Int) / 10 * 10) = true := by simp; omega
    clear hout
    go_enter Tryz.func209, Tryz.ntmps209
    go_wp2_with (first | (go_at_call 213; (with_reducible refine (cl _).mono ?_); rintro e w' ⟨rfl, rfl⟩) | (go_at_call 215; (with_reducible refine (c2 _).mono ?_); rintro e w' ⟨rfl, rfl⟩) | (go_at_call 214; go_in))
    go_end0
    have s0 := sc_new w H S
    go_wp2_with (first
      | (go_at_call 216; (with_reducible refine (US.call cn s0).mono ?_); rintro e w' ⟨rfl, nd1, rfl⟩)
      | (go_at_call 216; (with_reducible refine (US.call cx (s0.drewN _)).mono ?_); rintro e w' ⟨rfl, nd2, rfl⟩)
      | (go_at_call 216; (with_reducible refine (US.call cm (s0.drewN _)).mono ?_); rintro e w' ⟨rfl, nd3, rfl⟩)
      | (go_at_call 217; (with_reducible refine (n1 _).mono ?_); rintro e w' ⟨rfl, rfl⟩)
      | (go_at_call 217; (with_reducible refine (n2 _).mono ?_); rintro e w' ⟨rfl, rfl⟩)
      | (go_at_call 218; (with_reducible refine (k1 _).mono ?_); rintro e w' ⟨rfl, rfl⟩)
      | (go_at_call 219; (with_reducible refine (k2 _).mono ?_); rintro e w' ⟨rfl, rfl⟩))
    go_ret2
    exact ⟨rfl, below_drewN ((Below.refl _ _).alloc (Nat.le_refl _) _) _⟩
  · have hout : shortOut dn dx A p = .tuple #[.int .u64 (A : Int), .int .i64 (-(p : Int))] := by unfold shortOut; rw [if_neg (by omega)]
    rw [hout]
    have hge : decide ((dn : Int) ≤ (dx : Int) / 10 * 10) = false := by simp; omega
    clear hout
    by_cases hlt : dn < dx
    · have hlt2 : decide ((dn : Int) < (dx : Int)) = true := by simp; omega
      clear heq
      go_enter Tryz.func209, Tryz.ntmps209
      go_wp2_with (first | (go_at_call 213; (with_reducible refine (cl _).mono ?_); rintro e w' ⟨rfl, rfl⟩) | (go_at_call 215; (with_reducible refine (c2 _).mono ?_); rintro e w' ⟨rfl, rfl⟩) | (go_at_call 214; go_in))
      go_end0
      have s0 := sc_new w H S
      go_wp2_with (first
        | (go_at_call 216; (with_reducible refine (US.call cn s0).mono ?_); rintro e w' ⟨rfl, nd1, rfl⟩)
        | (go_at_call 216; (with_reducible refine (US.call cx (s0.drewN _)).mono ?_); rintro e w' ⟨rfl, nd2, rfl⟩)
        | (go_at_call 216; (with_reducible refine (US.call cm (s0.drewN _)).mono ?_); rintro e w' ⟨rfl, nd3, rfl⟩)
        | (go_at_call 217; (with_reducible refine (n1 _).mono ?_); rintro e w' ⟨rfl, rfl⟩)
        | (go_at_call 217; (with_reducible refine (n2 _).mono ?_); rintro e w' ⟨rfl, rfl⟩)
        | (go_at_call 218; (with_reducible refine (k1 _).mono ?_); rintro e w' ⟨rfl, rfl⟩)
        | (go_at_call 219; (with_reducible refine (k2 _).mono ?_); rintro e w' ⟨rfl, rfl⟩)
        | (go_at_call 220; (with_reducible refine (c3 _).mono ?_); rintro e w' ⟨rfl, rfl⟩))
      go_ret2
      exact ⟨rfl, below_drewN ((Below.refl _ _).alloc (Nat.le_refl _) _) _⟩
    · have hlt2 : decide ((dn : Int) < (dx : Int)) = false := by simp; omega
      have hA := Lib.hid (heq (by omega))
      clear heq
      go_enter Tryz.func209, Tryz.ntmps209
      go_wp2_with (first | (go_at_call 213; (with_reducible refine (cl _).mono ?_); rintro e w' ⟨rfl, rfl⟩) | (go_at_call 215; (with_reducible refine (c2 _).mono ?_); rintro e w' ⟨rfl, rfl⟩) | (go_at_call 214; go_in))
      go_end0
      have s0 := sc_new w H S
      go_wp2_with (first
        | (go_at_call 216; (with_reducible refine (US.call cn s0).mono ?_); rintro e w' ⟨rfl, nd1, rfl⟩)
        | (go_at_call 216; (with_reducible refine (US.call cx (s0.drewN _)).mono ?_); rintro e w' ⟨rfl, nd2, rfl⟩)
        | (go_at_call 216; (with_reducible refine (US.call cm (s0.drewN _)).mono ?_); rintro e w' ⟨rfl, nd3, rfl⟩)
        | (go_at_call 217; (with_reducible refine (n1 _).mono ?_); rintro e w' ⟨rfl, rfl⟩)
        | (go_at_call 217; (with_reducible refine (n2 _).mono ?_); rintro e w' ⟨rfl, rfl⟩)
        | (go_at_call 218; (with_reducible refine (k1 _).mono ?_); rintro e w' ⟨rfl, rfl⟩)
        | (go_at_call 219; (with_reducible refine (k2 _).mono ?_); rintro e w' ⟨rfl, rfl⟩))
      go_ret2
      exact ⟨by rw [← hA.out]; rfl, below_drewN ((Below.refl _ _).alloc (Nat.le_refl _) _) _⟩


theorem tab_cell {w : World} (hT : Tabs w) (p : Nat) (hp : p ≤ 19) : (∀ o1, (w.alloc o1).cell? ⟨15, (p + 348) * 2, none⟩ = some (.int .u64 (Sam.hT p : Nat))) ∧ (∀ o1, (w.alloc o1).cell? ⟨15, (p + 348) * 2 + 1, none⟩ = some (.int .u64 0)) :=
  ⟨fun o1 => ((hT.below ((Below.refl _ _).alloc (Nat.le_refl _) o1)).at.p10 p hp).1, fun o1 => ((hT.below ((Below.refl _ _).alloc (Nat.le_refl _) o1)).at.p10 p hp).2⟩

theorem uU_lt {f p : Nat} {sk : Bool} (hp : Sam.Pw f p sk) (x : Nat) (hx : x < 18446744073709551616) : Sam.uU x p (f + 9) < 500000000000000003 := by
  have h3 : 3 * 10 ^ p ≤ 40 * 2 ^ f := by
    have e : 10 ^ p = 10 * 10 ^ (p - 1) := by
      have := hp.p3
      rw [show p = p - 1 + 1 by omega, Nat.pow_succ, Nat.add_sub_cancel, Nat.mul_comm]
    have := hp.lo
    rw [e]
    cases sk <;> simp at this <;> omega
  have hd : x * 10 ^ p / 2 ^ (f + 9) < 500000000000000001 := by
    refine Nat.div_lt_of_lt_mul ?_
    rw [Nat.pow_add]
    have e1 : 3 * (x * 10 ^ p) ≤ x * (40 * 2 ^ f) := by
      rw [Nat.mul_left_comm]; exact Nat.mul_le_mul_left _ h3
    have e2 : x * (40 * 2 ^ f) ≤ 18446744073709551616 * (40 * 2 ^ f) := Nat.mul_le_mul_right _ (Nat.le_of_lt hx)
    have hpos : 0 < 2 ^ f := Nat.two_pow_pos _
    generalize x * 10 ^ p = N at *
    generalize x * (40 * 2 ^ f) = N2 at *
    generalize 2 ^ f = T at *
    omega
  have hc := Sam.uU_cases (x * 10 ^ p) (2 ^ (f + 9)) (Sam.uU x p (f + 9)) rfl
  generalize x * 10 ^ p / 2 ^ (f + 9) = q at *
  generalize Sam.uU x p (f + 9) = u at *
  omega

theorem uU_ge {f p : Nat} {sk : Bool} (_hp : Sam.Pw f p sk) (x : Nat) (hx : 4611686018427387904 ≤ x) (hf : 2 ^ f ≤ 10 ^ p) : 4 ≤ Sam.uU x p (f + 9) := by
  have hd : 8 ≤ x * 10 ^ p / 2 ^ (f + 9) := by
    refine (Nat.le_div_iff_mul_le (Nat.two_pow_pos _)).2 ?_
    rw [Nat.pow_add]
    have e1 : 4611686018427387904 * 2 ^ f ≤ x * 10 ^ p := Nat.mul_le_mul hx hf
    generalize x * 10 ^ p = N at *
    generalize 2 ^ f = T at *
    omega
  have hc := Sam.uU_cases (x * 10 ^ p) (2 ^ (f + 9)) (Sam.uU x p (f + 9)) rfl
  generalize x * 10 ^ p / 2 ^ (f + 9) = q at *
  generalize Sam.uU x p (f + 9) = u at *
  omega

theorem pOf_ge : ∀ f : Fin 63, 2 ^ f.val ≤ 10 ^ Sam.pOf f.val := by decide +kernel
theorem pSk_ge : ∀ f : Fin 63, 2 ^ f.val ≤ 10 ^ Sam.pSk f.val := by decide +kernel

/-- What is left over the walks: the answer's value. -/
theorem short_post {A p dn dx : Nat} (hp3 : 3 ≤ p) (hp19 : p ≤ 19) (hdx : dx < 500000000000000003) (hA : A ≤ dx ∨ dn ≤ dx / 10 * 10)
    (h : (dn ≤ dx / 10 * 10 ∧ dx / 10 * 1000 = A * 10 ^ (p - 1)) ∨ (dx / 10 * 10 < dn ∧ p = 3)) :
    ∃ d P : Nat, shortOut dn dx A p = .tuple #[.int .u64 (d : Int), .int .i64 (-(P : Int))] ∧ d * 1000 = A * 10 ^ P ∧ 2 ≤ P ∧ P ≤ 19 ∧ d < 1000000000000000000 := by
  unfold shortOut
  rcases h with ⟨h1, h2⟩ | ⟨h1, h2⟩
  · rw [if_pos h1]
    have e : ((p : Int) - 1) = ((p - 1 : Nat) : Int) := by omega
    exact ⟨dx / 10, p - 1, by rw [e], h2, by omega, by omega, by omega⟩
  · rw [if_neg (by omega)]
    exact ⟨A, p, rfl, by rw [h2], by omega, by omega, by omega⟩

/-- shortFloat gives a decimal d * 10^-P that is A / 1000. -/
theorem shortFloat_any (A M f : Nat) (h : Sam.Fl A M f) (w : World) (hT : Tabs w) :
    Calls Tryz.prog 209 #[.int .u64 ((M * 2048 : Nat) : Int), .int .i64 (-((f + 11 : Nat) : Int))] w fun e w' => (∃ d P : Nat, e = .returned (.tuple #[.int .u64 (d : Int), .int .i64 (-(P : Int))]) ∧ d * 1000 = A * 10 ^ P ∧ 2 ≤ P ∧ P ≤ 19 ∧ d < 1000000000000000000) ∧ Below w.heap.size w w' := by
  have m1 : 4503599627370496 ≤ M := h.m1
  have m2 : M < 9007199254740992 := h.m2
  have f1 := h.f1; have f2 := h.f2
  have hand := and_1 M (by omega)
  have ho : M % 2 ≤ 1 := by omega
  by_cases hsk : M = 2 ^ 52
  · have hp := Sam.pw_sk f f1 f2
    obtain ⟨_, _, _, _, _, t1, t2⟩ := Sam.pSk_tab ⟨f, by omega⟩ f1
    have hge := pSk_ge ⟨f, by omega⟩
    have hint := Sam.pSk_int f
    dsimp only at t1 t2 hge
    generalize Sam.pSk f = p at *
    have hp19 := hp.p19
    have hp3 := hp.p3
    obtain ⟨hH, hl, _⟩ := Sam.hT_tab ⟨p, by omega⟩
    dsimp only at hH hl
    obtain ⟨q0, q1⟩ := tab_cell hT p hp19
    obtain ⟨mn, hmn⟩ : ∃ mn, mn = M * 2048 - 512 := ⟨_, rfl⟩
    obtain ⟨mx, hmx⟩ : ∃ mx, mx = M * 2048 + 1024 := ⟨_, rfl⟩
    obtain ⟨o, hoo⟩ : ∃ o, o = M % 2 := ⟨_, rfl⟩
    obtain ⟨dn, hdn⟩ : ∃ dn, dn = (Sam.uU mn p (f + 9) + o + 3) / 4 := ⟨_, rfl⟩
    obtain ⟨dx, hdx⟩ : ∃ dx, dx = (Sam.uU mx p (f + 9) - o) / 4 := ⟨_, rfl⟩
    have sp := Sam.short_spec A M f p (f + 9) mn mx o dn dx true h hp rfl (by simp [hsk]) (by rw [hmn]; rfl) (by rw [hmx]) hoo hdn hdx
    have hx2 : mn % 2 = 0 := by omega
    have hx3 : mx % 2 = 0 := by omega
    have hx4 : M * 2048 % 2 = 0 := by omega
    have b1 : mn < 18446744073709551616 := by omega
    have b2 : mx < 18446744073709551616 := by omega
    have b3 : M * 2048 < 18446744073709551616 := by omega
    have u1 := uU_lt hp mn b1
    have u2 := uU_lt hp mx b2
    have u4 := uU_ge hp mx (by omega) hge
    have hcase : dn ≤ dx / 10 * 10 ∨ (dx / 10 * 10 < dn ∧ dn ≤ dx ∧ (dn = dx → dn = A) ∧ ∀ w, Calls Tryz.prog 220 #[.int .u64 ((Sam.uU (M * 2048) p (f + 9) : Nat) : Int)] w fun e w' => e = .returned (.int .u64 (A : Int)) ∧ w = w') := by
      rcases sp with ⟨s1, _⟩ | ⟨s1, s2, s3, s4, s5, s6⟩
      · exact Or.inl s1
      · have hu3 := uU_lt hp (M * 2048) b3
        refine Or.inr ⟨s1, s4, s3, fun w => round_any A _ w ?_ s5⟩
        rw [show M * 2 ^ 11 = M * 2048 from rfl] at s5
        omega
    have hA : A ≤ dx ∨ dn ≤ dx / 10 * 10 := by
      rcases sp with ⟨s1, _⟩ | ⟨s1, s2, s3, s4, s5, s6⟩
      · exact Or.inr s1
      · exact Or.inl s6
    have hpost := short_post hp3 hp19 (dn := dn) (dx := dx) (A := A) (by omega) hA (by
      rcases sp with ⟨s1, s2⟩ | ⟨s1, s2, _⟩
      · exact Or.inl ⟨s1, s2⟩
      · exact Or.inr ⟨s1, s2⟩)
    have hwalk := short_walk_b (M * 2048) mn mx M o f p (Sam.lp p) (f + 8 - Sam.lp p) (Sam.hT p) (Sam.uU mn p (f + 9)) (Sam.uU mx p (f + 9)) (Sam.uU (M * 2048) p (f + 9)) (Sam.uU mn p (f + 9) + o) (Sam.uU mx p (f + 9) - o) dn dx A (-((f + 11 : Nat) : Int)) w
      (by rw [show M = 4503599627370496 from hsk]; rfl) (by omega) (by omega) (by omega) (by omega) (by omega) (by omega) (by omega) (by rw [hoo]; exact hand) (by omega) (by omega) (by omega)
      (fun w => skewed_any f p w (by omega) hint) (fun w => log2_any p (Sam.lp p) w (by omega) (Sam.lp_int p)) hp19 (by omega) (by omega) q0 q1
      (fun w ⟨c0, c1, c2⟩ => uscale_any mn p (f + 8 - Sam.lp p) (f + 9) _ b1 hx2 hp19 (by omega) (by omega) w c0 c1 c2)
      (fun w ⟨c0, c1, c2⟩ => uscale_any mx p (f + 8 - Sam.lp p) (f + 9) _ b2 hx3 hp19 (by omega) (by omega) w c0 c1 c2)
      (fun w ⟨c0, c1, c2⟩ => uscale_any (M * 2048) p (f + 8 - Sam.lp p) (f + 9) _ b3 hx4 hp19 (by omega) (by omega) w c0 c1 c2)
      (fun w => nudge_up _ o w (by omega) (by omega)) (fun w => nudge_down _ o w (by omega) (by omega) u4)
      (fun w => by rw [hdn]; exact ceil_any _ w (by omega)) (fun w => by rw [hdx]; exact floor_any _ w (by omega)) (by omega) (by omega) hcase
    obtain ⟨d, P, hs, hrest⟩ := hpost
    exact hwalk.mono fun e w' ⟨he, hb⟩ => ⟨⟨d, P, by rw [he, hs], hrest⟩, hb⟩
  · have hp := Sam.pw_of f f1 f2
    obtain ⟨_, _, _, _, _, t1, t2⟩ := Sam.pOf_tab ⟨f, by omega⟩ f1
    have hge := pOf_ge ⟨f, by omega⟩
    have hint := Sam.pOf_int f
    dsimp only at t1 t2 hge
    generalize Sam.pOf f = p at *
    have hp19 := hp.p19
    have hp3 := hp.p3
    obtain ⟨hH, hl, _⟩ := Sam.hT_tab ⟨p, by omega⟩
    dsimp only at hH hl
    obtain ⟨q0, q1⟩ := tab_cell hT p hp19
    obtain ⟨mn, hmn⟩ : ∃ mn, mn = M * 2048 - 1024 := ⟨_, rfl⟩
    obtain ⟨mx, hmx⟩ : ∃ mx, mx = M * 2048 + 1024 := ⟨_, rfl⟩
    obtain ⟨o, hoo⟩ : ∃ o, o = M % 2 := ⟨_, rfl⟩
    obtain ⟨dn, hdn⟩ : ∃ dn, dn = (Sam.uU mn p (f + 9) + o + 3) / 4 := ⟨_, rfl⟩
    obtain ⟨dx, hdx⟩ : ∃ dx, dx = (Sam.uU mx p (f + 9) - o) / 4 := ⟨_, rfl⟩
    have sp := Sam.short_spec A M f p (f + 9) mn mx o dn dx false h hp rfl (by simp [hsk]) (by rw [hmn]; rfl) (by rw [hmx]) hoo hdn hdx
    have hx2 : mn % 2 = 0 := by omega
    have hx3 : mx % 2 = 0 := by omega
    have hx4 : M * 2048 % 2 = 0 := by omega
    have b1 : mn < 18446744073709551616 := by omega
    have b2 : mx < 18446744073709551616 := by omega
    have b3 : M * 2048 < 18446744073709551616 := by omega
    have u1 := uU_lt hp mn b1
    have u2 := uU_lt hp mx b2
    have u4 := uU_ge hp mx (by omega) hge
    have hcase : dn ≤ dx / 10 * 10 ∨ (dx / 10 * 10 < dn ∧ dn ≤ dx ∧ (dn = dx → dn = A) ∧ ∀ w, Calls Tryz.prog 220 #[.int .u64 ((Sam.uU (M * 2048) p (f + 9) : Nat) : Int)] w fun e w' => e = .returned (.int .u64 (A : Int)) ∧ w = w') := by
      rcases sp with ⟨s1, _⟩ | ⟨s1, s2, s3, s4, s5, s6⟩
      · exact Or.inl s1
      · have hu3 := uU_lt hp (M * 2048) b3
        refine Or.inr ⟨s1, s4, s3, fun w => round_any A _ w ?_ s5⟩
        rw [show M * 2 ^ 11 = M * 2048 from rfl] at s5
        omega
    have hA : A ≤ dx ∨ dn ≤ dx / 10 * 10 := by
      rcases sp with ⟨s1, _⟩ | ⟨s1, s2, s3, s4, s5, s6⟩
      · exact Or.inr s1
      · exact Or.inl s6
    have hpost := short_post hp3 hp19 (dn := dn) (dx := dx) (A := A) (by omega) hA (by
      rcases sp with ⟨s1, s2⟩ | ⟨s1, s2, _⟩
      · exact Or.inl ⟨s1, s2⟩
      · exact Or.inr ⟨s1, s2⟩)
    have hwalk := short_walk_a (M * 2048) mn mx M o f p (Sam.lp p) (f + 8 - Sam.lp p) (Sam.hT p) (Sam.uU mn p (f + 9)) (Sam.uU mx p (f + 9)) (Sam.uU (M * 2048) p (f + 9)) (Sam.uU mn p (f + 9) + o) (Sam.uU mx p (f + 9) - o) dn dx A (-((f + 11 : Nat) : Int)) w
      (by have : M ≠ 4503599627370496 := hsk; simp; omega) (by omega) (by omega) (by omega) (by omega) (by omega) (by omega) (by omega) (by rw [hoo]; exact hand) (by omega) (by omega) (by omega)
      (fun w => log10_any f p w (by omega) hint) (fun w => log2_any p (Sam.lp p) w (by omega) (Sam.lp_int p)) hp19 (by omega) (by omega) q0 q1
      (fun w ⟨c0, c1, c2⟩ => uscale_any mn p (f + 8 - Sam.lp p) (f + 9) _ b1 hx2 hp19 (by omega) (by omega) w c0 c1 c2)
      (fun w ⟨c0, c1, c2⟩ => uscale_any mx p (f + 8 - Sam.lp p) (f + 9) _ b2 hx3 hp19 (by omega) (by omega) w c0 c1 c2)
      (fun w ⟨c0, c1, c2⟩ => uscale_any (M * 2048) p (f + 8 - Sam.lp p) (f + 9) _ b3 hx4 hp19 (by omega) (by omega) w c0 c1 c2)
      (fun w => nudge_up _ o w (by omega) (by omega)) (fun w => nudge_down _ o w (by omega) (by omega) u4)
      (fun w => by rw [hdn]; exact ceil_any _ w (by omega)) (fun w => by rw [hdx]; exact floor_any _ w (by omega)) (by omega) (by omega) hcase
    obtain ⟨d, P, hs, hrest⟩ := hpost
    exact hwalk.mono fun e w' ⟨he, hb⟩ => ⟨⟨d, P, by rw [he, hs], hrest⟩, hb⟩

end Go.Proofs.YtdeejmkjhmpabaaGreatDoor
namespace Go.Proofs.YtdeejmkjhmpabaaGreatDoor
open Go.RowKit Go.Sort Go.Lib

/-- A byte in a cell. -/
def encB (b : UInt8) : Value := .int .u8 (b.toNat : Int)

theorem nDigits_mul (d z : Nat) (hd : 1 ≤ d) : nDigits (d * 10 ^ z) = nDigits d + z := by
  induction z with
  | zero => simp
  | succ z ih =>
    have h1 : 1 ≤ d * 10 ^ z := Nat.mul_pos hd (Nat.pow_pos (by decide))
    rw [Nat.pow_succ, ← Nat.mul_assoc, nDigits_big (by omega), Nat.mul_div_cancel _ (by decide), ih]
    omega

theorem dg_nat (u j : Nat) : (dg u j).toNat = 48 + u / 10 ^ j % 10 := by
  unfold dg
  rw [UInt8.toNat_ofNat']
  omega

/-- What formatBase10 leaves: the digits in the buffer. -/
def FB (d nd b : Nat) (w w' : World) : Prop :=
  (∀ k z, k + z + 1 = nd → w'.cell? ⟨b, k, none⟩ = some (.int .u8 (48 + ((d / 10 ^ z % 10 : Nat) : Int)))) ∧ Below b w w' ∧ w'.heap.size = w.heap.size

/-- What setDigits answers: the digits without the zeros at the end. -/
def SDpost (d nd b : Nat) (dp : Int) (w : World) (e : Ending) (w' : World) : Prop :=
  (∃ d' z k : Nat, e = .returned (.tuple #[.int .i64 dp, .int .i64 (k : Int)]) ∧ d = d' * 10 ^ z ∧ d' % 10 ≠ 0 ∧ k + z = nd) ∧ FB d nd b w w'

theorem sd_done (d nd k z b : Nat) (hz : d % 10 ^ z = 0) (hk : k + z = nd) (hc : d / 10 ^ z % 10 ≠ 0) (dp x y : Int) (w W1 : World) (hF : FB d nd b w W1) (hx : x = dp) (hy : y = (k : Int)) :
    SDpost d nd b dp w (.returned (.tuple #[.int .i64 x, .int .i64 y])) W1 := by
  subst hx hy
  exact ⟨⟨d / 10 ^ z, z, k, rfl, (Nat.div_mul_cancel (Nat.dvd_of_mod_eq_zero hz)).symm, hc, hk⟩, hF⟩

theorem sd_step (d z : Nat) (hz : d % 10 ^ z = 0) (hc : d / 10 ^ z % 10 = 0) : d % 10 ^ (z + 1) = 0 := by
  rw [Nat.pow_succ, Nat.mod_mul, hz, hc]; simp

set_option maxRecDepth 100000 in
set_option maxHeartbeats 1000000 in
theorem setDigits_walk (d nd b : Nat) (P dp : Int) (w : World) (hnd : nd ≤ 32) (h1 : 1 ≤ nd) (hd : 1 ≤ d) (hdd : d < 10 ^ nd) (hdp : wrap64 ((nd : Int) + P) = dp)
    (cF : Calls Tryz.prog 115 #[.slice (some ⟨b, 0, none⟩) nd 32, .int .u64 (d : Int)] w fun e w' => e = .returned (.tuple #[]) ∧ FB d nd b w w') :
    Calls Tryz.prog 204 #[.slice (some ⟨b, 0, none⟩) 32 32, .int .u64 (d : Int), .int .i64 P, .int .i64 (nd : Int)] w (SDpost d nd b dp w) := by
  obtain ⟨n1, rfl⟩ : ∃ n1, nd = n1 + 1 := ⟨nd - 1, by omega⟩
  have HD := Lib.hid hdd
  clear hdd
  go_enter Tryz.func204, Tryz.ntmps204
  go_wp2_with (go_at_call 115; (with_reducible refine cF.mono ?_); rintro e W1 ⟨rfl, hFB⟩)
  clear cF
  go_loop [3] (fun v => ∃ k z : Nat, v = .int .i64 ((k : Int) + 1) ∧ Hid (k + z = n1 ∧ d % 10 ^ z = 0)) (fun v => (intOf v).toNat)
  case atStart => exact ⟨n1, 0, by go_num, by simp, by simp [Nat.mod_one]⟩
  case round =>
    obtain ⟨k, z, rfl, HK⟩ := hrel
    have hc := hFB.1 k z (by have := HK.out.1; omega)
    have hk32 : k ≤ 31 := by have := HK.out.1; omega
    by_cases h0 : d / 10 ^ z % 10 = 0
    · rw [h0] at hc
      have hk1 : 1 ≤ k := by
        rcases Nat.eq_zero_or_pos k with h | h
        · exfalso
          have hz := HK.out
          have := sd_step d z hz.2 h0
          rw [show z + 1 = n1 + 1 by omega] at this
          rw [Nat.mod_eq_of_lt HD.out] at this
          omega
        · exact h
      have HZ := Lib.hid (sd_step d z HK.out.2 h0)
      clear h0
      go_wp2
      go_round
      case rel => exact ⟨k - 1, z + 1, by congr 1; omega, by have := HK.out.1; omega, HZ.out⟩
      case measure => simp [intOf]
    · have hlt : d / 10 ^ z % 10 < 10 := Nat.mod_lt _ (by decide)
      have HN := Lib.hid h0
      obtain ⟨c, hcd⟩ : ∃ c, c = d / 10 ^ z % 10 := ⟨_, rfl⟩
      rw [← hcd] at hc hlt
      have ht : ((48 + (c : Int)) == 48) = false := by have : ¬ c = 0 := by rw [hcd]; exact h0
                                                       simp; omega
      clear h0 hcd
      go_wp2
      go_ret2
      exact sd_done d (n1 + 1) (k + 1) z b HK.out.2 (by have := HK.out.1; omega) HN.out dp _ _ w W1 hFB hdp (by omega)

theorem nDigits_le : ∀ (k d : Nat), 1 ≤ k → d < 10 ^ k → nDigits d ≤ k
  | 0, _, h, _ => absurd h (by decide)
  | k + 1, d, _, h => by
    by_cases hd : d < 10
    · rw [nDigits_small hd]; omega
    · rw [nDigits_big hd]
      have hk : 1 ≤ k := by
        rcases Nat.eq_zero_or_pos k with h0 | h0
        · subst h0; omega
        · exact h0
      have := nDigits_le k (d / 10) hk (Nat.div_lt_of_lt_mul (by rw [Nat.pow_succ, Nat.mul_comm] at h; exact h))
      omega

theorem below_putRow (enc : UInt8 → Value) (w : World) (b off : Nat) (d : Array UInt8) : Below b w (putRow enc w b off d) ∧ (putRow enc w b off d).heap.size = w.heap.size := by
  refine ⟨⟨rfl, rfl, rfl, by simp [putRow, mapBlock], fun k hk => ?_⟩, by simp [putRow, mapBlock]⟩
  simp only [putRow, mapBlock, Array.getElem?_modify]
  rw [if_neg (by omega)]

/-- setDigits: the digits of d, without the zeros at the end, stand at the head of the buffer b. -/
theorem setDigits_any (d P b : Nat) (hd : 1 ≤ d) (hd2 : d < 1000000000000000000) (hP : P ≤ 100) (w : World) (hH : ∀ t, t < 32 → w.cell? ⟨b, t, none⟩ = some (.int .u8 0) ∧ w.frozen? ⟨b, t, none⟩ = false) :
    Calls Tryz.prog 204 #[.slice (some ⟨b, 0, none⟩) 32 32, .int .u64 (d : Int), .int .i64 (-(P : Int)), .int .i64 (nDigits d : Int)] w fun e w' =>
      (∃ d' z k : Nat, e = .returned (.tuple #[.int .i64 ((nDigits d : Int) - P), .int .i64 (k : Int)]) ∧ d = d' * 10 ^ z ∧ d' % 10 ≠ 0 ∧ k + z = nDigits d ∧ k = nDigits d' ∧ (∀ t j, t + j + 1 = k → w'.cell? ⟨b, t, none⟩ = some (.int .u8 (48 + ((d' / 10 ^ j % 10 : Nat) : Int))))) ∧ Below b w w' ∧ w'.heap.size = w.heap.size := by
  have hn := nDigits_pos d
  have hn18 := nDigits_le 18 d (by decide) hd2
  have hlt := lt_pow_nDigits d
  have hHold : Holds (fun (b : UInt8) => Value.int .u8 (b.toNat : Int)) w b 0 (Array.replicate (nDigits d) (0 : UInt8)) := fun j hj => by
    have hj' : j < nDigits d := by simpa using hj
    have := hH j (by omega)
    rw [Nat.zero_add]
    refine ⟨?_, this.2⟩
    rw [this.1, getElem!_pos _ j hj, Array.getElem_replicate]
    rfl
  have cF := Tryz.internal_strconv_formatBase10 b 0 32 d (Array.replicate (nDigits d) (0 : UInt8)) w hHold (by rw [Array.size_replicate]; exact hlt) (by omega) (by rw [Array.size_replicate]; omega)
  rw [Array.size_replicate] at cF
  have cF' : Calls Tryz.prog 115 #[.slice (some ⟨b, 0, none⟩) (nDigits d) 32, .int .u64 (d : Int)] w fun e w' => e = .returned (.tuple #[]) ∧ FB d (nDigits d) b w w' := by
    refine cF.mono fun e w' ⟨he, n, v', dk, hw, hI⟩ => ⟨he, ?_⟩
    subst hw
    have hs := hI.size
    have hH2 := holds_putRow _ w b 0 _ dk hHold (by simp [hs])
    obtain ⟨hB, hS⟩ := below_putRow (fun (b : UInt8) => Value.int .u8 (b.toNat : Int)) w b 0 dk
    refine ⟨fun k z hkz => ?_, below_drewN hB n, hS⟩
    have h1 := (hH2 k (by rw [hs]; omega)).1
    rw [hI.done k (Nat.zero_le _) (by omega), Nat.zero_add] at h1
    dsimp only at h1
    rw [dg_nat] at h1
    rw [World.cell?_drewN, h1]
    have : nDigits d - 1 - k = z := by omega
    rw [this]
    simp
  refine (setDigits_walk d (nDigits d) b (-(P : Int)) ((nDigits d : Int) - P) w (by omega) hn hd hlt ?_ cF').mono ?_
  · rw [IntWalk.wrap64_in _ (by omega)]; omega
  · rintro e w' ⟨⟨d', z, k, he, hd1, hd2, hk⟩, hFB⟩
    have hd0 : 1 ≤ d' := by omega
    have hnd := nDigits_mul d' z hd0
    rw [← hd1] at hnd
    refine ⟨⟨d', z, k, he, hd1, hd2, hk, by omega, fun t j htj => ?_⟩, hFB.2⟩
    have h1 := hFB.1 t (j + z) (by omega)
    have h2 : d / 10 ^ (j + z) = d' / 10 ^ j := by
      rw [hd1, Nat.pow_add, Nat.mul_div_mul_right _ _ (Nat.pow_pos (by decide))]
    rw [h2] at h1
    exact h1

end Go.Proofs.YtdeejmkjhmpabaaGreatDoor

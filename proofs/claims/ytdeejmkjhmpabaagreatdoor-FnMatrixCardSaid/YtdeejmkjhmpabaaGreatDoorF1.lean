import Derived.Test.YtdeejmkjhmpabaaGreatDoorProg
import Derived.Test.YtdeejmkjhmpabaaGreatDoorW0
import Derived.Test.YtdeejmkjhmpabaaGreatDoorPa
import Derived.Test.YtdeejmkjhmpabaaGreatDoorSh
import Derived.Deep.QuietTactic
import Derived.BigQuiet
import Derived.Lib.LaidTab
import Derived.Lib.ItoaNum
import Derived.Lib.PrintData
import Derived.Shelf.Unicode.DecodeSlow
namespace Go.Proofs.YtdeejmkjhmpabaaGreatDoor
open Go.RowKit

/-! ### The library's tables -/
structure TabsAt (w : World) : Prop where
  pow : Lib.TabIs Tryz.prog w "internal/strconv.uint64pow10" .u64 Lib.pow10Tab
  p10 : ∀ p, p ≤ 19 → w.cell? ⟨15, (p + 348) * 2, none⟩ = some (.int .u64 (Sam.hT p : Nat)) ∧ w.cell? ⟨15, (p + 348) * 2 + 1, none⟩ = some (.int .u64 0)
  prints : Lib.PrintTabsAt 7 8 9 10 Lib.goPrintTabs w
  u8 : Lib.Utf8Tabs 5 6 w
  size : 17 ≤ w.heap.size

/-- The tables lie, and lie in every later world. -/
def Tabs (w : World) : Prop := ∀ w', Below w.heap.size w w' → TabsAt w'
theorem Tabs.at {w : World} (h : Tabs w) : TabsAt w := h w (Below.refl _ _)
theorem Tabs.below {w w' : World} (h : Tabs w) (hb : Below w.heap.size w w') : Tabs w' := fun w2 h2 => h w2 (hb.trans (h2.mono hb.size))

/-! ### Small functions -/
theorem ret_int {k : IntKind} {a b : Int} (h : a = b) : Ending.returned (.int k a) = .returned (.int k b) := by rw [h]

set_option maxHeartbeats 400000 in
theorem bool2u_any (b : Bool) (w : World) : Calls Tryz.prog 230 #[.bool b] w fun e w' => e = .returned (.int .u64 (if b then 1 else 0)) ∧ w = w' := by
  cases b
  all_goals
    go_enter Tryz.func230, Tryz.ntmps230
    go_wp2
    go_ret
    exact ⟨rfl, rfl⟩

set_option maxHeartbeats 400000 in
theorem log10_any (f p : Nat) (w : World) (hf : f ≤ 100) (hp : Hid (-((-(f : Int) * 78913) / 262144) = (p : Int))) :
    Calls Tryz.prog 152 #[.int .i64 (-(f : Int))] w fun e w' => e = .returned (.int .i64 (-(p : Int))) ∧ w = w' := by
  go_enter Tryz.func152, Tryz.ntmps152
  go_wp2
  go_ret
  refine ⟨?_, rfl⟩
  have := hp.out
  show Ending.returned (.int .i64 _) = _
  congr 2
  omega

set_option maxHeartbeats 400000 in
theorem skewed_any (f p : Nat) (w : World) (hf : f ≤ 100) (hp : Hid (-((-(f : Int) * 631305 - 261663) / 2097152) = (p : Int))) :
    Calls Tryz.prog 213 #[.int .i64 (-(f : Int))] w fun e w' => e = .returned (.int .i64 (-(p : Int))) ∧ w = w' := by
  go_enter Tryz.func213, Tryz.ntmps213
  go_wp2
  go_ret
  refine ⟨?_, rfl⟩
  have := hp.out
  show Ending.returned (.int .i64 _) = _
  congr 2
  omega

set_option maxHeartbeats 400000 in
theorem log2_any (p l : Nat) (w : World) (hf : p ≤ 30) (hp : Hid ((p : Int) * 108853 / 32768 = (l : Int))) :
    Calls Tryz.prog 215 #[.int .i64 (p : Int)] w fun e w' => e = .returned (.int .i64 (l : Int)) ∧ w = w' := by
  go_enter Tryz.func215, Tryz.ntmps215
  go_wp2
  go_ret
  refine ⟨?_, rfl⟩
  have := hp.out
  show Ending.returned (.int .i64 _) = _
  congr 2

set_option maxHeartbeats 400000 in
theorem nudge_up (u o : Nat) (w : World) (hu : u < 18446744073709551610) (ho : o ≤ 1) :
    Calls Tryz.prog 217 #[.int .u64 (u : Int), .int .i64 (o : Int)] w fun e w' => e = .returned (.int .u64 ((u + o : Nat) : Int)) ∧ w = w' := by
  have e : IntKind.u64.wrap ((u : Int) + (o : Int)) = (u : Int) + o := by rw [IntKind.wrap_u64]; omega
  go_enter Tryz.func217, Tryz.ntmps217
  go_wp2
  go_ret
  exact ⟨rfl, rfl⟩

theorem down_wrap (u : Nat) (h : 4 ≤ u) (hu : u < 18446744073709551610) : IntKind.u64.wrap ((u : Int) + IntKind.u64.wrap (-1)) = (u : Int) - 1 := by
  have e : IntKind.u64.wrap (-1) = 18446744073709551615 := by decide
  rw [e, IntKind.wrap_u64]
  omega
theorem down_one (u : Nat) (h : 4 ≤ u) : ((u - 1 : Nat) : Int) = (u : Int) - 1 := by omega

set_option maxRecDepth 100000 in
set_option maxHeartbeats 400000 in
theorem nudge_down (u o : Nat) (w : World) (hu : u < 18446744073709551610) (ho : o ≤ 1) (h : 4 ≤ u) :
    Calls Tryz.prog 217 #[.int .u64 (u : Int), .int .i64 (-(o : Int))] w fun e w' => e = .returned (.int .u64 ((u - o : Nat) : Int)) ∧ w = w' := by
  rcases (by omega : o = 0 ∨ o = 1) with rfl | rfl
  · go_enter Tryz.func217, Tryz.ntmps217
    go_wp2
    go_ret
    exact ⟨rfl, rfl⟩
  · go_enter Tryz.func217, Tryz.ntmps217
    go_wp2
    go_ret
    exact ⟨ret_int (by rw [down_wrap u h hu, down_one u h]), rfl⟩

set_option maxHeartbeats 400000 in
theorem ceil_any (u : Nat) (w : World) (hu : u < 18446744073709551610) :
    Calls Tryz.prog 218 #[.int .u64 (u : Int)] w fun e w' => e = .returned (.int .u64 (((u + 3) / 4 : Nat) : Int)) ∧ w = w' := by
  go_enter Tryz.func218, Tryz.ntmps218
  go_wp2
  go_ret
  exact ⟨rfl, rfl⟩

set_option maxHeartbeats 400000 in
theorem floor_any (u : Nat) (w : World) (hu : u < 18446744073709551610) :
    Calls Tryz.prog 219 #[.int .u64 (u : Int)] w fun e w' => e = .returned (.int .u64 ((u / 4 : Nat) : Int)) ∧ w = w' := by
  go_enter Tryz.func219, Tryz.ntmps219
  go_wp2
  go_ret
  exact ⟨rfl, rfl⟩

set_option maxHeartbeats 400000 in
theorem round_any (A u : Nat) (w : World) (hA : A < 1000000000000000000) (hu : u = 4 * A) :
    Calls Tryz.prog 220 #[.int .u64 (u : Int)] w fun e w' => e = .returned (.int .u64 (A : Int)) ∧ w = w' := by
  subst hu
  have ha : bits .and .u64 (A : Int) 1 = ((A &&& 1 : Nat) : Int) := bits_and_u64_nat A 1 (by omega) (by decide)
  rw [Nat.and_one_is_mod] at ha
  have e1 : ((4 * A : Nat) : Int) / 4 = (A : Int) := by omega
  have hm : A % 2 < 2 := Nat.mod_lt _ (by decide)
  generalize hr : A % 2 = r at ha hm
  clear hr
  go_enter Tryz.func220, Tryz.ntmps220
  go_wp2
  go_ret
  refine ⟨?_, rfl⟩
  show Ending.returned (.int .u64 _) = _
  congr 2
  omega

theorem mul64_any (x H hi mid : Nat) (hx : x < 18446744073709551616) (hH : H < 18446744073709551616) (e1 : hi = x * H / 18446744073709551616) (e2 : mid = x * H % 18446744073709551616) (w : World) :
    Calls Tryz.prog 229 #[.int .u64 (x : Int), .int .u64 (H : Int)] w fun e w' => e = .returned (.tuple #[.int .u64 (hi : Int), .int .u64 (mid : Int)]) ∧ w = w' := by
  subst e1 e2
  exact (Tryz.bits_Mul64 x H hx hH w).mono fun e w' ⟨h1, h2⟩ => ⟨h1, h2.symm⟩

set_option maxHeartbeats 400000 in
theorem uscale_walk (x H hi mid S b q z : Nat) (w : World)
    (cM : ∀ w, Calls Tryz.prog 229 #[.int .u64 (x : Int), .int .u64 (H : Int)] w fun e w' => e = .returned (.tuple #[.int .u64 (hi : Int), .int .u64 (mid : Int)]) ∧ w = w')
    (cZ : ∀ w, Calls Tryz.prog 229 #[.int .u64 (x : Int), .int .u64 0] w fun e w' => e = .returned (.tuple #[.int .u64 0, .int .u64 0]) ∧ w = w')
    (hand : bits .and .i64 (S : Int) 63 = (S : Int))
    (hs1 : (hi : Int) / 2 ^ min S 64 = (q : Int)) (hs2 : IntKind.u64.wrap ((q : Int) * 2 ^ min S 64) = (z : Int))
    (ho1 : bits .or .u64 (q : Int) 1 = ((q ||| 1 : Nat) : Int)) (ho0 : bits .or .u64 (q : Int) 0 = ((q ||| 0 : Nat) : Int))
    (bm : mid ≤ 18446744073709551615) (bh : hi ≤ 18446744073709551615)
    (c0 : w.cell? ⟨b, 0, none⟩ = some (.int .u64 (H : Int))) (c1 : w.cell? ⟨b, 0 + 1, none⟩ = some (.int .u64 0)) (c2 : w.cell? ⟨b, 0 + 2, none⟩ = some (.int .i64 (S : Int))) :
    Calls Tryz.prog 216 #[.int .u64 (x : Int), .pointer (some ⟨b, 0, none⟩)] w fun e w' => e = .returned (.int .u64 ((if z = hi then q ||| (if 1 < mid then 1 else 0) else q ||| 1 : Nat) : Int)) ∧ ∃ n, w' = w.drewN n := by
  by_cases hzz : z = hi
  · have m0 : ((mid : Int) < 0) = False := by simp
    have ht : ((hi : Int) != (hi : Int)) = false := by simp
    rw [if_pos hzz]
    subst hzz
    by_cases hm : 1 < mid
    · rw [if_pos hm]
      have m1 : decide (1 < (mid : Int)) = true := by simp; omega
      go_enter Tryz.func216, Tryz.ntmps216
      go_wp2_with (first | (go_at_call 229; (with_reducible refine (cM _).mono ?_); rintro e w' ⟨rfl, rfl⟩) | (go_at_call 229; (with_reducible refine (cZ _).mono ?_); rintro e w' ⟨rfl, rfl⟩) | (go_at_call 230; (with_reducible refine (bool2u_any _ _).mono ?_); rintro e w' ⟨rfl, rfl⟩))
      go_quiet ((go_at_call 230; exact Calls.quiet_of_same ((bool2u_any _ _).mono fun e w' ⟨h1, h2⟩ => ⟨h1, h2.symm⟩)))
      go_wp2
      go_ret
      exact ⟨rfl, _, rfl⟩
    · rw [if_neg hm]
      have m1 : decide (1 < (mid : Int)) = false := by simp; omega
      go_enter Tryz.func216, Tryz.ntmps216
      go_wp2_with (first | (go_at_call 229; (with_reducible refine (cM _).mono ?_); rintro e w' ⟨rfl, rfl⟩) | (go_at_call 229; (with_reducible refine (cZ _).mono ?_); rintro e w' ⟨rfl, rfl⟩) | (go_at_call 230; (with_reducible refine (bool2u_any _ _).mono ?_); rintro e w' ⟨rfl, rfl⟩))
      go_quiet ((go_at_call 230; exact Calls.quiet_of_same ((bool2u_any _ _).mono fun e w' ⟨h1, h2⟩ => ⟨h1, h2.symm⟩)))
      go_wp2
      go_ret
      exact ⟨rfl, _, rfl⟩
  · have ht : ((z : Int) != (hi : Int)) = true := by simp; omega
    rw [if_neg hzz]
    go_enter Tryz.func216, Tryz.ntmps216
    go_wp2_with (first | (go_at_call 229; (with_reducible refine (cM _).mono ?_); rintro e w' ⟨rfl, rfl⟩) | (go_at_call 229; (with_reducible refine (cZ _).mono ?_); rintro e w' ⟨rfl, rfl⟩) | (go_at_call 230; (with_reducible refine (bool2u_any _ _).mono ?_); rintro e w' ⟨rfl, rfl⟩))
    go_ret
    exact ⟨rfl, 0, rfl⟩


theorem uscale_any (x p S F b : Nat) (hx : x < 18446744073709551616) (hx2 : x % 2 = 0) (hp : p ≤ 19) (hS : S < 64) (hF : S + Sam.lp p + 1 = F) (w : World)
    (c0 : w.cell? ⟨b, 0, none⟩ = some (.int .u64 (Sam.hT p : Nat))) (c1 : w.cell? ⟨b, 0 + 1, none⟩ = some (.int .u64 0)) (c2 : w.cell? ⟨b, 0 + 2, none⟩ = some (.int .i64 (S : Int))) :
    Calls Tryz.prog 216 #[.int .u64 (x : Int), .pointer (some ⟨b, 0, none⟩)] w fun e w' => e = .returned (.int .u64 (Sam.uU x p F : Nat)) ∧ ∃ n, w' = w.drewN n := by
  obtain ⟨hH, hl, _⟩ := Sam.hT_tab ⟨p, by omega⟩
  dsimp only at hH hl
  obtain ⟨hi, e1⟩ : ∃ hi, hi = x * Sam.hT p / 18446744073709551616 := ⟨_, rfl⟩
  obtain ⟨mid, e2⟩ : ∃ mid, mid = x * Sam.hT p % 18446744073709551616 := ⟨_, rfl⟩
  have hhi : hi < 18446744073709551616 := by
    rw [e1]; exact Nat.div_lt_of_lt_mul (Nat.mul_lt_mul'' hx hH)
  have hmid : mid < 18446744073709551616 := by rw [e2]; exact Nat.mod_lt _ (by decide)
  have hq : hi / 2 ^ S < 18446744073709551616 := Nat.lt_of_le_of_lt (Nat.div_le_self _ _) hhi
  have hqq : hi / 2 ^ S * 2 ^ S ≤ hi := Nat.div_mul_le_self _ _
  have e := Sam.uH_eq x p F S hi mid hx2 hl hF e1 e2
  unfold Sam.uH at e
  rw [← e]
  have hmin : min S 64 = S := by omega
  refine uscale_walk x (Sam.hT p) hi mid S b (hi / 2 ^ S) (hi / 2 ^ S * 2 ^ S) w (fun w => mul64_any x _ hi mid hx hH e1 e2 w) (fun w => mul64_any x 0 0 0 hx (by decide) (by simp) (by simp) w) (and_63 S hS) ?_ ?_ ?_ ?_ (by omega) (by omega) c0 c1 c2
  · rw [hmin]; norm_cast
  · rw [hmin, IntKind.wrap_u64]
    have : ((hi / 2 ^ S : Nat) : Int) * 2 ^ S = ((hi / 2 ^ S * 2 ^ S : Nat) : Int) := by norm_cast
    rw [this]
    generalize hi / 2 ^ S * 2 ^ S = z at hqq
    omega
  · exact bits_or_u64_nat _ 1 hq (by decide)
  · exact bits_or_u64_nat _ 0 hq (by decide)

end Go.Proofs.YtdeejmkjhmpabaaGreatDoor

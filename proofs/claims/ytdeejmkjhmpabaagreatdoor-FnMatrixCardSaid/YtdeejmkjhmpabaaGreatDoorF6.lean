import Derived.Test.YtdeejmkjhmpabaaGreatDoorF5
import Derived.Deep.RegionWith
namespace Go.Proofs.YtdeejmkjhmpabaaGreatDoor
open Go.RowKit Go.Lib

theorem c199 (bv : Nat) (w : World) : (callFunc 199 #[.float .f64 bv]).run Tryz.prog w = .ok (.value (.int .u64 (bv : Int))) w := by kernel_rfl
theorem c22 (bv : Nat) (w : World) : (callFunc 22 #[.float .f64 bv]).run Tryz.prog w = .ok (.value (.int .u64 (bv : Int))) w := by kernel_rfl
theorem c32 (bv : Nat) (w : World) : (callFunc 32 #[.int .u64 (bv : Int)]).run Tryz.prog w = .ok (.value (.float .f64 bv)) w := by kernel_rfl

/-- Thirty-two noughts. -/
def nought32 : Obj := .cells #[.int .u8 0, .int .u8 0, .int .u8 0, .int .u8 0, .int .u8 0, .int .u8 0, .int .u8 0, .int .u8 0, .int .u8 0, .int .u8 0, .int .u8 0, .int .u8 0, .int .u8 0, .int .u8 0, .int .u8 0, .int .u8 0, .int .u8 0, .int .u8 0, .int .u8 0, .int .u8 0, .int .u8 0, .int .u8 0, .int .u8 0, .int .u8 0, .int .u8 0, .int .u8 0, .int .u8 0, .int .u8 0, .int .u8 0, .int .u8 0, .int .u8 0, .int .u8 0] 244

theorem nought32_eq : nought32 = .cells (Array.replicate 32 (.int .u8 0)) 244 := rfl

theorem nought_cell (w : World) (t : Nat) (ht : t < 32) : (w.alloc nought32).cell? ⟨w.heap.size, t, none⟩ = some (.int .u8 0) ∧ (w.alloc nought32).frozen? ⟨w.heap.size, t, none⟩ = false := by
  rw [nought32_eq]
  constructor
  · simp [ht]
  · simp

theorem ownsRow_of_block {w w' : World} {g n cap : Nat} {xs : List Value} (h : w.ownsRow g 5 1 (.slice (some ⟨g, 0, none⟩) n cap) n xs) (hb : w'.heap[g]? = w.heap[g]?) : w'.ownsRow g 5 1 (.slice (some ⟨g, 0, none⟩) n cap) n xs := by
  obtain ⟨h1, h2⟩ := h
  refine ⟨h1, ?_⟩
  rcases h2 with h2 | ⟨g', c', cur, hv, r1, r2, r3⟩
  · exact Or.inl h2
  · cases hv
    exact Or.inr ⟨g, cap, cur, rfl, r1, by rw [hb]; exact r2, r3⟩

/-- What shortFloat answers for A thousandths. -/
def ShortP (A : Nat) (w : World) (e : Ending) (w' : World) : Prop :=
  (∃ d P : Nat, e = .returned (.tuple #[.int .u64 (d : Int), .int .i64 (-(P : Int))]) ∧ d * 1000 = A * 10 ^ P ∧ 2 ≤ P ∧ P ≤ 19 ∧ d < 1000000000000000000) ∧ Below w.heap.size w w'

/-- The digits in the buffer b, and what they make: A in thousandths. -/
def DigsP (A b : Nat) (dp : Int) (k : Nat) (w0 w' : World) : Prop :=
  1 ≤ k ∧ (∃ D, fText D k dp = bytesV (num3 A) ∧ ∀ t, t < k → w'.cell? ⟨b, t, none⟩ = some (.int .u8 (D t))) ∧ Below b w0 w' ∧ w'.heap.size = w0.heap.size

theorem digs_of (A d P b : Nat) (hA1 : 1 ≤ A) (hA : d * 1000 = A * 10 ^ P) (hd2 : d < 1000000000000000000) (hP : P ≤ 19) (w : World) (hH : ∀ t, t < 32 → w.cell? ⟨b, t, none⟩ = some (.int .u8 0) ∧ w.frozen? ⟨b, t, none⟩ = false) :
    Calls Tryz.prog 204 #[.slice (some ⟨b, 0, none⟩) 32 32, .int .u64 (d : Int), .int .i64 (-(P : Int)), .int .i64 (nDigits d : Int)] w fun e w' =>
      ∃ (dp : Int) (k : Nat), e = .returned (.tuple #[.int .i64 dp, .int .i64 (k : Int)]) ∧ DigsP A b dp k w w' ∧ -30 ≤ dp ∧ dp ≤ 30 ∧ k ≤ 30 := by
  have hd : 1 ≤ d := by
    have : 0 < A * 10 ^ P := Nat.mul_pos hA1 (Nat.pow_pos (by decide))
    omega
  have hn18 := nDigits_le 18 d (by decide) hd2
  refine (setDigits_any d P b hd hd2 (by omega) w hH).mono ?_
  rintro e w' ⟨⟨d', z, k, he, h1, h2, h3, h4, h5⟩, hB, hS⟩
  refine ⟨(nDigits d : Int) - P, k, he, ⟨by rw [h4]; exact nDigits_pos d', ⟨DD d', ?_, fun t ht => ?_⟩, hB, hS⟩, by omega, by omega, by omega⟩
  · rw [h4]; exact fText_num3 A d d' z P h1 h2 hA
  · have := h5 t (k - 1 - t) (by omega)
    rw [this, h4]
    rfl

set_option maxRecDepth 100000 in
set_option maxHeartbeats 4000000 in
theorem ftoa_walk (A g bv E fr M m : Nat) (e2 : Int) (neg : Bool) (w : World) (hA : 1 ≤ A) (hlen : (num3 A).length ≤ 20) (hT : Tabs w) (hg : g < w.heap.size) (hO : w.ownsRow g 5 1 (.slice (some ⟨g, 0, none⟩) 0 24) 0 [])
    (bb : bv ≤ 18446744073709551615) (hn : ((bv : Int) / 9223372036854775808 != 0) = neg) (hE : bits .and .i64 ((bv : Int) / 4503599627370496) 2047 = (E : Int)) (bE : 1000 ≤ E) (bE2 : E ≤ 1100)
    (hfr : bits .and .u64 (bv : Int) 4503599627370495 = (fr : Int)) (hor : bits .or .u64 (fr : Int) 4503599627370496 = (M : Int)) (bM : 1 ≤ M) (bM2 : M ≤ 9007199254740991)
    (hm : (M : Int) * 2048 = (m : Int)) (he2 : (E : Int) + -1023 - 11 - 52 = e2)
    (cL : ∀ w, Calls Tryz.prog 108 #[.int .u64 (M : Int)] w fun e w' => e = .returned (.int .i64 53) ∧ w = w')
    (cS : ∀ W, Below w.heap.size w W → Calls Tryz.prog 209 #[.int .u64 (m : Int), .int .i64 e2] W (ShortP A W)) :
    Calls Tryz.prog 192 #[.slice (some ⟨g, 0, none⟩) 0 24, .float .f64 bv, .int .u8 102, .int .i64 (-1)] w fun e w' => e = .returned (.slice (some ⟨g, 0, none⟩) (sgn neg ++ bytesV (num3 A)).length 24) ∧ w'.ownsRow g 5 1 (.slice (some ⟨g, 0, none⟩) (sgn neg ++ bytesV (num3 A)).length 24) (sgn neg ++ bytesV (num3 A)).length (sgn neg ++ bytesV (num3 A)) ∧ Below g w w' := by
  have hM0 : ((M : Int) == 0) = false := by simp; omega
  have k199 := c199 bv
  obtain ⟨L, hL⟩ : ∃ L, L = (sgn neg ++ bytesV (num3 A)).length := ⟨_, rfl⟩
  rw [← hL]
  have HL := Lib.hid hL
  clear hL
  go_enter Tryz.func192, Tryz.ntmps192
  go_wp2_with fail
  go_quiet (fail)
  have hb0 : Below w.heap.size w ((w.drewN nq).alloc nought32) := (below_drewN (Below.refl _ _) nq).alloc (Nat.le_refl _) _
  have hz0 : ∀ t, t < 32 → ((w.drewN nq).alloc nought32).cell? ⟨w.heap.size, t, none⟩ = some (.int .u8 0) ∧ ((w.drewN nq).alloc nought32).frozen? ⟨w.heap.size, t, none⟩ = false := fun t ht => nought_cell (w.drewN nq) t ht
  have hs0 : ((w.drewN nq).alloc nought32).heap.size = w.heap.size + 1 := by simp
  have HB := Lib.hid hb0
  have HZ := Lib.hid hz0
  have HS := Lib.hid hs0
  clear hb0 hz0 hs0
  unfold nought32 at HB HZ HS
  go_wp2_with (first
    | (go_at_call 108; (with_reducible refine (cL _).mono ?_); rintro e w' ⟨rfl, rfl⟩)
    | (go_at_call 209; (with_reducible refine (cS _ HB.out).mono ?_); rintro e w1 ⟨⟨d, P, rfl, hdA, hP1, hP2, hd18⟩, hb1⟩))
  have ht1 : TabsAt w1 := (hT.below (HB.out.trans (hb1.mono (by have := HS.out; omega)))).at
  have hw1 : Below w.heap.size w w1 := HB.out.trans (hb1.mono (by have := HS.out; omega))
  have hd1 : 1 ≤ d := by
    have : 0 < A * 10 ^ P := Nat.mul_pos hA (Nat.pow_pos (by decide))
    omega
  have cN1 : Calls Tryz.prog 114 #[.int .u64 (d : Int)] (w1.drew) fun e w' => e = .returned (.int .i64 (nDigits d : Int)) ∧ w' = w1.drew :=
    Tryz.internal_strconv_numDigits d hd1 (by omega) w1.drew (hT.below hw1.drew).at.pow
  have cD1 := digs_of A d P w.heap.size hA hdA hd18 hP2 w1.drew (fun t ht => by
    have h1 := HZ.out t ht
    have h2 := HS.out
    exact ⟨(hb1.cell (p := ⟨w.heap.size, t, none⟩) (by rw [h2]; exact Nat.lt_succ_self _)).trans h1.1, (hb1.frozen (p := ⟨w.heap.size, t, none⟩) (by rw [h2]; exact Nat.lt_succ_self _)).trans h1.2⟩)
  have hsz : w.heap.size + 1 ≤ w1.heap.size := by have := hb1.size; have := HS.out; omega
  have HDA := Lib.hid hdA
  clear HB HZ HS hb1 cS hdA
  go_region_with (first
    | (go_at_call 114; (with_reducible refine cN1.mono ?_); rintro e w' ⟨rfl, rfl⟩)
    | (go_at_call 204; (with_reducible refine cD1.mono ?_); rintro e w2 ⟨dp, k, rfl, ⟨hk1, ⟨D, hD1, hD2⟩, hdb, hds⟩, hdp1, hdp2, hk30⟩))
  have hds' : w2.heap.size = w1.heap.size := hds
  have hw2 : Below w.heap.size w w2 := hw1.drew.trans hdb
  have hO2 : OB g w.heap.size w2 0 [] w2 := ⟨ownsRow_of_block hO (hw2.block g hg), Below.refl _ _, fun _ => rfl, by omega, by omega⟩
  have hF := fmt_any g w.heap.size k dp neg D w2 hO2 (by omega) hk1 (by rw [hD1]; simpa [bytesV] using hlen) hD2 (max ((k : Int) - dp) 0) rfl
  rw [hD1, ← HL.out] at hF
  clear hO2 hD1 hD2 hds
  go_wp2_with (go_at_call 202; (with_reducible refine hF.mono ?_); rintro e w3 ⟨rfl, hO3⟩)
  go_ret
  exact ⟨rfl, hO3.own, (hw2.mono (Nat.le_of_lt hg)).trans hO3.low⟩

end Go.Proofs.YtdeejmkjhmpabaaGreatDoor

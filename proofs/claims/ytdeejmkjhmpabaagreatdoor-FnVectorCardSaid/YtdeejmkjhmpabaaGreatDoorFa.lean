/-
  
  
  
-/
import Derived.Test.YtdeejmkjhmpabaaGreatDoorPb
import Derived.Deep.RegionWith
namespace Go.Proofs.YtdeejmkjhmpabaaGreatDoor
open Go.RowKit Go.Lib

def sgn (neg : Bool) : List Value := if neg then [.int .u8 45] else []

/-- fmtEFG at 'f' in the shortest form. -/
theorem fmt_any (g b nd : Nat) (dp : Int) (neg : Bool) (D : Nat → Int) (w : World) (hO : OB g b w 0 [] w) (hgb : g ≠ b) (h1 : 1 ≤ nd) (hlen : (fText D nd dp).length ≤ 20) (hD : ∀ t, t < nd → w.cell? ⟨b, t, none⟩ = some (.int .u8 (D t))) (pr : Int) (hpr : pr = max ((nd : Int) - dp) 0) :
    Calls Tryz.prog 202 #[.slice (some ⟨g, 0, none⟩) 0 24, .bool neg, .slice (some ⟨b, 0, none⟩) 32 32, .int .i64 dp, .int .i64 (nd : Int), .int .i64 pr, .int .u8 102, .bool true] w fun e w' =>
      e = .returned (.slice (some ⟨g, 0, none⟩) (sgn neg ++ fText D nd dp).length 24) ∧ OB g b w (sgn neg ++ fText D nd dp).length (sgn neg ++ fText D nd dp) w' := by
  have hl := hlen
  unfold fText at hl ⊢
  by_cases c1 : (nd : Int) ≤ dp
  · rw [if_pos c1] at hl ⊢
    obtain ⟨z, rfl⟩ : ∃ z : Nat, dp = ((nd + z : Nat) : Int) := ⟨(dp - nd).toNat, by omega⟩
    have e : (((nd + z : Nat) : Int)).toNat - nd = z := by omega
    rw [e] at hl ⊢
    have hp0 : pr = 0 := by omega
    subst hp0
    have hdl : (digs D 0 nd).length = nd := by simp [digs]
    simp only [List.length_append, hdl, List.length_replicate] at hl
    cases neg with
    | false =>
      refine (fmt_one g b (nd + z) nd z 0 0 0 0 [] D w hO hgb h1 rfl (by omega) hD).mono fun e w' ⟨he, h⟩ => ?_
      have el : (sgn false ++ (digs D 0 nd ++ List.replicate z (Value.int .u8 48))).length = 0 + nd + z := by simp [sgn, hdl]
      rw [el]
      exact ⟨he, by simpa [sgn] using h⟩
    | true =>
      refine (fmt_onen g b (nd + z) nd z 0 0 0 0 [] D w hO hgb h1 rfl (by omega) hD).mono fun e w' ⟨he, h⟩ => ?_
      have el : (sgn true ++ (digs D 0 nd ++ List.replicate z (Value.int .u8 48))).length = 0 + 1 + nd + z := by simp [sgn, hdl]; omega
      rw [el]
      exact ⟨he, by simpa [sgn] using h⟩
  · rw [if_neg c1] at hl ⊢
    by_cases c2 : 0 < dp
    · rw [if_pos c2] at hl ⊢
      obtain ⟨q, rfl⟩ : ∃ q : Nat, dp = (q : Int) := ⟨dp.toNat, by omega⟩
      obtain ⟨fr, hfr⟩ : ∃ fr : Nat, q + fr = nd := ⟨nd - q, by omega⟩
      have e : (q : Int).toNat = q := by omega
      have e2 : nd - q = fr := by omega
      rw [e, e2] at hl ⊢
      have hp0 : pr = (fr : Int) := by omega
      subst hp0
      have hdl : (digs D 0 q).length = q := by simp [digs]
      have hdl2 : (digs D q fr).length = fr := by simp [digs]
      simp only [List.length_append, hdl, hdl2, List.length_cons, List.length_nil] at hl
      cases neg with
      | false =>
        refine (fmt_two g b q nd 0 fr 0 0 0 [] D w hO hgb (by omega) hfr (by omega) (by omega) hD).mono fun e w' ⟨he, h⟩ => ?_
        have el : (sgn false ++ (digs D 0 q ++ [Value.int .u8 46] ++ digs D q fr)).length = 0 + q + 1 + fr := by simp [sgn, hdl, hdl2]; omega
        rw [el]
        exact ⟨he, by simpa [sgn] using h⟩
      | true =>
        refine (fmt_twon g b q nd 0 fr 0 0 0 [] D w hO hgb (by omega) hfr (by omega) (by omega) hD).mono fun e w' ⟨he, h⟩ => ?_
        have el : (sgn true ++ (digs D 0 q ++ [Value.int .u8 46] ++ digs D q fr)).length = 0 + 1 + q + 1 + fr := by simp [sgn, hdl, hdl2]; omega
        rw [el]
        exact ⟨he, by simpa [sgn] using h⟩
    · rw [if_neg c2] at hl ⊢
      obtain ⟨q, rfl⟩ : ∃ q : Nat, dp = -(q : Int) := ⟨(-dp).toNat, by omega⟩
      have e : (-(-(q : Int))).toNat = q := by omega
      rw [e] at hl ⊢
      have hp0 : pr = ((nd + q : Nat) : Int) := by omega
      subst hp0
      have hdl : (digs D 0 nd).length = nd := by simp [digs]
      simp only [List.length_append, hdl, List.length_replicate, List.length_cons, List.length_nil] at hl
      cases neg with
      | false =>
        refine (fmt_three g b 0 nd 0 0 (nd + q) q 0 [] D w hO hgb (by omega) rfl (by omega) hD).mono fun e w' ⟨he, h⟩ => ?_
        have el : (sgn false ++ ([Value.int .u8 48] ++ [Value.int .u8 46] ++ List.replicate q (Value.int .u8 48) ++ digs D 0 nd)).length = 0 + 1 + 1 + q + nd := by simp [sgn, hdl]; omega
        rw [el]
        exact ⟨he, by simpa [sgn] using h⟩
      | true =>
        refine (fmt_threen g b 0 nd 0 0 (nd + q) q 0 [] D w hO hgb (by omega) rfl (by omega) hD).mono fun e w' ⟨he, h⟩ => ?_
        have el : (sgn true ++ ([Value.int .u8 48] ++ [Value.int .u8 46] ++ List.replicate q (Value.int .u8 48) ++ digs D 0 nd)).length = 0 + 1 + 1 + 1 + q + nd := by simp [sgn, hdl]; omega
        rw [el]
        exact ⟨he, by simpa [sgn] using h⟩

end Go.Proofs.YtdeejmkjhmpabaaGreatDoor
namespace Go.Proofs.YtdeejmkjhmpabaaGreatDoor
open Go.RowKit Go.Lib

theorem c199 (bv : Nat) (w : World) : (callFunc 199 #[.float .f64 bv]).run Tryz.prog w = .ok (.value (.int .u64 (bv : Int))) w := by kernel_rfl
theorem c22 (bv : Nat) (w : World) : (callFunc 22 #[.float .f64 bv]).run Tryz.prog w = .ok (.value (.int .u64 (bv : Int))) w := by kernel_rfl
theorem c32 (bv : Nat) (w : World) : (callFunc 32 #[.int .u64 (bv : Int)]).run Tryz.prog w = .ok (.value (.float .f64 bv)) w := by kernel_rfl

/-- Thirty-two noughts. -/
def nought32 : Obj := .cells #[.int .u8 0, .int .u8 0, .int .u8 0, .int .u8 0, .int .u8 0, .int .u8 0, .int .u8 0, .int .u8 0, .int .u8 0, .int .u8 0, .int .u8 0, .int .u8 0, .int .u8 0, .int .u8 0, .int .u8 0, .int .u8 0, .int .u8 0, .int .u8 0, .int .u8 0, .int .u8 0, .int .u8 0, .int .u8 0, .int .u8 0, .int .u8 0, .int .u8 0, .int .u8 0, .int .u8 0, .int .u8 0, .int .u8 0, .int .u8 0, .int .u8 0, .int .u8 0] 244

theorem nought32_eq : nought32 = .cells (Array.replicate 32 (.int .u8 0)) 244 := rfl

theorem nought_cell (w : World) (t : Nat) (ht : t < 32) : (w.alloc nought32).cell? ⟨w.heap.size, t, none⟩ = some (.int .u8 0) ∧ (w.alloc nought32).frozen? ⟨w.heap.size, t, none⟩ = false := by
  rw [nought32_eq]
  constructor
  · simp [ht]
  · simp

theorem ownsRow_of_block {w w' : World} {g n cap : Nat} {xs : List Value} (h : w.ownsRow g 5 1 (.slice (some ⟨g, 0, none⟩) n cap) n xs) (hb : w'.heap[g]? = w.heap[g]?) : w'.ownsRow g 5 1 (.slice (some ⟨g, 0, none⟩) n cap) n xs := by
  obtain ⟨h1, h2⟩ := h
  refine ⟨h1, ?_⟩
  rcases h2 with h2 | ⟨g', c', cur, hv, r1, r2, r3⟩
  · exact Or.inl h2
  · cases hv
    exact Or.inr ⟨g, cap, cur, rfl, r1, by rw [hb]; exact r2, r3⟩

/-- What shortFloat answers for A thousandths. -/
def ShortP (A : Nat) (w : World) (e : Ending) (w' : World) : Prop :=
  (∃ d P : Nat, e = .returned (.tuple #[.int .u64 (d : Int), .int .i64 (-(P : Int))]) ∧ d * 1000 = A * 10 ^ P ∧ 2 ≤ P ∧ P ≤ 19 ∧ d < 1000000000000000000) ∧ Below w.heap.size w w'

/-- The digits in the buffer b, and what they make: A in thousandths. -/
def DigsP (A b : Nat) (dp : Int) (k : Nat) (w0 w' : World) : Prop :=
  1 ≤ k ∧ (∃ D, fText D k dp = bytesV (num3 A) ∧ ∀ t, t < k → w'.cell? ⟨b, t, none⟩ = some (.int .u8 (D t))) ∧ Below b w0 w' ∧ w'.heap.size = w0.heap.size

theorem digs_of (A d P b : Nat) (hA1 : 1 ≤ A) (hA : d * 1000 = A * 10 ^ P) (hd2 : d < 1000000000000000000) (hP : P ≤ 19) (w : World) (hH : ∀ t, t < 32 → w.cell? ⟨b, t, none⟩ = some (.int .u8 0) ∧ w.frozen? ⟨b, t, none⟩ = false) :
    Calls Tryz.prog 204 #[.slice (some ⟨b, 0, none⟩) 32 32, .int .u64 (d : Int), .int .i64 (-(P : Int)), .int .i64 (nDigits d : Int)] w fun e w' =>
      ∃ (dp : Int) (k : Nat), e = .returned (.tuple #[.int .i64 dp, .int .i64 (k : Int)]) ∧ DigsP A b dp k w w' ∧ -30 ≤ dp ∧ dp ≤ 30 ∧ k ≤ 30 := by
  have hd : 1 ≤ d := by
    have : 0 < A * 10 ^ P := Nat.mul_pos hA1 (Nat.pow_pos (by decide))
    omega
  have hn18 := nDigits_le 18 d (by decide) hd2
  refine (setDigits_any d P b hd hd2 (by omega) w hH).mono ?_
  rintro e w' ⟨⟨d', z, k, he, h1, h2, h3, h4, h5⟩, hB, hS⟩
  refine ⟨(nDigits d : Int) - P, k, he, ⟨by rw [h4]; exact nDigits_pos d', ⟨DD d', ?_, fun t ht => ?_⟩, hB, hS⟩, by omega, by omega, by omega⟩
  · rw [h4]; exact fText_num3 A d d' z P h1 h2 hA
  · have := h5 t (k - 1 - t) (by omega)
    rw [this, h4]
    rfl

set_option maxRecDepth 100000 in
set_option maxHeartbeats 4000000 in
theorem ftoa_walk (A g bv E fr M m : Nat) (e2 : Int) (neg : Bool) (w : World) (hA : 1 ≤ A) (hlen : (num3 A).length ≤ 20) (hT : Tabs w) (hg : g < w.heap.size) (hO : w.ownsRow g 5 1 (.slice (some ⟨g, 0, none⟩) 0 24) 0 [])
    (bb : bv ≤ 18446744073709551615) (hn : ((bv : Int) / 9223372036854775808 != 0) = neg) (hE : bits .and .i64 ((bv : Int) / 4503599627370496) 2047 = (E : Int)) (bE : 1000 ≤ E) (bE2 : E ≤ 1100)
    (hfr : bits .and .u64 (bv : Int) 4503599627370495 = (fr : Int)) (hor : bits .or .u64 (fr : Int) 4503599627370496 = (M : Int)) (bM : 1 ≤ M) (bM2 : M ≤ 9007199254740991)
    (hm : (M : Int) * 2048 = (m : Int)) (he2 : (E : Int) + -1023 - 11 - 52 = e2)
    (cL : ∀ w, Calls Tryz.prog 108 #[.int .u64 (M : Int)] w fun e w' => e = .returned (.int .i64 53) ∧ w = w')
    (cS : ∀ W, Below w.heap.size w W → Calls Tryz.prog 209 #[.int .u64 (m : Int), .int .i64 e2] W (ShortP A W)) :
    Calls Tryz.prog 192 #[.slice (some ⟨g, 0, none⟩) 0 24, .float .f64 bv, .int .u8 102, .int .i64 (-1)] w fun e w' => e = .returned (.slice (some ⟨g, 0, none⟩) (sgn neg ++ bytesV (num3 A)).length 24) ∧ w'.ownsRow g 5 1 (.slice (some ⟨g, 0, none⟩) (sgn neg ++ bytesV (num3 A)).length 24) (sgn neg ++ bytesV (num3 A)).length (sgn neg ++ bytesV (num3 A)) ∧ Below g w w' := by
  have hM0 : ((M : Int) == 0) = false := by simp; omega
  have k199 := c199 bv
  obtain ⟨L, hL⟩ : ∃ L, L = (sgn neg ++ bytesV (num3 A)).length := ⟨_, rfl⟩
  rw [← hL]
  have HL := Lib.hid hL
  clear hL
  go_enter Tryz.func192, Tryz.ntmps192
  go_wp2_with fail
  go_quiet (fail)
  have hb0 : Below w.heap.size w ((w.drewN nq).alloc nought32) := (below_drewN (Below.refl _ _) nq).alloc (Nat.le_refl _) _
  have hz0 : ∀ t, t < 32 → ((w.drewN nq).alloc nought32).cell? ⟨w.heap.size, t, none⟩ = some (.int .u8 0) ∧ ((w.drewN nq).alloc nought32).frozen? ⟨w.heap.size, t, none⟩ = false := fun t ht => nought_cell (w.drewN nq) t ht
  have hs0 : ((w.drewN nq).alloc nought32).heap.size = w.heap.size + 1 := by simp
  have HB := Lib.hid hb0
  have HZ := Lib.hid hz0
  have HS := Lib.hid hs0
  clear hb0 hz0 hs0
  unfold nought32 at HB HZ HS
  go_wp2_with (first
    | (go_at_call 108; (with_reducible refine (cL _).mono ?_); rintro e w' ⟨rfl, rfl⟩)
    | (go_at_call 209; (with_reducible refine (cS _ HB.out).mono ?_); rintro e w1 ⟨⟨d, P, rfl, hdA, hP1, hP2, hd18⟩, hb1⟩))
  have ht1 : TabsAt w1 := (hT.below (HB.out.trans (hb1.mono (by have := HS.out; omega)))).at
  have hw1 : Below w.heap.size w w1 := HB.out.trans (hb1.mono (by have := HS.out; omega))
  have hd1 : 1 ≤ d := by
    have : 0 < A * 10 ^ P := Nat.mul_pos hA (Nat.pow_pos (by decide))
    omega
  have cN1 : Calls Tryz.prog 114 #[.int .u64 (d : Int)] (w1.drew) fun e w' => e = .returned (.int .i64 (nDigits d : Int)) ∧ w' = w1.drew :=
    Tryz.internal_strconv_numDigits d hd1 (by omega) w1.drew (hT.below hw1.drew).at.pow
  have cD1 := digs_of A d P w.heap.size hA hdA hd18 hP2 w1.drew (fun t ht => by
    have h1 := HZ.out t ht
    have h2 := HS.out
    exact ⟨(hb1.cell (p := ⟨w.heap.size, t, none⟩) (by rw [h2]; exact Nat.lt_succ_self _)).trans h1.1, (hb1.frozen (p := ⟨w.heap.size, t, none⟩) (by rw [h2]; exact Nat.lt_succ_self _)).trans h1.2⟩)
  have hsz : w.heap.size + 1 ≤ w1.heap.size := by have := hb1.size; have := HS.out; omega
  have HDA := Lib.hid hdA
  clear HB HZ HS hb1 cS hdA
  go_region_with (first
    | (go_at_call 114; (with_reducible refine cN1.mono ?_); rintro e w' ⟨rfl, rfl⟩)
    | (go_at_call 204; (with_reducible refine cD1.mono ?_); rintro e w2 ⟨dp, k, rfl, ⟨hk1, ⟨D, hD1, hD2⟩, hdb, hds⟩, hdp1, hdp2, hk30⟩))
  have hds' : w2.heap.size = w1.heap.size := hds
  have hw2 : Below w.heap.size w w2 := hw1.drew.trans hdb
  have hO2 : OB g w.heap.size w2 0 [] w2 := ⟨ownsRow_of_block hO (hw2.block g hg), Below.refl _ _, fun _ => rfl, by omega, by omega⟩
  have hF := fmt_any g w.heap.size k dp neg D w2 hO2 (by omega) hk1 (by rw [hD1]; simpa [bytesV] using hlen) hD2 (max ((k : Int) - dp) 0) rfl
  rw [hD1, ← HL.out] at hF
  clear hO2 hD1 hD2 hds
  go_wp2_with (go_at_call 202; (with_reducible refine hF.mono ?_); rintro e w3 ⟨rfl, hO3⟩)
  go_ret
  exact ⟨rfl, hO3.own, (hw2.mono (Nat.le_of_lt hg)).trans hO3.low⟩

end Go.Proofs.YtdeejmkjhmpabaaGreatDoor
namespace Go.Proofs.YtdeejmkjhmpabaaGreatDoor
open Go.RowKit Go.Lib

def sgnB (neg : Bool) : List UInt8 := if neg then [45] else []
theorem sgn_bytes (neg : Bool) (l : List UInt8) : sgn neg ++ bytesV l = bytesV (sgnB neg ++ l) := by cases neg <;> rfl

/-- The float bv is A thousandths, negated if neg: it prints so. -/
def IsT (bv : Nat) (neg : Bool) (A : Nat) : Prop :=
  (num3 A).length ≤ 20 ∧ ((A = 0 ∧ bv = 0 ∧ neg = false) ∨ (1 ≤ A ∧ ∃ M f : Nat, bv = Sam.wordOf neg M (-(f : Int)) ∧ Sam.Fl A M f))

theorem bits53 (M : Nat) (h1 : 4503599627370496 ≤ M) (h2 : M ≤ 9007199254740991) : Lib.bitLen M = 53 := by
  obtain ⟨a, b, c⟩ := bitLenAux_bounds 64 M (by omega) (by omega)
  unfold Lib.bitLen
  generalize bitLenAux 64 M = L at a b c
  rcases Nat.lt_or_ge L 53 with h | h
  · have : 2 ^ L ≤ 2 ^ 52 := Nat.pow_le_pow_right (by decide) (by omega)
    omega
  · rcases Nat.lt_or_ge 53 L with h3 | h3
    · have : 2 ^ 53 ≤ 2 ^ (L - 1) := Nat.pow_le_pow_right (by decide) (by omega)
      omega
    · omega

set_option maxRecDepth 100000 in
set_option maxHeartbeats 1000000 in
theorem ftoa_zero (g : Nat) (w : World) (hT : Tabs w) (hg : g < w.heap.size) (hO : w.ownsRow g 5 1 (.slice (some ⟨g, 0, none⟩) 0 24) 0 []) :
    Calls Tryz.prog 192 #[.slice (some ⟨g, 0, none⟩) 0 24, .float .f64 0, .int .u8 102, .int .i64 (-1)] w fun e w' => e = .returned (.slice (some ⟨g, 0, none⟩) 1 24) ∧ w'.ownsRow g 5 1 (.slice (some ⟨g, 0, none⟩) 1 24) 1 [.int .u8 48] ∧ Below g w w' := by
  have k199 := c199 0
  obtain ⟨b, hb, hgb⟩ : ∃ b, b < w.heap.size ∧ g ≠ b := by
    have := hT.at.size
    by_cases h0 : g = 0
    · exact ⟨1, by omega, by omega⟩
    · exact ⟨0, by omega, h0⟩
  go_enter Tryz.func192, Tryz.ntmps192
  go_wp2_with fail
  go_quiet (fail)
  go_wp2_with fail
  have hF := fmt_nought g b 0 [] (w.drewN nq) ⟨ownsRow_of_block hO rfl, Below.refl _ _, fun _ => rfl, hb, hg⟩ hgb (by omega)
  go_wp2_with (go_at_call 202; (with_reducible refine hF.mono ?_); rintro e w3 ⟨rfl, hO3⟩)
  go_ret
  exact ⟨rfl, hO3.own, (below_drewN (Below.refl _ _) nq).trans hO3.low⟩

theorem ftoa_any (bv A g : Nat) (neg : Bool) (hB : IsT bv neg A) (w : World) (hT : Tabs w) (hg : g < w.heap.size) (hO : w.ownsRow g 5 1 (.slice (some ⟨g, 0, none⟩) 0 24) 0 []) :
    Calls Tryz.prog 192 #[.slice (some ⟨g, 0, none⟩) 0 24, .float .f64 bv, .int .u8 102, .int .i64 (-1)] w fun e w' => e = .returned (.slice (some ⟨g, 0, none⟩) (sgnB neg ++ num3 A).length 24) ∧ w'.ownsRow g 5 1 (.slice (some ⟨g, 0, none⟩) (sgnB neg ++ num3 A).length 24) (sgnB neg ++ num3 A).length (bytesV (sgnB neg ++ num3 A)) ∧ Below g w w' := by
  obtain ⟨hlen, ⟨rfl, rfl, rfl⟩ | ⟨hA, M, f, hbv, hFl⟩⟩ := hB
  · have e : sgnB false ++ num3 0 = [48] := by decide +kernel
    rw [e]
    exact ftoa_zero g w hT hg hO
  · have m1 : 4503599627370496 ≤ M := hFl.m1
    have m2 : M ≤ 9007199254740991 := Nat.le_of_lt_succ hFl.m2
    have f1 := hFl.f1; have f2 := hFl.f2
    have hbv2 : bv = (if neg then 9223372036854775808 else 0) + ((1074 - f) * 4503599627370496 + M) := by
      rw [hbv]; unfold Sam.wordOf
      have : (-(f : Int) + 1074).toNat = 1074 - f := by omega
      rw [this]
    have hn : ((bv : Int) / 9223372036854775808 != 0) = neg := by
      cases neg <;> simp at hbv2 ⊢ <;> omega
    have b1 : bv / 4503599627370496 % 2048 = 1075 - f := by cases neg <;> simp at hbv2 <;> omega
    have b2 : bv % 4503599627370496 = M - 4503599627370496 := by cases neg <;> simp at hbv2 <;> omega
    have b3 : bv ≤ 18446744073709551615 := by cases neg <;> simp at hbv2 <;> omega
    have hE : bits .and .i64 ((bv : Int) / 4503599627370496) 2047 = ((1075 - f : Nat) : Int) := by
      have h := bits_and_i64_nat (bv / 4503599627370496) 2047 (by omega) (by decide)
      have e := Nat.and_two_pow_sub_one_eq_mod (bv / 4503599627370496) 11
      simp only [Nat.reducePow, Nat.reduceSub] at e
      rw [e, b1, Int.natCast_ediv] at h
      exact h
    have hfr : bits .and .u64 (bv : Int) 4503599627370495 = ((M - 4503599627370496 : Nat) : Int) := by
      have h := bits_and_u64_nat bv 4503599627370495 (by omega) (by decide)
      have e := Nat.and_two_pow_sub_one_eq_mod bv 52
      simp only [Nat.reducePow, Nat.reduceSub] at e
      rw [e, b2] at h
      exact h
    have hor : bits .or .u64 ((M - 4503599627370496 : Nat) : Int) 4503599627370496 = (M : Int) := by
      have h := bits_or_u64_nat (M - 4503599627370496) 4503599627370496 (by omega) (by decide)
      have e := Nat.two_pow_add_eq_or_of_lt (i := 52) (b := M - 4503599627370496) (by simp only [Nat.reducePow]; omega) 1
      simp only [Nat.reducePow, Nat.mul_one] at e
      have e2 : M - 4503599627370496 ||| 4503599627370496 = M := by rw [Nat.or_comm, ← e]; omega
      rw [e2] at h
      exact h
    have cL : ∀ w, Calls Tryz.prog 108 #[.int .u64 (M : Int)] w fun e w' => e = .returned (.int .i64 53) ∧ w = w' := fun w =>
      (Tryz.bits_Len64 (M : Int) w (by omega) (by omega)).mono fun e w' ⟨h1, h2⟩ => ⟨by rw [h1, Int.toNat_natCast, bits53 M m1 m2]; rfl, h2.symm⟩
    rw [← sgn_bytes]
    have hl : (sgnB neg ++ num3 A).length = (sgn neg ++ bytesV (num3 A)).length := by rw [sgn_bytes]; simp [bytesV]
    rw [hl]
    refine ftoa_walk A g bv (1075 - f) (M - 4503599627370496) M (M * 2048) (-((f + 11 : Nat) : Int)) neg w hA hlen hT hg hO b3 hn hE (by omega) (by omega) hfr hor (by omega) m2 (by omega) (by omega) cL (fun W hW => ?_)
    exact shortFloat_any A M f hFl W (hT.below hW)

theorem row_cells {w : World} {g n cap : Nat} {l : List UInt8} (h : w.ownsRow g 5 1 (.slice (some ⟨g, 0, none⟩) n cap) n (bytesV l)) (hn : n = l.length) : ∀ j (hj : j < l.length), w.cell? ((⟨g, 0, none⟩ : Addr).add j) = some (.int .u8 (l[j].toNat : Int)) := by
  intro j hj
  obtain ⟨h1, h2⟩ := h
  rcases h2 with ⟨h2, _⟩ | ⟨g', c', cur, hv, r1, r2, r3, r4, r5, r6⟩
  · cases h2
  · cases hv
    have hcur : cur[j]? = some (.int .u8 (l[j].toNat : Int)) := by
      have h3 : (cur.toList.take (n * 1))[j]? = (bytesV l)[j]? := by rw [r6]
      rw [List.getElem?_take_of_lt (by omega)] at h3
      simp only [bytesV, List.getElem?_map, List.getElem?_eq_getElem hj, Option.map_some] at h3
      simpa using h3
    rw [add_plain, Nat.zero_add]
    simp [World.cell?, r2, hcur]

theorem conv_bytes {w : World} {g n cap : Nat} {l : List UInt8} (h : w.ownsRow g 5 1 (.slice (some ⟨g, 0, none⟩) n cap) n (bytesV l)) (hn : n = l.length) :
    (convert 102 9 (.slice (some ⟨g, 0, none⟩) n cap)).run Tryz.prog w = .ok (.string ⟨l.toArray⟩) w := by
  subst hn
  exact run_convert_bytes_back w 102 9 5 ⟨g, 0, none⟩ cap l Tryz.underlying102 Tryz.underlying5 Tryz.underlying9 (row_cells h rfl)

theorem heap_new (w : World) (o : Obj) : (w.alloc o).heap[w.heap.size]? = some o := by
  show (w.heap.push o)[w.heap.size]? = _
  rw [Array.getElem?_push, if_pos rfl]

theorem own_new (w : World) : (w.alloc (.cells (Array.replicate 24 (.int .u8 0)) 5)).ownsRow w.heap.size 5 1 (.slice (some ⟨w.heap.size, 0, none⟩) 0 24) 0 [] :=
  ⟨rfl, Or.inr ⟨w.heap.size, 24, Array.replicate 24 (.int .u8 0), rfl, Nat.le_refl _, heap_new w _, by decide, by decide, by simp, by simp⟩⟩

set_option maxRecDepth 100000 in
set_option maxHeartbeats 1000000 in
theorem formatFloat_in (bv A : Nat) (neg : Bool) (hB : IsT bv neg A) (w : World) (hT : Tabs w) :
    Calls Tryz.prog 176 #[.float .f64 bv, .int .u8 102, .int .i64 (-1), .int .i64 64] w fun e w' => e = .returned (.string ⟨(sgnB neg ++ num3 A).toArray⟩) ∧ Below w.heap.size w w' := by
  have hmk : ∀ w, (Instr.makeSlice 102 (.int .i64 0) (.int .i64 24)).run Tryz.prog w = .ok (.slice (some ⟨w.heap.size, 0, none⟩) 0 24) (w.alloc (.cells (Array.replicate 24 (.int .u8 0)) 5)) := fun _ => by kernel_rfl
  have hF0 := ftoa_any bv A w.heap.size neg hB (w.alloc (.cells (Array.replicate 24 (.int .u8 0)) 5)) (hT.below ((Below.refl _ _).alloc (Nat.le_refl _) _)) (by simp) (own_new w)
  generalize sgnB neg ++ num3 A = l at hF0 ⊢
  have hmax : max (3 : Int) 24 = 24 := by decide
  go_enter Tryz.func176, Tryz.ntmps176
  go_wp2_with (go_at_call 192; (with_reducible refine hF0.mono ?_); rintro e w3 ⟨rfl, hO3, hb3⟩; have hcv := conv_bytes hO3 rfl)
  go_ret
  exact ⟨rfl, ((Below.refl _ _).alloc (Nat.le_refl _) _).trans hb3⟩

set_option maxHeartbeats 400000 in
/-- strconv.FormatFloat(x, 'f', -1, 64) at a number of thousandths. -/
theorem formatFloat_any (bv A : Nat) (neg : Bool) (hB : IsT bv neg A) (w : World) (hT : Tabs w) :
    Calls Tryz.prog 158 #[.float .f64 bv, .int .u8 102, .int .i64 (-1), .int .i64 64] w fun e w' => e = .returned (.string ⟨(sgnB neg ++ num3 A).toArray⟩) ∧ Below w.heap.size w w' := by
  have hF := formatFloat_in bv A neg hB w hT
  generalize sgnB neg ++ num3 A = l at hF ⊢
  go_enter Tryz.func158, Tryz.ntmps158
  go_wp2_with (go_at_call 176; (with_reducible refine hF.mono ?_); rintro e w3 ⟨rfl, hb3⟩)
  go_ret
  exact ⟨rfl, hb3⟩

end Go.Proofs.YtdeejmkjhmpabaaGreatDoor

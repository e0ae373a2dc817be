import Derived.Test.YtdeejmkjhmpabaaGreatDoorF6
namespace Go.Proofs.YtdeejmkjhmpabaaGreatDoor
open Go.RowKit Go.Lib

def sgnB (neg : Bool) : List UInt8 := if neg then [45] else []
theorem sgn_bytes (neg : Bool) (l : List UInt8) : sgn neg ++ bytesV l = bytesV (sgnB neg ++ l) := by cases neg <;> rfl

/-- The float bv is A thousandths, negated if neg: it prints so. -/
def IsT (bv : Nat) (neg : Bool) (A : Nat) : Prop :=
  (num3 A).length ≤ 20 ∧ ((A = 0 ∧ bv = 0 ∧ neg = false) ∨ (1 ≤ A ∧ ∃ M f : Nat, bv = Sam.wordOf neg M (-(f : Int)) ∧ Sam.Fl A M f))

theorem bits53 (M : Nat) (h1 : 4503599627370496 ≤ M) (h2 : M ≤ 9007199254740991) : Lib.bitLen M = 53 := by
  obtain ⟨a, b, c⟩ := bitLenAux_bounds 64 M (by omega) (by omega)
  unfold Lib.bitLen
  generalize bitLenAux 64 M = L at a b c
  rcases Nat.lt_or_ge L 53 with h | h
  · have : 2 ^ L ≤ 2 ^ 52 := Nat.pow_le_pow_right (by decide) (by omega)
    omega
  · rcases Nat.lt_or_ge 53 L with h3 | h3
    · have : 2 ^ 53 ≤ 2 ^ (L - 1) := Nat.pow_le_pow_right (by decide) (by omega)
      omega
    · omega

set_option maxRecDepth 100000 in
set_option maxHeartbeats 1000000 in
theorem ftoa_zero (g : Nat) (w : World) (hT : Tabs w) (hg : g < w.heap.size) (hO : w.ownsRow g 5 1 (.slice (some ⟨g, 0, none⟩) 0 24) 0 []) :
    Calls Tryz.prog 192 #[.slice (some ⟨g, 0, none⟩) 0 24, .float .f64 0, .int .u8 102, .int .i64 (-1)] w fun e w' => e = .returned (.slice (some ⟨g, 0, none⟩) 1 24) ∧ w'.ownsRow g 5 1 (.slice (some ⟨g, 0, none⟩) 1 24) 1 [.int .u8 48] ∧ Below g w w' := by
  have k199 := c199 0
  obtain ⟨b, hb, hgb⟩ : ∃ b, b < w.heap.size ∧ g ≠ b := by
    have := hT.at.size
    by_cases h0 : g = 0
    · exact ⟨1, by omega, by omega⟩
    · exact ⟨0, by omega, h0⟩
  go_enter Tryz.func192, Tryz.ntmps192
  go_wp2_with fail
  go_quiet (fail)
  go_wp2_with fail
  have hF := fmt_nought g b 0 [] (w.drewN nq) ⟨ownsRow_of_block hO rfl, Below.refl _ _, fun _ => rfl, hb, hg⟩ hgb (by omega)
  go_wp2_with (go_at_call 202; (with_reducible refine hF.mono ?_); rintro e w3 ⟨rfl, hO3⟩)
  go_ret
  exact ⟨rfl, hO3.own, (below_drewN (Below.refl _ _) nq).trans hO3.low⟩

theorem ftoa_any (bv A g : Nat) (neg : Bool) (hB : IsT bv neg A) (w : World) (hT : Tabs w) (hg : g < w.heap.size) (hO : w.ownsRow g 5 1 (.slice (some ⟨g, 0, none⟩) 0 24) 0 []) :
    Calls Tryz.prog 192 #[.slice (some ⟨g, 0, none⟩) 0 24, .float .f64 bv, .int .u8 102, .int .i64 (-1)] w fun e w' => e = .returned (.slice (some ⟨g, 0, none⟩) (sgnB neg ++ num3 A).length 24) ∧ w'.ownsRow g 5 1 (.slice (some ⟨g, 0, none⟩) (sgnB neg ++ num3 A).length 24) (sgnB neg ++ num3 A).length (bytesV (sgnB neg ++ num3 A)) ∧ Below g w w' := by
  obtain ⟨hlen, ⟨rfl, rfl, rfl⟩ | ⟨hA, M, f, hbv, hFl⟩⟩ := hB
  · have e : sgnB false ++ num3 0 = [48] := by decide +kernel
    rw [e]
    exact ftoa_zero g w hT hg hO
  · have m1 : 4503599627370496 ≤ M := hFl.m1
    have m2 : M ≤ 9007199254740991 := Nat.le_of_lt_succ hFl.m2
    have f1 := hFl.f1; have f2 := hFl.f2
    have hbv2 : bv = (if neg then 9223372036854775808 else 0) + ((1074 - f) * 4503599627370496 + M) := by
      rw [hbv]; unfold Sam.wordOf
      have : (-(f : Int) + 1074).toNat = 1074 - f := by omega
      rw [this]
    have hn : ((bv : Int) / 9223372036854775808 != 0) = neg := by
      cases neg <;> simp at hbv2 ⊢ <;> omega
    have b1 : bv / 4503599627370496 % 2048 = 1075 - f := by cases neg <;> simp at hbv2 <;> omega
    have b2 : bv % 4503599627370496 = M - 4503599627370496 := by cases neg <;> simp at hbv2 <;> omega
    have b3 : bv ≤ 18446744073709551615 := by cases neg <;> simp at hbv2 <;> omega
    have hE : bits .and .i64 ((bv : Int) / 4503599627370496) 2047 = ((1075 - f : Nat) : Int) := by
      have h := bits_and_i64_nat (bv / 4503599627370496) 2047 (by omega) (by decide)
      have e := Nat.and_two_pow_sub_one_eq_mod (bv / 4503599627370496) 11
      simp only [Nat.reducePow, Nat.reduceSub] at e
      rw [e, b1, Int.natCast_ediv] at h
      exact h
    have hfr : bits .and .u64 (bv : Int) 4503599627370495 = ((M - 4503599627370496 : Nat) : Int) := by
      have h := bits_and_u64_nat bv 4503599627370495 (by omega) (by decide)
      have e := Nat.and_two_pow_sub_one_eq_mod bv 52
      simp only [Nat.reducePow, Nat.reduceSub] at e
      rw [e, b2] at h
      exact h
    have hor : bits .or .u64 ((M - 4503599627370496 : Nat) : Int) 4503599627370496 = (M : Int) := by
      have h := bits_or_u64_nat (M - 4503599627370496) 4503599627370496 (by omega) (by decide)
      have e := Nat.two_pow_add_eq_or_of_lt (i := 52) (b := M - 4503599627370496) (by simp only [Nat.reducePow]; omega) 1
      simp only [Nat.reducePow, Nat.mul_one] at e
      have e2 : M - 4503599627370496 ||| 4503599627370496 = M := by rw [Nat.or_comm, ← e]; omega
      rw [e2] at h
      exact h
    have cL : ∀ w, Calls Tryz.prog 108 #[.int .u64 (M : Int)] w fun e w' => e = .returned (.int .i64 53) ∧ w = w' := fun w =>
      (Tryz.bits_Len64 (M : Int) w (by omega) (by omega)).mono fun e w' ⟨h1, h2⟩ => ⟨by rw [h1, Int.toNat_natCast, bits53 M m1 m2]; rfl, h2.symm⟩
    rw [← sgn_bytes]
    have hl : (sgnB neg ++ num3 A).length = (sgn neg ++ bytesV (num3 A)).length := by rw [sgn_bytes]; simp [bytesV]
    rw [hl]
    refine ftoa_walk A g bv (1075 - f) (M - 4503599627370496) M (M * 2048) (-((f + 11 : Nat) : Int)) neg w hA hlen hT hg hO b3 hn hE (by omega) (by omega) hfr hor (by omega) m2 (by omega) (by omega) cL (fun W hW => ?_)
    exact shortFloat_any A M f hFl W (hT.below hW)

theorem row_cells {w : World} {g n cap : Nat} {l : List UInt8} (h : w.ownsRow g 5 1 (.slice (some ⟨g, 0, none⟩) n cap) n (bytesV l)) (hn : n = l.length) : ∀ j (hj : j < l.length), w.cell? ((⟨g, 0, none⟩ : Addr).add j) = some (.int .u8 (l[j].toNat : Int)) := by
  intro j hj
  obtain ⟨h1, h2⟩ := h
  rcases h2 with ⟨h2, _⟩ | ⟨g', c', cur, hv, r1, r2, r3, r4, r5, r6⟩
  · cases h2
  · cases hv
    have hcur : cur[j]? = some (.int .u8 (l[j].toNat : Int)) := by
      have h3 : (cur.toList.take (n * 1))[j]? = (bytesV l)[j]? := by rw [r6]
      rw [List.getElem?_take_of_lt (by omega)] at h3
      simp only [bytesV, List.getElem?_map, List.getElem?_eq_getElem hj, Option.map_some] at h3
      simpa using h3
    rw [add_plain, Nat.zero_add]
    simp [World.cell?, r2, hcur]

theorem conv_bytes {w : World} {g n cap : Nat} {l : List UInt8} (h : w.ownsRow g 5 1 (.slice (some ⟨g, 0, none⟩) n cap) n (bytesV l)) (hn : n = l.length) :
    (convert 102 9 (.slice (some ⟨g, 0, none⟩) n cap)).run Tryz.prog w = .ok (.string ⟨l.toArray⟩) w := by
  subst hn
  exact run_convert_bytes_back w 102 9 5 ⟨g, 0, none⟩ cap l Tryz.underlying102 Tryz.underlying5 Tryz.underlying9 (row_cells h rfl)

theorem heap_new (w : World) (o : Obj) : (w.alloc o).heap[w.heap.size]? = some o := by
  show (w.heap.push o)[w.heap.size]? = _
  rw [Array.getElem?_push, if_pos rfl]

theorem own_new (w : World) : (w.alloc (.cells (Array.replicate 24 (.int .u8 0)) 5)).ownsRow w.heap.size 5 1 (.slice (some ⟨w.heap.size, 0, none⟩) 0 24) 0 [] :=
  ⟨rfl, Or.inr ⟨w.heap.size, 24, Array.replicate 24 (.int .u8 0), rfl, Nat.le_refl _, heap_new w _, by decide, by decide, by simp, by simp⟩⟩

set_option maxRecDepth 100000 in
set_option maxHeartbeats 1000000 in
theorem formatFloat_in (bv A : Nat) (neg : Bool) (hB : IsT bv neg A) (w : World) (hT : Tabs w) :
    Calls Tryz.prog 176 #[.float .f64 bv, .int .u8 102, .int .i64 (-1), .int .i64 64] w fun e w' => e = .returned (.string ⟨(sgnB neg ++ num3 A).toArray⟩) ∧ Below w.heap.size w w' := by
  have hmk : ∀ w, (Instr.makeSlice 102 (.int .i64 0) (.int .i64 24)).run Tryz.prog w = .ok (.slice (some ⟨w.heap.size, 0, none⟩) 0 24) (w.alloc (.cells (Array.replicate 24 (.int .u8 0)) 5)) := fun _ => by kernel_rfl
  have hF0 := ftoa_any bv A w.heap.size neg hB (w.alloc (.cells (Array.replicate 24 (.int .u8 0)) 5)) (hT.below ((Below.refl _ _).alloc (Nat.le_refl _) _)) (by simp) (own_new w)
  generalize sgnB neg ++ num3 A = l at hF0 ⊢
  have hmax : max (3 : Int) 24 = 24 := by decide
  go_enter Tryz.func176, Tryz.ntmps176
  go_wp2_with (go_at_call 192; (with_reducible refine hF0.mono ?_); rintro e w3 ⟨rfl, hO3, hb3⟩; have hcv := conv_bytes hO3 rfl)
  go_ret
  exact ⟨rfl, ((Below.refl _ _).alloc (Nat.le_refl _) _).trans hb3⟩

set_option maxHeartbeats 400000 in
/-- strconv.FormatFloat(x, 'f', -1, 64) at a number of thousandths. -/
theorem formatFloat_any (bv A : Nat) (neg : Bool) (hB : IsT bv neg A) (w : World) (hT : Tabs w) :
    Calls Tryz.prog 158 #[.float .f64 bv, .int .u8 102, .int .i64 (-1), .int .i64 64] w fun e w' => e = .returned (.string ⟨(sgnB neg ++ num3 A).toArray⟩) ∧ Below w.heap.size w w' := by
  have hF := formatFloat_in bv A neg hB w hT
  generalize sgnB neg ++ num3 A = l at hF ⊢
  go_enter Tryz.func158, Tryz.ntmps158
  go_wp2_with (go_at_call 176; (with_reducible refine hF.mono ?_); rintro e w3 ⟨rfl, hb3⟩)
  go_ret
  exact ⟨rfl, hb3⟩

end Go.Proofs.YtdeejmkjhmpabaaGreatDoor

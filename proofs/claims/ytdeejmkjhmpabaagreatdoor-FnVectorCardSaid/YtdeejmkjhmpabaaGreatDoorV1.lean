/-
  A sample: its making, its text, Vector.Less, Vector.Swap.
-/
import Derived.Test.YtdeejmkjhmpabaaGreatDoorL6
import Derived.Test.YtdeejmkjhmpabaaGreatDoorS4
namespace Go.Proofs.YtdeejmkjhmpabaaGreatDoor
open Go.RowKit Go.Lib Go.Maps Go.WideMaps

/-- The bits of so many eighths. -/
def BvOf (e8 : Int) (bv : Nat) : Prop := floatBits .quo .f64 (floatOfInt .f64 e8) 4620693217682128896 = some bv

theorem BvOf.isT {e8 : Int} {bv : Nat} (h : BvOf e8 bv) (h1 : -562949953421312 < e8) (h2 : e8 < 562949953421312) : IsT bv (decide (e8 < 0)) (125 * e8.natAbs) := by
  obtain ⟨b', h3, h4⟩ := eighth_bits e8 h1 h2
  unfold BvOf at h
  rw [h] at h3
  cases h3
  exact h4

/-- Block q is the sample, its map in block b. -/
def SmB (w : World) (q b : Nat) (p : Pt) : Prop :=
  ∃ bv, w.cell? ⟨q, 0, none⟩ = some (.map (some b)) ∧ w.cell? ⟨q, 1, none⟩ = some (.float .f64 bv) ∧ w.cell? ⟨q, 2, none⟩ = some (.int .i64 p.2.2) ∧ w.cell? ⟨q, 3, none⟩ = some (.pointer none) ∧ MapAt w b p.1 ∧ BvOf p.2.1 bv ∧ ∃ cs t, w.heap[q]? = some (.cells cs t (0, 0))

theorem SmB.lt {w : World} {q b : Nat} {p : Pt} (h : SmB w q b p) : q < w.heap.size := by
  obtain ⟨bv, h1, _⟩ := h
  exact World.block_lt_of_cell? w _ h1

theorem SmB.below {w w' : World} {q b : Nat} {p : Pt} (h : SmB w q b p) (hb : Below w.heap.size w w') : SmB w' q b p := by
  have hlt := h.lt
  obtain ⟨bv, h1, h2, h3, h4, h5, h6, cs, t, h7⟩ := h
  exact ⟨bv, (hb.cell (p := ⟨q, 0, none⟩) hlt).trans h1, (hb.cell (p := ⟨q, 1, none⟩) hlt).trans h2, (hb.cell (p := ⟨q, 2, none⟩) hlt).trans h3, (hb.cell (p := ⟨q, 3, none⟩) hlt).trans h4, h5.below hb, h6, cs, t, (hb.block q hlt).trans h7⟩

/-- .. and it lies neither in block g nor does its map. -/
theorem SmB.grown {w w' : World} {g : Option Nat} {q b : Nat} {p : Pt} (h : SmB w q b p) (hg : w.grownBy w' g) (h1 : some q ≠ g) (h2 : some b ≠ g) : SmB w' q b p := by
  have hq := h.lt
  obtain ⟨bv, k1, k2, k3, k4, k5, k6, cs, t, k7⟩ := h
  have hb : b < w.heap.size := k5.lt
  refine ⟨bv, (grown_cell hg (p := ⟨q, 0, none⟩) hq h1).1.trans k1, (grown_cell hg (p := ⟨q, 1, none⟩) hq h1).1.trans k2, (grown_cell hg (p := ⟨q, 2, none⟩) hq h1).1.trans k3, (grown_cell hg (p := ⟨q, 3, none⟩) hq h1).1.trans k4, ?_, k6, cs, t, (hg.block q hq h1).trans k7⟩
  obtain ⟨es, clock, m1, m2⟩ := k5
  exact ⟨es, clock, (hg.block b hb h2).trans m1, m2⟩

/-- What sample hands. -/
def SmEnd (p : Pt) (w : World) (e : Ending) (w' : World) : Prop := ∃ q b, e = .returned (ptr q) ∧ SmB w' q b p ∧ w.heap.size ≤ b ∧ w.heap.size ≤ q ∧ q ≠ b ∧ Below w.heap.size w w'

set_option maxRecDepth 100000 in
set_option maxHeartbeats 1600000 in
/-- Sample.sample. -/
theorem sample_any (p : Pt) (n : Nat) (la : Option Addr) (lc bv : Nat) (hn : p.1.length = n) (hF : Few p.1) (hbv : BvOf p.2.1 bv) (w : World) (hL : LabsAt w la p.1) :
    Calls Tryz.prog 60 #[.agg #[.slice la n lc, .int .u64 (bv : Nat), .int .i64 p.2.2]] w (SmEnd p w) := by
  obtain ⟨l, e8, ms⟩ := p
  dsimp only at hn hF hbv hL ⊢
  subst hn
  obtain ⟨n, hn⟩ : ∃ n, n = l.length := ⟨_, rfl⟩
  obtain ⟨w0, hw0⟩ : ∃ w0, w0 = (w.alloc (.cells #[.slice la l.length lc, .int .u64 (bv : Nat), .int .i64 ms] 41)).drew := ⟨_, rfl⟩
  have hB0 : Below w.heap.size w w0 := by rw [hw0]; exact ((Below.refl _ _).alloc (Nat.le_refl _) _).drew
  have hset := set_any l la lc hF w0 (hL.below hB0)
  have hc32 := c32 bv
  have hk : ∀ W, Below w0.heap.size w0 W → W.cell? ⟨w.heap.size, 0, none⟩ = some (.slice la l.length lc) ∧ W.cell? ⟨w.heap.size, 1, none⟩ = some (.int .u64 (bv : Nat)) ∧ W.cell? ⟨w.heap.size, 2, none⟩ = some (.int .i64 ms) := fun W hW => by
    have hlt : w.heap.size < w0.heap.size := by rw [hw0]; simp
    refine ⟨(hW.cell (p := ⟨w.heap.size, 0, none⟩) hlt).trans ?_, (hW.cell (p := ⟨w.heap.size, 1, none⟩) hlt).trans ?_, (hW.cell (p := ⟨w.heap.size, 2, none⟩) hlt).trans ?_⟩ <;> rw [hw0] <;> simp
  rw [← hn] at hset hw0 hk ⊢
  have HW0 := Lib.hid hw0
  have HB0 := Lib.hid hB0
  have HK := Lib.hid hk
  have HBV := Lib.hid hbv
  clear hw0 hB0 hk hF hL hbv hn
  go_enter Tryz.func60, Tryz.ntmps60
  go_wp2_with fail
  go_region_held3 (fun w' => w'.cell? ⟨w.heap.size, 0, none⟩ = some (.slice la n lc) ∧ w'.cell? ⟨w.heap.size, 1, none⟩ = some (.int .u64 (bv : Nat)) ∧ w'.cell? ⟨w.heap.size, 2, none⟩ = some (.int .i64 ms)) (go_keep) (first
    | (rw [← HW0.out]; go_at_call 31; (with_reducible refine hset.mono ?_); rintro e w1 ⟨rfl, hM1, hb1⟩; obtain ⟨x1, x2, x3⟩ := HK.out w1 hb1; have HM1 := Lib.hid hM1; have HB1 := Lib.hid hb1; clear hM1 hb1))
  all_goals
    go_wp2
    go_ret
    have h01 : w0.heap.size < w1.heap.size := HM1.out.lt
    have hBw : Below w.heap.size w w1 := HB0.out.trans (HB1.out.mono HB0.out.size)
    refine ⟨w1.heap.size, w0.heap.size, rfl, ⟨bv, by simp, by simp, by simp, by simp, HM1.out.below ((Below.refl _ _).alloc (Nat.le_refl _) _), HBV.out, _, _, heap_alloc_new _ _⟩, HB0.out.size, hBw.size, by omega, hBw.alloc hBw.size _⟩

/-- A sample's text. -/
def smT (p : Pt) : List UInt8 := (metricT p.1 ++ [32, 61, 62, 32]) ++ pairT p.2.1 p.2.2

theorem smT_len {p : Pt} (h : PtOk p) : (smT p).length ≤ 50100 := by
  have h1 := metricT_len h.2.1.1
  have h2 := pairT_len p.2 ⟨h.1, h.2.2⟩
  unfold smT
  simp
  omega

set_option maxRecDepth 100000 in
set_option maxHeartbeats 3200000 in
/-- Sample.String. -/
theorem sample_string (p : Pt) (b bv : Nat) (hp : PtOk p) (hbv : BvOf p.2.1 bv) (w : World) (hM : MapAt w b p.1) (hT : Tabs w) :
    Calls Tryz.prog 65 #[.agg #[.map (some b), .float .f64 bv, .int .i64 p.2.2, .pointer none]] w fun e w' => e = .returned (.string ⟨(smT p).toArray⟩) ∧ Below w.heap.size w w' := by
  have hT1 := hbv.isT hp.1.1 hp.1.2
  have hml := metricT_len hp.2.1.1
  have hpl := pairT_len p.2 ⟨hp.1, hp.2.2⟩
  have hvl := valT_len p.2.1 hp.1.1 hp.1.2
  obtain ⟨l, e8, ms⟩ := p
  dsimp only at hp hbv hM hT1 hml hpl hvl ⊢
  obtain ⟨w0, hw0⟩ : ∃ w0, w0 = (w.alloc (.cells #[.map (some b), .float .f64 bv, .int .i64 ms, .pointer none] 92)).drew := ⟨_, rfl⟩
  have hB0 : Below w.heap.size w w0 := by rw [hw0]; exact ((Below.refl _ _).alloc (Nat.le_refl _) _).drew
  have hms := metric_string l b hp.2.1.1 hp.2.1.2.names w0 (hM.below hB0) (hT.below hB0)
  have hps := fun W (hW : Below w.heap.size w W) => pair_string e8 ms bv hT1 hvl hp.2.2.1 hp.2.2.2 W (hT.below hW)
  have hk : ∀ W, Below w0.heap.size w0 W → W.cell? ⟨w.heap.size, 0, none⟩ = some (.map (some b)) ∧ W.cell? ⟨w.heap.size, 1, none⟩ = some (.float .f64 bv) ∧ W.cell? ⟨w.heap.size, 2, none⟩ = some (.int .i64 ms) := fun W hW => by
    have hlt : w.heap.size < w0.heap.size := by rw [hw0]; simp
    refine ⟨(hW.cell (p := ⟨w.heap.size, 0, none⟩) hlt).trans ?_, (hW.cell (p := ⟨w.heap.size, 1, none⟩) hlt).trans ?_, (hW.cell (p := ⟨w.heap.size, 2, none⟩) hlt).trans ?_⟩ <;> rw [hw0] <;> simp
  obtain ⟨mt, HMT⟩ : ∃ mt, Hid (mt = metricT l) := ⟨_, rfl⟩
  obtain ⟨pt, HPT⟩ : ∃ pt, Hid (pt = pairT e8 ms) := ⟨_, rfl⟩
  unfold str at hms hps
  rw [← HMT.out] at hms hml
  rw [← HPT.out] at hps hpl
  obtain ⟨s1, S1, k1⟩ := cat_ex mt [32, 61, 62, 32] (by simp; omega)
  obtain ⟨s2, S2, k2⟩ := cat_ex s1 pt (by have := cat_len S1; simp at this; omega)
  have hs2 : s2 = smT (l, e8, ms) := by rw [S2.out, S1.out, HMT.out, HPT.out]; rfl
  rw [← hs2]
  have HW0 := Lib.hid hw0
  have HB0 := Lib.hid hB0
  have HK := Lib.hid hk
  have HPS := Lib.hid hps
  clear hw0 hB0 hk hM hT hp hbv hT1 hml hpl hvl hps hs2
  go_enter Tryz.func65, Tryz.ntmps65
  go_wp2_with fail
  go_region_held3 (fun w' => w'.cell? ⟨w.heap.size, 0, none⟩ = some (.map (some b)) ∧ w'.cell? ⟨w.heap.size, 1, none⟩ = some (.float .f64 bv) ∧ w'.cell? ⟨w.heap.size, 2, none⟩ = some (.int .i64 ms)) (go_keep) (first
    | (rw [← HW0.out]; go_at_call 87; (with_reducible refine hms.mono ?_); rintro e w1 ⟨rfl, hb1⟩; obtain ⟨x1, x2, x3⟩ := HK.out w1 hb1; have HB1 := Lib.hid hb1; clear hb1)
    | (go_at_call 85; (with_reducible refine (HPS.out _ (HB0.out.trans (HB1.out.mono HB0.out.size))).mono ?_); rintro e w2 ⟨rfl, hb2⟩; obtain ⟨y1, y2, y3⟩ := HK.out w2 (HB1.out.trans (hb2.mono HB1.out.size)); have HB2 := Lib.hid hb2; clear hb2))
  all_goals
    go_wp2
    go_ret
    exact ⟨rfl, (HB0.out.trans (HB1.out.mono HB0.out.size)).trans (HB2.out.mono (Nat.le_trans HB0.out.size HB1.out.size))⟩

set_option maxRecDepth 100000 in
set_option maxHeartbeats 2000000 in
/-- Vector.Swap. -/
theorem vec_swap (g n c i j : Nat) (x y : Value) (qi qj : Nat) (hx : x = ptr qi) (hy : y = ptr qj) (hi : i < n) (hj : j < n) (hij : i ≠ j) (w : World) (c1 : w.cell? ⟨g, i, none⟩ = some x) (c2 : w.cell? ⟨g, j, none⟩ = some y)
    (f1 : w.frozen? ⟨g, i, none⟩ = false) (f2 : w.frozen? ⟨g, j, none⟩ = false) :
    Calls Tryz.prog 37 #[.slice (some ⟨g, 0, none⟩) n c, .int .i64 (i : Int), .int .i64 (j : Int)] w fun e w' => e = .returned (.tuple #[]) ∧ w' = ((w.setCell ⟨g, i, none⟩ y).setCell ⟨g, j, none⟩ x).drew := by
  subst hx hy
  unfold ptr at *
  go_enter Tryz.func37, Tryz.ntmps37
  go_wp2_with fail
  go_region
  all_goals
    go_end0
    exact ⟨rfl, rfl⟩

end Go.Proofs.YtdeejmkjhmpabaaGreatDoor

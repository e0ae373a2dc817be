/-
  SampleStream.String.
-/
import Derived.Test.YtdeejmkjhmpabaaGreatDoorM2
import Derived.Laws.OwnMore
namespace Go.Proofs.YtdeejmkjhmpabaaGreatDoor
open Go.RowKit Go.Lib Go.Maps Go.WideMaps

/-- A pair of a stream: eighths, milliseconds. -/
abbrev Pr := Int × Int
def PrOk (p : Pr) : Prop := (-562949953421312 < p.1 ∧ p.1 < 562949953421312) ∧ -1000000000000000 < p.2 ∧ p.2 < 1000000000000000

/-- The slice a holds the pairs. -/
def PairsAt (w : World) (a : Option Addr) (ps : List Pr) : Prop :=
  ∀ i p, ps[i]? = some p → ∃ b o bv, a = some ⟨b, o, none⟩ ∧ w.cell? ⟨b, o + i * 2, none⟩ = some (.int .i64 p.2) ∧ w.cell? ⟨b, o + i * 2 + 1, none⟩ = some (.float .f64 bv) ∧ IsT bv (decide (p.1 < 0)) (125 * p.1.natAbs)

theorem PairsAt.below {w w' : World} {a : Option Addr} {ps : List Pr} (h : PairsAt w a ps) (hb : Below w.heap.size w w') : PairsAt w' a ps := by
  intro i p hp
  obtain ⟨b, o, bv, ha, h1, h2, h3⟩ := h i p hp
  have hlt : b < w.heap.size := World.block_lt_of_cell? w _ h1
  exact ⟨b, o, bv, ha, (hb.cell (p := ⟨b, o + i * 2, none⟩) hlt).trans h1, (hb.cell (p := ⟨b, o + i * 2 + 1, none⟩) hlt).trans h2, h3⟩

theorem pairT_len (p : Pr) (h : PrOk p) : (pairT p.1 p.2).length ≤ 70 := by
  have h1 := valT_len p.1 h.1.1 h.1.2
  have h2 := timeT_len p.2 h.2.1 h.2.2
  simp [pairT]
  omega

def textsT (ps : List Pr) : List (List UInt8) := ps.map fun p => pairT p.1 p.2

/-- A stream's text. -/
def streamT (l : List Lab) (ps : List Pr) : List UInt8 := (metricT l ++ [32, 61, 62, 10]) ++ Lib.join (textsT ps) [10]

/-- A row of k texts, of which i are laid. -/
def rowT (T : List (List UInt8)) (i : Nat) : List Value := (T.take i).map encStr ++ List.replicate (T.length - i) (encStr [])

theorem rowT_len (T : List (List UInt8)) (i : Nat) (h : i ≤ T.length) : (rowT T i).length = T.length := by
  simp [rowT]; omega

theorem rowT_set (T : List (List UInt8)) (i : Nat) (x : List UInt8) (h : T[i]? = some x) : (rowT T i).set i (encStr x) = rowT T (i + 1) := by
  have hi := (List.getElem?_eq_some_iff.1 h).1
  have e : T.length - i = (T.length - (i + 1)) + 1 := by omega
  unfold rowT
  rw [take_snoc' T i x h, e, List.replicate_succ, List.set_append]
  have h1 : ((T.take i).map encStr).length = i := by simp; omega
  rw [if_neg (by omega), h1, Nat.sub_self, List.set_cons_zero, List.map_append]
  simp

theorem rowT_get (T : List (List UInt8)) (i : Nat) (h : i < T.length) : (rowT T i)[i]? = some (encStr []) := by
  have h1 : ((T.take i).map encStr).length = i := by simp; omega
  unfold rowT
  rw [List.getElem?_append_right (by omega), List.getElem?_replicate, h1, if_pos (by omega)]

theorem rowT_all (T : List (List UInt8)) : rowT T T.length = T.map encStr := by simp [rowT]

/-- What the loop of texts has made: block g holds i of the texts. -/
structure RS (w : World) (g : Nat) (T : List (List UInt8)) (i : Nat) (wr : World) : Prop where
  row : wr.ownsRow w.heap.size 9 1 (.slice (some ⟨g, 0, none⟩) T.length T.length) T.length (rowT T i)
  bel : Below w.heap.size w wr

theorem RS.cell {w wr : World} {g i : Nat} {T : List (List UInt8)} (h : RS w g T i wr) (hi : i < T.length) : wr.cell? ⟨g, i, none⟩ = some (.string ⟨#[]⟩) :=
  (h.row.cellAt i (by omega)).trans (rowT_get T i hi)

theorem RS.frozen {w wr : World} {g i : Nat} {T : List (List UInt8)} (h : RS w g T i wr) (j : Nat) : wr.frozen? ⟨g, j, none⟩ = false := h.row.frozenAt j

theorem RS.lt {w wr : World} {g i : Nat} {T : List (List UInt8)} (h : RS w g T i wr) : w.heap.size ≤ g ∧ g < wr.heap.size := h.row.lt g rfl

theorem RS.step {w wr : World} {g i : Nat} {T : List (List UInt8)} {x : List UInt8} (h : RS w g T i wr) (hx : T[i]? = some x) : RS w g T (i + 1) (wr.setCell ⟨g, i, none⟩ (encStr x)) := by
  obtain ⟨h1, h2⟩ := h.row.stored i (encStr x)
  rw [rowT_set T i x hx] at h1
  exact ⟨h1, h.bel.grown h2 h.bel.size (fun k hk => by cases hk; exact h.lt.1)⟩

theorem RS.below {w wr w' : World} {g i : Nat} {T : List (List UInt8)} (h : RS w g T i wr) (hb : Below wr.heap.size wr w') : RS w g T i w' :=
  ⟨row_below h.row hb, h.bel.trans (hb.mono h.bel.size)⟩

theorem RS.alloc {w wr : World} {g i : Nat} {T : List (List UInt8)} (h : RS w g T i wr) (o : Obj) : RS w g T i (wr.alloc o) := h.below ((Below.refl _ _).alloc (Nat.le_refl _) _)

theorem RS.cells {w wr : World} {g : Nat} {T : List (List UInt8)} (h : RS w g T T.length wr) : ∀ j x, T[j]? = some x → wr.cell? ⟨g, j, none⟩ = some (.string ⟨x.toArray⟩) :=
  cell_enc (by have := h.row; rwa [rowT_all] at this) rfl

theorem RS.start {w0 w1 : World} {T : List (List UInt8)} {n : Nat} (hn : n = T.length) (h : w1.ownsRow w0.heap.size 9 1 (.slice (some ⟨w0.heap.size, 0, none⟩) n n) n (madeCells (Value.string ⟨#[]⟩).cells (n * 1)).toList) (hg : w0.grownBy w1 none) :
    RS w0 w0.heap.size T 0 w1 := by
  subst hn
  refine ⟨?_, (Below.refl _ _).grown hg (Nat.le_refl _) (fun k hk => by cases hk)⟩
  have e : (madeCells (Value.string ⟨#[]⟩).cells (T.length * 1)).toList = rowT T 0 := by
    rw [show (Value.string ⟨#[]⟩).cells = #[.string ⟨#[]⟩] from rfl, toList_madeCells_one]
    simp [rowT, encStr]
  rw [← e]
  exact h

set_option maxRecDepth 100000 in
set_option maxHeartbeats 3200000 in
theorem stream_string (l : List Lab) (ps : List Pr) (b : Nat) (va : Option Addr) (vc : Nat) (hF : Few l) (hN : Names l) (hP : ∀ p ∈ ps, PrOk p) (hps : ps.length ≤ 6) (w : World) (hM : MapAt w b l) (hV : PairsAt w va ps) (hT : Tabs w) :
    Calls Tryz.prog 59 #[.agg #[.map (some b), .slice va ps.length vc, .slice none 0 0]] w fun e w' => e = .returned (str (streamT l ps)) ∧ Below w.heap.size w w' := by
  obtain ⟨i0, hi, hz0, hz1, hz2⟩ := info_parts info9
  obtain ⟨n, hn⟩ : ∃ n, n = ps.length := ⟨_, rfl⟩
  obtain ⟨T, hTt⟩ : ∃ T, T = textsT ps := ⟨_, rfl⟩
  have hTl : n = T.length := by rw [hTt, hn]; simp [textsT]
  rw [← hn] at hps
  rw [← hn]
  have HF := Lib.hid hF
  have HN := Lib.hid hN
  have HP := Lib.hid hP
  have HM := Lib.hid hM
  have HV := Lib.hid hV
  have HT := Lib.hid hT
  have Hn := Lib.hid hn
  have HTt := Lib.hid hTt
  have HTl := Lib.hid hTl
  obtain ⟨w0, hw0⟩ : ∃ w0, w0 = w.alloc (.cells #[.map (some b), .slice va n vc, .slice none 0 0] 76) := ⟨_, rfl⟩
  have hB0 : Below w.heap.size w w0 := by rw [hw0]; exact (Below.refl _ _).alloc (Nat.le_refl _) _
  have hbox : ∀ wr, Below w0.heap.size w0 wr → wr.cell? ⟨w.heap.size, 0, none⟩ = some (.map (some b)) ∧ wr.cell? ⟨w.heap.size, 1, none⟩ = some (.slice va n vc) ∧ wr.cell? ⟨w.heap.size, 2, none⟩ = some (.slice none 0 0) := fun wr hb => by
    have hlt : w.heap.size < w0.heap.size := by rw [hw0]; simp
    refine ⟨(hb.cell (p := ⟨w.heap.size, 0, none⟩) hlt).trans ?_, (hb.cell (p := ⟨w.heap.size, 1, none⟩) hlt).trans ?_, (hb.cell (p := ⟨w.heap.size, 2, none⟩) hlt).trans ?_⟩ <;> rw [hw0] <;> simp
  have hs0 : w0.heap.size = w.heap.size + 1 := by rw [hw0]; simp
  have HB0 := Lib.hid hB0
  have HBOX := Lib.hid hbox
  have HW0 := Lib.hid hw0
  have HS0 := Lib.hid hs0
  clear hF hN hP hM hV hT hn hTt hTl hB0 hbox hw0 hs0
  go_enter Tryz.func59, Tryz.ntmps59
  go_wp2_with (first
    | (at_make; rw [← HW0.out]; refine wpList_make_full _ rfl _ _ 57 rfl w0.heap.size 9 i0 (.string ⟨#[]⟩) 1 Tryz.underlying57 hi hz0 hz1 _ _ _ _ n rfl rfl rfl rfl (by rw [hz2]; omega) (by unfold maxLen; omega) (Nat.le_refl _) ?_; intro w1 hrow1 hg1; have hRS := RS.start HTl.out hrow1 hg1; obtain ⟨x0, x1, x2⟩ := HBOX.out w1 hRS.bel)
    | go_in)
  have HRS := Lib.hid hRS
  clear hRS hrow1 hg1 x0 x1 x2
  go_loopw [21] (fun v21 wr => ∃ i, i ≤ n ∧ v21 = .int .i64 (i : Int) ∧ Hid (RS w0 w0.heap.size T i wr)) (fun v21 _ => n - (intOf v21).toNat)
  case atStart => exact ⟨0, Nat.zero_le _, rfl, HRS.out⟩
  case round =>
    obtain ⟨i, hk, rfl, HR⟩ := hrel
    rename World => wr
    by_cases hlt : i < n
    · obtain ⟨p, hp⟩ : ∃ p, ps[i]? = some p := ⟨ps[i]'(by rw [← Hn.out]; exact hlt), List.getElem?_eq_getElem _⟩
      have hBw : Below w.heap.size w wr := HB0.out.trans (HR.out.bel.mono HB0.out.size)
      obtain ⟨vb, vo, bv, rfl, k1, k2, hI⟩ := (HV.out.below hBw) i p hp
      have hok := HP.out p (List.mem_of_getElem? hp)
      have hx : T[i]? = some (pairT p.1 p.2) := by rw [HTt.out]; unfold textsT; rw [List.getElem?_map, hp]; rfl
      have hps' := fun W (hW : Below wr.heap.size wr W) => pair_string p.1 p.2 bv hI (valT_len p.1 hok.1.1 hok.1.2) hok.2.1 hok.2.2 W ((HT.out.below hBw).below hW)
      obtain ⟨x, hxe⟩ : ∃ x, x = pairT p.1 p.2 := ⟨_, rfl⟩
      rw [← hxe] at hx hps'
      obtain ⟨p1, p2⟩ := p
      dsimp only at k1 k2 hps'
      have HX := Lib.hid hx
      have HAL : Hid (Below wr.heap.size wr (wr.alloc (.cells #[.int .i64 p2, .float .f64 bv] 81))) := (Below.refl _ _).alloc (Nat.le_refl _) _
      have HPS := Lib.hid (hps' _ HAL.out)
      have hsh := HPS.out
      unfold str at hsh
      clear hps' hx hxe hok hI hBw hp HPS
      have hsf := fun (w : World) (a : Addr) => Go.run_store Tryz.prog w a (.float .f64 bv) .plain rfl
      go_wp2_with (go_at_call 85; (with_reducible refine hsh.mono ?_); rintro e w3 ⟨rfl, hb3⟩; have hr3 := Lib.hid ((HR.out.alloc (.cells #[.int .i64 p2, .float .f64 bv] 81)).below hb3); have f1 := hr3.out.cell (by rw [← HTl.out]; exact hlt); have f2 := hr3.out.frozen i; clear hb3)
      go_roundw
      case rel => exact ⟨i + 1, by omega, by go_num, hr3.out.step HX.out⟩
      case measure => simp [intOf]; omega
    · have hkn : i = n := by omega
      subst hkn
      obtain ⟨x0, x1, x2⟩ := HBOX.out wr HR.out.bel
      have hR := HR.out
      rw [HTl.out] at hR
      have HR' := Lib.hid hR
      have hBw : Below w.heap.size w wr := HB0.out.trans (HR.out.bel.mono HB0.out.size)
      have HBw := Lib.hid hBw
      have hms := metric_string l b HF.out HN.out wr (HM.out.below hBw) (HT.out.below hBw)
      have hml := metricT_len HF.out
      obtain ⟨mt, HMT⟩ : ∃ mt, Hid (mt = metricT l) := ⟨_, rfl⟩
      rw [← HMT.out] at hms hml
      have hT70 : ∀ t ∈ T, t.length ≤ 70 := fun t ht => by
        rw [HTt.out] at ht
        unfold textsT at ht
        obtain ⟨p, hp, rfl⟩ := List.mem_map.1 ht
        exact pairT_len p (HP.out p hp)
      have hjl := join_len T [10] 70 hT70
      have hjl2 : T.length * (70 + [(10 : UInt8)].length) ≤ 6 * 71 := Nat.mul_le_mul (by rw [← HTl.out]; omega) (by simp)
      have hj := fun W (hW : Below wr.heap.size wr W) => join_call T [10] w0.heap.size T.length 70 W (hR.below hW).cells (Nat.lt_of_lt_of_le hR.lt.2 hW.size) (by rw [← HTl.out]; omega) (Nat.le_refl _) hT70 (by simp)
      rw [← HTl.out] at hj
      obtain ⟨J, HJ⟩ : ∃ J, Hid (J = Lib.join T [10]) := ⟨_, rfl⟩
      rw [← HJ.out] at hj hjl
      obtain ⟨s1, S1, c1⟩ := cat_ex mt [32, 61, 62, 10] (by simp; omega)
      have n1 := cat_len S1
      obtain ⟨s2, S2, c2⟩ := cat_ex s1 J (by simp at n1; omega)
      unfold str at hms
      clear hjl hjl2 n1 hml hT70 hR hBw HR HRS
      go_wp2_with fail
      refine wp_loop_rounds 1 ?_
      rw [rounds_succ]
      go_wp2_with (first
        | (go_at_call 87; (with_reducible refine hms.mono ?_); rintro e w4 ⟨rfl, hb4⟩; have hj4 := hj w4 hb4)
        | (go_at_call 26; (with_reducible refine hj4.mono ?_); rintro e w5 ⟨rfl, hb5⟩)
        | go_in)
      go_ret
      refine ⟨?_, (HBw.out.trans (hb4.mono HBw.out.size)).trans (hb5.mono (Nat.le_trans HBw.out.size hb4.size))⟩
      unfold streamT
      rw [S2.out, S1.out, HJ.out, HMT.out, HTt.out]
      show Ending.returned (.string ⟨_⟩) = Ending.returned (.string ⟨_⟩)
      simp

end Go.Proofs.YtdeejmkjhmpabaaGreatDoor

/-
  impl.VectorSorted: what its closure does.
-/
import Derived.Test.YtdeejmkjhmpabaaGreatDoorV3
import Derived.Test.YtdeejmkjhmpabaaGreatDoorVa
import Derived.Test.YtdeejmkjhmpabaaGreatDoorV8
namespace Go.Proofs.YtdeejmkjhmpabaaGreatDoor
open Go.RowKit Go.Lib Go.Maps Go.WideMaps

/-- Which of the samples comes ahead. -/
def ltV (L : List Pt) (a b : Nat) : Bool := befT (L[a]!).1 (L[b]!).1

/-- The samples, arranged. -/
def arrV (L : List Pt) (n : Nat) (p : Nat → Nat) : List Pt := (lst n p).map fun k => L[k]!

theorem arrV_get (L : List Pt) (n : Nat) (p : Nat → Nat) (k : Nat) (hk : k < n) : (arrV L n p)[k]? = some (L[p k]!) := by
  simp [arrV, lst, hk]

theorem labs_grown {w w' : World} {g : Nat} {l : List Lab} {o : Option Nat} (h : LabsAt w (some ⟨g, 0, none⟩) l) (hg : w.grownBy w' o) (hne : l ≠ [] → some g ≠ o) : LabsAt w' (some ⟨g, 0, none⟩) l := by
  intro i x hx
  obtain ⟨b, off, he, h1, h2⟩ := h i x hx
  cases he
  have hlt : g < w.heap.size := World.block_lt_of_cell? w _ h1
  have hn := hne (fun e => by rw [e] at hx; simp at hx)
  exact ⟨g, 0, rfl, (grown_cell hg (p := ⟨g, 0 + i * 2, none⟩) hlt hn).1.trans h1, (grown_cell hg (p := ⟨g, 0 + i * 2 + 1, none⟩) hlt hn).1.trans h2⟩

/-- Labels do not lie in a row of samples. -/
theorem labs_off {w : World} {base g k : Nat} {l : List Lab} {Lp : List Pt} {S : Nat → PtM} {v : Value} (h : LabsAt w (some ⟨g, 0, none⟩) l) (hl : l ≠ []) (hrow : w.ownsRow base 41 3 v k (smpRow Lp S k)) (hk : 0 < k) : some g ≠ v.ownBlock := by
  intro e
  have hr := hrow
  rcases hrow.2 with ⟨hnil, _⟩ | ⟨N, cap, cur, hv, _⟩
  · rw [hnil] at e; cases e
  · rw [hv] at e hr
    cases e
    obtain ⟨x, l', rfl⟩ := List.exists_cons_of_ne_nil hl
    obtain ⟨b, off, he, h1, _⟩ := h 0 x rfl
    cases he
    have c := hr.cellAt 0 (by omega)
    obtain ⟨k', rfl⟩ : ∃ k', k = k' + 1 := ⟨k - 1, by omega⟩
    have e0 : (smpRow Lp S (k' + 1))[0]? = some (.slice (S 0).1 (Lp[0]!).1.length (S 0).2.1) := by
      unfold smpRow
      rw [List.range_succ_eq_map]
      rfl
    rw [e0] at c
    have h1' : w.cell? ⟨N, 0, none⟩ = some (str x.1) := h1
    rw [h1'] at c
    cases c

theorem smpRow_congr (L : List Pt) (S S' : Nat → PtM) : ∀ (k : Nat), (∀ j, j < k → S j = S' j) → smpRow L S k = smpRow L S' k := by
  intro k h
  unfold smpRow
  rw [List.flatMap_def, List.flatMap_def]
  congr 1
  apply List.map_congr_left
  intro j hj
  rw [h j (by simpa using hj)]

/-- append of one sample onto an own row. -/
theorem step_smpl {ops : Array Oper} {o : Oper} {a : Act} {K : Act → World → Prop} {Q : Exit → Act → World → Prop} {E : Prop} (w : World) (hgd : o.guard = none) (s x : Operand)
    (ho : o.op = .call { callee := .builtin .append, args := #[s, x], argTypes := #[25, 25] }) (base : Nat) (v : Value) (n : Nat) (xs : List Value) (la : Option Addr) (m lc : Nat) (ms : Int) (bv : Nat) (hs : a.eval s = v)
    (hown : w.ownsRow base 41 3 v n xs) (hx : a.eval x = .slice (some ⟨w.heap.size, 0, none⟩) 1 1) (hn : n ≤ 1000) (hbase : base ≤ w.heap.size)
    (h : ∀ v' w', w'.ownsRow base 41 3 v' (n + 1) (xs ++ [.slice la m lc, .int .u64 (bv : Nat), .int .i64 ms]) → (w.alloc (.cells #[.slice la m lc, .int .u64 (bv : Nat), .int .i64 ms] 41)).grownBy w' v.ownBlock → K (a.put o.dst v') w') :
    if Region.wanted o (yielded ops a.tmps) = true then Oper.wp Tryz.prog o a (w.alloc (.cells #[.slice la m lc, .int .u64 (bv : Nat), .int .i64 ms] 41)) K Q else E := by
  have hw : Region.wanted o (yielded ops a.tmps) = true := by simp [Region.wanted, hgd]
  rw [if_pos hw]
  obtain ⟨i, hi, hz0, hz1, hz2⟩ := info_parts info41
  refine wp_append_own _ s x 25 ho base 41 i _ 3 40 Tryz.underlying25 hi hz0 hz1 hz2 rfl (by decide) v n xs hs (hown.alloc _) ⟨w.heap.size, 0, none⟩ 1 1 [.slice la m lc, .int .u64 (bv : Nat), .int .i64 ms] hx rfl ?_ ?_ ?_ ?_ ?_ ?_
  · intro j y hj
    match j, hj with
    | 0, hj => simp at hj; subst hj; simp [Addr.add]
    | 1, hj => simp at hj; subst hj; simp [Addr.add]
    | 2, hj => simp at hj; subst hj; simp [Addr.add]
  · intro y hy; simp at hy; rcases hy with rfl | rfl | rfl <;> rfl
  · unfold maxLen; omega
  · omega
  · simp; omega
  · intro v' w' h1 h2 _
    exact h v' w' h1 h2

/-- What the loop that hands the samples out has made. -/
structure OV (w2 : World) (ob : Nat) (Lp : List Pt) (k : Nat) (S : Nat → PtM) (v : Value) (wq : World) : Prop where
  row : wq.ownsRow w2.heap.size 41 3 v k (smpRow Lp S k)
  cell : wq.cell? ⟨ob, 0, none⟩ = some v
  frz : wq.frozen? ⟨ob, 0, none⟩ = false
  gr : w2.grownBy wq (some ob)
  lab : ∀ j x, j < k → Lp[j]? = some x → ∃ g, (S j).1 = some ⟨g, 0, none⟩ ∧ LabsAt wq (some ⟨g, 0, none⟩) x.1 ∧ BvOf x.2.1 (S j).2.2 ∧ w2.heap.size ≤ g

theorem OV.step {w2 wq w3 w5 : World} {ob k g cap bv : Nat} {Lp : List Pt} {S : Nat → PtM} {v v' : Value} {x : Pt} (h : OV w2 ob Lp k S v wq) (hob : ob < w2.heap.size) (hx : Lp[k]? = some x) (hb3 : Below wq.heap.size wq w3) (hg : wq.heap.size ≤ g) (hL : LabsAt w3 (some ⟨g, 0, none⟩) x.1) (hbv : BvOf x.2.1 bv)
    (hrow : w5.ownsRow w2.heap.size 41 3 v' (k + 1) (smpRow Lp S k ++ [.slice (some ⟨g, 0, none⟩) x.1.length cap, .int .u64 (bv : Nat), .int .i64 x.2.2])) {o : Obj} (hgr : (w3.alloc o).grownBy w5 v.ownBlock) :
    OV w2 ob Lp (k + 1) (fun j => if j = k then (some ⟨g, 0, none⟩, cap, bv) else S j) v' (w5.setCell ⟨ob, 0, none⟩ v') := by
  have hown : ∀ N, v.ownBlock = some N → w2.heap.size ≤ N ∧ N < wq.heap.size := fun N hN => h.row.lt N hN
  have hown' : ∀ N, v'.ownBlock = some N → w2.heap.size ≤ N := fun N hN => (hrow.lt N hN).1
  have hsz : w2.heap.size ≤ wq.heap.size := h.gr.size
  have g35 : w3.grownBy w5 v.ownBlock := (World.grownBy_alloc w3 _ _).trans hgr
  have g5 : wq.grownBy w5 v.ownBlock := World.grownBy.trans ⟨hb3.os, hb3.tape, hb3.output, hb3.size, fun j hj _ => hb3.block j hj⟩ g35
  have gs : w5.grownBy (w5.setCell ⟨ob, 0, none⟩ v') (some ob) := setCell_grown w5 ⟨ob, 0, none⟩ v'
  have hob' : some ob ≠ v.ownBlock := fun e => by have := (hown ob e.symm).1; omega
  have hob2 : some ob ≠ v'.ownBlock := fun e => by have := hown' ob e.symm; omega
  obtain ⟨c5, f5⟩ := grown_cell g5 (p := ⟨ob, 0, none⟩) (by show ob < wq.heap.size; omega) hob'
  have hcong : smpRow Lp (fun j => if j = k then (some ⟨g, 0, none⟩, cap, bv) else S j) k = smpRow Lp S k := smpRow_congr _ _ _ k (fun j hj => by simp only [if_neg (by omega : ¬ j = k)])
  refine ⟨?_, World.cell?_setCell_same _ _ _ (c5.trans h.cell), by rw [World.frozen?_setCell]; exact f5.trans h.frz, ?_, ?_⟩
  · rw [smpRow_succ Lp _ k x hx, hcong]
    simp only [if_true]
    exact hrow.kept gs (Or.inr (fun e => hob2 e.symm))
  · exact ⟨gs.os.trans (g5.os.trans h.gr.os), gs.tape.trans (g5.tape.trans h.gr.tape), gs.output.trans (g5.output.trans h.gr.output), Nat.le_trans h.gr.size (Nat.le_trans g5.size gs.size), fun j hj hne =>
      (gs.block j (by have := g5.size; omega) hne).trans ((g5.block j (by omega) (fun e => by have := (hown j e.symm).1; omega)).trans (h.gr.block j hj hne))⟩
  · intro j y hj hy
    by_cases hjk : j = k
    · subst hjk
      rw [hx] at hy
      cases hy
      simp only [if_true]
      exact ⟨g, rfl, labs_grown (labs_grown hL g35 (fun _ e => by have := (hown g e.symm).2; omega)) gs (fun _ e => by cases e; omega), hbv, by omega⟩
    · simp only [if_neg hjk]
      obtain ⟨g', e1, e2, e3, e4⟩ := h.lab j y (by omega) hy
      exact ⟨g', e1, labs_grown (labs_grown e2 g5 (fun hne => labs_off e2 hne h.row (by omega))) gs (fun _ e => by cases e; omega), e3, e4⟩

/-- Block g holds pointers to the blocks Q (p k); but for it nothing has changed. -/
structure PV (w1 : World) (g n : Nat) (Q p : Nat → Nat) (w : World) : Prop where
  cell : ∀ k, k < n → w.cell? ⟨g, k, none⟩ = some (ptr (Q (p k)))
  frz : ∀ k, k < n → w.frozen? ⟨g, k, none⟩ = false
  gr : w1.grownBy w (some g)
  lt : 0 < n → g < w1.heap.size

theorem PV.below {w1 w w' : World} {g n : Nat} {Q p : Nat → Nat} (h : PV w1 g n Q p w) (hb : Below w.heap.size w w') : PV w1 g n Q p w' := by
  have hlt : 0 < n → g < w.heap.size := fun h0 => Nat.lt_of_lt_of_le (h.lt h0) h.gr.size
  exact ⟨fun k hk => (hb.cell (p := ⟨g, k, none⟩) (hlt (by omega))).trans (h.cell k hk), fun k hk => (hb.frozen (p := ⟨g, k, none⟩) (hlt (by omega))).trans (h.frz k hk), h.gr.trans ⟨hb.os, hb.tape, hb.output, hb.size, fun j hj _ => hb.block j hj⟩, h.lt⟩

theorem PV.swap {w1 w : World} {g n : Nat} {Q p : Nat → Nat} (h : PV w1 g n Q p w) {i j : Nat} (hi : i < n) (hj : j < n) (hij : i ≠ j) :
    PV w1 g n Q (swp p i j) ((w.setCell ⟨g, i, none⟩ (ptr (Q (p j)))).setCell ⟨g, j, none⟩ (ptr (Q (p i)))).drew := by
  have c1 := h.cell i hi
  have c2 := h.cell j hj
  have e1 : (w.setCell ⟨g, i, none⟩ (ptr (Q (p j)))).cell? ⟨g, j, none⟩ = some (ptr (Q (p j))) := by
    rw [World.cell?_setCell_other]
    · exact c2
    · intro e; injection e with _ e; exact hij e
  have gr2 : w1.grownBy ((w.setCell ⟨g, i, none⟩ (ptr (Q (p j)))).setCell ⟨g, j, none⟩ (ptr (Q (p i)))) (some g) := (h.gr.trans (setCell_grown w ⟨g, i, none⟩ _)).trans (setCell_grown _ ⟨g, j, none⟩ _)
  refine ⟨fun k hk => ?_, fun k hk => ?_, ⟨gr2.os, gr2.tape, gr2.output, gr2.size, gr2.block⟩, h.lt⟩
  · have c3 := h.cell k hk
    show ((w.setCell _ _).setCell _ _).cell? _ = _
    unfold swp
    by_cases h1 : k = j
    · subst h1
      rw [World.cell?_setCell_same (h := e1), if_neg (fun e => hij e.symm), if_pos rfl]
    · rw [World.cell?_setCell_other (h := fun e => by injection e with _ e; exact h1 e.symm)]
      by_cases h2 : k = i
      · subst h2
        rw [World.cell?_setCell_same (h := c1), if_pos rfl]
      · rw [World.cell?_setCell_other (h := fun e => by injection e with _ e; exact h2 e.symm), if_neg h2, if_neg h1]
        exact c3
  · show ((w.setCell _ _).setCell _ _).frozen? _ = _
    rw [World.frozen?_setCell, World.frozen?_setCell]
    exact h.frz k hk

/-- What vector hands, as the sort takes it. -/
theorem VO.pv {w w1 : World} {L : List Pt} {n : Nat} {Q Bm : Nat → Nat} {v : Value} (hn : L.length = n) (h : VO w L n Q Bm v w1) :
    ∃ ad cp g, v = .slice ad n cp ∧ (0 < n → ad = some ⟨g, 0, none⟩) ∧ w.heap.size ≤ g ∧ PV w1 g n Q (fun k => k) w1 ∧ (∀ k, k < n → ∀ W (o : Nat), (o = g ∨ o < w.heap.size) → ∀ W0, SmB W0 (Q k) (Bm k) (L[k]!) → W0.grownBy W (some o) → SmB W (Q k) (Bm k) (L[k]!)) ∧ (∀ k, k < n → SmB w1 (Q k) (Bm k) (L[k]!)) := by
  have hx : ∀ k, k < n → L[k]? = some (L[k]!) := fun k hk => by
    have : k < L.length := by omega
    rw [List.getElem?_eq_getElem this]; simp [this]
  have hs : ∀ k, k < n → SmB w1 (Q k) (Bm k) (L[k]!) := fun k hk => (h.smp k _ hk (hx k hk)).1
  have hr := h.row
  rcases h.row.2 with ⟨hnil, h0⟩ | ⟨g, cap, cur, hv, hbase, hb, _⟩
  · subst h0
    exact ⟨none, 0, w1.heap.size, hnil, fun h => by omega, h.bel.size, ⟨fun k hk => by omega, fun k hk => by omega, ⟨rfl, rfl, rfl, Nat.le_refl _, fun _ _ _ => rfl⟩, fun h => by omega⟩, fun k hk => by omega, hs⟩
  · refine ⟨some ⟨g, 0, none⟩, cap, g, hv, fun _ => rfl, hbase, ⟨fun k hk => ?_, fun k hk => by simp [World.frozen?, hb], ⟨rfl, rfl, rfl, Nat.le_refl _, fun _ _ _ => rfl⟩, fun _ => (Array.getElem?_eq_some_iff.1 hb).1⟩, fun k hk W o ho W0 hS hg => ?_, hs⟩
    · rw [hv] at hr
      rw [hr.cellAt k (by omega)]
      simp [hk]
    · obtain ⟨_, h2, h3, h4, h5⟩ := h.smp k _ hk (hx k hk)
      rw [hv] at h2 h3
      refine hS.grown hg (fun e => ?_) (fun e => ?_)
      · cases e
        rcases ho with ho | ho
        · exact h2 (by rw [ho]; rfl)
        · omega
      · cases e
        rcases ho with ho | ho
        · exact h3 (by rw [ho]; rfl)
        · omega

theorem VO.qlow {w w1 : World} {L : List Pt} {n : Nat} {Q Bm : Nat → Nat} {v : Value} (h : VO w L n Q Bm v w1) (hn : L.length = n) : ∀ k, k < n → w.heap.size ≤ Q k := fun k hk => by
  have hl : k < L.length := by omega
  exact (h.smp k L[k] hk (List.getElem?_eq_getElem hl)).2.2.2.1

end Go.Proofs.YtdeejmkjhmpabaaGreatDoor

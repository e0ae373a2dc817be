/-
  What FnMatrix makes: its streams in memory.
-/
import Derived.Test.YtdeejmkjhmpabaaGreatDoorS5
import Derived.Test.YtdeejmkjhmpabaaGreatDoorL6
import Derived.Test.YtdeejmkjhmpabaaGreatDoorSe
namespace Go.Proofs.YtdeejmkjhmpabaaGreatDoor
open Go.RowKit Go.Lib Go.Maps Go.WideMaps

/-- The pairs of stream i. -/
def prsOf (ps : List Int) (i : Nat) : List Pr := (List.range ps.length).map fun (k : Nat) => (ps[k]!, 1000 * (k : Int) + (i : Int))

theorem prsOf_len (ps : List Int) (i : Nat) : (prsOf ps i).length = ps.length := by simp [prsOf]

theorem prsOf_get (ps : List Int) (i k : Nat) (x : Int) (hx : ps[k]? = some x) : (prsOf ps i)[k]? = some (x, 1000 * (k : Int) + (i : Int)) := by
  obtain ⟨h1, h2⟩ := List.getElem?_eq_some_iff.1 hx
  unfold prsOf
  rw [List.getElem?_map, List.getElem?_range h1]
  simp only [Option.map_some, getElem!_pos ps k h1, h2]

theorem prsOf_mem (ps : List Int) (i : Nat) (p : Pr) (hp : p ∈ prsOf ps i) : p.1 ∈ ps ∧ ∃ k : Nat, k < ps.length ∧ p.2 = 1000 * (k : Int) + (i : Int) := by
  unfold prsOf at hp
  obtain ⟨k, hk, rfl⟩ := List.mem_map.1 hp
  have h1 : k < ps.length := by simpa using hk
  refine ⟨?_, k, h1, rfl⟩
  show ps[k]! ∈ ps
  rw [getElem!_pos ps k h1]
  exact List.getElem_mem h1

/-- The cells of samples without labels. -/
def smCells (xs : List (Nat × Int)) : List Value := xs.flatMap fun x => [.slice none 0 0, .int .u64 (x.1 : Nat), .int .i64 x.2]

theorem smCells_get (xs : List (Nat × Int)) : ∀ (i : Nat) (x : Nat × Int), xs[i]? = some x → (smCells xs)[i * 3]? = some (.slice none 0 0) ∧ (smCells xs)[i * 3 + 1]? = some (.int .u64 (x.1 : Nat)) ∧ (smCells xs)[i * 3 + 2]? = some (.int .i64 x.2) := by
  induction xs with
  | nil => intro i x h; simp at h
  | cons y l ih =>
    intro i x h
    have e : smCells (y :: l) = .slice none 0 0 :: .int .u64 (y.1 : Nat) :: .int .i64 y.2 :: smCells l := rfl
    rw [e]
    cases i with
    | zero => simp at h; subst h; exact ⟨rfl, rfl, rfl⟩
    | succ i =>
      simp at h
      have := ih i x h
      have e1 : (i + 1) * 3 = i * 3 + 1 + 1 + 1 := by omega
      rw [e1]
      simpa using this

/-- append of one sample onto an own row, as a step of a region that draws. -/
theorem step_smp {ops : Array Oper} {o : Oper} {a : Act} {K : Act → World → Prop} {Q : Exit → Act → World → Prop} {E : Prop} (w : World) (hgd : o.guard = none) (s x : Operand)
    (ho : o.op = .call { callee := .builtin .append, args := #[s, x], argTypes := #[25, 25] }) (base : Nat) (v : Value) (n : Nat) (xs : List Value) (ms : Int) (bv : Nat) (hs : a.eval s = v)
    (hown : w.ownsRow base 41 3 v n xs) (hx : a.eval x = .slice (some ⟨w.heap.size, 0, none⟩) 1 1) (hn : n ≤ 1000) (hbase : base ≤ w.heap.size)
    (h : ∀ v' w', w'.ownsRow base 41 3 v' (n + 1) (xs ++ [.slice none 0 0, .int .u64 (bv : Nat), .int .i64 ms]) → (w.alloc (.cells #[.slice none 0 0, .int .u64 (bv : Nat), .int .i64 ms] 41)).grownBy w' v.ownBlock → K (a.put o.dst v') w') :
    if Region.wanted o (yielded ops a.tmps) = true then Oper.wp Tryz.prog o a (w.alloc (.cells #[.slice none 0 0, .int .u64 (bv : Nat), .int .i64 ms] 41)) K Q else E := by
  have hw : Region.wanted o (yielded ops a.tmps) = true := by simp [Region.wanted, hgd]
  rw [if_pos hw]
  obtain ⟨i, hi, hz0, hz1, hz2⟩ := info_parts info41
  refine wp_append_own _ s x 25 ho base 41 i _ 3 40 Tryz.underlying25 hi hz0 hz1 hz2 rfl (by decide) v n xs hs (hown.alloc _) ⟨w.heap.size, 0, none⟩ 1 1 [.slice none 0 0, .int .u64 (bv : Nat), .int .i64 ms] hx rfl ?_ ?_ ?_ ?_ ?_ ?_
  · intro j y hj
    match j, hj with
    | 0, hj => simp at hj; subst hj; simp [Addr.add]
    | 1, hj => simp at hj; subst hj; simp [Addr.add]
    | 2, hj => simp at hj; subst hj; simp [Addr.add]
  · intro y hy; simp at hy; rcases hy with rfl | rfl | rfl <;> rfl
  · unfold maxLen; omega
  · omega
  · simp; omega
  · intro v' w' h1 h2 _
    exact h v' w' h1 h2

theorem info37 : (Tryz.prog.info? 37).map (fun i => (i.zero, i.size, i.bytes)) = some (some (.agg #[.slice none 0 0, .slice none 0 0]), 2, 48) := by kernel_rfl

/-- append of one stream onto an own row. -/
theorem wp_stm {ops : Array Oper} {rest : List Oper} {o : Oper} {a : Act} {Q : Exit → Act → World → Prop} (w : World) (hgd : o.guard = none) (s x : Operand)
    (ho : o.op = .call { callee := .builtin .append, args := #[s, x], argTypes := #[29, 29] }) (base : Nat) (v : Value) (n : Nat) (xs : List Value) (la pa : Option Addr) (l lc m pc : Nat) (hs : a.eval s = v)
    (hown : w.ownsRow base 37 2 v n xs) (hx : a.eval x = .slice (some ⟨w.heap.size, 0, none⟩) 1 1) (hn : n ≤ 1000) (hbase : base ≤ w.heap.size)
    (h : ∀ v' w', w'.ownsRow base 37 2 v' (n + 1) (xs ++ [.slice la l lc, .slice pa m pc]) → (w.alloc (.cells #[.slice la l lc, .slice pa m pc] 37)).grownBy w' v.ownBlock → (v'.ownBlock = v.ownBlock ∨ ∃ N, v'.ownBlock = some N ∧ w.heap.size ≤ N) → wpList Tryz.prog ops Q rest (a.put o.dst v') w') :
    wpList Tryz.prog ops Q (o :: rest) a (w.alloc (.cells #[.slice la l lc, .slice pa m pc] 37)) := by
  obtain ⟨i, hi, hz0, hz1, hz2⟩ := info_parts info37
  refine wpList_append_own_at _ hgd s x 29 ho base 37 i _ 2 48 Tryz.underlying29 hi hz0 hz1 hz2 rfl (by decide) v n xs hs (hown.alloc _) ⟨w.heap.size, 0, none⟩ 1 1 [.slice la l lc, .slice pa m pc] hx rfl ?_ ?_ ?_ ?_ ?_ ?_
  · intro j y hj
    match j, hj with
    | 0, hj => simp at hj; subst hj; simp [Addr.add]
    | 1, hj => simp at hj; subst hj; simp [Addr.add]
  · intro y hy; simp at hy; rcases hy with rfl | rfl <;> rfl
  · unfold maxLen; omega
  · omega
  · simp; omega
  · intro v' w' h1 h2 _ h4
    refine h v' w' h1 h2 ?_
    rcases h4 with h4 | h4
    · exact Or.inl h4
    · exact Or.inr ⟨_, h4, by simp⟩

/-- A stream in the making: block y; its pairs' row. -/
structure YS (wi : World) (y : Nat) (la v : Value) (k : Nat) (xs : List (Nat × Int)) (w : World) : Prop where
  gr : wi.grownBy w (some y)
  y0 : w.cell? ⟨y, 0, none⟩ = some la
  y1 : w.cell? ⟨y, 1, none⟩ = some v
  fz : w.frozen? ⟨y, 1, none⟩ = false
  row : w.ownsRow wi.heap.size 41 3 v k (smCells xs)
  lt : y < wi.heap.size

theorem YS.yrow {wi : World} {y : Nat} {la v : Value} {k : Nat} {xs : List (Nat × Int)} {w : World} (h : YS wi y la v k xs w) : some y ≠ v.ownBlock := row_ne_low h.row h.lt

theorem YS.step {wi wq w5 : World} {y : Nat} {la v v' : Value} {k : Nat} {xs : List (Nat × Int)} (h : YS wi y la v k xs wq) (A : World) (hA : Below wq.heap.size wq A) (ms : Int) (bv : Nat)
    (h5 : w5.ownsRow wi.heap.size 41 3 v' (k + 1) (smCells xs ++ [.slice none 0 0, .int .u64 (bv : Nat), .int .i64 ms]) ∧ (A.alloc (.cells #[.slice none 0 0, .int .u64 (bv : Nat), .int .i64 ms] 41)).grownBy w5 v.ownBlock) :
    YS wi y la v' (k + 1) (xs ++ [(bv, ms)]) (w5.setCell ⟨y, 1, none⟩ v') := by
  obtain ⟨hr, hg⟩ := h5
  have hyq : y < wq.heap.size := Nat.lt_of_lt_of_le h.lt h.gr.size
  have hb : Below wq.heap.size wq (A.alloc (.cells #[.slice none 0 0, .int .u64 (bv : Nat), .int .i64 ms] 41)) := hA.alloc hA.size _
  have gAll : wi.grownBy w5 (some y) :=
    (h.gr.andThen (row' := none) ⟨hb.os, hb.tape, hb.output, hb.size, fun i hi _ => hb.block i hi⟩ (fun j hj => by cases hj)).andThen hg (fun j hj => Or.inl (h.row.lt j hj).1)
  have hc : ∀ j u, wq.cell? ⟨y, j, none⟩ = some u → w5.cell? ⟨y, j, none⟩ = some u := fun j u hu =>
    (grown_cell hg (p := ⟨y, j, none⟩) (Nat.lt_of_lt_of_le hyq hb.size) h.yrow).1.trans ((hb.cell (p := ⟨y, j, none⟩) hyq).trans hu)
  have hf : w5.frozen? ⟨y, 1, none⟩ = false := (grown_cell hg (p := ⟨y, 1, none⟩) (Nat.lt_of_lt_of_le hyq hb.size) h.yrow).2.trans ((hb.frozen (p := ⟨y, 1, none⟩) hyq).trans h.fz)
  have hy5 : some y ≠ v'.ownBlock := row_ne_low hr h.lt
  refine ⟨gAll.trans (setCell_grown w5 _ _), ?_, World.cell?_setCell_same _ _ _ (hc 1 v h.y1), ?_, ?_, h.lt⟩
  · rw [World.cell?_setCell_other]
    · exact hc 0 _ h.y0
    · intro e; injection e with _ e; cases e
  · rw [World.frozen?_setCell]; exact hf
  · have e : smCells (xs ++ [(bv, ms)]) = smCells xs ++ [.slice none 0 0, .int .u64 (bv : Nat), .int .i64 ms] := by simp [smCells]
    rw [e]
    exact hr.kept (setCell_grown w5 ⟨y, 1, none⟩ v') (Or.inr (fun e => hy5 e.symm))

/-- The pairs, with bits. -/
def SBits (ps : List Pr) (xs : List (Nat × Int)) : Prop := xs.length = ps.length ∧ ∀ (j : Nat) (p : Pr), ps[j]? = some p → ∃ bv : Nat, xs[j]? = some (bv, p.2) ∧ IsT bv (decide (p.1 < 0)) (125 * p.1.natAbs)

theorem SBits.nil : SBits [] [] := ⟨rfl, fun j p h => by simp at h⟩
theorem SBits.snoc {ps : List Pr} {xs : List (Nat × Int)} (h : SBits ps xs) {p : Pr} {bv : Nat} (hb : IsT bv (decide (p.1 < 0)) (125 * p.1.natAbs)) : SBits (ps ++ [p]) (xs ++ [(bv, p.2)]) := by
  refine ⟨by simp [h.1], fun j q hq => ?_⟩
  by_cases hj : j < ps.length
  · rw [List.getElem?_append_left hj] at hq
    rw [List.getElem?_append_left (by rw [h.1]; exact hj)]
    exact h.2 j q hq
  · have hlt := (List.getElem?_eq_some_iff.1 hq).1
    simp at hlt
    have e : j = ps.length := by omega
    subst e
    rw [List.getElem?_append_right (Nat.le_refl _), Nat.sub_self] at hq
    simp at hq
    subst hq
    rw [← h.1, List.getElem?_append_right (Nat.le_refl _), Nat.sub_self]
    exact ⟨bv, rfl, hb⟩

/-- The slice pa holds the pairs, and does not lie in block g. -/
def PrOff (w : World) (g : Option Nat) (pa : Option Addr) (prs : List Pr) : Prop := SmpAt w pa prs ∧ ∀ ad, pa = some ad → some ad.block ≠ g ∧ ad.block < w.heap.size

theorem PrOff.step {w w' : World} {g g' : Option Nat} {pa : Option Addr} {prs : List Pr} (h : PrOff w g pa prs) (hg : w.grownBy w' g) (hl : g' = g ∨ ∃ N, g' = some N ∧ w.heap.size ≤ N) : PrOff w' g' pa prs := by
  obtain ⟨h1, n3⟩ := h
  have hne : ∀ N, N < w.heap.size → some N ≠ g → some N ≠ g' := fun N hN hNg => by
    rcases hl with rfl | ⟨N', rfl, hN'⟩
    · exact hNg
    · intro e; cases e; omega
  refine ⟨?_, fun ad had => ⟨hne _ (n3 ad had).2 (n3 ad had).1, Nat.lt_of_lt_of_le (n3 ad had).2 hg.size⟩⟩
  intro i p hp
  obtain ⟨b', o, bv, ha, c0, c1, c2, c3⟩ := h1 i p hp
  obtain ⟨m1, m2⟩ := n3 _ ha
  exact ⟨b', o, bv, ha, (grown_cell hg (p := ⟨b', o + i * 3, none⟩) m2 m1).1.trans c0, (grown_cell hg (p := ⟨b', o + i * 3 + 1, none⟩) m2 m1).1.trans c1, (grown_cell hg (p := ⟨b', o + i * 3 + 2, none⟩) m2 m1).1.trans c2, c3⟩

theorem YS.prs {wi wq : World} {y : Nat} {la v : Value} {ps : List Pr} {xs : List (Nat × Int)} (h : YS wi y la v ps.length xs wq) (hX : SBits ps xs) (g : Option Nat) (hg : ∀ N, g = some N → N < wi.heap.size) :
    ∃ pa pc, v = .slice pa ps.length pc ∧ PrOff wq g pa ps := by
  rcases h.row.2 with ⟨hnil, h0⟩ | ⟨gb, cap, cur, hv, hbase, hb, h1, h2, h3, h4⟩
  · have hps : ps = [] := List.eq_nil_of_length_eq_zero h0
    subst hps
    exact ⟨none, 0, hnil, fun i p hp => by simp at hp, fun ad had => by cases had⟩
  · subst hv
    refine ⟨_, _, rfl, fun i p hp => ?_, fun ad had => ?_⟩
    · obtain ⟨bv, hx, hI⟩ := hX.2 i p hp
      obtain ⟨c0, c1, c2⟩ := smCells_get xs i _ hx
      have hi : i < ps.length := (List.getElem?_eq_some_iff.1 hp).1
      refine ⟨gb, 0, bv, rfl, ?_, ?_, ?_, hI⟩
      · rw [Nat.zero_add, h.row.cellAt (i * 3) (by omega), c0]
      · rw [Nat.zero_add, h.row.cellAt (i * 3 + 1) (by omega), c1]
      · rw [Nat.zero_add, h.row.cellAt (i * 3 + 2) (by omega), c2]
    · cases had
      refine ⟨fun e => ?_, (Array.getElem?_eq_some_iff.1 hb).1⟩
      have := hg gb e.symm
      omega

/-- The cells of stream k. -/
def stF (L : List Pt) (m : Nat) (S : Nat → PtM) (Sp : Nat → Option Addr × Nat) (k : Nat) : List Value := [.slice (S k).1 (L[k]!).1.length (S k).2.1, .slice (Sp k).1 m (Sp k).2]

theorem stF_len (L : List Pt) (m : Nat) (S : Nat → PtM) (Sp : Nat → Option Addr × Nat) (k : Nat) : (stF L m S Sp k).length = 2 := rfl

/-- What the loop over the points has made. -/
structure OUT2 (W : World) (L : List Pt) (ps : List Int) (S : Nat → PtM) (Sp : Nat → Option Addr × Nat) (i : Nat) (v : Value) (wr : World) : Prop where
  row : wr.ownsRow W.heap.size 37 2 v i (rowS (stF L ps.length S Sp) (List.range i))
  bel : Below W.heap.size W wr
  str : ∀ k, k < i → PrOff wr v.ownBlock (Sp k).1 (prsOf ps k)
  nil : i = 0 → v = .slice none 0 0

theorem OUT2.step {W wr w5 : World} {L : List Pt} {ps : List Int} {S : Nat → PtM} {Sp : Nat → Option Addr × Nat} {i pc : Nat} {pa : Option Addr} {v v' : Value} {x : Pt} (h : OUT2 W L ps S Sp i v wr) (hx : L[i]? = some x) (g5 : wr.grownBy w5 v.ownBlock)
    (hrow : w5.ownsRow W.heap.size 37 2 v' (i + 1) (rowS (stF L ps.length S Sp) (List.range i) ++ [.slice (S i).1 x.1.length (S i).2.1, .slice pa ps.length pc])) (hl : v'.ownBlock = v.ownBlock ∨ ∃ N, v'.ownBlock = some N ∧ wr.heap.size ≤ N) (hy : PrOff w5 v'.ownBlock pa (prsOf ps i)) :
    OUT2 W L ps S (fun k => if k = i then (pa, pc) else Sp k) (i + 1) v' w5 := by
  refine ⟨?_, h.bel.grown g5 h.bel.size (fun k hk => (h.row.lt k hk).1), fun k hk => ?_, fun e => by omega⟩
  · have e : rowS (stF L ps.length S (fun k => if k = i then (pa, pc) else Sp k)) (List.range (i + 1)) = rowS (stF L ps.length S Sp) (List.range i) ++ [.slice (S i).1 x.1.length (S i).2.1, .slice pa ps.length pc] := by
      rw [List.range_succ, rowS_append]
      congr 1
      · unfold rowS
        rw [List.flatMap_def, List.flatMap_def]
        congr 1
        apply List.map_congr_left
        intro k hk
        have : k < i := by simpa using hk
        have hne : ¬ k = i := by omega
        simp only [stF, if_neg hne]
      · obtain ⟨h1, h2⟩ := List.getElem?_eq_some_iff.1 hx
        simp only [rowS, stF, List.flatMap_cons, List.flatMap_nil, List.append_nil, if_true, getElem!_pos L i h1, h2]
    rw [e]
    exact hrow
  · by_cases hki : k = i
    · subst hki
      simpa using hy
    · simp only [if_neg hki]
      exact (h.str k (by omega)).step g5 hl

/-- The streams. -/
def stmsOf (L : List Pt) (ps : List Int) : List Stm := (List.range L.length).map fun k => ((L[k]!).1, prsOf ps k)

theorem stmsOf_len (L : List Pt) (ps : List Int) : (stmsOf L ps).length = L.length := by simp [stmsOf]

theorem stmsOf_get (L : List Pt) (ps : List Int) (k : Nat) (s : Stm) (h : (stmsOf L ps)[k]? = some s) : ∃ x, L[k]? = some x ∧ s = (x.1, prsOf ps k) := by
  have hk : k < L.length := by have := (List.getElem?_eq_some_iff.1 h).1; rwa [stmsOf_len] at this
  unfold stmsOf at h
  rw [List.getElem?_map, List.getElem?_range hk] at h
  simp only [Option.map_some] at h
  cases h
  exact ⟨L[k], List.getElem?_eq_getElem hk, by rw [getElem!_pos L k hk]⟩

theorem stmsOf_at (L : List Pt) (ps : List Int) (k : Nat) (x : Pt) (h : L[k]? = some x) : (stmsOf L ps)[k]! = (x.1, prsOf ps k) := by
  obtain ⟨hk, hx⟩ := List.getElem?_eq_some_iff.1 h
  have e : (stmsOf L ps)[k]? = some (x.1, prsOf ps k) := by
    unfold stmsOf
    rw [List.getElem?_map, List.getElem?_range hk]
    simp only [Option.map_some, getElem!_pos L k hk, hx]
  rw [List.getElem!_eq_getElem?_getD, e]
  rfl

theorem OUT2.stm {W wr : World} {L : List Pt} {ps : List Int} {S : Nat → PtM} {Sp : Nat → Option Addr × Nat} {v : Value} (h : OUT2 W L ps S Sp L.length v wr) (hlab : ∀ k x, L[k]? = some x → LabsAt W (S k).1 x.1) :
    ∃ ad cp, v = .slice ad L.length cp ∧ StmIn wr ad (stmsOf L ps) := by
  obtain ⟨ad, cp, hv, _, _, hnone, hsome⟩ := ownsRow_form h.row
  refine ⟨ad, cp, hv, fun i s hs => ?_⟩
  obtain ⟨x, hx, rfl⟩ := stmsOf_get L ps i s hs
  obtain ⟨hi, hxi⟩ := List.getElem?_eq_some_iff.1 hx
  cases ad with
  | none => have := (hnone rfl).1; omega
  | some a =>
    obtain ⟨ha, _, _⟩ := hsome a rfl
    have hr := h.row
    rw [hv, ha] at hr
    have hg := rowS_get (stF_len L ps.length S Sp) (List.range L.length) i i (List.getElem?_range hi)
    have e : (L[i]!).1.length = x.1.length := by rw [getElem!_pos L i hi, hxi]
    refine ⟨a.block, 0, (S i).1, (S i).2.1, (Sp i).1, (Sp i).2, by rw [← ha], ?_, ?_, (hlab i x hx).below h.bel, (h.str i hi).1⟩
    · rw [Nat.zero_add, hr.cellAt (i * 2) (by omega), hg.1]
      show some (Value.slice (S i).1 (L[i]!).1.length (S i).2.1) = _
      rw [e]
    · rw [Nat.zero_add, hr.cellAt (i * 2 + 1) (by omega), hg.2]
      show some (Value.slice (Sp i).1 ps.length (Sp i).2) = _
      rw [prsOf_len]

end Go.Proofs.YtdeejmkjhmpabaaGreatDoor

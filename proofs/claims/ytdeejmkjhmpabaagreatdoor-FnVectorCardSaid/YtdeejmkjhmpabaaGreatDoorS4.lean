/-
  The making of a matrix: the closure of impl.MatrixText.
-/
import Derived.Test.YtdeejmkjhmpabaaGreatDoorS3
import Derived.Test.YtdeejmkjhmpabaaGreatDoorSf
import Derived.Test.YtdeejmkjhmpabaaGreatDoorFa
import Derived.Deep.RegionLaw
namespace Go.Proofs.YtdeejmkjhmpabaaGreatDoor
open Go.RowKit Go.Lib Go.Maps Go.WideMaps

/-- The slice a holds samples without labels: the pairs. -/
def SmpAt (w : World) (a : Option Addr) (ps : List Pr) : Prop :=
  ∀ i p, ps[i]? = some p → ∃ b o bv, a = some ⟨b, o, none⟩ ∧ w.cell? ⟨b, o + i * 3, none⟩ = some (.slice none 0 0) ∧ w.cell? ⟨b, o + i * 3 + 1, none⟩ = some (.int .u64 (bv : Nat)) ∧ w.cell? ⟨b, o + i * 3 + 2, none⟩ = some (.int .i64 p.2) ∧ IsT bv (decide (p.1 < 0)) (125 * p.1.natAbs)

theorem SmpAt.below {w w' : World} {a : Option Addr} {ps : List Pr} (h : SmpAt w a ps) (hb : Below w.heap.size w w') : SmpAt w' a ps := by
  intro i p hp
  obtain ⟨b, o, bv, ha, h0, h1, h2, h3⟩ := h i p hp
  have hlt : b < w.heap.size := World.block_lt_of_cell? w _ h1
  exact ⟨b, o, bv, ha, (hb.cell (p := ⟨b, o + i * 3, none⟩) hlt).trans h0, (hb.cell (p := ⟨b, o + i * 3 + 1, none⟩) hlt).trans h1, (hb.cell (p := ⟨b, o + i * 3 + 2, none⟩) hlt).trans h2, h3⟩

/-- The cells of pairs, with the bits at hand. -/
def prCells (xs : List (Int × Nat)) : List Value := xs.flatMap fun x => [.int .i64 x.1, .float .f64 x.2]

theorem info81 : (Tryz.prog.info? 81).map (fun i => (i.zero, i.size, i.bytes)) = some (some (.agg #[.int .i64 0, .float .f64 0]), 2, 16) := by kernel_rfl
theorem info68b : (Tryz.prog.info? 68).map (fun i => (i.zero, i.size, i.bytes)) = some (some (.pointer none), 1, 8) := by kernel_rfl

/-- append of one pair onto an own row, as a step of a region that draws. -/
theorem step_pair {ops : Array Oper} {o : Oper} {a : Act} {K : Act → World → Prop} {Q : Exit → Act → World → Prop} {E : Prop} (w : World) (hgd : o.guard = none) (s x : Operand)
    (ho : o.op = .call { callee := .builtin .append, args := #[s, x], argTypes := #[73, 73] }) (base : Nat) (v : Value) (n : Nat) (xs : List Value) (ms : Int) (bv : Nat) (hs : a.eval s = v)
    (hown : w.ownsRow base 81 2 v n xs) (hx : a.eval x = .slice (some ⟨w.heap.size, 0, none⟩) 1 1) (hn : n ≤ 1000) (hbase : base ≤ w.heap.size)
    (h : ∀ v' w', w'.ownsRow base 81 2 v' (n + 1) (xs ++ [.int .i64 ms, .float .f64 bv]) → (w.alloc (.cells #[.int .i64 ms, .float .f64 bv] 81)).grownBy w' v.ownBlock → K (a.put o.dst v') w') :
    if Region.wanted o (yielded ops a.tmps) = true then Oper.wp Tryz.prog o a (w.alloc (.cells #[.int .i64 ms, .float .f64 bv] 81)) K Q else E := by
  have hw : Region.wanted o (yielded ops a.tmps) = true := by simp [Region.wanted, hgd]
  rw [if_pos hw]
  obtain ⟨i, hi, hz0, hz1, hz2⟩ := info_parts info81
  refine wp_append_own _ s x 73 ho base 81 i _ 2 16 Tryz.underlying73 hi hz0 hz1 hz2 rfl (by decide) v n xs hs (hown.alloc _) ⟨w.heap.size, 0, none⟩ 1 1 [.int .i64 ms, .float .f64 bv] hx rfl ?_ ?_ ?_ ?_ ?_ ?_
  · intro j y hj
    match j, hj with
    | 0, hj => simp at hj; subst hj; simp [Addr.add]
    | 1, hj => simp at hj; subst hj; simp [Addr.add]
  · intro y hy; simp at hy; rcases hy with rfl | rfl <;> rfl
  · unfold maxLen; omega
  · omega
  · simp; omega
  · intro v' w' h1 h2 _
    exact h v' w' h1 h2

/-- A stream in the making: block y; its pairs' row. -/
structure YN (wi : World) (y b : Nat) (v : Value) (k : Nat) (xs : List (Int × Nat)) (w : World) : Prop where
  gr : wi.grownBy w (some y)
  y0 : w.cell? ⟨y, 0, none⟩ = some (.map (some b))
  y1 : w.cell? ⟨y, 1, none⟩ = some v
  y2 : w.cell? ⟨y, 2, none⟩ = some (.slice none 0 0)
  fz : w.frozen? ⟨y, 1, none⟩ = false
  row : w.ownsRow wi.heap.size 81 2 v k (prCells xs)
  lt : y < wi.heap.size

theorem grown_cell {w w' : World} {row : Option Nat} (hg : w.grownBy w' row) {p : Addr} (hlt : p.block < w.heap.size) (hne : some p.block ≠ row) : w'.cell? p = w.cell? p ∧ w'.frozen? p = w.frozen? p :=
  ⟨World.cell?_of_block (w := w) (hg.block p.block hlt hne), World.frozen?_of_block (w := w) (hg.block p.block hlt hne)⟩

theorem row_some {w : World} {base : Nat} {e : TypeId} {size : Nat} {v : Value} {n : Nat} {xs : List Value} (h : w.ownsRow base e size v n xs) (hn : n ≠ 0) : ∃ g cap, v = .slice (some ⟨g, 0, none⟩) n cap := by
  rcases h.2 with ⟨_, h0⟩ | ⟨g, cap, cur, hv, _⟩
  · exact absurd h0 hn
  · exact ⟨g, cap, hv⟩

theorem YN.yrow {wi : World} {y b : Nat} {v : Value} {k : Nat} {xs : List (Int × Nat)} {w : World} (h : YN wi y b v k xs w) : some y ≠ v.ownBlock := row_ne_low h.row h.lt

theorem setCell_grown (w : World) (a : Addr) (v : Value) : w.grownBy (w.setCell a v) (some a.block) :=
  ⟨rfl, rfl, rfl, by simp, fun k _ hk => heap_setCell_other w a k v (fun e => hk (by rw [e]))⟩

theorem YN.step {wi wq w5 : World} {y b : Nat} {v v' : Value} {k : Nat} {xs : List (Int × Nat)} {o : Obj} (h : YN wi y b v k xs wq) (A : World) (hA : A = wq.alloc o) (ms : Int) (bv : Nat)
    (h5 : w5.ownsRow wi.heap.size 81 2 v' (k + 1) (prCells xs ++ [.int .i64 ms, .float .f64 bv]) ∧ (A.drew.alloc (.cells #[.int .i64 ms, .float .f64 bv] 81)).grownBy w5 v.ownBlock) :
    YN wi y b v' (k + 1) (xs ++ [(ms, bv)]) (w5.setCell ⟨y, 1, none⟩ v') := by
  obtain ⟨hr, hg⟩ := h5
  have hyq : y < wq.heap.size := Nat.lt_of_lt_of_le h.lt h.gr.size
  have hb : Below wq.heap.size wq (A.drew.alloc (.cells #[.int .i64 ms, .float .f64 bv] 81)) := by
    rw [hA]
    exact (((Below.refl _ wq).alloc (Nat.le_refl _) o).drew).alloc (by simp) _
  have gAll : wi.grownBy w5 (some y) :=
    (h.gr.andThen (row' := none) ⟨hb.os, hb.tape, hb.output, hb.size, fun i hi _ => hb.block i hi⟩ (fun j hj => by cases hj)).andThen hg (fun j hj => Or.inl (h.row.lt j hj).1)
  have hc : ∀ j u, wq.cell? ⟨y, j, none⟩ = some u → w5.cell? ⟨y, j, none⟩ = some u := fun j u hu =>
    (grown_cell hg (p := ⟨y, j, none⟩) (Nat.lt_of_lt_of_le hyq hb.size) h.yrow).1.trans ((hb.cell (p := ⟨y, j, none⟩) hyq).trans hu)
  have hf : w5.frozen? ⟨y, 1, none⟩ = false := (grown_cell hg (p := ⟨y, 1, none⟩) (Nat.lt_of_lt_of_le hyq hb.size) h.yrow).2.trans ((hb.frozen (p := ⟨y, 1, none⟩) hyq).trans h.fz)
  have hy5 : some y ≠ v'.ownBlock := row_ne_low hr h.lt
  refine ⟨gAll.trans (setCell_grown w5 _ _), ?_, World.cell?_setCell_same _ _ _ (hc 1 v h.y1), ?_, ?_, ?_, h.lt⟩
  · rw [World.cell?_setCell_other]
    · exact hc 0 _ h.y0
    · intro e; injection e with _ e; cases e
  · rw [World.cell?_setCell_other]
    · exact hc 2 _ h.y2
    · intro e; injection e with _ e; cases e
  · rw [World.frozen?_setCell]; exact hf
  · have e : prCells (xs ++ [(ms, bv)]) = prCells xs ++ [.int .i64 ms, .float .f64 bv] := by simp [prCells]
    rw [e]
    exact hr.kept (setCell_grown w5 ⟨y, 1, none⟩ v') (Or.inr (fun e => hy5 e.symm))

/-- The pairs ps, with bits. -/
def Bits (ps : List Pr) (xs : List (Int × Nat)) : Prop := xs.length = ps.length ∧ ∀ (j : Nat) (p : Pr), ps[j]? = some p → ∃ bv : Nat, xs[j]? = some (p.2, bv) ∧ IsT bv (decide (p.1 < 0)) (125 * p.1.natAbs)

theorem Bits.nil : Bits [] [] := ⟨rfl, fun j p h => by simp at h⟩
theorem Bits.snoc {ps : List Pr} {xs : List (Int × Nat)} (h : Bits ps xs) {p : Pr} {bv : Nat} (hb : IsT bv (decide (p.1 < 0)) (125 * p.1.natAbs)) : Bits (ps ++ [p]) (xs ++ [(p.2, bv)]) := by
  refine ⟨by simp [h.1], fun j q hq => ?_⟩
  by_cases hj : j < ps.length
  · rw [List.getElem?_append_left hj] at hq
    rw [List.getElem?_append_left (by rw [h.1]; exact hj)]
    exact h.2 j q hq
  · have hlt := (List.getElem?_eq_some_iff.1 hq).1
    simp at hlt
    have e : j = ps.length := by omega
    subst e
    rw [List.getElem?_append_right (Nat.le_refl _), Nat.sub_self] at hq
    simp at hq
    subst hq
    rw [← h.1, List.getElem?_append_right (Nat.le_refl _), Nat.sub_self]
    exact ⟨bv, rfl, hb⟩

/-- The slice a holds streams. -/
def StmIn (w : World) (a : Option Addr) (L : List Stm) : Prop :=
  ∀ i x, L[i]? = some x → ∃ b o la lc pa pc, a = some ⟨b, o, none⟩ ∧ w.cell? ⟨b, o + i * 2, none⟩ = some (.slice la x.1.length lc) ∧ w.cell? ⟨b, o + i * 2 + 1, none⟩ = some (.slice pa x.2.length pc) ∧ LabsAt w la x.1 ∧ SmpAt w pa x.2

/-- Block q is the stream, and no part of it lies in block g. -/
def StmOff (w : World) (g : Option Nat) (q : Nat) (s : Stm) : Prop :=
  ∃ b va vc, w.cell? ⟨q, 0, none⟩ = some (.map (some b)) ∧ w.cell? ⟨q, 1, none⟩ = some (.slice va s.2.length vc) ∧ w.cell? ⟨q, 2, none⟩ = some (.slice none 0 0) ∧ MapAt w b s.1 ∧ PairsAt w va s.2 ∧
    some q ≠ g ∧ some b ≠ g ∧ (∀ ad, va = some ad → some ad.block ≠ g ∧ ad.block < w.heap.size)

theorem StmOff.at {w : World} {g : Option Nat} {q : Nat} {s : Stm} (h : StmOff w g q s) : StmAt w q s := by
  obtain ⟨b, va, vc, h1, h2, h3, h4, h5, _⟩ := h
  exact ⟨b, va, vc, h1, h2, h3, h4, h5⟩

/-- What the outer loop has made. -/
structure OUT (w : World) (L : List Stm) (i : Nat) (Q : Nat → Nat) (v : Value) (wr : World) : Prop where
  row : wr.ownsRow w.heap.size 68 1 v i ((List.range i).map fun k => ptr (Q k))
  bel : Below w.heap.size w wr
  str : ∀ k x, k < i → L[k]? = some x → StmOff wr v.ownBlock (Q k) x

theorem StmOff.step {w w' : World} {g g' : Option Nat} {q : Nat} {s : Stm} (h : StmOff w g q s) (hg : w.grownBy w' g) (hl : g' = g ∨ ∃ N, g' = some N ∧ w.heap.size ≤ N) : StmOff w' g' q s := by
  obtain ⟨b, va, vc, h1, h2, h3, h4, h5, n1, n2, n3⟩ := h
  have hq : q < w.heap.size := World.block_lt_of_cell? w _ h1
  have hb : b < w.heap.size := h4.lt
  have hne : ∀ N, N < w.heap.size → some N ≠ g → some N ≠ g' := fun N hN hNg => by
    rcases hl with rfl | ⟨N', rfl, hN'⟩
    · exact hNg
    · intro e; cases e; omega
  refine ⟨b, va, vc, (grown_cell hg (p := ⟨q, 0, none⟩) hq n1).1.trans h1, (grown_cell hg (p := ⟨q, 1, none⟩) hq n1).1.trans h2, (grown_cell hg (p := ⟨q, 2, none⟩) hq n1).1.trans h3, ?_, ?_, hne q hq n1, hne b hb n2, fun ad had => ⟨hne _ (n3 ad had).2 (n3 ad had).1, Nat.lt_of_lt_of_le (n3 ad had).2 hg.size⟩⟩
  · obtain ⟨es, clock, k1, k2⟩ := h4
    exact ⟨es, clock, (hg.block b hb n2).trans k1, k2⟩
  · intro i p hp
    obtain ⟨b', o, bv, ha, c1, c2, c3⟩ := h5 i p hp
    obtain ⟨m1, m2⟩ := n3 _ ha
    exact ⟨b', o, bv, ha, (grown_cell hg (p := ⟨b', o + i * 2, none⟩) m2 m1).1.trans c1, (grown_cell hg (p := ⟨b', o + i * 2 + 1, none⟩) m2 m1).1.trans c2, c3⟩

theorem prCells_get (xs : List (Int × Nat)) : ∀ (i : Nat) (x : Int × Nat), xs[i]? = some x → (prCells xs)[i * 2]? = some (.int .i64 x.1) ∧ (prCells xs)[i * 2 + 1]? = some (.float .f64 x.2) := by
  induction xs with
  | nil => intro i x h; simp at h
  | cons y l ih =>
    intro i x h
    have e : prCells (y :: l) = .int .i64 y.1 :: .float .f64 y.2 :: prCells l := rfl
    rw [e]
    cases i with
    | zero => simp at h; subst h; exact ⟨rfl, rfl⟩
    | succ i =>
      simp at h
      have := ih i x h
      have e1 : (i + 1) * 2 = i * 2 + 1 + 1 := by omega
      rw [e1]
      simpa using this

/-- The stream that has been made. -/
theorem YN.stm {wi w2 wq : World} {y b : Nat} {v : Value} {l : List Lab} {ps : List Pr} {xs : List (Int × Nat)} (h : YN wi y b v ps.length xs wq) (hM : MapAt w2 b l) (hby : b ≠ y) (hB : Below w2.heap.size w2 wi) (hX : Bits ps xs) (g : Option Nat) (hg : ∀ N, g = some N → N < b ∧ N < y ∧ N < wi.heap.size) :
    StmOff wq g y (l, ps) := by
  have hbi : MapAt wi b l := hM.below hB
  have hblt : b < wi.heap.size := hbi.lt
  have hne : ∀ N, (N = b ∨ N = y ∨ wi.heap.size ≤ N) → some N ≠ g := fun N hN e => by
    obtain ⟨h1, h2, h3⟩ := hg N e.symm
    omega
  have hmq : MapAt wq b l := by
    obtain ⟨es, clock, k1, k2⟩ := hbi
    exact ⟨es, clock, (h.gr.block b hblt (fun e => hby (by cases e; rfl))).trans k1, k2⟩
  rcases h.row.2 with ⟨hnil, h0⟩ | ⟨gb, cap, cur, hv, hbase, hb, h1, h2, h3, h4⟩
  · subst hnil
    have hps : ps = [] := List.eq_nil_of_length_eq_zero h0
    subst hps
    exact ⟨b, none, 0, h.y0, h.y1, h.y2, hmq, fun i p hp => by simp at hp, hne y (Or.inr (Or.inl rfl)), hne b (Or.inl rfl), fun ad had => by cases had⟩
  · subst hv
    refine ⟨b, _, _, h.y0, h.y1, h.y2, hmq, fun i p hp => ?_, hne y (Or.inr (Or.inl rfl)), hne b (Or.inl rfl), fun ad had => ?_⟩
    · obtain ⟨bv, hx, hI⟩ := hX.2 i p hp
      obtain ⟨c1, c2⟩ := prCells_get xs i _ hx
      have hi : i < ps.length := (List.getElem?_eq_some_iff.1 hp).1
      refine ⟨gb, 0, bv, rfl, ?_, ?_, hI⟩
      · rw [Nat.zero_add, h.row.cellAt (i * 2) (by omega), c1]
      · rw [Nat.zero_add, h.row.cellAt (i * 2 + 1) (by omega), c2]
    · cases had
      exact ⟨hne gb (Or.inr (Or.inr hbase)), (Array.getElem?_eq_some_iff.1 hb).1⟩

/-- append of one pointer onto an own row. -/
theorem wp_ptr {ops : Array Oper} {rest : List Oper} {o : Oper} {a : Act} {Q : Exit → Act → World → Prop} (w : World) (hgd : o.guard = none) (s x : Operand)
    (ho : o.op = .call { callee := .builtin .append, args := #[s, x], argTypes := #[67, 67] }) (base : Nat) (v : Value) (n : Nat) (xs : List Value) (q : Nat) (hs : a.eval s = v)
    (hown : w.ownsRow base 68 1 v n xs) (hx : a.eval x = .slice (some ⟨w.heap.size, 0, none⟩) 1 1) (hn : n ≤ 1000) (hbase : base ≤ w.heap.size)
    (h : ∀ v' w', w'.ownsRow base 68 1 v' (n + 1) (xs ++ [ptr q]) → (w.alloc (.cells #[.pointer (some ⟨q, 0, none⟩)] 68)).grownBy w' v.ownBlock → (v'.ownBlock = v.ownBlock ∨ ∃ N, v'.ownBlock = some N ∧ w.heap.size ≤ N) → wpList Tryz.prog ops Q rest (a.put o.dst v') w') :
    wpList Tryz.prog ops Q (o :: rest) a (w.alloc (.cells #[.pointer (some ⟨q, 0, none⟩)] 68)) := by
  obtain ⟨i, hi, hz0, hz1, hz2⟩ := info_parts info68
  refine wpList_append_own_at _ hgd s x 67 ho base 68 i _ 1 8 Tryz.underlying67 hi hz0 hz1 hz2 rfl (by decide) v n xs hs (hown.alloc _) ⟨w.heap.size, 0, none⟩ 1 1 [ptr q] hx rfl ?_ ?_ ?_ ?_ ?_ ?_
  · intro j y hj
    match j, hj with
    | 0, hj => simp at hj; subst hj; simp [Addr.add, ptr]
  · intro y hy; simp at hy; subst hy; rfl
  · unfold maxLen; omega
  · omega
  · simp; omega
  · intro v' w' h1 h2 _ h4
    refine h v' w' h1 h2 ?_
    rcases h4 with h4 | h4
    · exact Or.inl h4
    · exact Or.inr ⟨_, h4, by simp⟩

theorem OUT.step {w wr w5 : World} {L : List Stm} {i y : Nat} {Q : Nat → Nat} {v v' : Value} {x : Stm} (h : OUT w L i Q v wr) (hx : L[i]? = some x) (g5 : wr.grownBy w5 v.ownBlock)
    (hrow : w5.ownsRow w.heap.size 68 1 v' (i + 1) ((List.range i).map (fun k => ptr (Q k)) ++ [ptr y])) (hl : v'.ownBlock = v.ownBlock ∨ ∃ N, v'.ownBlock = some N ∧ wr.heap.size ≤ N) (hy : StmOff w5 v'.ownBlock y x) :
    OUT w L (i + 1) (fun k => if k = i then y else Q k) v' w5 := by
  refine ⟨?_, h.bel.grown g5 h.bel.size (fun k hk => (h.row.lt k hk).1), fun k x' hk hx' => ?_⟩
  · have e : (List.range (i + 1)).map (fun k => ptr (if k = i then y else Q k)) = (List.range i).map (fun k => ptr (Q k)) ++ [ptr y] := by
      rw [List.range_succ, List.map_append]
      congr 1
      · apply List.map_congr_left
        intro k hk
        have : k < i := by simpa using hk
        rw [if_neg (by omega)]
      · simp
    rw [e]
    exact hrow
  · by_cases hki : k = i
    · subst hki
      rw [hx] at hx'
      cases hx'
      simpa using hy
    · simp only [if_neg hki]
      exact (h.str k x' (by omega) hx').step g5 hl

set_option maxRecDepth 100000 in
set_option maxHeartbeats 6400000 in
theorem matrix_make (L : List Stm) (n sc lb sb : Nat) (sa : Option Addr) (hL : ∀ x ∈ L, StmOk x) (hn : L.length = n) (hn6 : n ≤ 6) (hO : Ord2 n (ltS fun k => L[k]!)) (w : World) (hI : StmIn w sa L) (hT : Tabs w) (hlb : w.cell? ⟨lb, 0, none⟩ = some (.slice sa n sc)) (hsb : w.cell? ⟨sb, 0, none⟩ = some (.string ⟨#[]⟩)) (hfz : w.frozen? ⟨sb, 0, none⟩ = false) :
    Calls Tryz.prog 30 #[.pointer (some ⟨lb, 0, none⟩), .pointer (some ⟨sb, 0, none⟩)] w fun e w' => e = .returned (.tuple #[]) ∧ ∃ w1 p, Below w.heap.size w w1 ∧ Arr n p ∧ Srt (ltS fun k => L[k]!) n p ∧ w' = w1.setCell ⟨sb, 0, none⟩ (str (Lib.join ((lst n p).map fun k => streamT (L[k]!).1 (L[k]!).2) [10])) := by
  have HL := Lib.hid hL
  have Hn := Lib.hid hn
  have HO := Lib.hid hO
  have HI := Lib.hid hI
  have HT := Lib.hid hT
  have HSB := Lib.hid hsb
  have HFZ := Lib.hid hfz
  clear hL hn hO hI hT hsb hfz
  go_enter Tryz.func30, Tryz.ntmps30
  go_wp2_with fail
  go_loopw [2, 10] (fun v2 v10 wr => ∃ i Q, i ≤ n ∧ v10 = .int .i64 (i : Int) ∧ Hid (OUT w L i Q v2 wr)) (fun _ v10 _ => n - (intOf v10).toNat)
  case atStart => exact ⟨0, fun k => k, Nat.zero_le _, rfl, World.ownsRow_nil _ _ _ _, Below.refl _ _, fun k x h => by omega⟩
  case round =>
    obtain ⟨i, Q, hk, rfl, HOUT⟩ := hrel
    rename World => wr
    by_cases hlt : i < n
    · obtain ⟨x, hx⟩ : ∃ x, L[i]? = some x := ⟨L[i]'(by rw [Hn.out]; exact hlt), List.getElem?_eq_getElem _⟩
      have hxok := HL.out x (List.mem_of_getElem? hx)
      obtain ⟨b0, o0, la, lc, pa, pc, rfl, c1, c2, hla, hpa⟩ := HI.out i x hx
      have hbel := HOUT.out.bel
      have c1' := (hbel.cell (p := ⟨b0, o0 + i * 2, none⟩) (World.block_lt_of_cell? w _ c1)).trans c1
      have c2' := (hbel.cell (p := ⟨b0, o0 + i * 2 + 1, none⟩) (World.block_lt_of_cell? w _ c2)).trans c2
      obtain ⟨l, ps⟩ := x
      dsimp only at c1' c2' hla hpa
      obtain ⟨m, hm⟩ : ∃ m, m = ps.length := ⟨_, rfl⟩
      obtain ⟨ll, hll⟩ : ∃ ll, ll = l.length := ⟨_, rfl⟩
      obtain ⟨w1, hw1⟩ : ∃ w1, w1 = wr.alloc (.cells #[.slice la ll lc, .slice pa m pc] 37) := ⟨_, rfl⟩
      have hb1 : Below wr.heap.size wr w1 := by rw [hw1]; exact (Below.refl _ _).alloc (Nat.le_refl _) _
      have hB1 : Below w.heap.size w w1 := hbel.trans (hb1.mono hbel.size)
      have hset := set_any l la lc hxok.1 w1 (hla.below hB1)
      have d2 : ∀ W, Below w1.heap.size w1 W → W.cell? ⟨wr.heap.size, 1, none⟩ = some (.slice pa m pc) := fun W hW => by
        refine (hW.cell (p := ⟨wr.heap.size, 1, none⟩) (by rw [hw1]; simp)).trans ?_
        rw [hw1]; simp
      have HW1 := Lib.hid hw1
      have HB1 := Lib.hid hB1
      have Hb1 := Lib.hid hb1
      have HD2 := Lib.hid d2
      have HX := Lib.hid hx
      have HXOK := Lib.hid hxok
      have HLA := Lib.hid hla
      have HPA := Lib.hid hpa
      have Hm := Lib.hid hm
      have Hll := Lib.hid hll
      rw [← hll] at c1' hset
      rw [← hm] at c2'
      clear hbel hx hxok hla hpa c1 c2 hw1 hb1 hB1 d2 hm hll
      go_wp2_with (first
        | (rw [← HW1.out]; go_at_call 31; (with_reducible refine hset.mono ?_); rintro e w2 ⟨rfl, hM2, hb2⟩; have hd := HD2.out (w2.alloc (.cells #[.map (some w1.heap.size), .slice none 0 0, .slice none 0 0] 76)) (hb2.alloc hb2.size _); have Hb2 := Lib.hid hb2; clear hb2)
        | go_in)
      obtain ⟨wi, hwi⟩ : ∃ wi, wi = w2.alloc (.cells #[.map (some w1.heap.size), .slice none 0 0, .slice none 0 0] 76) := ⟨_, rfl⟩
      rw [← hwi] at hd ⊢
      have hY : YN wi w2.heap.size w1.heap.size (.slice none 0 0) 0 [] wi := by
        refine ⟨⟨rfl, rfl, rfl, Nat.le_refl _, fun _ _ _ => rfl⟩, ?_, ?_, ?_, ?_, World.ownsRow_nil _ _ _ _, ?_⟩ <;> rw [hwi] <;> simp
      have HY := Lib.hid hY
      have HWI := Lib.hid hwi
      have HM2 := Lib.hid hM2
      clear hY hwi hM2 hd c1' c2'
      go_loopw [22] (fun v22 wq => ∃ k v xs, k ≤ m ∧ v22 = .int .i64 (k : Int) ∧ Hid (YN wi w2.heap.size w1.heap.size v k xs wq) ∧ Hid (Bits (ps.take k) xs)) (fun v22 _ => m - (intOf v22).toNat)
      case atStart => exact ⟨0, _, [], Nat.zero_le _, rfl, HY.out, Bits.nil⟩
      case round =>
        obtain ⟨k, v, xs, hkm, rfl, HYK, HBT⟩ := hrel
        rename World => wq
        by_cases hlt2 : k < m
        · obtain ⟨q, hq⟩ : ∃ q, ps[k]? = some q := ⟨ps[k]'(by rw [← Hm.out]; exact hlt2), List.getElem?_eq_getElem _⟩
          obtain ⟨b3, o3, bv, hpae, e0, e1, e2, hIT⟩ := HPA.out k q hq
          subst hpae
          have hyw : w.heap.size ≤ w2.heap.size := Nat.le_trans HB1.out.size Hb2.out.size
          have hBi : Below w.heap.size w wi := by rw [HWI.out]; exact (HB1.out.trans (Hb2.out.mono HB1.out.size)).alloc hyw _
          have hBq : Below w.heap.size w wq := hBi.grown HYK.out.gr hBi.size (fun j hj => by cases hj; exact hyw)
          have g0 := (hBq.cell (p := ⟨b3, o3 + k * 3, none⟩) (World.block_lt_of_cell? w _ e0)).trans e0
          have g1 := (hBq.cell (p := ⟨b3, o3 + k * 3 + 1, none⟩) (World.block_lt_of_cell? w _ e1)).trans e1
          have g2 := (hBq.cell (p := ⟨b3, o3 + k * 3 + 2, none⟩) (World.block_lt_of_cell? w _ e2)).trans e2
          obtain ⟨q1, ms⟩ := q
          dsimp only at g2 hIT
          obtain ⟨A, hA⟩ : ∃ A, A = wq.alloc (.cells #[.slice none 0 0, .int .u64 (bv : Nat), .int .i64 ms] 41) := ⟨_, rfl⟩
          have hAa : Below wq.heap.size wq A := by rw [hA]; exact (Below.refl _ _).alloc (Nat.le_refl _) _
          have hyq : w2.heap.size < wq.heap.size := Nat.lt_of_lt_of_le HYK.out.lt HYK.out.gr.size
          have hy1 : A.cell? ⟨w2.heap.size, 1, none⟩ = some v := (hAa.cell (p := ⟨w2.heap.size, 1, none⟩) hyq).trans HYK.out.y1
          have hyf : A.frozen? ⟨w2.heap.size, 1, none⟩ = false := (hAa.frozen (p := ⟨w2.heap.size, 1, none⟩) hyq).trans HYK.out.fz
          have hrowA := HYK.out.row.alloc (.cells #[.slice none 0 0, .int .u64 (bv : Nat), .int .i64 ms] 41)
          rw [← hA] at hrowA
          have ha1 : A.cell? ⟨wq.heap.size, 1, none⟩ = some (.int .u64 (bv : Nat)) := by rw [hA]; simp
          have ha2 : A.cell? ⟨wq.heap.size, 2, none⟩ = some (.int .i64 ms) := by rw [hA]; simp
          have hAs : wi.heap.size ≤ A.heap.size := Nat.le_trans HYK.out.gr.size hAa.size
          have hc32 := c32 bv
          have hk1000 : k ≤ 1000 := by have h1 := HXOK.out.2.2.2; have h2 := Hm.out; dsimp only at h1; omega
          have HKEEP : Hid (∀ W, (A.drew.alloc (.cells #[.int .i64 ms, .float .f64 bv] 81)).grownBy W v.ownBlock → W.cell? ⟨w2.heap.size, 1, none⟩ = some v ∧ W.frozen? ⟨w2.heap.size, 1, none⟩ = false) := fun W hW => by
            have hlt : w2.heap.size < A.heap.size := Nat.lt_of_lt_of_le hyq hAa.size
            have hb : Below A.heap.size A (A.drew.alloc (.cells #[.int .i64 ms, .float .f64 bv] 81)) := ((Below.refl _ A).drew).alloc (Nat.le_refl _) _
            obtain ⟨h1, h2⟩ := grown_cell hW (p := ⟨w2.heap.size, 1, none⟩) (Nat.lt_of_lt_of_le hlt hb.size) HYK.out.yrow
            exact ⟨h1.trans ((hb.cell (p := ⟨w2.heap.size, 1, none⟩) hlt).trans hy1), h2.trans ((hb.frozen (p := ⟨w2.heap.size, 1, none⟩) hlt).trans hyf)⟩
          have hy1' : (A.alloc (.cells #[.int .i64 ms, .float .f64 bv] 81)).cell? ⟨w2.heap.size, 1, none⟩ = some v := (((Below.refl _ A).alloc (Nat.le_refl _) _).cell (p := ⟨w2.heap.size, 1, none⟩) (Nat.lt_of_lt_of_le hyq hAa.size)).trans hy1
          have HA := Lib.hid hA
          have HROWA := Lib.hid hrowA
          have HAA := Lib.hid hAa
          have HBQ := Lib.hid hBq
          have HIT := Lib.hid hIT
          have HQ := Lib.hid hq
          clear hA hrowA hAa hBq hIT hq hBi e0 e1 e2
          go_wp2_with fail
          rw [← HA.out]
          go_region_law (refine step_pair A.drew rfl (.tmp 30) (.tmp 37) rfl wi.heap.size v k (prCells xs) ms bv (by simp [Act.eval]) HROWA.out (by simp [Act.eval]) hk1000 hAs ?_; intro v' w5 hrow5 hg5; obtain ⟨g5, cap5, hv5⟩ := row_some hrow5 (Nat.succ_ne_zero k); subst hv5; obtain ⟨f1, f2⟩ := HKEEP.out _ hg5; have H5 := Lib.hid (And.intro hrow5 hg5); clear hrow5 hg5)
          all_goals
            go_wp2
            go_roundw
            case rel => exact ⟨k + 1, _, xs ++ [(ms, bv)], by omega, by go_num, HYK.out.step A HA.out ms bv H5.out, by show Bits _ _; rw [take_snoc' ps k (q1, ms) HQ.out]; exact HBT.out.snoc HIT.out⟩
            case measure => simp [intOf]; omega
        · have hke : k = m := by omega
          subst hke
          have hbt := HBT.out
          rw [Hm.out, List.take_length] at hbt
          have hyk := HYK.out
          have hmp := Hm.out
          rw [hmp] at hyk
          have hM2 := HM2.out
          have hBwi : Below w2.heap.size w2 wi := by rw [HWI.out]; exact (Below.refl _ _).alloc (Nat.le_refl _) _
          have hb2y : w1.heap.size ≠ w2.heap.size := by have := hM2.lt; omega
          have hwr1 : wr.heap.size ≤ w1.heap.size := Hb1.out.size
          have hw12 : w1.heap.size ≤ w2.heap.size := Hb2.out.size
          have hB12 : Below wr.heap.size wr wi := (Hb1.out.trans (Hb2.out.mono Hb1.out.size)).trans (hBwi.mono (Nat.le_trans hwr1 hw12))
          have hgq : wr.grownBy wq none := ⟨hyk.gr.os.trans hB12.os, hyk.gr.tape.trans hB12.tape, hyk.gr.output.trans hB12.output, Nat.le_trans hB12.size hyk.gr.size, fun j hj _ => (hyk.gr.block j (Nat.lt_of_lt_of_le hj hB12.size) (fun e => by cases e; omega)).trans (hB12.block j hj)⟩
          have hgo : ∀ N, u2.ownBlock = some N → N < wr.heap.size := fun N hN => (HOUT.out.row.lt N hN).2
          have hstm : StmOff wq u2.ownBlock w2.heap.size (l, ps) := hyk.stm hM2 hb2y hBwi hbt _ (fun N hN => by have := hgo N hN; have := hBwi.size; omega)
          have hrq : wq.ownsRow w.heap.size 68 1 u2 i ((List.range i).map fun k => ptr (Q k)) := HOUT.out.row.kept hgq (by cases u2.ownBlock <;> simp)
          have hsz : w.heap.size ≤ wq.heap.size := Nat.le_trans HOUT.out.bel.size hgq.size
          have HSTM := Lib.hid hstm
          have HGQ := Lib.hid hgq
          have HRQ := Lib.hid hrq
          clear hbt hyk hM2 hBwi hB12 hgo hstm hgq hrq hmp hb2y hwr1 hw12
          go_wp2_with (at_builtin; refine wp_ptr _ rfl _ _ rfl w.heap.size u2 i _ w2.heap.size rfl HRQ.out rfl (by omega) hsz ?_; intro v' w5 hrow5 hg5 hl5; have HFIN := Lib.hid (And.intro hrow5 (And.intro hg5 hl5)); clear hrow5 hg5 hl5)
          go_roundw
          case rel =>
            obtain ⟨hrow5, hg5, hl5⟩ := HFIN.out
            have hg6 : wq.grownBy w5 u2.ownBlock := (World.grownBy_alloc wq _ _).trans hg5
            have hg7 : wr.grownBy w5 u2.ownBlock := (HGQ.out.but _).trans hg6
            refine ⟨i + 1, _, by omega, by go_num, HOUT.out.step HX.out hg7 hrow5 ?_ (HSTM.out.step hg6 hl5)⟩
            rcases hl5 with hl5 | ⟨N, hl5, hN⟩
            · exact Or.inl hl5
            · exact Or.inr ⟨N, hl5, Nat.le_trans HGQ.out.size hN⟩
          case measure => simp [intOf]; omega
    · have hkn : i = n := by omega
      subst hkn
      have hsx : ∀ k, k < i → L[k]? = some (L[k]!) := fun k hk => by
        have : k < L.length := by rw [Hn.out]; exact hk
        rw [List.getElem?_eq_getElem this]; simp [this]
      have hout := HOUT.out
      have hv : ∃ ad cp, u2 = .slice ad i cp ∧ ∀ k, k < i → ∃ b o, ad = some ⟨b, o, none⟩ ∧ wr.cell? ⟨b, o + k, none⟩ = some (ptr (Q k)) := by
        rcases hout.row.2 with ⟨hnil, h0⟩ | ⟨g, cap, cur, hv, _⟩
        · subst h0
          exact ⟨_, _, hnil, fun k hk => by omega⟩
        · refine ⟨_, _, hv, fun k hk => ⟨g, 0, rfl, ?_⟩⟩
          have hr := hout.row
          rw [hv] at hr
          rw [Nat.zero_add, hr.cellAt k (by omega)]
          simp [hk]
      obtain ⟨ad, cp, rfl, hcells⟩ := hv
      have hms := matrix_string i cp ad Q (fun k => L[k]!) hn6 (fun k hk => HL.out _ (List.mem_of_getElem? (hsx k hk))) HO.out wr hcells (fun k hk => (hout.str k _ hk (hsx k hk)).at) (HT.out.below hout.bel)
      have HBR := Lib.hid hout.bel
      have f0 : ∀ W, Below wr.heap.size wr W → W.cell? ⟨sb, 0, none⟩ = some (.string ⟨#[]⟩) ∧ W.frozen? ⟨sb, 0, none⟩ = false := fun W hW => by
        have hlt : sb < w.heap.size := World.block_lt_of_cell? w _ HSB.out
        have hb := HBR.out.trans (hW.mono HBR.out.size)
        exact ⟨(hb.cell (p := ⟨sb, 0, none⟩) hlt).trans HSB.out, (hb.frozen (p := ⟨sb, 0, none⟩) hlt).trans HFZ.out⟩
      have HF0 := Lib.hid f0
      clear hsx hout hcells f0
      go_wp2_with (go_at_call 33; (with_reducible refine hms.mono ?_); rintro e w6 ⟨⟨p, hA, hS, rfl⟩, hb6⟩; obtain ⟨z1, z2⟩ := HF0.out w6 hb6; unfold str)
      go_end0
      exact ⟨rfl, w6, p, HBR.out.trans (hb6.mono HBR.out.size), hA, hS, by simp [str]⟩

end Go.Proofs.YtdeejmkjhmpabaaGreatDoor

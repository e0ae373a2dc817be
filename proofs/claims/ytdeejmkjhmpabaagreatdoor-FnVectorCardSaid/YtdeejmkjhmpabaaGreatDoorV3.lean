/-
  impl.vector.
-/
import Derived.Test.YtdeejmkjhmpabaaGreatDoorV2
namespace Go.Proofs.YtdeejmkjhmpabaaGreatDoor
open Go.RowKit Go.Lib Go.Maps Go.WideMaps

/-- The slice a holds samples as the laws hand them. -/
def VecIn (w : World) (a : Option Addr) (L : List Pt) (S : Nat → PtM) : Prop :=
  ∀ i x, L[i]? = some x → ∃ b o, a = some ⟨b, o, none⟩ ∧ w.cell? ⟨b, o + i * 3, none⟩ = some (.slice (S i).1 x.1.length (S i).2.1) ∧ w.cell? ⟨b, o + i * 3 + 1, none⟩ = some (.int .u64 ((S i).2.2 : Nat)) ∧ w.cell? ⟨b, o + i * 3 + 2, none⟩ = some (.int .i64 x.2.2) ∧
    LabsAt w (S i).1 x.1 ∧ BvOf x.2.1 (S i).2.2

theorem VecIn.below {w w' : World} {a : Option Addr} {L : List Pt} {S : Nat → PtM} (h : VecIn w a L S) (hb : Below w.heap.size w w') : VecIn w' a L S := by
  intro i x hx
  obtain ⟨b, o, ha, h0, h1, h2, h3, h4⟩ := h i x hx
  have hlt : b < w.heap.size := World.block_lt_of_cell? w _ h1
  exact ⟨b, o, ha, (hb.cell (p := ⟨b, o + i * 3, none⟩) hlt).trans h0, (hb.cell (p := ⟨b, o + i * 3 + 1, none⟩) hlt).trans h1, (hb.cell (p := ⟨b, o + i * 3 + 2, none⟩) hlt).trans h2, h3.below hb, h4⟩

theorem info88 : (Tryz.prog.info? 88).map (fun i => (i.zero, i.size, i.bytes)) = some (some (.pointer none), 1, 8) := by kernel_rfl

/-- append of one pointer onto an own row of pointers to samples. -/
theorem wp_ptr88 {ops : Array Oper} {rest : List Oper} {o : Oper} {a : Act} {Q : Exit → Act → World → Prop} (w : World) (hgd : o.guard = none) (s x : Operand)
    (ho : o.op = .call { callee := .builtin .append, args := #[s, x], argTypes := #[84, 84] }) (base : Nat) (v : Value) (n : Nat) (xs : List Value) (q : Nat) (hs : a.eval s = v)
    (hown : w.ownsRow base 88 1 v n xs) (hx : a.eval x = .slice (some ⟨w.heap.size, 0, none⟩) 1 1) (hn : n ≤ 1000) (hbase : base ≤ w.heap.size)
    (h : ∀ v' w', w'.ownsRow base 88 1 v' (n + 1) (xs ++ [ptr q]) → (w.alloc (.cells #[.pointer (some ⟨q, 0, none⟩)] 88)).grownBy w' v.ownBlock → (v'.ownBlock = v.ownBlock ∨ ∃ N, v'.ownBlock = some N ∧ w.heap.size ≤ N) → wpList Tryz.prog ops Q rest (a.put o.dst v') w') :
    wpList Tryz.prog ops Q (o :: rest) a (w.alloc (.cells #[.pointer (some ⟨q, 0, none⟩)] 88)) := by
  obtain ⟨i, hi, hz0, hz1, hz2⟩ := info_parts info88
  refine wpList_append_own_at _ hgd s x 84 ho base 88 i _ 1 8 Tryz.underlying84 hi hz0 hz1 hz2 rfl (by decide) v n xs hs (hown.alloc _) ⟨w.heap.size, 0, none⟩ 1 1 [ptr q] hx rfl ?_ ?_ ?_ ?_ ?_ ?_
  · intro j y hj
    match j, hj with
    | 0, hj => simp at hj; subst hj; simp [Addr.add, ptr]
  · intro y hy; simp at hy; subst hy; rfl
  · unfold maxLen; omega
  · omega
  · simp; omega
  · intro v' w' h1 h2 _ h4
    refine h v' w' h1 h2 ?_
    rcases h4 with h4 | h4
    · exact Or.inl h4
    · exact Or.inr ⟨_, h4, by simp⟩

/-- What the loop over the samples has made. -/
structure VO (w : World) (L : List Pt) (i : Nat) (Q Bm : Nat → Nat) (v : Value) (wr : World) : Prop where
  row : wr.ownsRow w.heap.size 88 1 v i ((List.range i).map fun k => ptr (Q k))
  bel : Below w.heap.size w wr
  smp : ∀ k x, k < i → L[k]? = some x → SmB wr (Q k) (Bm k) x ∧ some (Q k) ≠ v.ownBlock ∧ some (Bm k) ≠ v.ownBlock ∧ w.heap.size ≤ Q k ∧ w.heap.size ≤ Bm k
  nil : i = 0 → v = .slice none 0 0

theorem VO.step {w wr w2 w5 : World} {L : List Pt} {i q b : Nat} {Q Bm : Nat → Nat} {v v' : Value} {x : Pt} (h : VO w L i Q Bm v wr) (hx : L[i]? = some x) (hB2 : Below wr.heap.size wr w2) (hS : SmB w2 q b x) (hq : wr.heap.size ≤ q) (hb : wr.heap.size ≤ b)
    (hrow : w5.ownsRow w.heap.size 88 1 v' (i + 1) ((List.range i).map (fun k => ptr (Q k)) ++ [ptr q])) (hg : (w2.alloc (.cells #[.pointer (some ⟨q, 0, none⟩)] 88)).grownBy w5 v.ownBlock) (hl : v'.ownBlock = v.ownBlock ∨ ∃ N, v'.ownBlock = some N ∧ w2.heap.size ≤ N) :
    VO w L (i + 1) (fun k => if k = i then q else Q k) (fun k => if k = i then b else Bm k) v' w5 := by
  have hg2 : w2.grownBy w5 v.ownBlock := (World.grownBy_alloc w2 _ _).trans hg
  have hg0 : wr.grownBy w5 v.ownBlock := World.grownBy.trans ⟨hB2.os, hB2.tape, hB2.output, hB2.size, fun j hj _ => hB2.block j hj⟩ hg2
  have hown : ∀ N, v.ownBlock = some N → N < wr.heap.size := fun N hN => (h.row.lt N hN).2
  have hqlt : q < w2.heap.size := hS.lt
  have hblt : b < w2.heap.size := by obtain ⟨_, _, _, _, _, hM, _⟩ := hS; exact hM.lt
  have off : ∀ N, N < w2.heap.size → some N ≠ v.ownBlock → some N ≠ v'.ownBlock := fun N hN hne => by
    rcases hl with hl | ⟨M, hl, hM⟩
    · rw [hl]; exact hne
    · rw [hl]; intro e; cases e; omega
  have hqo : some q ≠ v.ownBlock := fun e => by have := hown q e.symm; omega
  have hbo : some b ≠ v.ownBlock := fun e => by have := hown b e.symm; omega
  refine ⟨?_, h.bel.grown hg0 h.bel.size (fun k hk => (h.row.lt k hk).1), fun k x' hk hx' => ?_, fun e => by omega⟩
  · have e : (List.range (i + 1)).map (fun k => ptr (if k = i then q else Q k)) = (List.range i).map (fun k => ptr (Q k)) ++ [ptr q] := by
      rw [List.range_succ, List.map_append]
      congr 1
      · apply List.map_congr_left
        intro k hk
        have : k < i := by simpa using hk
        rw [if_neg (by omega)]
      · simp
    rw [e]
    exact hrow
  · by_cases hki : k = i
    · subst hki
      rw [hx] at hx'
      cases hx'
      simp only [if_true]
      exact ⟨hS.grown hg2 hqo hbo, off q hqlt hqo, off b hblt hbo, Nat.le_trans h.bel.size hq, Nat.le_trans h.bel.size hb⟩
    · simp only [if_neg hki]
      obtain ⟨k1, k2, k3, k4, k5⟩ := h.smp k x' (by omega) hx'
      have hQ : Q k < wr.heap.size := k1.lt
      have hBm : Bm k < wr.heap.size := by obtain ⟨_, _, _, _, _, hM, _⟩ := k1; exact hM.lt
      exact ⟨k1.grown hg0 k2 k3, off _ (Nat.lt_of_lt_of_le hQ hB2.size) k2, off _ (Nat.lt_of_lt_of_le hBm hB2.size) k3, k4, k5⟩

/-- What vector hands. -/
def VEnd (L : List Pt) (n : Nat) (w : World) (e : Ending) (w' : World) : Prop := ∃ v Q Bm, e = .returned v ∧ VO w L n Q Bm v w'

set_option maxRecDepth 100000 in
set_option maxHeartbeats 3200000 in
/-- impl.vector. -/
theorem vector_any (L : List Pt) (S : Nat → PtM) (n : Nat) (a : Option Addr) (c : Nat) (hn : L.length = n) (hn12 : n ≤ 12) (hF : ∀ x ∈ L, Few x.1) (w : World) (hV : VecIn w a L S) :
    Calls Tryz.prog 35 #[.slice a n c] w (VEnd L n w) := by
  have HN := Lib.hid hn
  have HF := Lib.hid hF
  have HV := Lib.hid hV
  clear hn hF hV
  go_enter Tryz.func35, Tryz.ntmps35
  go_wp2_with fail
  go_loopw [3, 8] (fun v3 v8 wr => ∃ i Q Bm, i ≤ n ∧ v8 = .int .i64 (i : Int) ∧ Hid (VO w L i Q Bm v3 wr)) (fun _ v8 _ => n - (intOf v8).toNat)
  case atStart => exact ⟨0, fun k => k, fun k => k, Nat.zero_le _, rfl, World.ownsRow_nil _ _ _ _, Below.refl _ _, fun k x h => by omega, fun _ => rfl⟩
  case round =>
    obtain ⟨i, Q, Bm, hi, rfl, HO⟩ := hrel
    rename World => wr
    by_cases hlt : i < n
    · obtain ⟨x, hx⟩ : ∃ x, L[i]? = some x := ⟨L[i]'(by rw [HN.out]; exact hlt), List.getElem?_eq_getElem _⟩
      obtain ⟨b, o, rfl, c0, c1, c2, hla, hbv⟩ := (HV.out.below HO.out.bel) i x hx
      obtain ⟨la, hla'⟩ : ∃ la, la = (S i).1 := ⟨_, rfl⟩
      obtain ⟨lc, hlc'⟩ : ∃ lc, lc = (S i).2.1 := ⟨_, rfl⟩
      obtain ⟨bv, hbv'⟩ : ∃ bv, bv = (S i).2.2 := ⟨_, rfl⟩
      rw [← hla', ← hlc'] at c0
      rw [← hbv'] at c1 hbv
      rw [← hla'] at hla
      obtain ⟨m, hm⟩ : ∃ m, x.1.length = m := ⟨_, rfl⟩
      rw [hm] at c0
      have hsm := sample_any x m la lc bv hm (HF.out x (List.mem_of_getElem? hx)) hbv (wr.alloc (.cells #[.slice la m lc, .int .u64 (bv : Nat), .int .i64 x.2.2] 41)) (hla.below ((Below.refl _ _).alloc (Nat.le_refl _) _))
      obtain ⟨ms, hms⟩ : ∃ ms, ms = x.2.2 := ⟨_, rfl⟩
      rw [← hms] at c2 hsm
      have HX := Lib.hid hx
      clear hx hla hbv hla' hlc' hbv' hm hms
      go_wp2_with (first
        | (go_at_call 60; (with_reducible refine hsm.mono ?_); rintro e w2 ⟨q, bm, rfl, hSm, hbm, hqm, _, hB2⟩; have hB2' : Below wr.heap.size wr w2 := ((Below.refl _ _).alloc (Nat.le_refl _) _).trans (hB2.mono (by simp)); have hrow2 := row_below HO.out.row hB2'; have hsz2 := Nat.le_trans HO.out.bel.size hB2'.size; have HS2 := Lib.hid (And.intro hSm (And.intro hbm (And.intro hqm hB2'))); clear hSm hbm hqm hB2 hB2'; unfold ptr)
        | (at_builtin; refine wp_ptr88 _ rfl _ _ rfl w.heap.size u3 i _ q rfl hrow2 rfl (by omega) hsz2 ?_; intro v' w5 hrow5 hg5 hl5; have HFIN := Lib.hid (And.intro hrow5 (And.intro hg5 hl5)); clear hrow5 hg5 hl5)
        | go_in)
      go_roundw
      case rel =>
        obtain ⟨hrow5, hg5, hl5⟩ := HFIN.out
        obtain ⟨hSm, hbm, hqm, hB2⟩ := HS2.out
        simp only [World.size_alloc] at hbm hqm
        exact ⟨i + 1, _, _, by omega, by go_num, HO.out.step HX.out hB2 hSm (by omega) (by omega) hrow5 hg5 hl5⟩
      case measure => simp [intOf]; omega
    · obtain rfl : n = i := by omega
      go_wp2
      go_ret
      exact ⟨_, Q, Bm, rfl, HO.out⟩

end Go.Proofs.YtdeejmkjhmpabaaGreatDoor

/-
  laws.points.
-/
import Derived.Test.YtdeejmkjhmpabaaGreatDoorL5
import Derived.Test.YtdeejmkjhmpabaaGreatDoorQ1
import Derived.Test.YtdeejmkjhmpabaaGreatDoorSe
namespace Go.Proofs.YtdeejmkjhmpabaaGreatDoor
open Go.RowKit Go.Lib Go.Maps Go.WideMaps

/-- A point's labels in memory, and its bits. -/
abbrev PtM := Option Addr × Nat × Nat

/-- Where the points' labels lie, and what bits their eighths have. -/
def PtsFix (w : World) (a : Option Addr) (L : List Pt) (S : Nat → PtM) : Prop :=
  ∀ i x, L[i]? = some x → (∃ b o, a = some ⟨b, o, none⟩ ∧ w.cell? ⟨b, o + i * 3, none⟩ = some (.slice (S i).1 x.1.length (S i).2.1) ∧ w.cell? ⟨b, o + i * 3 + 1, none⟩ = some (.int .i64 x.2.1) ∧ w.cell? ⟨b, o + i * 3 + 2, none⟩ = some (.int .i64 x.2.2)) ∧
    LabsAt w (S i).1 x.1 ∧ ((S i).1 = none → (S i).2.1 = 0) ∧ floatBits .quo .f64 (floatOfInt .f64 x.2.1) 4620693217682128896 = some (S i).2.2

theorem pts_fix {w : World} {a : Option Addr} {L : List Pt} (h : PtsAt w a L) : ∃ S, PtsFix w a L S := by
  refine Classical.axiomOfChoice (r := fun i (s : PtM) => ∀ x, L[i]? = some x → (∃ b o, a = some ⟨b, o, none⟩ ∧ w.cell? ⟨b, o + i * 3, none⟩ = some (.slice s.1 x.1.length s.2.1) ∧ w.cell? ⟨b, o + i * 3 + 1, none⟩ = some (.int .i64 x.2.1) ∧ w.cell? ⟨b, o + i * 3 + 2, none⟩ = some (.int .i64 x.2.2)) ∧
    LabsAt w s.1 x.1 ∧ (s.1 = none → s.2.1 = 0) ∧ floatBits .quo .f64 (floatOfInt .f64 x.2.1) 4620693217682128896 = some s.2.2) (fun i => ?_)
  cases hx : L[i]? with
  | none => exact ⟨(none, 0, 0), fun x h => by cases h⟩
  | some x =>
    obtain ⟨b, o, la, lc, ha, h0, h1, h2, h3, h4⟩ := h i x hx
    obtain ⟨bv, hbv⟩ := eighth_some x.2.1
    exact ⟨(la, lc, bv), fun y hy => by cases hy; exact ⟨⟨b, o, ha, h0, h1, h2⟩, h3, h4, hbv⟩⟩

/-- The cells of the first i samples. -/
def smpRow (L : List Pt) (S : Nat → PtM) (i : Nat) : List Value :=
  (List.range i).flatMap fun k => [.slice (S k).1 (L[k]!).1.length (S k).2.1, .int .u64 ((S k).2.2 : Nat), .int .i64 (L[k]!).2.2]

theorem smpRow_succ (L : List Pt) (S : Nat → PtM) (i : Nat) (x : Pt) (hx : L[i]? = some x) : smpRow L S (i + 1) = smpRow L S i ++ [.slice (S i).1 x.1.length (S i).2.1, .int .u64 ((S i).2.2 : Nat), .int .i64 x.2.2] := by
  have e : L[i]! = x := by
    obtain ⟨h1, h2⟩ := List.getElem?_eq_some_iff.1 hx
    rw [getElem!_pos L i h1, h2]
  unfold smpRow
  rw [List.range_succ, List.flatMap_append]
  simp only [List.flatMap_cons, List.flatMap_nil, List.append_nil, e]

theorem smpRow_len (L : List Pt) (S : Nat → PtM) (i : Nat) : (smpRow L S i).length = i * 3 := by
  induction i with
  | zero => rfl
  | succ i ih =>
    unfold smpRow at ih ⊢
    rw [List.range_succ, List.flatMap_append, List.length_append, ih]
    simp
    omega

/-- The first i points are such as the law speaks of. -/
structure AllOk (L : List Pt) (i : Nat) : Prop where
  ok : ∀ k x, k < i → L[k]? = some x → PtOk x
  dif : ∀ j k x y, j < k → k < i → L[j]? = some x → L[k]? = some y → y.1 ≠ x.1
  len : 0 < i → L.length ≤ 12

/-- What points hands. -/
def PtsEnd (L : List Pt) (S : Nat → PtM) (n : Nat) (w : World) (e : Ending) (w' : World) : Prop :=
  (e = .returned (.tuple #[.slice none 0 0, .bool false]) ∧ Below w.heap.size w w') ∨
  ∃ v, e = .returned (.tuple #[v, .bool true]) ∧ AllOk L n ∧ w'.ownsRow w.heap.size 41 3 v n (smpRow L S n) ∧ Below w.heap.size w w'

theorem PtsEnd.no {L : List Pt} {S : Nat → PtM} {n : Nat} {w w' : World} (h : Below w.heap.size w w') : PtsEnd L S n w (.returned (.tuple #[.slice none 0 0, .bool false])) w' := Or.inl ⟨rfl, h⟩

/-- What the loop has made. -/
structure PLS (w : World) (L : List Pt) (S : Nat → PtM) (i : Nat) (v : Value) (wr : World) : Prop where
  row : wr.ownsRow w.heap.size 41 3 v i (smpRow L S i)
  bel : Below w.heap.size w wr
  ok : AllOk L i

theorem info41 : (Tryz.prog.info? 41).map (fun i => (i.zero, i.size, i.bytes)) = some (some (.agg #[.slice none 0 0, .int .u64 0, .int .i64 0]), 3, 40) := by kernel_rfl

/-- append of one sample onto an own row. -/
theorem wp_smp {ops : Array Oper} {rest : List Oper} {o : Oper} {a : Act} {Q : Exit → Act → World → Prop} (w : World) (hgd : o.guard = none) (s x : Operand)
    (ho : o.op = .call { callee := .builtin .append, args := #[s, x], argTypes := #[25, 25] }) (base : Nat) (v : Value) (n : Nat) (xs : List Value) (la : Option Addr) (m lc bv : Nat) (ms : Int) (hs : a.eval s = v)
    (hown : w.ownsRow base 41 3 v n xs) (hx : a.eval x = .slice (some ⟨w.heap.size, 0, none⟩) 1 1) (hn : n ≤ 1000) (hbase : base ≤ w.heap.size)
    (h : ∀ v' w', w'.ownsRow base 41 3 v' (n + 1) (xs ++ [.slice la m lc, .int .u64 (bv : Nat), .int .i64 ms]) → (w.alloc (.cells #[.slice la m lc, .int .u64 (bv : Nat), .int .i64 ms] 41)).grownBy w' v.ownBlock → wpList Tryz.prog ops Q rest (a.put o.dst v') w') :
    wpList Tryz.prog ops Q (o :: rest) a (w.alloc (.cells #[.slice la m lc, .int .u64 (bv : Nat), .int .i64 ms] 41)) := by
  obtain ⟨i, hi, hz0, hz1, hz2⟩ := info_parts info41
  refine wpList_append_own_at _ hgd s x 25 ho base 41 i _ 3 40 Tryz.underlying25 hi hz0 hz1 hz2 rfl (by decide) v n xs hs (hown.alloc _) ⟨w.heap.size, 0, none⟩ 1 1 [.slice la m lc, .int .u64 (bv : Nat), .int .i64 ms] hx rfl ?_ ?_ ?_ ?_ ?_ ?_
  · intro j y hj
    match j, hj with
    | 0, hj => simp at hj; subst hj; simp [Addr.add]
    | 1, hj => simp at hj; subst hj; simp [Addr.add]
    | 2, hj => simp at hj; subst hj; simp [Addr.add]
  · intro y hy; simp at hy; rcases hy with rfl | rfl | rfl <;> rfl
  · unfold maxLen; omega
  · omega
  · simp; omega
  · intro v' w' h1 h2 _ _
    exact h v' w' h1 h2

set_option maxRecDepth 100000 in
set_option maxHeartbeats 6400000 in
/-- laws.points. -/
theorem points_any (L : List Pt) (n : Nat) (a : Option Addr) (c : Nat) (S : Nat → PtM) (hn : L.length = n) (hb : n ≤ 9223372036854775807) (hs : ∀ x ∈ L, x.1.length ≤ 9223372036854775807 ∧ ∀ y ∈ x.1, y.1.length ≤ 9223372036854775807) (w : World) (hL : PtsFix w a L S) :
    Calls Tryz.prog 6 #[.slice a n c] w (PtsEnd L S n w) := by
  have HN := Lib.hid hn
  have HL := Lib.hid hL
  have HS := Lib.hid hs
  clear hn hL hs
  go_enter Tryz.func6, Tryz.ntmps6
  go_wp2_with fail
  go_loopw [4, 5] (fun v4 v5 wr => ∃ i, i ≤ n ∧ v5 = .int .i64 (i : Int) ∧ Hid (PLS w L S i v4 wr)) (fun _ v5 _ => n - (intOf v5).toNat)
  case atStart => exact ⟨0, Nat.zero_le _, rfl, World.ownsRow_nil _ _ _ _, Below.refl _ _, ⟨fun k x h => by omega, fun j k x y _ h => by omega, fun h => by omega⟩⟩
  case round =>
    obtain ⟨i, hk, rfl, HP⟩ := hrel
    rename World => wr
    by_cases hlt : i < n
    · obtain ⟨x, hx⟩ : ∃ x, L[i]? = some x := ⟨L[i]'(by rw [HN.out]; exact hlt), List.getElem?_eq_getElem _⟩
      obtain ⟨⟨b, o, rfl, c0, c1, c2⟩, hla, _, hbv⟩ := HL.out i x hx
      have hbel := HP.out.bel
      have d0 := (hbel.cell (p := ⟨b, o + i * 3, none⟩) (World.block_lt_of_cell? w _ c0)).trans c0
      have d1 := (hbel.cell (p := ⟨b, o + i * 3 + 1, none⟩) (World.block_lt_of_cell? w _ c1)).trans c1
      have d2 := (hbel.cell (p := ⟨b, o + i * 3 + 2, none⟩) (World.block_lt_of_cell? w _ c2)).trans c2
      have HD0 := Lib.hid (And.intro c0 (World.block_lt_of_cell? w _ c0))
      obtain ⟨la, hla'⟩ : ∃ la, la = (S i).1 := ⟨_, rfl⟩
      obtain ⟨lc, hlc'⟩ : ∃ lc, lc = (S i).2.1 := ⟨_, rfl⟩
      obtain ⟨bv, hbv'⟩ : ∃ bv, bv = (S i).2.2 := ⟨_, rfl⟩
      have HXs := HS.out x (List.mem_of_getElem? hx)
      have HX := Lib.hid hx
      rw [← hla', ← hlc'] at d0
      rw [← hla'] at hla
      rw [← hbv'] at hbv
      obtain ⟨l, e8, ms⟩ := x
      dsimp only at d0 d1 d2 hla hbv HXs
      obtain ⟨m, hm⟩ : ∃ m, l.length = m := ⟨_, rfl⟩
      rw [hm] at d0
      have hpt := point_any l e8 ms m la lc bv hbv hm (hm ▸ HXs.1) HXs.2 wr (hla.below hbel)
      have HLA := Lib.hid (And.intro hla' (And.intro hlc' hbv'))
      have Hm := Lib.hid hm
      have HLB := Lib.hid (hla.below hbel)
      clear hla hbv hm c0 c1 c2 hx hla' hlc' hbv' HXs hbel
      by_cases hbig : n ≤ 12
      · have hbig' : decide ((12 : Int) < (n : Int)) = false := decide_eq_false (by omega)
        go_wp2_with (go_at_call 19; (with_reducible refine hpt.mono ?_); rintro e w1 ⟨⟨b1, rfl, hb1⟩, hB1⟩; have HB1 := Lib.hid hB1; have HOK := Lib.hid hb1; clear hB1 hb1; cases b1)
        · go_ret2
          exact PtsEnd.no ((HP.out.bel.trans (HB1.out.mono HP.out.bel.size)).alloc (Nat.le_trans HP.out.bel.size HB1.out.size) _)
        · obtain ⟨w2, hw2⟩ : ∃ w2, w2 = w1.alloc (.cells #[.slice la m lc, .int .u64 (bv : Nat), .int .i64 ms] 41) := ⟨_, rfl⟩
          rw [← hw2]
          have hBr2 : Below wr.heap.size wr w2 := by rw [hw2]; exact HB1.out.alloc HB1.out.size _
          have hbox : ∀ W, Below w2.heap.size w2 W → W.cell? ⟨w1.heap.size, 0, none⟩ = some (.slice la m lc) ∧ W.cell? ⟨w1.heap.size, 1, none⟩ = some (.int .u64 (bv : Nat)) ∧ W.cell? ⟨w1.heap.size, 2, none⟩ = some (.int .i64 ms) := fun W hW => by
            have hlt2 : w1.heap.size < w2.heap.size := by rw [hw2]; simp
            refine ⟨(hW.cell (p := ⟨w1.heap.size, 0, none⟩) hlt2).trans ?_, (hW.cell (p := ⟨w1.heap.size, 1, none⟩) hlt2).trans ?_, (hW.cell (p := ⟨w1.heap.size, 2, none⟩) hlt2).trans ?_⟩ <;> rw [hw2] <;> simp
          have HBR2 := Lib.hid hBr2
          have HBOX := Lib.hid hbox
          have HW2 := Lib.hid hw2
          have HD := Lib.hid d0
          clear hw2 hBr2 hbox hpt d0 d1 d2
          go_loopw [8] (fun v8 wq => ∃ k, k ≤ i ∧ v8 = .int .i64 (k : Int) ∧ Hid (∀ j y, j < k → L[j]? = some y → l ≠ y.1) ∧ Hid (Below w2.heap.size w2 wq)) (fun v8 _ => i - (intOf v8).toNat)
          case atStart => exact ⟨0, Nat.zero_le _, rfl, (fun j y h => by omega), Below.refl _ _⟩
          case round =>
            obtain ⟨k, hki, rfl, HDF, HBQ⟩ := hrel
            rename World => wq
            have hBrq : Below wr.heap.size wr wq := HBR2.out.trans (HBQ.out.mono HBR2.out.size)
            by_cases hlt2 : k < i
            · obtain ⟨y, hy⟩ : ∃ y, L[k]? = some y := ⟨L[k]'(by rw [HN.out]; omega), List.getElem?_eq_getElem _⟩
              obtain ⟨⟨b', o', hbo, g0, _, _⟩, hlk, _, _⟩ := HL.out k y hy
              cases hbo
              have hkn : k < n := by omega
              have hBwq : Below w.heap.size w wq := HP.out.bel.trans (hBrq.mono HP.out.bel.size)
              have e1 : wq.cell? ⟨b, o + i * 3, none⟩ = some (.slice la m lc) := (hBrq.cell (p := ⟨b, o + i * 3, none⟩) (World.block_lt_of_cell? wr _ HD.out)).trans HD.out
              have e2 := (hBwq.cell (p := ⟨b, o + k * 3, none⟩) (World.block_lt_of_cell? w _ g0)).trans g0
              obtain ⟨lk, hlk'⟩ : ∃ lk, lk = (S k).1 := ⟨_, rfl⟩
              obtain ⟨ck, hck'⟩ : ∃ ck, ck = (S k).2.1 := ⟨_, rfl⟩
              rw [← hlk', ← hck'] at e2
              rw [← hlk'] at hlk
              obtain ⟨mk, hmk⟩ : ∃ mk, y.1.length = mk := ⟨_, rfl⟩
              rw [hmk] at e2
              have hmb : m ≤ 9223372036854775807 := by have := (HS.out _ (List.mem_of_getElem? HX.out)).1; dsimp only at this; rw [Hm.out] at this; exact this
              have hsame := same_any l y.1 m mk la lk lc ck Hm.out hmk hmb wq.drew ((HLB.out.below hBrq).below (Below.refl _ _).drew) ((hlk.below hBwq).below (Below.refl _ _).drew)
              have HY := Lib.hid hy
              have HBWQ := Lib.hid hBwq
              clear hy hlk hlk' hck' hmk hmb hBwq hBrq g0
              by_cases heq : l = y.1
              · rw [decide_eq_true heq] at hsame
                clear heq
                go_wp2_with fail
                go_region_held3 (fun w' => w'.cell? ⟨b, o + i * 3, none⟩ = some (.slice la m lc) ∧ w'.cell? ⟨b, o + k * 3, none⟩ = some (.slice lk mk ck)) (go_keep) (first
                  | (go_at_call 16; (with_reducible refine hsame.mono ?_); rintro e w3 ⟨rfl, hb3⟩; have f1 := (hb3.cell (p := ⟨b, o + i * 3, none⟩) (World.block_lt_of_cell? wq _ e1)).trans e1; have f2 := (hb3.cell (p := ⟨b, o + k * 3, none⟩) (World.block_lt_of_cell? wq _ e2)).trans e2))
                all_goals
                  go_wp2
                  go_ret2
                  exact PtsEnd.no (HBWQ.out.trans (((Below.refl _ wq).drew.trans hb3).mono HBWQ.out.size))
              · rw [decide_eq_false heq] at hsame
                have HNE := Lib.hid heq
                clear heq
                go_wp2_with fail
                go_region_held3 (fun w' => w'.cell? ⟨b, o + i * 3, none⟩ = some (.slice la m lc) ∧ w'.cell? ⟨b, o + k * 3, none⟩ = some (.slice lk mk ck)) (go_keep) (first
                  | (go_at_call 16; (with_reducible refine hsame.mono ?_); rintro e w3 ⟨rfl, hb3⟩; have f1 := (hb3.cell (p := ⟨b, o + i * 3, none⟩) (World.block_lt_of_cell? wq _ e1)).trans e1; have f2 := (hb3.cell (p := ⟨b, o + k * 3, none⟩) (World.block_lt_of_cell? wq _ e2)).trans e2; have HB3 := Lib.hid hb3; clear hb3))
                all_goals
                  go_wp2
                  go_roundw
                  case rel =>
                    refine ⟨k + 1, by omega, by go_num, ?_, HBQ.out.trans (((Below.refl _ wq).drew.trans HB3.out).mono HBQ.out.size)⟩
                    intro j y' hj hy'
                    by_cases hjk : j = k
                    · subst hjk
                      rw [HY.out] at hy'
                      cases hy'
                      exact HNE.out
                    · exact HDF.out j y' (by omega) hy'
                  case measure => simp [intOf]; omega
            · have hke : k = i := by omega
              subst hke
              obtain ⟨q0, q1, q2⟩ := HBOX.out wq HBQ.out
              have hrow := row_below HP.out.row hBrq
              have hBwq : Below w.heap.size w wq := HP.out.bel.trans (hBrq.mono HP.out.bel.size)
              have hsz := hBwq.size
              have HBWQ := Lib.hid hBwq
              have HROW := Lib.hid hrow
              clear hBrq hrow hBwq
              go_wp2_with (at_builtin; refine wp_smp _ rfl _ _ rfl w.heap.size u4 k _ la m lc bv ms rfl HROW.out rfl (by omega) hsz ?_; intro v' w5 hrow5 hg5; have HFIN := Lib.hid (And.intro hrow5 hg5); clear hrow5 hg5)
              go_roundw
              case rel =>
                obtain ⟨hrow5, hg5⟩ := HFIN.out
                obtain ⟨z1, z2, z3⟩ := HLA.out
                refine ⟨k + 1, by omega, by go_num, ?_, ?_, ⟨fun j x hj hx => ?_, fun p j x y hpj hj hx hy => ?_, fun _ => by rw [HN.out]; exact hbig⟩⟩
                · have e := smpRow_succ L S k _ HX.out
                  dsimp only at e
                  rw [← z1, ← z2, ← z3, Hm.out] at e
                  rw [e]
                  exact hrow5
                · exact (HBWQ.out.alloc HBWQ.out.size _).grown hg5 (by have := HBWQ.out.size; simp; omega) (fun j hj => (HROW.out.lt j hj).1)
                · by_cases hjk : j = k
                  · subst hjk
                    rw [HX.out] at hx
                    cases hx
                    exact HOK.out (by first | rfl | trivial)
                  · exact HP.out.ok.ok j x (by omega) hx
                · by_cases hjk : j = k
                  · subst hjk
                    rw [HX.out] at hy
                    cases hy
                    exact HDF.out p x hpj hx
                  · exact HP.out.ok.dif p j x y hpj (by omega) hx hy
              case measure => simp [intOf]; omega
      · have hbig' : decide ((12 : Int) < (n : Int)) = true := by rw [decide_eq_true_eq]; omega
        go_wp2_with (go_at_call 19; (with_reducible refine hpt.mono ?_); rintro e w1 ⟨⟨b1, rfl, hb1⟩, hB1⟩; have HB1 := Lib.hid hB1; have HOK := Lib.hid hb1; clear hB1 hb1; cases b1)
        all_goals
          go_ret2
          exact PtsEnd.no ((HP.out.bel.trans (HB1.out.mono HP.out.bel.size)).alloc (Nat.le_trans HP.out.bel.size HB1.out.size) _)
    · have hkn : i = n := by omega
      subst hkn
      go_wp2
      go_ret2
      exact Or.inr ⟨_, rfl, HP.out.ok, HP.out.row, HP.out.bel⟩

end Go.Proofs.YtdeejmkjhmpabaaGreatDoor

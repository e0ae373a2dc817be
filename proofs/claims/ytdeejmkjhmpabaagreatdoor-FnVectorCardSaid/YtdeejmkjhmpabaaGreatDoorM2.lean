/-
  The text of a metric: the plain text; Metric.String.
-/
import Derived.Test.YtdeejmkjhmpabaaGreatDoorM1
namespace Go.Proofs.YtdeejmkjhmpabaaGreatDoor
open Go.RowKit Go.Lib Go.Maps Go.WideMaps

/-- __name__ -/
def nm : List UInt8 := [95, 95, 110, 97, 109, 101, 95, 95]

def partT (x : Lab) : List UInt8 := (x.1 ++ [61]) ++ quoteT x.2
def partsT (l : List Lab) : List (List UInt8) := (l.filter (fun x => x.1 != nm)).map partT

def metricT (l : List Lab) : List UInt8 :=
  if (partsT l).length = 0 then (match getT l nm with | some v => v | none => [123, 125])
  else ((((getT l nm).getD []) ++ [123]) ++ Lib.join ((partsT l).mergeSort leB) [44, 32]) ++ [125]

theorem partsT_snoc (l : List Lab) (x : Lab) : partsT (l ++ [x]) = partsT l ++ (if x.1 = nm then [] else [partT x]) := by
  unfold partsT
  rw [List.filter_append, List.map_append]
  by_cases h : x.1 = nm <;> simp [h]

theorem partsT_perm {l l' : List Lab} (h : l.Perm l') : (partsT l).Perm (partsT l') := (h.filter _).map _

theorem partsT_le (l : List Lab) : (partsT l).length ≤ l.length := by
  unfold partsT; rw [List.length_map]; exact List.length_filter_le _ _

theorem partT_len {l : List Lab} (hF : Few l) : ∀ p ∈ partsT l, p.length ≤ 4000 := by
  intro p hp
  unfold partsT at hp
  obtain ⟨x, hx, rfl⟩ := List.mem_map.1 hp
  have h := hF.2 x (List.mem_filter.1 hx).1
  have := quoteT_len x.2
  simp [partT]
  omega

theorem count_nm (l : List Lab) : Names l → (partsT l).length + (if (getT l nm).isSome then 1 else 0) = l.length := by
  rw [getT_any]
  unfold partsT
  rw [List.length_map]
  induction l with
  | nil => intro _; rfl
  | cons x l ih =>
    intro hn
    unfold Names at hn
    rw [List.map_cons, List.nodup_cons] at hn
    have ih := ih hn.2
    rw [List.any_cons, List.filter_cons]
    by_cases h : x.1 = nm
    · have e : l.any (fun x => x.1 == nm) = false := by
        rw [List.any_eq_false]
        intro y hy
        have : y.1 ≠ nm := fun e => hn.1 (List.mem_map.2 ⟨y, hy, e.trans h.symm⟩)
        simpa using this
      rw [e] at ih
      simp [h] at ih ⊢
      omega
    · have h2 : (x.1 == nm) = false := by simpa using h
      have h3 : (x.1 != nm) = true := by simpa using h
      simp only [h2, h3, if_true, Bool.false_or, List.length_cons]
      omega

theorem metricT_len {l : List Lab} (hF : Few l) : (metricT l).length ≤ 50000 := by
  unfold metricT
  have hv : ∀ v, getT l nm = some v → v.length ≤ 300 := fun v hv => (hF.2 _ (getT_mem hv)).2
  have hg : ((getT l nm).getD []).length ≤ 300 := by
    cases h : getT l nm with
    | none => simp
    | some v => exact hv v h
  split
  · cases h : getT l nm with
    | none => simp
    | some v => have := hv v h; simp; omega
  · have h1 := join_len ((partsT l).mergeSort leB) [44, 32] 4000 (fun x hx => partT_len hF x ((List.mergeSort_perm _ _).mem_iff.1 hx))
    have h2 : ((partsT l).mergeSort leB).length ≤ 10 := by rw [List.length_mergeSort]; exact Nat.le_trans (partsT_le l) hF.1
    have h3 : ((partsT l).mergeSort leB).length * (4000 + [(44 : UInt8), 32].length) ≤ 10 * 4002 := Nat.mul_le_mul h2 (by simp)
    simp only [List.length_append, List.length_cons, List.length_nil]
    omega

theorem info9 : (Tryz.prog.info? 9).map (fun i => (i.zero, i.size, i.bytes)) = some (some (.string ⟨#[]⟩), 1, 16) := by kernel_rfl
theorem info111 : (Tryz.prog.info? 111).map (fun i => (i.zero, i.size, i.bytes)) = some (some (.string ⟨#[]⟩), 1, 16) := by kernel_rfl

/-- append of one string onto an own row. -/
theorem wp_str {ops : Array Oper} {rest : List Oper} {o : Oper} {a : Act} {Q : Exit → Act → World → Prop} (t e : TypeId) (ht : Tryz.prog.underlying t = some (.slice e))
    (hinf : (Tryz.prog.info? e).map (fun i => (i.zero, i.size, i.bytes)) = some (some (.string ⟨#[]⟩), 1, 16)) (w : World) (hgd : o.guard = none) (s x : Operand)
    (ho : o.op = .call { callee := .builtin .append, args := #[s, x], argTypes := #[t, t] }) (base : Nat) (v : Value) (n : Nat) (xs : List Value) (u : List UInt8) (hs : a.eval s = v)
    (hown : w.ownsRow base e 1 v n xs) (hx : a.eval x = .slice (some ⟨w.heap.size, 0, none⟩) 1 1) (hn : n ≤ 1000) (hbase : base ≤ w.heap.size)
    (h : ∀ v' w', w'.ownsRow base e 1 v' (n + 1) (xs ++ [encStr u]) → (w.alloc (.cells #[.string ⟨u.toArray⟩] e)).grownBy w' v.ownBlock → wpList Tryz.prog ops Q rest (a.put o.dst v') w') :
    wpList Tryz.prog ops Q (o :: rest) a (w.alloc (.cells #[.string ⟨u.toArray⟩] e)) := by
  obtain ⟨i, hi, hz0, hz1, hz2⟩ := info_parts hinf
  refine wpList_append_own_at _ hgd s x t ho base e i (.string ⟨#[]⟩) 1 16 ht hi hz0 hz1 hz2 rfl (by decide) v n xs hs (hown.alloc _) ⟨w.heap.size, 0, none⟩ 1 1 [encStr u] hx rfl ?_ ?_ ?_ ?_ ?_ ?_
  · intro j y hj
    match j, hj with
    | 0, hj => simp at hj; subst hj; simp [Addr.add, encStr]
  · intro y hy; simp at hy; subst hy; rfl
  · unfold maxLen; omega
  · omega
  · simp; omega
  · intro v' w' h1 h2 _ _
    exact h v' w' h1 h2

theorem cell_enc {w : World} {g n cap base : Nat} {e : TypeId} {ss : List (List UInt8)} (h : w.ownsRow base e 1 (.slice (some ⟨g, 0, none⟩) n cap) n (ss.map encStr)) (hn : n = ss.length) :
    ∀ j x, ss[j]? = some x → w.cell? ⟨g, j, none⟩ = some (.string ⟨x.toArray⟩) := by
  intro j x hx
  have hj : j < ss.length := (List.getElem?_eq_some_iff.1 hx).1
  rw [h.cellAt j (by omega), List.getElem?_map, hx]
  rfl

/-- A sort of an own row of strings. -/
theorem sort_own (f : Nat) (hS : ∀ (blk off cap : Nat) (ss : List (List UInt8)) (w : World), Go.Sort.Holds encStr w blk off ss.toArray → blk < w.heap.size → ss.length < 4611686018427387904 →
      Calls Tryz.prog f #[.slice (some ⟨blk, off, none⟩) ss.length cap] w fun e w' => e = .returned (.tuple #[]) ∧ ∃ n os, w' = Go.Sort.grow (Go.Sort.putRow encStr (Go.Sort.ahead w n) blk off (ss.mergeSort fun x y => decide (x ≤ y)).toArray) os)
    (base : Nat) (e : TypeId) (v : Value) (m : Nat) (ss : List (List UInt8)) (wr : World) (hrow : wr.ownsRow base e 1 v m (ss.map encStr)) (hm : ss.length = m) (h0 : m ≠ 0 ∨ v ≠ .slice none 0 0) (hm2 : m ≤ 1000) (hB : base ≤ wr.heap.size) :
    ∃ g cap, v = .slice (some ⟨g, 0, none⟩) m cap ∧ m ≤ cap ∧ g < wr.heap.size ∧ base ≤ g ∧ Calls Tryz.prog f #[.slice (some ⟨g, 0, none⟩) m cap] wr fun e' w' => e' = .returned (.tuple #[]) ∧ Below base wr w' ∧
      w'.ownsRow base e 1 (.slice (some ⟨g, 0, none⟩) m cap) m ((ss.mergeSort leB).map encStr) := by
  subst hm
  rcases hrow.2 with ⟨hnil, hk0⟩ | ⟨g, cap, cur, hv, hbase, hb, h1, h2, h3, h4⟩
  · rcases h0 with h0 | h0
    · omega
    · exact absurd hnil h0
  · have hH : Go.Sort.Holds encStr wr g 0 ss.toArray := holds_of_block hb (by simpa using h4)
    have hgl : g < wr.heap.size := (Array.getElem?_eq_some_iff.1 hb).1
    refine ⟨g, cap, hv, h1, hgl, hbase, ?_⟩
    refine (hS g 0 cap ss wr hH hgl (by omega)).mono ?_
    rintro e' w' ⟨rfl, nn, os, rfl⟩
    exact ⟨rfl, (Below.refl _ _).grown (grownBy_sorted (w := wr) (g := g) (n := nn) (os := os) (ss.mergeSort leB).toArray) hB (fun k hk => by cases hk; exact hbase),
      ownsRow_sorted (n := nn) (os := os) (ts := ss.mergeSort leB) (List.length_mergeSort _) hbase hb h1 h2 h3⟩

/-- What the loop over the labels has made. -/
structure MS (w : World) (l : List Lab) (b r n : Nat) (v : Value) (wr : World) (left : Lit → Bool) (cnt : Nat) (xs : List Lab) : Prop where
  rg : wr.ranges Tryz.prog 111 (plainElem Tryz.prog 110) b r n (LabMap l) left cnt
  row : wr.ownsRow w.heap.size 9 1 v (partsT xs).length ((partsT xs).map encStr)
  col : Col l left xs
  bel : Below w.heap.size w wr

theorem Col.le {l xs : List Lab} {left : Lit → Bool} (h : Col l left xs) : xs.length ≤ l.length := by
  obtain ⟨r, hp, _⟩ := h
  have := hp.length_eq
  rw [List.length_append] at this
  omega

theorem MS.start {w w1 w2 : World} {l : List Lab} {b n m : Nat} (_hM : MapAt w b l) (h1 : w1.ownsRow w.heap.size 9 1 (.slice (some ⟨w.heap.size, 0, none⟩) 0 m) 0 []) (hg1 : w.grownBy w1 none)
    (hrg : w2.ranges Tryz.prog 111 (plainElem Tryz.prog 110) b w1.heap.size n (LabMap l) (has (LabMap l)) (size (LabMap l))) (hg2 : w1.grownBy w2 none) :
    MS w l b w1.heap.size n (.slice (some ⟨w.heap.size, 0, none⟩) 0 m) w2 (has (LabMap l)) (size (LabMap l)) [] :=
  ⟨hrg, h1.kept hg2 (Or.inr (by simp [Value.ownBlock])), Col.start l, ((Below.refl _ w).grown hg1 (Nat.le_refl _) (fun k hk => by cases hk)).grown hg2 hg1.size (fun k hk => by cases hk)⟩

theorem MS.skip {w wr w1 : World} {l : List Lab} {b r n cnt cnt1 : Nat} {v : Value} {left left' : Lit → Bool} {xs : List Lab} {x : Lab} (h : MS w l b r n v wr left cnt xs) (hr : w.heap.size ≤ r)
    (hg : wr.grownBy w1 (some r)) (_hrg : w1.ranges Tryz.prog 111 (plainElem Tryz.prog 110) b r n (LabMap l) left' cnt1) (_hC : Col l left' (xs ++ [x])) :
    w1.ownsRow w.heap.size 9 1 v (partsT xs).length ((partsT xs).map encStr) ∧ Below w.heap.size w w1 := by
  refine ⟨h.row.kept hg ?_, h.bel.grown hg h.bel.size (fun k hk => by cases hk; exact hr)⟩
  cases hob : v.ownBlock with
  | none => exact Or.inl rfl
  | some g => exact Or.inr (fun e => row_ne_iter h.row h.rg (by rw [hob]; exact e.symm))

theorem MS.added {w w2 w3 : World} {l : List Lab} {b r n cnt1 : Nat} {v v' : Value} {left' : Lit → Bool} {xs : List Lab} {x : Lab} (hbw : b < w.heap.size) (hx : x.1 ≠ nm) (u : List UInt8) (hu : u = partT x)
    (hrow : w2.ownsRow w.heap.size 9 1 v (partsT xs).length ((partsT xs).map encStr)) (hB : Below w.heap.size w w2) (hrg : w2.ranges Tryz.prog 111 (plainElem Tryz.prog 110) b r n (LabMap l) left' cnt1) (hC : Col l left' (xs ++ [x]))
    (h1 : w3.ownsRow w.heap.size 9 1 v' ((partsT xs).length + 1) ((partsT xs).map encStr ++ [encStr u])) (h2 : (w2.alloc (.cells #[.string ⟨u.toArray⟩] 9)).grownBy w3 v.ownBlock) :
    MS w l b r n v' w3 left' cnt1 (xs ++ [x]) := by
  have hr1 := hrow.alloc (.cells #[.string ⟨u.toArray⟩] 9)
  refine ⟨(hrg.alloc _).kept h2 (row_ne_low hr1 hbw) (row_ne_iter hr1 (hrg.alloc _)), ?_, hC, ?_⟩
  · rw [partsT_snoc, if_neg hx, List.length_append, List.map_append, ← hu]; exact h1
  · exact (hB.alloc hB.size _).grown h2 (by have := hB.size; simp; omega) (fun k hk => (hr1.lt k hk).1)

set_option maxRecDepth 100000 in
set_option maxHeartbeats 3200000 in
theorem metric_walk (l : List Lab) (b : Nat) (hF : Few l) (hN : Names l) (w : World) (hM : MapAt w b l) (hT : Tabs w) (name : List UInt8) (has : Bool) (m n : Nat) (hname : name.length ≤ 300) (hn10 : n ≤ 10) (hm : m ≤ n) (hmn : has = false → m = n) (hmn2 : has = true → m + 1 = n)
    (hlook : (Instr.lookup 70 (.map (some b)) (.string ⟨#[95, 95, 110, 97, 109, 101, 95, 95]⟩) true).run Tryz.prog w = .ok (.tuple #[.string ⟨name.toArray⟩, .bool has]) w)
    (hlen : ∀ ty, (Builtin.len_ #[70] ty #[.map (some b)]).run Tryz.prog w = .ok (.int .i64 n) w) (hpm : (partsT l).length = m) (hln : l.length = n) :
    Calls Tryz.prog 87 #[.map (some b)] w fun e w' => e = .returned (str (if m = 0 then (if has then name else [123, 125]) else ((name ++ [123]) ++ Lib.join ((partsT l).mergeSort leB) [44, 32]) ++ [125])) ∧ Below w.heap.size w w' := by
  have hbw := hM.lt
  obtain ⟨i0, hi, hz0, hz1, hz2⟩ := info_parts info9
  have HN := Lib.hid hN
  have HF := Lib.hid hF
  have HMap := Lib.hid hM
  have Hpm := Lib.hid hpm
  have Hln := Lib.hid hln
  clear hN hF hpm hln
  have hsub : has = true → IntKind.i64.wrap ((n : Int) - 1) = (m : Int) := fun h => by
    have := hmn2 h
    rw [IntKind.wrap_i64]; omega
  cases has
  case' true => have hsub := hsub rfl; clear hmn
  case' false => have hmn' := hmn rfl; clear hmn; subst hmn'; clear hsub
  all_goals
    clear hmn2
    go_enter Tryz.func87, Tryz.ntmps87
    go_wp2_with (first
      | (at_make; refine wpList_make_own _ rfl _ _ 57 rfl w.heap.size 9 i0 (.string ⟨#[]⟩) 1 Tryz.underlying57 hi hz0 hz1 _ _ _ m rfl rfl rfl (by rw [hz2]; omega) (by unfold maxLen; omega) (Nat.le_refl _) ?_; intro w1 hrow1 hg1; have hM1 := HMap.out.below ((Below.refl _ w).grown hg1 (Nat.le_refl _) (fun k hk => by cases hk)))
      | (at_range; refine wpList_range_own _ rfl _ 70 rfl 111 110 keyed111 Tryz.underlying70 _ b l.length _ rfl hM1 ?_; intro w2 hrg2 hg2 hs2)
      | go_in)
    try go_frame
    have hr : w.heap.size ≤ w1.heap.size := hg1.size
    have hms := Lib.hid (MS.start HMap.out hrow1 hg1 hrg2 hg2)
    clear hrg2 hg2 hs2 hM1 hrow1 hg1 hM
    go_loopw [6] (fun v6 wr => ∃ left cnt xs, Hid (MS w l b w1.heap.size l.length v6 wr left cnt xs)) (fun _ wr => wr.rangeLeft b w1.heap.size)
    case atStart => exact ⟨_, _, [], hms.out⟩
    case round =>
      obtain ⟨left, cnt, xs, HM⟩ := hrel
      rename World => wr
      have hrg := HM.out.rg
      have hm0 := HM.out.rg.left_eq
      go_wp2_with (first
        | (at_next; refine next_labs _ rfl _ rfl b w1.heap.size l.length l HN.out left cnt xs rfl hrg HM.out.col ?_ ?_)
        | go_in)
      · intro hp
        have hpp := partsT_perm hp
        have hlm : (partsT xs).length = m := by rw [hpp.length_eq]; exact Hpm.out
        have hrow := HM.out.row
        have hBel := HM.out.bel
        clear hrg
        by_cases h0 : m = 0
        · subst h0
          go_wp2
          go_ret
          exact ⟨rfl, hBel⟩
        · have hne : ((m : Int) == 0) = false := by simpa using h0
          obtain ⟨g, cap, hv, hcap, hgl, hbase, hsort⟩ := sort_own 49 Tryz.slices_Sort_string w.heap.size 9 u6 m (partsT xs) wr (hlm ▸ hrow) hlm (Or.inl h0) (by omega) hBel.size
          rw [mergeSort_of_perm hpp] at hsort
          have hPL := partT_len HF.out
          have hmsl : ((partsT l).mergeSort leB).length = m := by rw [List.length_mergeSort]; exact Hpm.out
          obtain ⟨ms, hmsE⟩ : ∃ ms, ms = (partsT l).mergeSort leB := ⟨_, rfl⟩
          have hPL2 : ∀ x ∈ ms, x.length ≤ 4000 := fun x hx => by rw [hmsE] at hx; exact hPL x ((List.mergeSort_perm _ _).mem_iff.1 hx)
          rw [← hmsE] at hsort hmsl
          have HE := Lib.hid hmsE
          have HL := Lib.hid hmsl
          have HPL := Lib.hid hPL2
          have hjl : (Lib.join ms [44, 32]).length ≤ 50000 := by
            have h1 := join_len ms [44, 32] 4000 hPL2
            have h3 : ms.length * (4000 + [(44 : UInt8), 32].length) ≤ 10 * 4002 := Nat.mul_le_mul (by omega) (by simp)
            omega
          subst hv
          clear hrow HM hp hpp hlm hmsE hPL hPL2 hmsl
          obtain ⟨s1, S1, c1⟩ := cat_ex name [123] (by simp; omega)
          have hs1 := cat_len S1
          obtain ⟨J, HJ⟩ : ∃ J, Hid (J = Lib.join ms [44, 32]) := ⟨_, rfl⟩
          rw [← HJ.out] at hjl
          obtain ⟨s2, S2, c2⟩ := cat_ex s1 J (by simp at hs1; omega)
          have hs2 := cat_len S2
          obtain ⟨s3, S3, c3⟩ := cat_ex s2 [125] (by simp at hs1 ⊢; omega)
          clear hs1 hs2 hjl
          go_wp2_with (first
            | (go_at_call 49; (with_reducible refine hsort.mono ?_); rintro e w4 ⟨rfl, hb4, hro4⟩; have hjoin := join_call ms [44, 32] g cap 4000 w4 (cell_enc hro4 HL.out.symm) (Nat.lt_of_lt_of_le hgl hb4.size) (by rw [HL.out]; omega) (by rw [HL.out]; exact hcap) HPL.out (by simp); rw [HL.out, ← HJ.out] at hjoin)
            | (go_at_call 26; (with_reducible refine hjoin.mono ?_); rintro e w5 ⟨rfl, hb5⟩)
            | go_in)
          go_ret
          refine ⟨?_, (hBel.trans hb4).trans (hb5.mono (Nat.le_trans hBel.size hb4.size))⟩
          rw [S3.out, S2.out, S1.out, HJ.out, HE.out]
          show Ending.returned (.string ⟨_⟩) = Ending.returned (.string ⟨_⟩)
          simp
      · intro xn xv w3 left' cnt' hx hC hrg3 hlt hg3 hs3 hen
        obtain ⟨hrow3, hB3⟩ := HM.out.skip hr hg3 hrg3 hC
        have hxF := HF.out.2 _ hx
        dsimp only at hxF
        have hps : (partsT xs).length ≤ 1000 := by
          have h1 := hC.le
          have h2 := partsT_le xs
          have h3 := HF.out.1
          rw [List.length_append] at h1
          omega
        have HC := Lib.hid hC
        by_cases hxn : xn = nm
        · subst hxn
          have hms3 : Hid (MS w l b w1.heap.size l.length u6 w3 left' cnt' (xs ++ [(nm, xv)])) := ⟨hrg3, by rw [partsT_snoc, if_pos rfl, List.append_nil]; exact hrow3, hC, hB3⟩
          have hm3 := hrg3.left_eq
          unfold nm at hen
          clear hrg3 hrow3 hB3 hx hxF HM hrg hC
          go_wp2
          go_roundw
          case rel => exact ⟨_, _, _, hms3⟩
          case measure => rw [hm3, hm0]; exact hlt
        · have hTq := hT.below hB3
          have hq := quote_call xv hxF.2 w3 hTq
          have hql := quoteT_len xv
          obtain ⟨qv, HQ⟩ : ∃ qv, Hid (qv = quoteT xv) := ⟨_, rfl⟩
          rw [← HQ.out] at hq hql
          obtain ⟨s1, S1, c1⟩ := cat_ex xn [61] (by simp; omega)
          have hs1 := cat_len S1
          obtain ⟨s2, S2, c2⟩ := cat_ex s1 qv (by simp at hs1; omega)
          have hu : s2 = partT (xn, xv) := by rw [S2.out, S1.out, HQ.out]; rfl
          have Hu := Lib.hid hu
          have hneq : (xn == [95, 95, 110, 97, 109, 101, 95, 95]) = false := by rw [beq_eq_false_iff_ne]; exact hxn
          have Hxn := Lib.hid hxn
          clear hxn hs1 hu hql hx hxF HM hrg hC
          go_wp2_with (first
            | (go_at_call 25; (with_reducible refine hq.mono ?_); rintro e w4 ⟨rfl, hb4⟩; have hrow4 := row_below hrow3 hb4; have hB4 := hB3.trans (hb4.mono hB3.size); have hrg4 := MapAt.ranges_below hrg3 hb4)
            | (at_builtin; go_loud (refine wp_str 57 9 Tryz.underlying57 info9 _ rfl _ _ rfl w.heap.size u6 _ _ s2 rfl hrow4 rfl hps hB4.size ?_; intro v' w5 hrow5 hg5; have hms5 := Lib.hid (MS.added hbw Hxn.out s2 Hu.out hrow4 hB4 hrg4 HC.out hrow5 hg5); have hm5 := hms5.out.rg.left_eq))
            | go_in)
          go_roundw
          case rel => exact ⟨_, _, _, hms5⟩
          case measure => rw [hm5, hm0]; exact hlt

theorem metric_string (l : List Lab) (b : Nat) (hF : Few l) (hN : Names l) (w : World) (hM : MapAt w b l) (hT : Tabs w) :
    Calls Tryz.prog 87 #[.map (some b)] w fun e w' => e = .returned (str (metricT l)) ∧ Below w.heap.size w w' := by
  have hc := count_nm l hN
  have hg : ((getT l nm).getD []).length ≤ 300 := by
    cases h : getT l nm with
    | none => simp
    | some v => exact (hF.2 _ (getT_mem h)).2
  have h := metric_walk l b hF hN w hM hT ((getT l nm).getD []) (getT l nm).isSome (partsT l).length l.length hg hF.1 (partsT_le l) (fun h => by rw [h] at hc; simpa using hc) (fun h => by rw [h] at hc; simpa using hc) (map_look Tryz.underlying70 hM hN nm (by decide)) (map_len Tryz.underlying70 hM hN) rfl rfl
  refine h.mono ?_
  rintro e w' ⟨rfl, hb⟩
  refine ⟨?_, hb⟩
  unfold metricT
  congr 2
  cases getT l nm <;> rfl

end Go.Proofs.YtdeejmkjhmpabaaGreatDoor

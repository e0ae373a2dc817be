/-
  spec.Get; spec.MetricText.
-/
import Derived.Test.YtdeejmkjhmpabaaGreatDoorM2
import Derived.Deep.RegionHeld3
import Derived.Deep.RegionLaw
namespace Go.Proofs.YtdeejmkjhmpabaaGreatDoor
open Go.RowKit Go.Lib Go.Maps Go.WideMaps

theorem getT_drop (l : List Lab) (k : List UInt8) (i : Nat) (x : Lab) (h : l[i]? = some x) (hk : x.1 ≠ k) : getT (l.drop i) k = getT (l.drop (i + 1)) k := by
  obtain ⟨hi, rfl⟩ := List.getElem?_eq_some_iff.1 h
  rw [List.drop_eq_getElem_cons hi]
  unfold getT
  rw [List.find?_cons]
  have : (l[i].1 == k) = false := by simpa using hk
  rw [this]

theorem getT_hit (l : List Lab) (i : Nat) (x : Lab) (h : l[i]? = some x) : getT (l.drop i) x.1 = some x.2 := by
  obtain ⟨hi, rfl⟩ := List.getElem?_eq_some_iff.1 h
  rw [List.drop_eq_getElem_cons hi]
  unfold getT
  rw [List.find?_cons]
  simp

theorem getT_end (l : List Lab) (k : List UInt8) (i : Nat) (h : l.length ≤ i) : getT (l.drop i) k = none := by
  rw [List.drop_eq_nil_of_le h]; rfl

set_option maxRecDepth 100000 in
set_option maxHeartbeats 1000000 in
/-- spec.Get. -/
theorem get_any (l : List Lab) (a : Option Addr) (c : Nat) (k : List UInt8) (hl : l.length ≤ 1000) (w : World) (hL : LabsAt w a l) :
    Calls Tryz.prog 24 #[.slice a l.length c, .string ⟨k.toArray⟩] w fun e w' => e = .returned (.tuple #[.string ⟨((getT l k).getD []).toArray⟩, .bool (getT l k).isSome]) ∧ w = w' := by
  obtain ⟨n, hn⟩ : ∃ n, n = l.length := ⟨_, rfl⟩
  have hn10 : n ≤ 1000 := by rw [hn]; exact hl
  rw [← hn]
  have HN := Lib.hid hn
  clear hn hl
  go_enter Tryz.func24, Tryz.ntmps24
  go_wp2_with fail
  go_loopw [6] (fun v6 wr => ∃ i, i ≤ n ∧ v6 = .int .i64 (i : Int) ∧ Hid (getT l k = getT (l.drop i) k) ∧ w = wr) (fun v6 _ => n - (intOf v6).toNat)
  case atStart => exact ⟨0, Nat.zero_le _, rfl, by show getT l k = _; simp, rfl⟩
  case round =>
    obtain ⟨i, hk, rfl, HG, rfl⟩ := hrel
    by_cases hlt : i < n
    · obtain ⟨x, hx⟩ : ∃ x, l[i]? = some x := ⟨l[i]'(by rw [← HN.out]; exact hlt), List.getElem?_eq_getElem _⟩
      obtain ⟨b, o, rfl, c1, c2⟩ := hL i x hx
      have HX := Lib.hid hx
      unfold str at c1 c2
      obtain ⟨x1, x2⟩ := x
      dsimp only at c1 c2
      clear hx
      by_cases hxk : x1 = k
      · subst hxk
        go_wp2
        go_ret2
        have := HG.out
        rw [getT_hit l i _ HX.out] at this
        rw [this]
        exact ⟨rfl, rfl⟩
      · have he : (x1 == k) = false := by rw [beq_eq_false_iff_ne]; exact hxk
        have Hxk := Lib.hid hxk
        clear hxk
        go_wp2
        go_roundw
        case rel => exact ⟨i + 1, by omega, by go_num, by show getT l k = _; rw [HG.out, getT_drop l k i _ HX.out Hxk.out], by first | rfl | trivial⟩
        case measure => simp [intOf]; omega
    · have hkn : i = n := by omega
      subst hkn
      go_wp2
      go_ret2
      have := HG.out
      rw [getT_end l k i (by rw [← HN.out]; exact Nat.le_refl _)] at this
      rw [this]
      exact ⟨rfl, rfl⟩

/-- append of one string onto an own row, as a step of a region that draws. -/
theorem step_str {ops : Array Oper} {o : Oper} {a : Act} {K : Act → World → Prop} {Q : Exit → Act → World → Prop} {E : Prop} (t e : TypeId) (ht : Tryz.prog.underlying t = some (.slice e))
    (hinf : (Tryz.prog.info? e).map (fun i => (i.zero, i.size, i.bytes)) = some (some (.string ⟨#[]⟩), 1, 16)) (w : World) (hgd : o.guard = none) (s x : Operand)
    (ho : o.op = .call { callee := .builtin .append, args := #[s, x], argTypes := #[t, t] }) (base : Nat) (v : Value) (n : Nat) (xs : List Value) (u : List UInt8) (hs : a.eval s = v)
    (hown : w.ownsRow base e 1 v n xs) (hx : a.eval x = .slice (some ⟨w.heap.size, 0, none⟩) 1 1) (hn : n ≤ 1000) (hbase : base ≤ w.heap.size)
    (h : ∀ v' w', w'.ownsRow base e 1 v' (n + 1) (xs ++ [encStr u]) → (w.alloc (.cells #[.string ⟨u.toArray⟩] e)).grownBy w' v.ownBlock → K (a.put o.dst v') w') :
    if Region.wanted o (yielded ops a.tmps) = true then Oper.wp Tryz.prog o a (w.alloc (.cells #[.string ⟨u.toArray⟩] e)) K Q else E := by
  have hw : Region.wanted o (yielded ops a.tmps) = true := by simp [Region.wanted, hgd]
  rw [if_pos hw]
  obtain ⟨i, hi, hz0, hz1, hz2⟩ := info_parts hinf
  refine wp_append_own _ s x t ho base e i (.string ⟨#[]⟩) 1 16 ht hi hz0 hz1 hz2 rfl (by decide) v n xs hs (hown.alloc _) ⟨w.heap.size, 0, none⟩ 1 1 [encStr u] hx rfl ?_ ?_ ?_ ?_ ?_ ?_
  · intro j y hj
    match j, hj with
    | 0, hj => simp at hj; subst hj; simp [Addr.add, encStr]
  · intro y hy; simp at hy; subst hy; rfl
  · unfold maxLen; omega
  · omega
  · simp; omega
  · intro v' w' h1 h2 _
    exact h v' w' h1 h2

/-- What the loop of spec.MetricText has made. -/
structure TS (w : World) (l : List Lab) (i : Nat) (v : Value) (wr : World) : Prop where
  row : wr.ownsRow w.heap.size 9 1 v (partsT (l.take i)).length ((partsT (l.take i)).map encStr)
  bel : Below w.heap.size w wr

theorem TS.skip {w wr : World} {l : List Lab} {i : Nat} {v : Value} (h : TS w l i v wr) (x : Lab) (hx : l[i]? = some x) (hn : x.1 = nm) : TS w l (i + 1) v wr := by
  refine ⟨?_, h.bel⟩
  rw [take_snoc' l i x hx, partsT_snoc, if_pos hn, List.append_nil]
  exact h.row

theorem TS.added {w w2 w3 : World} {l : List Lab} {i : Nat} {v v' : Value} (x : Lab) (hx : l[i]? = some x) (hn : x.1 ≠ nm) (u : List UInt8) (hu : u = partT x)
    (hrow : w2.ownsRow w.heap.size 9 1 v (partsT (l.take i)).length ((partsT (l.take i)).map encStr)) (hB : Below w.heap.size w w2)
    (h1 : w3.ownsRow w.heap.size 9 1 v' ((partsT (l.take i)).length + 1) ((partsT (l.take i)).map encStr ++ [encStr u])) (h2 : (w2.alloc (.cells #[.string ⟨u.toArray⟩] 9)).grownBy w3 v.ownBlock) :
    TS w l (i + 1) v' w3 := by
  have hr1 := hrow.alloc (.cells #[.string ⟨u.toArray⟩] 9)
  refine ⟨?_, ?_⟩
  · rw [take_snoc' l i x hx, partsT_snoc, if_neg hn, List.length_append, List.map_append, ← hu]; exact h1
  · exact (hB.alloc hB.size _).grown h2 (by have := hB.size; simp; omega) (fun k hk => (hr1.lt k hk).1)

set_option maxRecDepth 100000 in
set_option maxHeartbeats 3200000 in
theorem metrict_walk (l : List Lab) (a : Option Addr) (c : Nat) (hF : Few l) (w : World) (hL : LabsAt w a l) (hT : Tabs w) (name : List UInt8) (has : Bool) (m n : Nat) (hname : name.length ≤ 300) (hn10 : n ≤ 10) (hm : m ≤ n)
    (hget : Calls Tryz.prog 24 #[.slice a n c, .string ⟨#[95, 95, 110, 97, 109, 101, 95, 95]⟩] w fun e w' => e = .returned (.tuple #[.string ⟨name.toArray⟩, .bool has]) ∧ w = w') (hpm : (partsT l).length = m) (hln : l.length = n) :
    Calls Tryz.prog 11 #[.slice a n c] w fun e w' => e = .returned (str (if m = 0 then (if has then name else [123, 125]) else ((name ++ [123]) ++ Lib.join ((partsT l).mergeSort leB) [44, 32]) ++ [125])) ∧ Below w.heap.size w w' := by
  have HF := Lib.hid hF
  have Hpm := Lib.hid hpm
  have Hln := Lib.hid hln
  clear hF hpm hln
  go_enter Tryz.func11, Tryz.ntmps11
  go_wp2_with (go_at_call 24; (with_reducible refine hget.mono ?_); rintro e w1 ⟨rfl, rfl⟩)
  go_loopw [5, 6] (fun v5 v6 wr => ∃ i, i ≤ n ∧ v6 = .int .i64 (i : Int) ∧ Hid (TS w l i v5 wr)) (fun _ v6 _ => n - (intOf v6).toNat)
  case atStart => exact ⟨0, Nat.zero_le _, rfl, World.ownsRow_nil _ _ _ _, Below.refl _ _⟩
  case round =>
    obtain ⟨i, hk, rfl, HS⟩ := hrel
    rename World => wr
    by_cases hlt : i < n
    · obtain ⟨x, hx⟩ : ∃ x, l[i]? = some x := ⟨l[i]'(by rw [Hln.out]; exact hlt), List.getElem?_eq_getElem _⟩
      have hxF := HF.out.2 x (List.mem_of_getElem? hx)
      obtain ⟨b, o, rfl, c10, c20⟩ := hL i x hx
      have HX := Lib.hid hx
      unfold str at c10 c20
      obtain ⟨xn, xv⟩ := x
      dsimp only at c10 c20 hxF
      have HC1 : Hid (∀ w4, Below w.heap.size w w4 → w4.cell? ⟨b, o + i * 2, none⟩ = some (.string ⟨xn.toArray⟩) ∧ w4.cell? ⟨b, o + i * 2 + 1, none⟩ = some (.string ⟨xv.toArray⟩)) := fun w4 hb4 =>
        ⟨(hb4.cell (p := ⟨b, o + i * 2, none⟩) (World.block_lt_of_cell? w _ c10)).trans c10, (hb4.cell (p := ⟨b, o + i * 2 + 1, none⟩) (World.block_lt_of_cell? w _ c20)).trans c20⟩
      obtain ⟨c1, c2⟩ := HC1.out wr HS.out.bel
      clear c10 c20
      have hps : (partsT (l.take i)).length ≤ 1000 := by
        have h2 := partsT_le (l.take i)
        rw [List.length_take] at h2
        omega
      clear hx
      by_cases hxn : xn = nm
      · subst hxn
        unfold nm at c1
        clear hxF
        go_wp2
        go_roundw
        case rel => exact ⟨i + 1, by omega, by go_num, HS.out.skip _ HX.out rfl⟩
        case measure => simp [intOf]; omega
      · have hneq : (xn == [95, 95, 110, 97, 109, 101, 95, 95]) = false := by rw [beq_eq_false_iff_ne]; exact hxn
        have Hxn := Lib.hid hxn
        have hB := HS.out.bel
        have hrow := HS.out.row
        have hTq := hT.below hB
        have hq := quote_call xv hxF.2 wr.drew (hTq.below (Below.refl _ wr).drew)
        have hql := quoteT_len xv
        obtain ⟨qv, HQ⟩ : ∃ qv, Hid (qv = quoteT xv) := ⟨_, rfl⟩
        rw [← HQ.out] at hq hql
        obtain ⟨s1, S1, k1⟩ := cat_ex xn [61] (by simp; omega)
        have hs1 := cat_len S1
        obtain ⟨s2, S2, k2⟩ := cat_ex s1 qv (by simp at hs1; omega)
        have Hu : Hid (s2 = partT (xn, xv)) := by show s2 = _; rw [S2.out, S1.out, HQ.out]; rfl
        have HB := Lib.hid hB
        have HROW := Lib.hid hrow
        clear hxn hs1 hql hxF hB hrow hTq
        go_wp2_with fail
        go_region_held3 (fun w' => w'.cell? ⟨b, o + i * 2, none⟩ = some (.string ⟨xn.toArray⟩) ∧ w'.cell? ⟨b, o + i * 2 + 1, none⟩ = some (.string ⟨xv.toArray⟩)) (go_keep) (first
          | (go_at_call 25; (with_reducible refine hq.mono ?_); rintro e w4 ⟨rfl, hb4⟩; have HB4 := Lib.hid (HB.out.drew.trans (hb4.mono HB.out.size)); have HR4 := Lib.hid (row_below (w := wr.drew) HROW.out hb4); have d1 := (HC1.out w4 HB4.out).1; have d2 := (HC1.out w4 HB4.out).2; clear hb4)
          | (refine step_str 57 9 Tryz.underlying57 info9 _ rfl _ _ rfl w.heap.size u5 _ _ s2 rfl HR4.out rfl hps HB4.out.size ?_; intro v' w5 hrow5 hg5; have hts := Lib.hid (TS.added _ HX.out Hxn.out s2 Hu.out HR4.out HB4.out hrow5 hg5); have f1 := (HC1.out w5 hts.out.bel).1; have f2 := (HC1.out w5 hts.out.bel).2; clear hrow5 hg5))
        go_wp2
        go_roundw
        case rel => exact ⟨i + 1, by omega, by go_num, hts⟩
        case measure => simp [intOf]; omega
    · have hkn : i = n := by omega
      subst hkn
      have hrow := HS.out.row
      have hBel := HS.out.bel
      rw [← Hln.out, List.take_length, Hpm.out] at hrow
      by_cases h0 : m = 0
      · subst h0
        have hv : ∃ ad cp, u5 = .slice ad 0 cp := by
          rcases hrow.2 with ⟨hnil, hk0⟩ | ⟨g, cap, cur, hv, hbase, hb, h1, h2, h3, h4⟩
          · exact ⟨_, _, hnil⟩
          · exact ⟨_, _, hv⟩
        obtain ⟨ad, cp, rfl⟩ := hv
        clear hrow
        cases has
        all_goals
          go_wp2
          go_ret
          exact ⟨rfl, hBel⟩
      · have hne : ((m : Int) == 0) = false := by simpa using h0
        obtain ⟨g, cap, hv, hcap, hgl, hbase, hsort⟩ := sort_own 23 Tryz.sort_Strings w.heap.size 9 u5 m (partsT l) wr hrow Hpm.out (Or.inl h0) (by omega) hBel.size
        have hPL := partT_len HF.out
        have hmsl : ((partsT l).mergeSort leB).length = m := by rw [List.length_mergeSort]; exact Hpm.out
        obtain ⟨ms, hmsE⟩ : ∃ ms, ms = (partsT l).mergeSort leB := ⟨_, rfl⟩
        have hPL2 : ∀ x ∈ ms, x.length ≤ 4000 := fun x hx => by rw [hmsE] at hx; exact hPL x ((List.mergeSort_perm _ _).mem_iff.1 hx)
        rw [← hmsE] at hsort hmsl
        have HE := Lib.hid hmsE
        have HL := Lib.hid hmsl
        have HPL := Lib.hid hPL2
        have hjl : (Lib.join ms [44, 32]).length ≤ 50000 := by
          have h1 := join_len ms [44, 32] 4000 hPL2
          have h3 : ms.length * (4000 + [(44 : UInt8), 32].length) ≤ 10 * 4002 := Nat.mul_le_mul (by omega) (by simp)
          omega
        subst hv
        clear hrow HS hmsE hPL hPL2 hmsl
        obtain ⟨s1, S1, c1⟩ := cat_ex name [123] (by simp; omega)
        have hs1 := cat_len S1
        obtain ⟨J, HJ⟩ : ∃ J, Hid (J = Lib.join ms [44, 32]) := ⟨_, rfl⟩
        rw [← HJ.out] at hjl
        obtain ⟨s2, S2, c2⟩ := cat_ex s1 J (by simp at hs1; omega)
        have hs2 := cat_len S2
        obtain ⟨s3, S3, c3⟩ := cat_ex s2 [125] (by simp at hs1 ⊢; omega)
        clear hs1 hs2 hjl
        cases has
        all_goals
          go_wp2_with (first
            | (go_at_call 23; (with_reducible refine hsort.mono ?_); rintro e w4 ⟨rfl, hb4, hro4⟩; have hjoin := join_call ms [44, 32] g cap 4000 w4 (cell_enc hro4 HL.out.symm) (Nat.lt_of_lt_of_le hgl hb4.size) (by rw [HL.out]; omega) (by rw [HL.out]; exact hcap) HPL.out (by simp); rw [HL.out, ← HJ.out] at hjoin)
            | (go_at_call 26; (with_reducible refine hjoin.mono ?_); rintro e w5 ⟨rfl, hb5⟩)
            | go_in)
          go_ret
          refine ⟨?_, (hBel.trans hb4).trans (hb5.mono (Nat.le_trans hBel.size hb4.size))⟩
          rw [S3.out, S2.out, S1.out, HJ.out, HE.out]
          show Ending.returned (.string ⟨_⟩) = Ending.returned (.string ⟨_⟩)
          simp

theorem metric_text (l : List Lab) (a : Option Addr) (c : Nat) (hF : Few l) (_hN : Names l) (w : World) (hL : LabsAt w a l) (hT : Tabs w) :
    Calls Tryz.prog 11 #[.slice a l.length c] w fun e w' => e = .returned (str (metricT l)) ∧ Below w.heap.size w w' := by
  have hg : ((getT l nm).getD []).length ≤ 300 := by
    cases h : getT l nm with
    | none => simp
    | some v => exact (hF.2 _ (getT_mem h)).2
  have h := metrict_walk l a c hF w hL hT ((getT l nm).getD []) (getT l nm).isSome (partsT l).length l.length hg hF.1 (partsT_le l) (get_any l a c nm (Nat.le_trans hF.1 (by decide)) w hL) rfl rfl
  refine h.mono ?_
  rintro e w' ⟨rfl, hb⟩
  refine ⟨?_, hb⟩
  unfold metricT
  congr 2
  cases getT l nm <;> rfl

end Go.Proofs.YtdeejmkjhmpabaaGreatDoor

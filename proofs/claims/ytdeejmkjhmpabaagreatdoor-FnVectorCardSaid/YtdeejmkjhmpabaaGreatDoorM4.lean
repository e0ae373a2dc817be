/-
  LabelSet.Before, Metric.Before.
-/
import Derived.Test.YtdeejmkjhmpabaaGreatDoorM3
import Derived.Test.YtdeejmkjhmpabaaGreatDoorBf

namespace Go.Proofs.YtdeejmkjhmpabaaGreatDoor
open Go.RowKit Go.Lib Go.Maps Go.WideMaps

theorem less_iff : ∀ x y : List UInt8, Op.bytesLess x y = true ↔ x < y
  | _, [] => by simp [Op.bytesLess]
  | [], _ :: _ => by simp [Op.bytesLess]
  | a :: x, b :: y => by
    rw [List.cons_lt_cons_iff, ← less_iff x y]
    simp [Op.bytesLess]

theorem less_irrefl (x : List UInt8) : Op.bytesLess x x = false := by
  cases h : Op.bytesLess x x with
  | false => rfl
  | true => exact absurd ((less_iff x x).1 h) (List.lt_irrefl x)

def keysT (xs : List Lab) : List (List UInt8) := xs.map Prod.fst

/-- What a loop that collects names has made. -/
structure NS (w : World) (l : List Lab) (b r n : Nat) (pre : List (List UInt8)) (v : Value) (wr : World) (left : Lit → Bool) (cnt : Nat) (xs : List Lab) : Prop where
  rg : wr.ranges Tryz.prog 111 (plainElem Tryz.prog 110) b r n (LabMap l) left cnt
  row : wr.ownsRow w.heap.size 111 1 v (pre ++ keysT xs).length ((pre ++ keysT xs).map encStr)
  col : Col l left xs
  bel : Below w.heap.size w wr
  nn : v ≠ .slice none 0 0

theorem NS.start {w w1 w2 : World} {l : List Lab} {b n : Nat} {pre : List (List UInt8)} {v : Value} (h1 : w1.ownsRow w.heap.size 111 1 v pre.length (pre.map encStr)) (hs : v ≠ .slice none 0 0) (hB : Below w.heap.size w w1)
    (hrg : w2.ranges Tryz.prog 111 (plainElem Tryz.prog 110) b w1.heap.size n (LabMap l) (has (LabMap l)) (size (LabMap l))) (hg2 : w1.grownBy w2 none) :
    NS w l b w1.heap.size n pre v w2 (has (LabMap l)) (size (LabMap l)) [] :=
  ⟨hrg, by simpa [keysT] using h1.kept hg2 (by cases v.ownBlock <;> simp), Col.start l, hB.grown hg2 hB.size (fun k hk => by cases hk), hs⟩

theorem NS.step {w wr w1 w3 : World} {l : List Lab} {b r n cnt cnt1 : Nat} {pre : List (List UInt8)} {v v' : Value} {left left' : Lit → Bool} {xs : List Lab} {x : Lab} (hbw : b < w.heap.size) (h : NS w l b r n pre v wr left cnt xs) (hr : w.heap.size ≤ r)
    (hg : wr.grownBy w1 (some r)) (hrg : w1.ranges Tryz.prog 111 (plainElem Tryz.prog 110) b r n (LabMap l) left' cnt1) (hC : Col l left' (xs ++ [x]))
    (h1 : w3.ownsRow w.heap.size 111 1 v' ((pre ++ keysT xs).length + 1) ((pre ++ keysT xs).map encStr ++ [encStr x.1])) (h2 : (w1.alloc (.cells #[.string ⟨x.1.toArray⟩] 111)).grownBy w3 v.ownBlock) :
    NS w l b r n pre v' w3 left' cnt1 (xs ++ [x]) := by
  have hrow : w1.ownsRow w.heap.size 111 1 v (pre ++ keysT xs).length ((pre ++ keysT xs).map encStr) := by
    refine h.row.kept hg ?_
    cases hob : v.ownBlock with
    | none => exact Or.inl rfl
    | some g => exact Or.inr (fun e => row_ne_iter h.row h.rg (by rw [hob]; exact e.symm))
  have hB : Below w.heap.size w w1 := h.bel.grown hg h.bel.size (fun k hk => by cases hk; exact hr)
  have hr1 := hrow.alloc (.cells #[.string ⟨x.1.toArray⟩] 111)
  have e : pre ++ keysT (xs ++ [x]) = (pre ++ keysT xs) ++ [x.1] := by simp [keysT]
  refine ⟨(hrg.alloc _).kept h2 (row_ne_low hr1 hbw) (row_ne_iter hr1 (hrg.alloc _)), ?_, hC, ?_, ?_⟩
  · rw [e, List.length_append, List.map_append]; exact h1
  · exact (hB.alloc hB.size _).grown h2 (by have := hB.size; simp; omega) (fun k hk => (hr1.lt k hk).1)
  · intro hv
    subst hv
    rcases h1.2 with ⟨_, hk0⟩ | ⟨g, cap, cur, hv, _⟩
    · omega
    · cases hv

/-- The row of the names, and what lies below, at the step. -/
theorem NS.row1 {w wr w1 : World} {l : List Lab} {b r n cnt : Nat} {pre : List (List UInt8)} {v : Value} {left : Lit → Bool} {xs : List Lab} (h : NS w l b r n pre v wr left cnt xs) (hg : wr.grownBy w1 (some r)) :
    w1.ownsRow w.heap.size 111 1 v (pre ++ keysT xs).length ((pre ++ keysT xs).map encStr) := by
  refine h.row.kept hg ?_
  cases hob : v.ownBlock with
  | none => exact Or.inl rfl
  | some g => exact Or.inr (fun e => row_ne_iter h.row h.rg (by rw [hob]; exact e.symm))

set_option maxRecDepth 100000 in
set_option maxHeartbeats 3200000 in
theorem before_walk (l1 l2 : List Lab) (b1 b2 n : Nat) (hF1 : Few l1) (hF2 : Few l2) (hN1 : Names l1) (hN2 : Names l2) (hn1 : l1.length = n) (hn2 : l2.length = n) (w : World) (hM1 : MapAt w b1 l1) (hM2 : MapAt w b2 l2) :
    Calls Tryz.prog 88 #[.map (some b1), .map (some b2)] w fun e w' => e = .returned (.bool (befGo l1 l2 (namesT l1 l2))) ∧ Below w.heap.size w w' := by
  have hbw1 := hM1.lt
  have hbw2 := hM2.lt
  have hn10 : n ≤ 10 := by rw [← hn1]; exact hF1.1
  have hlen1 := map_len Tryz.underlying71 hM1 hN1
  have hlen2 := map_len Tryz.underlying71 hM2 hN2
  rw [hn1] at hlen1
  rw [hn2] at hlen2
  obtain ⟨i0, hi, hz0, hz1, hz2⟩ := info_parts info111
  obtain ⟨n2, hn2n⟩ : ∃ n2, n2 = n + n := ⟨_, rfl⟩
  have hadd : (n : Int) + (n : Int) = (n2 : Int) := by omega
  have HN1 := Lib.hid hN1
  have HN2 := Lib.hid hN2
  have HF1 := Lib.hid hF1
  have HF2 := Lib.hid hF2
  have HM1 := Lib.hid hM1
  have HM2 := Lib.hid hM2
  have Hn1 := Lib.hid hn1
  have Hn2 := Lib.hid hn2
  have Hn2n := Lib.hid hn2n
  have hn220 : n2 ≤ 20 := by omega
  clear hN1 hN2 hF1 hF2 hM1 hM2 hn1 hn2 hn2n
  go_enter Tryz.func88, Tryz.ntmps88
  go_wp2_with (first
    | (at_make; refine wpList_make_own _ rfl _ _ 178 rfl w.heap.size 111 i0 (.string ⟨#[]⟩) 1 Tryz.underlying178 hi hz0 hz1 _ _ _ n2 rfl rfl rfl (by rw [hz2]; omega) (by unfold maxLen; omega) (Nat.le_refl _) ?_; intro w1 hrow1 hg1; have hB1 := (Below.refl _ w).grown hg1 (Nat.le_refl _) (fun k hk => by cases hk); have hMa := HM1.out.below hB1)
    | (at_range; refine wpList_range_own _ rfl _ 71 rfl 111 110 keyed111 Tryz.underlying71 _ b1 l1.length _ rfl hMa ?_; intro w2 hrg2 hg2 hs2)
    | go_in)
  try go_frame
  have hr1 : w.heap.size ≤ w1.heap.size := hB1.size
  have hms := Lib.hid (NS.start (pre := []) hrow1 (by intro h; cases h) hB1 hrg2 hg2)
  clear hrg2 hg2 hs2 hMa hrow1 hg1 hB1
  go_loopw [5] (fun v5 wr => ∃ left cnt xs, Hid (NS w l1 b1 w1.heap.size l1.length [] v5 wr left cnt xs)) (fun _ wr => wr.rangeLeft b1 w1.heap.size)
  case atStart => exact ⟨_, _, [], hms.out⟩
  case round =>
    obtain ⟨left, cnt, xs, HM⟩ := hrel
    rename World => wr
    have hrg := HM.out.rg
    have hm0 := HM.out.rg.left_eq
    go_wp2_with (first
      | (at_next; refine next_labs _ rfl _ rfl b1 w1.heap.size l1.length l1 HN1.out left cnt xs rfl hrg HM.out.col ?_ ?_)
      | go_in)
    · intro hp
      have HP1 := Lib.hid hp
      have hMb := HM2.out.below HM.out.bel
      have HROW := Lib.hid HM.out.row
      have HBEL := Lib.hid HM.out.bel
      have HNN := Lib.hid HM.out.nn
      clear hrg hm0 HM hp hms
      go_wp2_with (first
        | (at_range; refine wpList_range_own _ rfl _ 71 rfl 111 110 keyed111 Tryz.underlying71 _ b2 l2.length _ rfl hMb ?_; intro w3 hrg3 hg3 hs3)
        | go_in)
      try go_frame
      have hr2 : w.heap.size ≤ wr.heap.size := HBEL.out.size
      have hms := Lib.hid (NS.start (pre := keysT xs) (by have := HROW.out; simpa using this) HNN.out HBEL.out hrg3 hg3)
      have Hr2 := Lib.hid hr2
      clear hrg3 hg3 hs3 hMb HROW HBEL HNN
      go_loopw [5] (fun v5 wq => ∃ left cnt ys, Hid (NS w l2 b2 wr.heap.size l2.length (keysT xs) v5 wq left cnt ys)) (fun _ wq => wq.rangeLeft b2 wr.heap.size)
      case atStart => exact ⟨_, _, [], hms.out⟩
      case round =>
        obtain ⟨left2, cnt2, ys, HM⟩ := hrel
        rename World => wq
        have hrg := HM.out.rg
        have hm0 := HM.out.rg.left_eq
        go_wp2_with (first
          | (at_next; refine next_labs _ rfl _ rfl b2 wr.heap.size l2.length l2 HN2.out left2 cnt2 ys rfl hrg HM.out.col ?_ ?_)
          | go_in)
        · intro hp2
          have hpn : (keysT xs ++ keysT ys).Perm (l1.map Prod.fst ++ l2.map Prod.fst) := (HP1.out.map Prod.fst).append (hp2.map Prod.fst)
          have hlk : (keysT xs ++ keysT ys).length = n2 := by
            rw [hpn.length_eq, List.length_append, List.length_map, List.length_map, Hn1.out, Hn2.out, Hn2n.out]
          obtain ⟨g, cap, hv, hcap, hgl, hbase, hsort⟩ := sort_own 123 Tryz.slices_Sort_names w.heap.size 111 _ n2 (keysT xs ++ keysT ys) wq (hlk ▸ HM.out.row) hlk (Or.inr HM.out.nn) (by omega) HM.out.bel.size
          rw [mergeSort_of_perm hpn] at hsort
          have hnsl : (namesT l1 l2).length = n2 := by unfold namesT; rw [List.length_mergeSort, ← hpn.length_eq, hlk]
          have hns3 : ∀ x ∈ namesT l1 l2, x.length ≤ 300 := fun x hx => by
            unfold namesT at hx
            rw [(List.mergeSort_perm _ _).mem_iff, List.mem_append, List.mem_map, List.mem_map] at hx
            rcases hx with ⟨y, hy, rfl⟩ | ⟨y, hy, rfl⟩
            · exact (HF1.out.2 y hy).1
            · exact (HF2.out.2 y hy).1
          change Calls Tryz.prog 123 _ wq (fun e' w' => _ ∧ _ ∧ w'.ownsRow _ _ _ _ _ ((namesT l1 l2).map encStr)) at hsort
          have hBel := HM.out.bel
          have HBel := Lib.hid hBel
          subst hv
          obtain ⟨ns, hns⟩ : ∃ ns, ns = namesT l1 l2 := ⟨_, rfl⟩
          rw [← hns] at hsort hnsl hns3
          have HNS := Lib.hid hns
          have HNL := Lib.hid hnsl
          have HN3 := Lib.hid hns3
          clear hrg hm0 HM hp2 hpn hlk hms hns hnsl hns3 hBel
          go_wp2_with (go_at_call 123; (with_reducible refine hsort.mono ?_); rintro e w4 ⟨rfl, hb4, hro4⟩)
          have hB4 := HBel.out.trans hb4
          have HB4 := Lib.hid hB4
          have hce := cell_enc hro4 HNL.out.symm
          have HM4 := Lib.hid (HM1.out.below hB4)
          have HM5 := Lib.hid (HM2.out.below hB4)
          clear hb4 hro4 hB4 hsort
          clear hcap hgl hbase hlen1 hlen2 hadd hbw1 hbw2 hr1 hr2 hi hz0 hz1 hz2
          have HB4n : Below w.heap.size w w4 := HB4.out
          clear HB4
          have HB4 := Lib.hid HB4n
          clear HB4n
          go_loopw [53] (fun v53 wz => ∃ i, i ≤ n2 ∧ v53 = .int .i64 (i : Int) ∧ Hid (befGo l1 l2 ns = befGo l1 l2 (ns.drop i)) ∧ w4 = wz) (fun v53 _ => n2 - (intOf v53).toNat)
          case atStart => exact ⟨0, Nat.zero_le _, rfl, by show befGo l1 l2 ns = _; simp, by first | rfl | trivial⟩
          case round =>
            obtain ⟨i, hk, rfl, HG, rfl⟩ := hrel
            by_cases hlt : i < n2
            · obtain ⟨x, hx⟩ : ∃ x, ns[i]? = some x := ⟨ns[i]'(by rw [HNL.out]; exact hlt), List.getElem?_eq_getElem _⟩
              have hc := hce i x hx
              have hxl := HN3.out x (List.mem_of_getElem? hx)
              have hlk1 := map_look Tryz.underlying71 HM4.out HN1.out x (by omega)
              have hlk2 := map_look Tryz.underlying71 HM5.out HN2.out x (by omega)
              have hdrop : ns.drop i = x :: ns.drop (i + 1) := by
                obtain ⟨h1, rfl⟩ := List.getElem?_eq_some_iff.1 hx
                exact List.drop_eq_getElem_cons h1
              have HD := Lib.hid hdrop
              clear hdrop hx hxl hce
              cases hg1 : getT l1 x with
              | none =>
                rw [hg1] at hlk1
                dsimp only [Option.getD, Option.isSome] at hlk1
                go_wp2
                go_ret
                have h := HG.out
                rw [HD.out, befGo, hg1, HNS.out] at h
                rw [h]
                exact ⟨rfl, HB4.out⟩
              | some u =>
                rw [hg1] at hlk1
                dsimp only [Option.getD, Option.isSome] at hlk1
                cases hg2 : getT l2 x with
                | none =>
                  rw [hg2] at hlk2
                  dsimp only [Option.getD, Option.isSome] at hlk2
                  go_wp2
                  go_ret
                  have h := HG.out
                  rw [HD.out, befGo, hg1, hg2, HNS.out] at h
                  rw [h]
                  exact ⟨rfl, HB4.out⟩
                | some y =>
                  rw [hg2] at hlk2
                  dsimp only [Option.getD, Option.isSome] at hlk2
                  have HG1 := Lib.hid hg1
                  have HG2 := Lib.hid hg2
                  clear hg1 hg2
                  by_cases e : u = y
                  · subst e
                    have hb1 : Op.bytesLess u u = false := less_irrefl u
                    go_wp2
                    go_roundw
                    case rel => exact ⟨i + 1, by omega, by go_num, by show befGo l1 l2 ns = _; rw [HG.out, HD.out, befGo, HG1.out, HG2.out]; simp, by first | rfl | trivial⟩
                    case measure => simp [intOf]; omega
                  · by_cases hl : u < y
                    · have hb1 : Op.bytesLess u y = true := (less_iff u y).2 hl
                      have HE := Lib.hid e
                      have HL := Lib.hid hl
                      clear e hl
                      go_wp2
                      go_ret
                      have h := HG.out
                      rw [HD.out, befGo, HG1.out, HG2.out, HNS.out] at h
                      rw [h]
                      have := HL.out
                      simp [HE.out, this, HB4.out]
                    · have hb1 : Op.bytesLess u y = false := by
                        cases hx : Op.bytesLess u y with
                        | false => rfl
                        | true => exact absurd ((less_iff u y).1 hx) hl
                      have hb2 : (u == y) = false := by rw [beq_eq_false_iff_ne]; exact e
                      have HE := Lib.hid e
                      have HL := Lib.hid hl
                      clear e hl
                      go_wp2
                      go_ret
                      have h := HG.out
                      rw [HD.out, befGo, HG1.out, HG2.out, HNS.out] at h
                      rw [h]
                      have := HL.out
                      simp [HE.out, this, HB4.out]
            · have hkn : i = n2 := by omega
              subst hkn
              clear hce
              go_wp2
              go_ret
              have h := HG.out
              rw [List.drop_eq_nil_of_le (by rw [HNL.out]; exact Nat.le_refl _), HNS.out] at h
              rw [h]
              exact ⟨rfl, HB4.out⟩
        · intro xn xv w3 left' cnt' hx hC hrg3 hlt hg3 hs3 hen
          have hrow3 := HM.out.row1 hg3
          have hps : (keysT xs ++ keysT ys).length ≤ 1000 := by
            have h1 := HM.out.col.le
            have h2 := HP1.out.length_eq
            have h3 := Hn1.out
            have h4 := Hn2.out
            simp only [keysT, List.length_append, List.length_map]
            omega
          have hB3 : w.heap.size ≤ w3.heap.size := by have := HM.out.bel.size; omega
          have Hx := Lib.hid (And.intro hg3 (And.intro hrg3 hC))
          clear hrg hrg3 hg3 hC hs3
          go_wp2_with (first
            | (at_builtin; refine wp_str 178 111 Tryz.underlying178 info111 _ rfl _ _ rfl w.heap.size u5 _ _ xn rfl hrow3 rfl hps hB3 ?_; intro v' w5 hrow5 hg5; have hms5 := Lib.hid (NS.step hbw2 HM.out Hr2.out Hx.out.1 Hx.out.2.1 Hx.out.2.2 hrow5 hg5); have hm5 := hms5.out.rg.left_eq)
            | go_in)
          go_roundw
          case rel => exact ⟨_, _, _, hms5⟩
          case measure => rw [hm5, hm0]; exact hlt
    · intro xn xv w3 left' cnt' hx hC hrg3 hlt hg3 hs3 hen
      have hrow3 := HM.out.row1 hg3
      have hps : ([] ++ keysT xs).length ≤ 1000 := by
        have h1 := HM.out.col.le
        have h3 := Hn1.out
        simp only [keysT, List.length_map, List.nil_append]
        omega
      have hB3 : w.heap.size ≤ w3.heap.size := by have := HM.out.bel.size; omega
      have Hx := Lib.hid (And.intro hg3 (And.intro hrg3 hC))
      clear hrg hrg3 hg3 hC hs3
      go_wp2_with (first
        | (at_builtin; refine wp_str 178 111 Tryz.underlying178 info111 _ rfl _ _ rfl w.heap.size u5 _ _ xn rfl hrow3 rfl hps hB3 ?_; intro v' w5 hrow5 hg5; have hms5 := Lib.hid (NS.step hbw1 HM.out hr1 Hx.out.1 Hx.out.2.1 Hx.out.2.2 hrow5 hg5); have hm5 := hms5.out.rg.left_eq)
        | go_in)
      go_roundw
      case rel => exact ⟨_, _, _, hms5⟩
      case measure => rw [hm5, hm0]; exact hlt

set_option maxHeartbeats 400000 in
/-- LabelSet.Before. -/
theorem lset_before (l1 l2 : List Lab) (b1 b2 : Nat) (hF1 : Few l1) (hF2 : Few l2) (hN1 : Names l1) (hN2 : Names l2) (w : World) (hM1 : MapAt w b1 l1) (hM2 : MapAt w b2 l2) :
    Calls Tryz.prog 88 #[.map (some b1), .map (some b2)] w fun e w' => e = .returned (.bool (befT l1 l2)) ∧ Below w.heap.size w w' := by
  by_cases hl : l1.length = l2.length
  · unfold befT
    rw [if_pos hl]
    exact before_walk l1 l2 b1 b2 l2.length hF1 hF2 hN1 hN2 hl rfl w hM1 hM2
  · have hlen1 := map_len Tryz.underlying71 hM1 hN1
    have hlen2 := map_len Tryz.underlying71 hM2 hN2
    have hn1 := hF1.1
    have hn2 := hF2.1
    unfold befT
    rw [if_neg hl]
    generalize l1.length = n1 at *
    generalize l2.length = n2 at *
    clear hN1 hN2 hM1 hM2 hF1 hF2
    by_cases hlt : n1 < n2
    · have hd : decide (n1 < n2) = true := by simpa using hlt
      rw [hd]
      clear hd
      go_enter Tryz.func88, Tryz.ntmps88
      go_wp2
      go_ret
      exact ⟨rfl, Below.refl _ _⟩
    · have hd : decide (n1 < n2) = false := by simpa using hlt
      have hgt : n2 < n1 := by omega
      rw [hd]
      clear hd
      go_enter Tryz.func88, Tryz.ntmps88
      go_wp2
      go_ret
      exact ⟨rfl, Below.refl _ _⟩

set_option maxHeartbeats 400000 in
/-- Metric.Before. -/
theorem metric_before (l1 l2 : List Lab) (b1 b2 : Nat) (hF1 : Few l1) (hF2 : Few l2) (hN1 : Names l1) (hN2 : Names l2) (w : World) (hM1 : MapAt w b1 l1) (hM2 : MapAt w b2 l2) :
    Calls Tryz.prog 61 #[.map (some b1), .map (some b2)] w fun e w' => e = .returned (.bool (befT l1 l2)) ∧ Below w.heap.size w w' := by
  have hc := lset_before l1 l2 b1 b2 hF1 hF2 hN1 hN2 w hM1 hM2
  clear hM1 hM2 hF1 hF2 hN1 hN2
  go_enter Tryz.func61, Tryz.ntmps61
  go_wp2_with (go_at_call 88; (with_reducible refine hc.mono ?_); rintro e w1 ⟨rfl, hb1⟩)
  go_ret
  exact ⟨rfl, hb1⟩

end Go.Proofs.YtdeejmkjhmpabaaGreatDoor

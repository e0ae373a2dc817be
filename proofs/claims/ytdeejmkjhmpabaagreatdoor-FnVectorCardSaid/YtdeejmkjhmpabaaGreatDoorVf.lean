/-
  laws.FnVector returns true.
-/
import Derived.Test.YtdeejmkjhmpabaaGreatDoorVg
namespace Go.Proofs.YtdeejmkjhmpabaaGreatDoor
open Go.RowKit Go.Lib Go.Maps Go.WideMaps

set_option maxRecDepth 100000 in
set_option maxHeartbeats 40000000 in
/-- laws.FnVector. -/
theorem vector_walk (L : List Pt) (n kk : Nat) (turned : Bool) (a : Option Addr) (c : Nat) (hn : L.length = n) (hb : n ≤ maxLen) (hkk : kk < 256) (hs : ∀ x ∈ L, x.1.length ≤ 9223372036854775807 ∧ ∀ y ∈ x.1, y.1.length ≤ 9223372036854775807) (w : World) (hL : PtsAt w a L) (hT : Tabs w) :
    Calls Tryz.prog 4 #[.slice a n c, .int .u8 (kk : Int), .bool turned] w fun e w' => e = .returned (.bool true) ∧ Below w.heap.size w w' := by
  have hfit := fits13_any L n a c hn w hL
  obtain ⟨S, hS⟩ := pts_fix hL
  have HN := Lib.hid hn
  have HS := Lib.hid hs
  have HT := Lib.hid hT
  have HF := Lib.hid hS
  have hnb : n ≤ 9223372036854775807 := by unfold maxLen at hb; omega
  clear hn hs hL hT hS hb
  go_enter Tryz.func4, Tryz.ntmps4
  go_wp2_with (first
    | (go_at_call 5; (with_reducible refine hfit.mono ?_); rintro e w1 ⟨⟨b1, rfl, _⟩, hb1⟩; have HB1 := Lib.hid hb1; clear hb1; cases b1)
    | (go_at_call 6; (with_reducible refine (points_any L n a c S HN.out hnb HS.out _ (HF.out.below HB1.out)).mono ?_); rintro e w2 hpe; rcases hpe with ⟨rfl, hb2⟩ | ⟨v, rfl, hok, hrow, hb2⟩ <;> (have HB2 := Lib.hid hb2; clear hb2))
    | (go_at_call 7; (with_reducible refine (awake _ (HT.out.below (HB1.out.trans (HB2.out.mono HB1.out.size)))).mono ?_); rintro e w3 ⟨rfl, hb3⟩; have HB3 := Lib.hid hb3; clear hb3))
  · go_ret
    exact ⟨rfl, HB1.out⟩
  · go_ret
    exact ⟨rfl, (HB1.out.trans (HB2.out.mono HB1.out.size)).trans (HB3.out.mono (Nat.le_trans HB1.out.size HB2.out.size))⟩
  · have HB : Hid (Below w.heap.size w w2) := HB1.out.trans (HB2.out.mono HB1.out.size)
    have HT2 : Hid (Tabs w2) := HT.out.below HB.out
    have HF2 : Hid (PtsFix w2 a L S) := HF.out.below HB.out
    obtain ⟨vad, vcp, rfl, hvc, hvm, hvn, hvi⟩ := pts_vecIn HN.out HF2.out hrow
    have HVI := Lib.hid hvi
    have HVN := Lib.hid hvn
    have HVM := Lib.hid hvm
    have HVC := Lib.hid hvc
    have HOK := Lib.hid (hok.all HN.out)
    have HNEQ := Lib.hid (hok.neq HN.out)
    have HORD := Lib.hid (hok.ordV HN.out)
    have hn12 : n ≤ 12 := by
      by_cases h0 : 0 < n
      · have := hok.len h0; have := HN.out; omega
      · omega
    clear hrow hok HT HF HB1 HB2 hfit hvi hvn hvm hvc
    rename World => wb
    go_loopw [9, 10] (fun v9 v10 wr => ∃ i s, i ≤ n ∧ v10 = .int .i64 (i : Int) ∧ v9 = .string ⟨s.toArray⟩ ∧ Hid (s = Lib.join ((linesV L).take i) [10]) ∧ Hid (Below wb.heap.size wb wr)) (fun _ v10 _ => n - (intOf v10).toNat)
    case atStart => exact ⟨0, [], Nat.zero_le _, rfl, rfl, by show [] = _; simp [Lib.join_nil], Below.refl _ _⟩
    case round =>
      obtain ⟨i, s, hi, rfl, rfl, HSJ, HBR⟩ := hrel
      rename World => wr
      by_cases hlt : i < n
      · obtain ⟨x, hx⟩ : ∃ x, L[i]? = some x := ⟨L[i]'(by rw [HN.out]; exact hlt), List.getElem?_eq_getElem _⟩
        obtain ⟨⟨b, o, rfl, c0, c1, c2⟩, hla, _, _⟩ := HF2.out i x hx
        have d0 := (HBR.out.cell (p := ⟨b, o + i * 3, none⟩) (World.block_lt_of_cell? wb _ c0)).trans c0
        have d1 := (HBR.out.cell (p := ⟨b, o + i * 3 + 1, none⟩) (World.block_lt_of_cell? wb _ c1)).trans c1
        have d2 := (HBR.out.cell (p := ⟨b, o + i * 3 + 2, none⟩) (World.block_lt_of_cell? wb _ c2)).trans c2
        have hpx := HOK.out x (List.mem_of_getElem? hx)
        have hlk := lines_take L i x hx
        have hll := lines_len L n HN.out HOK.out i (by omega)
        rw [← HSJ.out] at hlk hll
        obtain ⟨la, hla'⟩ : ∃ la, la = (S i).1 := ⟨_, rfl⟩
        obtain ⟨lc, hlc'⟩ : ∃ lc, lc = (S i).2.1 := ⟨_, rfl⟩
        rw [← hla', ← hlc'] at d0
        rw [← hla'] at hla
        obtain ⟨xl, e8, ms⟩ := x
        dsimp only at d0 d1 d2 hla hpx
        have hmt := metric_text xl la lc hpx.2.1.1 hpx.2.1.2.names wr.drew ((hla.below HBR.out).below (Below.refl _ _).drew) ((HT2.out.below HBR.out).below (Below.refl _ _).drew)
        have hpt := fun W (hW : Below wr.heap.size wr W) => pair_text e8 ms hpx.1.1 hpx.1.2 hpx.2.2.1 hpx.2.2.2 W ((HT2.out.below HBR.out).below hW)
        have hml := metricT_len hpx.2.1.1
        have hpl := pairT_len (e8, ms) ⟨hpx.1, hpx.2.2⟩
        dsimp only at hpl
        obtain ⟨m, hm⟩ : ∃ m, m = xl.length := ⟨_, rfl⟩
        obtain ⟨mt, HMT⟩ : ∃ mt, Hid (mt = metricT xl) := ⟨_, rfl⟩
        obtain ⟨pt, HPT⟩ : ∃ pt, Hid (pt = pairT e8 ms) := ⟨_, rfl⟩
        unfold str at hmt
        rw [← HMT.out] at hmt hml
        rw [← HPT.out] at hpl
        simp only [← HPT.out] at hpt
        rw [← hm] at hmt d0
        obtain ⟨s4, hs4⟩ : ∃ s4 : List UInt8, s4 = if i = 0 then s else s ++ [10] := ⟨_, rfl⟩
        have hl4 : s4.length ≤ 700001 := by rw [hs4]; split; omega; (simp; omega)
        obtain ⟨s1, S1, k1⟩ := cat_ex mt [32, 61, 62, 32] (by simp; omega)
        obtain ⟨s2, S2, k2⟩ := cat_ex s1 pt (by have := cat_len S1; simp at this; omega)
        obtain ⟨s5, S5, k5⟩ := cat_ex s4 s2 (by have := cat_len S1; have := cat_len S2; simp at *; omega)
        have hk : ∀ W, Below wr.heap.size wr W → W.cell? ⟨b, o + i * 3, none⟩ = some (.slice la m lc) ∧ W.cell? ⟨b, o + i * 3 + 1, none⟩ = some (.int .i64 e8) ∧ W.cell? ⟨b, o + i * 3 + 2, none⟩ = some (.int .i64 ms) := fun W hW =>
          ⟨(hW.cell (p := ⟨b, o + i * 3, none⟩) (World.block_lt_of_cell? wr _ d0)).trans d0, (hW.cell (p := ⟨b, o + i * 3 + 1, none⟩) (World.block_lt_of_cell? wr _ d1)).trans d1, (hW.cell (p := ⟨b, o + i * 3 + 2, none⟩) (World.block_lt_of_cell? wr _ d2)).trans d2⟩
        have HK := Lib.hid hk
        have HPTW := Lib.hid hpt
        have HLK := Lib.hid hlk
        have HS4 := Lib.hid hs4
        have HSL := Lib.hid hll
        clear hla hla' hlc' hm hml hpl hl4 hk hpt hlk hll hx hpx c0 c1 c2 hs4
        go_upto_if 34 with (fail)
        go_cut [9] from 33 to 57 (fun v9 w' => v9 = .string ⟨s4.toArray⟩ ∧ wr = w')
        case first =>
          by_cases hj0 : i = 0
          · have hs : s4 = s := by rw [HS4.out, if_pos hj0]
            subst hs hj0
            go_wp2
            all_goals first
              | (exfalso; omega)
              | (go_meet
                 case rel => exact ⟨rfl, rfl⟩)
          · have hs : Hid (s4 = s ++ [10]) := by show s4 = _; rw [HS4.out, if_neg hj0]
            obtain ⟨s4', S4', c4⟩ := cat_ex s [10] (by have := HSL.out; simp; omega)
            have : s4' = s4 := by rw [S4'.out, hs.out]
            subst this
            have hj1 : 0 < i := by omega
            go_wp2
            all_goals first
              | (exfalso; omega)
              | (go_meet
                 case rel => exact ⟨rfl, rfl⟩)
        case rest =>
          obtain ⟨rfl, rfl⟩ := hcut
          go_wp2_with fail
          go_region_held3 (fun w' => w'.cell? ⟨b, o + i * 3, none⟩ = some (.slice la m lc) ∧ w'.cell? ⟨b, o + i * 3 + 1, none⟩ = some (.int .i64 e8) ∧ w'.cell? ⟨b, o + i * 3 + 2, none⟩ = some (.int .i64 ms)) (go_keep) (first
            | (go_at_call 11; (with_reducible refine hmt.mono ?_); rintro e w3 ⟨rfl, hb3⟩; have HB3 : Hid (Below wr.heap.size wr w3) := (Below.refl _ wr).drew.trans hb3; clear hb3; obtain ⟨f0, f1, f2⟩ := HK.out w3 HB3.out)
            | (go_at_call 12; (with_reducible refine (HPTW.out w3 HB3.out).mono ?_); rintro e w4 ⟨rfl, hb4⟩; have HB4 : Hid (Below wr.heap.size wr w4) := HB3.out.trans (hb4.mono HB3.out.size); clear hb4; obtain ⟨g0, g1, g2⟩ := HK.out w4 HB4.out))
          all_goals
            go_wp2
            go_roundw
            case rel =>
              refine ⟨i + 1, s5, by omega, by go_num, rfl, ?_, HBR.out.trans (HB4.out.mono HBR.out.size)⟩
              show s5 = _
              rw [HLK.out, S5.out, HS4.out, S2.out, S1.out, HMT.out, HPT.out]
              unfold smT
              by_cases hj0 : i = 0
              · subst hj0
                have := HSJ.out
                simp [Lib.join_nil] at this
                subst this
                simp
              · simp [hj0]
            case measure => simp [intOf]; omega
      · obtain rfl : n = i := by omega
        have hts : Lib.join (linesV L) [10] = s := by
          have h := HSJ.out
          rw [List.take_of_length_le (by unfold linesV; rw [List.length_map, HN.out]; exact Nat.le_refl _)] at h
          exact h.symm
        have hsort := vsorted_any L S n vcp vad HN.out hn12 HOK.out HORD.out HNEQ.out wr (HVI.out.below HBR.out)
        have HTS := Lib.hid hts
        clear hts HSJ
        go_wp2_with (first
          | (go_at_call 14; (with_reducible refine hsort.mono ?_); rintro e w3 ⟨p, S2, sad, scp, hA, hSR, rfl, hsv, hsn, hb3⟩; have HSN := Lib.hid hsn; have HB3 : Hid (Below wb.heap.size wb w3) := HBR.out.trans (hb3.mono HBR.out.size); have HA := Lib.hid hA; have HSR := Lib.hid hSR; have HSV := Lib.hid hsv; clear hA hSR hsv hsn hb3; have hvt := vector_text L S n vcp vad HN.out hn12 HOK.out w3 (HVI.out.below HB3.out) (HT2.out.below HB3.out); rw [HTS.out] at hvt; unfold str at hvt)
          | (go_at_call 15; (with_reducible refine hvt.mono ?_); rintro e w4 ⟨rfl, hb4⟩; have HB4 : Hid (Below wb.heap.size wb w4) := HB3.out.trans (hb4.mono HB3.out.size); have HSV4 : Hid (VecIn w4 sad (arrV L n p) S2) := HSV.out.below hb4; clear hb4))
        clear HSV hsort HBR HB3 HTS
        go_loopw [12] (fun v12 wq => ∃ i, i ≤ n ∧ v12 = .int .i64 (i : Int) ∧ Hid (Below w4.heap.size w4 wq)) (fun v12 _ => n - (intOf v12).toNat)
        case atStart => exact ⟨0, Nat.zero_le _, rfl, Below.refl _ _⟩
        case round =>
          obtain ⟨i, hi, rfl, HBQ⟩ := hrel
          rename World => wq
          by_cases hlt : i < n
          · have hiL : i < (arrV L n p).length := by rw [arrV_len]; exact hlt
            obtain ⟨y, hy⟩ : ∃ y, (arrV L n p)[i]? = some y := ⟨_, List.getElem?_eq_getElem hiL⟩
            obtain ⟨sb, so, rfl, e0, e1, e2, hlaY, hbvY⟩ := (HSV4.out.below HBQ.out) i y hy
            have hyL : y = L[p i]! := Option.some.inj (hy.symm.trans (arrV_get L n p i hlt))
            have hpi := HA.out.into i hlt
            have hyok : PtOk y := by rw [hyL]; exact HOK.out _ (List.mem_of_getElem? (get_bang L (p i) (by rw [HN.out]; exact hpi)))
            obtain ⟨la2, hla2⟩ : ∃ la, la = (S2 i).1 := ⟨_, rfl⟩
            obtain ⟨lc2, hlc2⟩ : ∃ lc, lc = (S2 i).2.1 := ⟨_, rfl⟩
            obtain ⟨bv2, hbv2⟩ : ∃ bv, bv = (S2 i).2.2 := ⟨_, rfl⟩
            have hln2 : la2 ≠ none := by rw [hla2]; exact HSN.out i hlt
            rw [← hla2, ← hlc2] at e0
            rw [← hbv2] at e1 hbvY
            rw [← hla2] at hlaY
            obtain ⟨m2, hm2⟩ : ∃ m, m = y.1.length := ⟨_, rfl⟩
            obtain ⟨ms2, hms2⟩ : ∃ m, m = y.2.2 := ⟨_, rfl⟩
            rw [← hm2] at e0
            rw [← hms2] at e2
            have HY := Lib.hid (And.intro hyL (And.intro hyok (And.intro hm2 hms2)))
            have HLAY := Lib.hid (And.intro hlaY (And.intro hbvY hln2))
            have HPI := Lib.hid hpi
            clear hlaY hbvY hla2 hlc2 hbv2 hm2 hms2 hy hiL hyL hyok hpi hln2
            go_upto_if 93 with (fail)
            go_cut [93] from 77 to 93 (fun v93 w' => v93 = .bool false ∧ Hid (Below wq.heap.size wq w'))
            case first =>
              by_cases hj0 : i = 0
              · subst hj0
                go_wp2_with fail
                refine wp_region_held_drew (S := fun _ => True) (by kernel_rfl) trivial (fun hHeld => ?_)
                refine wpAnyH_take (i := 0) (oi := { dst := some 77, op := Op.move (Operand.tmp 12), type := 3, pos := _, after := #[], guard := none }) (v := ?v1) rfl (by kernel_rfl) (by kernel_rfl) (by kernel_rfl) (fun _ _ _ h => h) (Or.inl ⟨by rfl, ?y1⟩) (by assumption) ?r1
                case y1 => (intro W hSw; (try dsimp only at hSw); go_simp; try (with_reducible rfl))
                try simp only [Act.put, List.setIfInBounds_toArray, List.set_cons_zero, List.set_cons_succ]
                refine wpAnyH_take (i := 1) (oi := { dst := some 78, op := Op.binOp BinOp.gtr 3 (Operand.tmp 77) (Operand.const (Value.int IntKind.i64 0)) 3, type := 4, pos := _, after := #[{ on := 0, ground := Ground.data }], guard := none }) (v := ?v2) rfl (by kernel_rfl) (by kernel_rfl) (by kernel_rfl) (fun _ _ _ h => h) (Or.inl ⟨by rfl, ?y2⟩) (by assumption) ?r2
                case y2 => (intro W hSw; (try dsimp only at hSw); go_simp; try (with_reducible rfl))
                try simp only [Act.put, List.setIfInBounds_toArray, List.set_cons_zero, List.set_cons_succ]
                refine wpAnyH_take (i := 2) (oi := { dst := some 79, op := Op.move (Operand.tmp 78), type := 4, pos := _, after := #[{ on := 1, ground := Ground.data }], guard := none }) (v := ?v3) rfl (by kernel_rfl) (by kernel_rfl) (by kernel_rfl) (fun _ _ _ h => h) (Or.inl ⟨by rfl, ?y3⟩) (by assumption) ?r3
                case y3 => (intro W hSw; (try dsimp only at hSw); go_simp; try (with_reducible rfl))
                try simp only [Act.put, List.setIfInBounds_toArray, List.set_cons_zero, List.set_cons_succ]
                refine wpAnyH_take (i := 3) (oi := { dst := some 80, op := Op.move (Operand.tmp 11), type := 25, pos := _, after := #[{ on := 2, ground := Ground.guard }], guard := some (2, true) }) (v := undef) rfl (by kernel_rfl) (by kernel_rfl) (by kernel_rfl) (fun _ _ _ h => h) (Or.inr ⟨by rfl, rfl⟩) (by assumption) ?_
                try simp only [Act.put, List.setIfInBounds_toArray, List.set_cons_zero, List.set_cons_succ]
                refine wpAnyH_take (i := 4) (oi := { dst := some 81, op := Op.move (Operand.tmp 12), type := 3, pos := _, after := #[{ on := 2, ground := Ground.guard }], guard := some (2, true) }) (v := undef) rfl (by kernel_rfl) (by kernel_rfl) (by kernel_rfl) (fun _ _ _ h => h) (Or.inr ⟨by rfl, rfl⟩) (by assumption) ?_
                try simp only [Act.put, List.setIfInBounds_toArray, List.set_cons_zero, List.set_cons_succ]
                refine wpAnyH_take (i := 5) (oi := { dst := some 82, op := Op.binOp BinOp.sub 3 (Operand.tmp 81) (Operand.const (Value.int IntKind.i64 1)) 3, type := 3, pos := _, after := #[{ on := 4, ground := Ground.data }, { on := 2, ground := Ground.guard }], guard := some (2, true) }) (v := undef) rfl (by kernel_rfl) (by kernel_rfl) (by kernel_rfl) (fun _ _ _ h => h) (Or.inr ⟨by rfl, rfl⟩) (by assumption) ?_
                try simp only [Act.put, List.setIfInBounds_toArray, List.set_cons_zero, List.set_cons_succ]
                refine wpAnyH_take (i := 6) (oi := { dst := some 83, op := Op.indexAddr 25 (Operand.tmp 80) (Operand.tmp 82), type := 0, pos := _, after := #[{ on := 3, ground := Ground.data }, { on := 5, ground := Ground.data }, { on := 2, ground := Ground.guard }], guard := some (2, true) }) (v := undef) rfl (by kernel_rfl) (by kernel_rfl) (by kernel_rfl) (fun _ _ _ h => h) (Or.inr ⟨by rfl, rfl⟩) (by assumption) ?_
                try simp only [Act.put, List.setIfInBounds_toArray, List.set_cons_zero, List.set_cons_succ]
                refine wpAnyH_take (i := 7) (oi := { dst := some 84, op := Op.fieldAddr 41 (Operand.tmp 83) 0, type := 0, pos := _, after := #[{ on := 6, ground := Ground.data }, { on := 2, ground := Ground.guard }], guard := some (2, true) }) (v := undef) rfl (by kernel_rfl) (by kernel_rfl) (by kernel_rfl) (fun _ _ _ h => h) (Or.inr ⟨by rfl, rfl⟩) (by assumption) ?_
                try simp only [Act.put, List.setIfInBounds_toArray, List.set_cons_zero, List.set_cons_succ]
                refine wpAnyH_take (i := 8) (oi := { dst := some 85, op := Op.load 33 (Operand.tmp 84), type := 33, pos := _, after := #[{ on := 7, ground := Ground.data }, { on := 2, ground := Ground.guard }], guard := some (2, true) }) (v := undef) rfl (by kernel_rfl) (by kernel_rfl) (by kernel_rfl) (fun _ _ _ h => h) (Or.inr ⟨by rfl, rfl⟩) (by assumption) ?_
                try simp only [Act.put, List.setIfInBounds_toArray, List.set_cons_zero, List.set_cons_succ]
                refine wpAnyH_take (i := 9) (oi := { dst := some 86, op := Op.move (Operand.tmp 11), type := 25, pos := _, after := #[{ on := 2, ground := Ground.guard }], guard := some (2, true) }) (v := undef) rfl (by kernel_rfl) (by kernel_rfl) (by kernel_rfl) (fun _ _ _ h => h) (Or.inr ⟨by rfl, rfl⟩) (by assumption) ?_
                try simp only [Act.put, List.setIfInBounds_toArray, List.set_cons_zero, List.set_cons_succ]
                refine wpAnyH_take (i := 10) (oi := { dst := some 87, op := Op.move (Operand.tmp 12), type := 3, pos := _, after := #[{ on := 2, ground := Ground.guard }], guard := some (2, true) }) (v := undef) rfl (by kernel_rfl) (by kernel_rfl) (by kernel_rfl) (fun _ _ _ h => h) (Or.inr ⟨by rfl, rfl⟩) (by assumption) ?_
                try simp only [Act.put, List.setIfInBounds_toArray, List.set_cons_zero, List.set_cons_succ]
                refine wpAnyH_take (i := 11) (oi := { dst := some 88, op := Op.indexAddr 25 (Operand.tmp 86) (Operand.tmp 87), type := 0, pos := _, after := #[{ on := 9, ground := Ground.data }, { on := 10, ground := Ground.data }, { on := 2, ground := Ground.guard }], guard := some (2, true) }) (v := undef) rfl (by kernel_rfl) (by kernel_rfl) (by kernel_rfl) (fun _ _ _ h => h) (Or.inr ⟨by rfl, rfl⟩) (by assumption) ?_
                try simp only [Act.put, List.setIfInBounds_toArray, List.set_cons_zero, List.set_cons_succ]
                refine wpAnyH_take (i := 12) (oi := { dst := some 89, op := Op.fieldAddr 41 (Operand.tmp 88) 0, type := 0, pos := _, after := #[{ on := 11, ground := Ground.data }, { on := 2, ground := Ground.guard }], guard := some (2, true) }) (v := undef) rfl (by kernel_rfl) (by kernel_rfl) (by kernel_rfl) (fun _ _ _ h => h) (Or.inr ⟨by rfl, rfl⟩) (by assumption) ?_
                try simp only [Act.put, List.setIfInBounds_toArray, List.set_cons_zero, List.set_cons_succ]
                refine wpAnyH_take (i := 13) (oi := { dst := some 90, op := Op.load 33 (Operand.tmp 89), type := 33, pos := _, after := #[{ on := 12, ground := Ground.data }, { on := 2, ground := Ground.guard }], guard := some (2, true) }) (v := undef) rfl (by kernel_rfl) (by kernel_rfl) (by kernel_rfl) (fun _ _ _ h => h) (Or.inr ⟨by rfl, rfl⟩) (by assumption) ?_
                try simp only [Act.put, List.setIfInBounds_toArray, List.set_cons_zero, List.set_cons_succ]
                refine wpAnyH_take (i := 14) (oi := { dst := some 91, op := Op.call { callee := Callee.value (Operand.func 10), args := #[Operand.tmp 85, Operand.tmp 90], argTypes := #[33, 33] }, type := 4, pos := _, after := #[{ on := 8, ground := Ground.data }, { on := 13, ground := Ground.data }, { on := 2, ground := Ground.chain }, { on := 2, ground := Ground.guard }], guard := some (2, true) }) (v := undef) rfl (by kernel_rfl) (by kernel_rfl) (by kernel_rfl) (fun _ _ _ h => h) (Or.inr ⟨by rfl, rfl⟩) (by assumption) ?_
                try simp only [Act.put, List.setIfInBounds_toArray, List.set_cons_zero, List.set_cons_succ]
                refine wpAnyH_take (i := 15) (oi := { dst := some 92, op := Op.unOp UnOp.not 4 (Operand.tmp 91), type := 4, pos := _, after := #[{ on := 14, ground := Ground.data }, { on := 2, ground := Ground.guard }], guard := some (2, true) }) (v := undef) rfl (by kernel_rfl) (by kernel_rfl) (by kernel_rfl) (fun _ _ _ h => h) (Or.inr ⟨by rfl, rfl⟩) (by assumption) ?_
                try simp only [Act.put, List.setIfInBounds_toArray, List.set_cons_zero, List.set_cons_succ]
                refine wpAnyH_take (i := 16) (oi := { dst := some 93, op := Op.pick (Operand.tmp 79) (Operand.tmp 92) (Operand.const (Value.bool false)), type := 4, pos := _, after := #[{ on := 2, ground := Ground.data }, { on := 15, ground := Ground.data }], guard := none }) (v := ?v4) rfl (by kernel_rfl) (by kernel_rfl) (by kernel_rfl) (fun _ _ _ h => h) (Or.inl ⟨by rfl, ?y4⟩) (by assumption) ?r4
                case y4 => (intro W hSw; (try dsimp only at hSw); go_simp; try (with_reducible rfl))
                try simp only [Act.put, List.setIfInBounds_toArray, List.set_cons_zero, List.set_cons_succ]
                refine wpAnyH_done (by kernel_rfl) ?_ _
                go_wp2
                all_goals first
                  | (exfalso; omega)
                  | (go_meet
                     case rel => exact ⟨rfl, (Below.refl _ _).drew⟩)
              · obtain ⟨i', hi'⟩ : ∃ i', i = i' + 1 := ⟨i - 1, by omega⟩
                have hj1 : (i : Int) - 1 = (i' : Int) := by omega
                have hj2 : 0 < i := by omega
                have hil : i' < n := by omega
                have hwr : IntKind.i64.wrap (i' : Int) = (i' : Int) := by rw [IntKind.wrap_i64]; omega
                have hilt : i' < i := by omega
                have hiL : i' < (arrV L n p).length := by rw [arrV_len]; exact hil
                obtain ⟨z, hz⟩ : ∃ z, (arrV L n p)[i']? = some z := ⟨_, List.getElem?_eq_getElem hiL⟩
                obtain ⟨sb', so', hse, f0, _, _, hlaZ, _⟩ := (HSV4.out.below HBQ.out) i' z hz
                cases hse
                have hzL : z = L[p i']! := Option.some.inj (hz.symm.trans (arrV_get L n p i' hil))
                have hzok : PtOk z := by rw [hzL]; exact HOK.out _ (List.mem_of_getElem? (get_bang L (p i') (by rw [HN.out]; exact HA.out.into i' hil)))
                have hbef : befT z.1 y.1 = true := by rw [hzL, HY.out.1]; exact HSR.out i' i hilt hlt
                have hsb := spec_before z.1 y.1 (S2 i').1 la2 (S2 i').2.1 lc2 hzok.2.1.1 HY.out.2.1.2.1.1 wq.drew (hlaZ.below (Below.refl _ _).drew) (HLAY.out.1.below (Below.refl _ _).drew) (fun h => absurd h (HSN.out i' hil)) (fun h => absurd h HLAY.out.2.2)
                rw [hbef, ← HY.out.2.2.1] at hsb
                obtain ⟨la1, hla1⟩ : ∃ la, la = (S2 i').1 := ⟨_, rfl⟩
                obtain ⟨lc1, hlc1⟩ : ∃ lc, lc = (S2 i').2.1 := ⟨_, rfl⟩
                obtain ⟨m1, hm1⟩ : ∃ m, m = z.1.length := ⟨_, rfl⟩
                rw [← hla1, ← hlc1, ← hm1] at hsb f0
                have q1 : wq.cell? ⟨sb, so + i' * 3, none⟩ = some (.slice la1 m1 lc1) := f0
                have q2 : wq.cell? ⟨sb, so + i * 3, none⟩ = some (.slice la2 m2 lc2) := e0
                have HK19 : Hid (∀ W, Below wq.drew.heap.size wq.drew W → W.cell? ⟨sb, so + i' * 3, none⟩ = some (.slice la1 m1 lc1) ∧ W.cell? ⟨sb, so + i * 3, none⟩ = some (.slice la2 m2 lc2)) := fun W hW =>
                  ⟨(hW.cell (p := ⟨sb, so + i' * 3, none⟩) (World.block_lt_of_cell? wq _ q1)).trans q1, (hW.cell (p := ⟨sb, so + i * 3, none⟩) (World.block_lt_of_cell? wq _ q2)).trans q2⟩
                have HI' := Lib.hid hi'
                clear hi' hiL hz hlaZ hzL hzok hbef hla1 hlc1 hm1 f0 e0 e1 e2
                go_wp2_with fail
                refine wp_region_held_drew (S := fun w' => w'.cell? ⟨sb, so + i' * 3, none⟩ = some (.slice la1 m1 lc1) ∧ w'.cell? ⟨sb, so + i * 3, none⟩ = some (.slice la2 m2 lc2)) (by kernel_rfl) ⟨q1, q2⟩ (fun hHeld => ?_)
                refine wpAnyH_take (i := 0) (oi := { dst := some 77, op := Op.move (Operand.tmp 12), type := 3, pos := _, after := #[], guard := none }) (v := ?v5) rfl (by kernel_rfl) (by kernel_rfl) (by kernel_rfl) (fun _ _ _ h => h) (Or.inl ⟨by rfl, ?y5⟩) (by assumption) ?r5
                case y5 => (intro W hSw; (try dsimp only at hSw); go_simp; try (with_reducible rfl))
                try simp only [Act.put, List.setIfInBounds_toArray, List.set_cons_zero, List.set_cons_succ]
                refine wpAnyH_take (i := 1) (oi := { dst := some 78, op := Op.binOp BinOp.gtr 3 (Operand.tmp 77) (Operand.const (Value.int IntKind.i64 0)) 3, type := 4, pos := _, after := #[{ on := 0, ground := Ground.data }], guard := none }) (v := ?v6) rfl (by kernel_rfl) (by kernel_rfl) (by kernel_rfl) (fun _ _ _ h => h) (Or.inl ⟨by rfl, ?y6⟩) (by assumption) ?r6
                case y6 => (intro W hSw; (try dsimp only at hSw); go_simp; try (with_reducible rfl))
                try simp only [Act.put, List.setIfInBounds_toArray, List.set_cons_zero, List.set_cons_succ]
                refine wpAnyH_take (i := 2) (oi := { dst := some 79, op := Op.move (Operand.tmp 78), type := 4, pos := _, after := #[{ on := 1, ground := Ground.data }], guard := none }) (v := ?v7) rfl (by kernel_rfl) (by kernel_rfl) (by kernel_rfl) (fun _ _ _ h => h) (Or.inl ⟨by rfl, ?y7⟩) (by assumption) ?r7
                case y7 => (intro W hSw; (try dsimp only at hSw); go_simp; try (with_reducible rfl))
                try simp only [Act.put, List.setIfInBounds_toArray, List.set_cons_zero, List.set_cons_succ]
                refine wpAnyH_take (i := 3) (oi := { dst := some 80, op := Op.move (Operand.tmp 11), type := 25, pos := _, after := #[{ on := 2, ground := Ground.guard }], guard := some (2, true) }) (v := ?v8) rfl (by kernel_rfl) (by kernel_rfl) (by kernel_rfl) (fun _ _ _ h => h) (Or.inl ⟨by rfl, ?y8⟩) (by assumption) ?r8
                case y8 => (intro W hSw; (try dsimp only at hSw); go_simp; try (with_reducible rfl))
                try simp only [Act.put, List.setIfInBounds_toArray, List.set_cons_zero, List.set_cons_succ]
                refine wpAnyH_take (i := 4) (oi := { dst := some 81, op := Op.move (Operand.tmp 12), type := 3, pos := _, after := #[{ on := 2, ground := Ground.guard }], guard := some (2, true) }) (v := ?v9) rfl (by kernel_rfl) (by kernel_rfl) (by kernel_rfl) (fun _ _ _ h => h) (Or.inl ⟨by rfl, ?y9⟩) (by assumption) ?r9
                case y9 => (intro W hSw; (try dsimp only at hSw); go_simp; try (with_reducible rfl))
                try simp only [Act.put, List.setIfInBounds_toArray, List.set_cons_zero, List.set_cons_succ]
                refine wpAnyH_take (i := 5) (oi := { dst := some 82, op := Op.binOp BinOp.sub 3 (Operand.tmp 81) (Operand.const (Value.int IntKind.i64 1)) 3, type := 3, pos := _, after := #[{ on := 4, ground := Ground.data }, { on := 2, ground := Ground.guard }], guard := some (2, true) }) (v := ?v10) rfl (by kernel_rfl) (by kernel_rfl) (by kernel_rfl) (fun _ _ _ h => h) (Or.inl ⟨by rfl, ?y10⟩) (by assumption) ?r10
                case y10 => (intro W hSw; (try dsimp only at hSw); go_simp; try (with_reducible rfl))
                try simp only [Act.put, List.setIfInBounds_toArray, List.set_cons_zero, List.set_cons_succ]
                refine wpAnyH_take (i := 6) (oi := { dst := some 83, op := Op.indexAddr 25 (Operand.tmp 80) (Operand.tmp 82), type := 0, pos := _, after := #[{ on := 3, ground := Ground.data }, { on := 5, ground := Ground.data }, { on := 2, ground := Ground.guard }], guard := some (2, true) }) (v := ?v11) rfl (by kernel_rfl) (by kernel_rfl) (by kernel_rfl) (fun _ _ _ h => h) (Or.inl ⟨by rfl, ?y11⟩) (by assumption) ?r11
                case y11 => (intro W hSw; (try dsimp only at hSw); go_simp; try (with_reducible rfl))
                try simp only [Act.put, List.setIfInBounds_toArray, List.set_cons_zero, List.set_cons_succ]
                refine wpAnyH_take (i := 7) (oi := { dst := some 84, op := Op.fieldAddr 41 (Operand.tmp 83) 0, type := 0, pos := _, after := #[{ on := 6, ground := Ground.data }, { on := 2, ground := Ground.guard }], guard := some (2, true) }) (v := ?v12) rfl (by kernel_rfl) (by kernel_rfl) (by kernel_rfl) (fun _ _ _ h => h) (Or.inl ⟨by rfl, ?y12⟩) (by assumption) ?r12
                case y12 => (intro W hSw; (try dsimp only at hSw); go_simp; try (with_reducible rfl))
                try simp only [Act.put, List.setIfInBounds_toArray, List.set_cons_zero, List.set_cons_succ]
                refine wpAnyH_take (i := 8) (oi := { dst := some 85, op := Op.load 33 (Operand.tmp 84), type := 33, pos := _, after := #[{ on := 7, ground := Ground.data }, { on := 2, ground := Ground.guard }], guard := some (2, true) }) (v := ?v13) rfl (by kernel_rfl) (by kernel_rfl) (by kernel_rfl) (fun _ _ _ h => h) (Or.inl ⟨by rfl, ?y13⟩) (by assumption) ?r13
                case y13 => (intro W hSw; (try dsimp only at hSw); go_simp; try (with_reducible rfl))
                try simp only [Act.put, List.setIfInBounds_toArray, List.set_cons_zero, List.set_cons_succ]
                refine wpAnyH_take (i := 9) (oi := { dst := some 86, op := Op.move (Operand.tmp 11), type := 25, pos := _, after := #[{ on := 2, ground := Ground.guard }], guard := some (2, true) }) (v := ?v14) rfl (by kernel_rfl) (by kernel_rfl) (by kernel_rfl) (fun _ _ _ h => h) (Or.inl ⟨by rfl, ?y14⟩) (by assumption) ?r14
                case y14 => (intro W hSw; (try dsimp only at hSw); go_simp; try (with_reducible rfl))
                try simp only [Act.put, List.setIfInBounds_toArray, List.set_cons_zero, List.set_cons_succ]
                refine wpAnyH_take (i := 10) (oi := { dst := some 87, op := Op.move (Operand.tmp 12), type := 3, pos := _, after := #[{ on := 2, ground := Ground.guard }], guard := some (2, true) }) (v := ?v15) rfl (by kernel_rfl) (by kernel_rfl) (by kernel_rfl) (fun _ _ _ h => h) (Or.inl ⟨by rfl, ?y15⟩) (by assumption) ?r15
                case y15 => (intro W hSw; (try dsimp only at hSw); go_simp; try (with_reducible rfl))
                try simp only [Act.put, List.setIfInBounds_toArray, List.set_cons_zero, List.set_cons_succ]
                refine wpAnyH_take (i := 11) (oi := { dst := some 88, op := Op.indexAddr 25 (Operand.tmp 86) (Operand.tmp 87), type := 0, pos := _, after := #[{ on := 9, ground := Ground.data }, { on := 10, ground := Ground.data }, { on := 2, ground := Ground.guard }], guard := some (2, true) }) (v := ?v16) rfl (by kernel_rfl) (by kernel_rfl) (by kernel_rfl) (fun _ _ _ h => h) (Or.inl ⟨by rfl, ?y16⟩) (by assumption) ?r16
                case y16 => (intro W hSw; (try dsimp only at hSw); go_simp; try (with_reducible rfl))
                try simp only [Act.put, List.setIfInBounds_toArray, List.set_cons_zero, List.set_cons_succ]
                refine wpAnyH_take (i := 12) (oi := { dst := some 89, op := Op.fieldAddr 41 (Operand.tmp 88) 0, type := 0, pos := _, after := #[{ on := 11, ground := Ground.data }, { on := 2, ground := Ground.guard }], guard := some (2, true) }) (v := ?v17) rfl (by kernel_rfl) (by kernel_rfl) (by kernel_rfl) (fun _ _ _ h => h) (Or.inl ⟨by rfl, ?y17⟩) (by assumption) ?r17
                case y17 => (intro W hSw; (try dsimp only at hSw); go_simp; try (with_reducible rfl))
                try simp only [Act.put, List.setIfInBounds_toArray, List.set_cons_zero, List.set_cons_succ]
                refine wpAnyH_take (i := 13) (oi := { dst := some 90, op := Op.load 33 (Operand.tmp 89), type := 33, pos := _, after := #[{ on := 12, ground := Ground.data }, { on := 2, ground := Ground.guard }], guard := some (2, true) }) (v := ?v18) rfl (by kernel_rfl) (by kernel_rfl) (by kernel_rfl) (fun _ _ _ h => h) (Or.inl ⟨by rfl, ?y18⟩) (by assumption) ?r18
                case y18 => (intro W hSw; (try dsimp only at hSw); go_simp; try (with_reducible rfl))
                try simp only [Act.put, List.setIfInBounds_toArray, List.set_cons_zero, List.set_cons_succ]
                refine wpAnyH_ready (rs := [14]) (by kernel_rfl) (by simp) ?_
                refine AllReadyH.cons (o := { dst := some 91, op := Op.call { callee := Callee.value (Operand.func 10), args := #[Operand.tmp 85, Operand.tmp 90], argTypes := #[33, 33] }, type := 4, pos := _, after := #[{ on := 8, ground := Ground.data }, { on := 13, ground := Ground.data }, { on := 2, ground := Ground.chain }, { on := 2, ground := Ground.guard }], guard := some (2, true) }) rfl (fun K hK => ?_) AllReadyH.nil
                go_simp
                go_at_call 10
                with_reducible refine hsb.mono ?_
                rintro e w5 ⟨rfl, hb5⟩
                have HB5 := Lib.hid hb5
                clear hb5
                go_wp2_with fail
                refine hK.out _ _ (HK19.out w5 HB5.out) (fun hHeld => ?_)
                clear hK K
                try simp only [Act.put, List.setIfInBounds_toArray, List.set_cons_zero, List.set_cons_succ]
                refine wpAnyH_take (i := 15) (oi := { dst := some 92, op := Op.unOp UnOp.not 4 (Operand.tmp 91), type := 4, pos := _, after := #[{ on := 14, ground := Ground.data }, { on := 2, ground := Ground.guard }], guard := some (2, true) }) (v := ?v19) rfl (by kernel_rfl) (by kernel_rfl) (by kernel_rfl) (fun _ _ _ h => h) (Or.inl ⟨by rfl, ?y19⟩) (by assumption) ?r19
                case y19 => (intro W hSw; (try dsimp only at hSw); go_simp; try (with_reducible rfl))
                try simp only [Act.put, List.setIfInBounds_toArray, List.set_cons_zero, List.set_cons_succ]
                refine wpAnyH_take (i := 16) (oi := { dst := some 93, op := Op.pick (Operand.tmp 79) (Operand.tmp 92) (Operand.const (Value.bool false)), type := 4, pos := _, after := #[{ on := 2, ground := Ground.data }, { on := 15, ground := Ground.data }], guard := none }) (v := ?v20) rfl (by kernel_rfl) (by kernel_rfl) (by kernel_rfl) (fun _ _ _ h => h) (Or.inl ⟨by rfl, ?y20⟩) (by assumption) ?r20
                case y20 => (intro W hSw; (try dsimp only at hSw); go_simp; try (with_reducible rfl))
                try simp only [Act.put, List.setIfInBounds_toArray, List.set_cons_zero, List.set_cons_succ]
                refine wpAnyH_done (by kernel_rfl) ?_ _
                go_wp2
                all_goals first
                  | (exfalso; omega)
                  | (go_meet
                     case rel => exact ⟨rfl, (Below.refl _ _).drew.trans HB5.out⟩)
            case rest =>
              rename World => wc
              obtain ⟨rfl, HBC⟩ := hcut
              have hys : ∀ W, Below wq.heap.size wq W → W.cell? ⟨sb, so + i * 3, none⟩ = some (.slice la2 m2 lc2) ∧ W.cell? ⟨sb, so + i * 3 + 1, none⟩ = some (.int .u64 (bv2 : Nat)) ∧ W.cell? ⟨sb, so + i * 3 + 2, none⟩ = some (.int .i64 ms2) := fun W hW =>
                ⟨(hW.cell (p := ⟨sb, so + i * 3, none⟩) (World.block_lt_of_cell? wq _ e0)).trans e0, (hW.cell (p := ⟨sb, so + i * 3 + 1, none⟩) (World.block_lt_of_cell? wq _ e1)).trans e1, (hW.cell (p := ⟨sb, so + i * 3 + 2, none⟩) (World.block_lt_of_cell? wq _ e2)).trans e2⟩
              have HYS := Lib.hid hys
              clear hys e0 e1 e2
              go_wp2_with fail
              go_loopw [13, 14] (fun v13 v14 wx => ∃ j, j ≤ n ∧ v14 = .int .i64 (j : Int) ∧ v13 = .bool (decide (p i < j)) ∧ Hid (Below wq.heap.size wq wx)) (fun _ v14 _ => n - (intOf v14).toNat)
              case atStart => exact ⟨0, Nat.zero_le _, rfl, by simp, HBC.out⟩
              case round =>
                obtain ⟨j, hj, rfl, rfl, HBX⟩ := hrel
                rename World => wx
                by_cases hlt2 : j < n
                · obtain ⟨x, hx⟩ : ∃ x, L[j]? = some x := ⟨L[j]'(by rw [HN.out]; exact hlt2), List.getElem?_eq_getElem _⟩
                  have hBwx : Below wb.heap.size wb wx := HB4.out.trans ((HBQ.out.trans (HBX.out.mono HBQ.out.size)).mono HB4.out.size)
                  obtain ⟨vb, vo, rfl, t0, t1, t2, hlaX, hbvX⟩ := (HVI.out.below hBwx) j x hx
                  have hxL : x = L[j]! := Option.some.inj (hx.symm.trans (get_bang L j (by rw [HN.out]; exact hlt2)))
                  by_cases hlp : p i < j
                  · have hd : decide (p i < j) = true := decide_eq_true hlp
                    rw [hd]
                    clear hd
                    go_wp2_with fail
                    refine wp_region_held_drew (S := fun _ => True) (by kernel_rfl) trivial (fun hHeld => ?_)
                    refine wpAnyH_take (i := 0) (oi := { dst := some 100, op := Op.move (Operand.tmp 13), type := 4, pos := _, after := #[], guard := none }) (v := ?v21) rfl (by kernel_rfl) (by kernel_rfl) (by kernel_rfl) (fun _ _ _ h => h) (Or.inl ⟨by rfl, ?y21⟩) (by assumption) ?r21
                    case y21 => (intro W hSw; (try dsimp only at hSw); go_simp; try (with_reducible rfl))
                    try simp only [Act.put, List.setIfInBounds_toArray, List.set_cons_zero, List.set_cons_succ]
                    refine wpAnyH_take (i := 1) (oi := { dst := some 101, op := Op.move (Operand.tmp 100), type := 4, pos := _, after := #[{ on := 0, ground := Ground.data }], guard := none }) (v := ?v22) rfl (by kernel_rfl) (by kernel_rfl) (by kernel_rfl) (fun _ _ _ h => h) (Or.inl ⟨by rfl, ?y22⟩) (by assumption) ?r22
                    case y22 => (intro W hSw; (try dsimp only at hSw); go_simp; try (with_reducible rfl))
                    try simp only [Act.put, List.setIfInBounds_toArray, List.set_cons_zero, List.set_cons_succ]
                    refine wpAnyH_take (i := 2) (oi := { dst := some 102, op := Op.move (Operand.tmp 7), type := 25, pos := _, after := #[{ on := 1, ground := Ground.guard }], guard := some (1, false) }) (v := undef) rfl (by kernel_rfl) (by kernel_rfl) (by kernel_rfl) (fun _ _ _ h => h) (Or.inr ⟨by rfl, rfl⟩) (by assumption) ?_
                    try simp only [Act.put, List.setIfInBounds_toArray, List.set_cons_zero, List.set_cons_succ]
                    refine wpAnyH_take (i := 3) (oi := { dst := some 103, op := Op.move (Operand.tmp 14), type := 3, pos := _, after := #[{ on := 1, ground := Ground.guard }], guard := some (1, false) }) (v := undef) rfl (by kernel_rfl) (by kernel_rfl) (by kernel_rfl) (fun _ _ _ h => h) (Or.inr ⟨by rfl, rfl⟩) (by assumption) ?_
                    try simp only [Act.put, List.setIfInBounds_toArray, List.set_cons_zero, List.set_cons_succ]
                    refine wpAnyH_take (i := 4) (oi := { dst := some 104, op := Op.indexAddr 25 (Operand.tmp 102) (Operand.tmp 103), type := 0, pos := _, after := #[{ on := 2, ground := Ground.data }, { on := 3, ground := Ground.data }, { on := 1, ground := Ground.guard }], guard := some (1, false) }) (v := undef) rfl (by kernel_rfl) (by kernel_rfl) (by kernel_rfl) (fun _ _ _ h => h) (Or.inr ⟨by rfl, rfl⟩) (by assumption) ?_
                    try simp only [Act.put, List.setIfInBounds_toArray, List.set_cons_zero, List.set_cons_succ]
                    refine wpAnyH_take (i := 5) (oi := { dst := some 105, op := Op.fieldAddr 41 (Operand.tmp 104) 0, type := 0, pos := _, after := #[{ on := 4, ground := Ground.data }, { on := 1, ground := Ground.guard }], guard := some (1, false) }) (v := undef) rfl (by kernel_rfl) (by kernel_rfl) (by kernel_rfl) (fun _ _ _ h => h) (Or.inr ⟨by rfl, rfl⟩) (by assumption) ?_
                    try simp only [Act.put, List.setIfInBounds_toArray, List.set_cons_zero, List.set_cons_succ]
                    refine wpAnyH_take (i := 6) (oi := { dst := some 106, op := Op.load 33 (Operand.tmp 105), type := 33, pos := _, after := #[{ on := 5, ground := Ground.data }, { on := 1, ground := Ground.guard }], guard := some (1, false) }) (v := undef) rfl (by kernel_rfl) (by kernel_rfl) (by kernel_rfl) (fun _ _ _ h => h) (Or.inr ⟨by rfl, rfl⟩) (by assumption) ?_
                    try simp only [Act.put, List.setIfInBounds_toArray, List.set_cons_zero, List.set_cons_succ]
                    refine wpAnyH_take (i := 7) (oi := { dst := some 107, op := Op.move (Operand.tmp 11), type := 25, pos := _, after := #[{ on := 1, ground := Ground.guard }], guard := some (1, false) }) (v := undef) rfl (by kernel_rfl) (by kernel_rfl) (by kernel_rfl) (fun _ _ _ h => h) (Or.inr ⟨by rfl, rfl⟩) (by assumption) ?_
                    try simp only [Act.put, List.setIfInBounds_toArray, List.set_cons_zero, List.set_cons_succ]
                    refine wpAnyH_take (i := 8) (oi := { dst := some 108, op := Op.move (Operand.tmp 12), type := 3, pos := _, after := #[{ on := 1, ground := Ground.guard }], guard := some (1, false) }) (v := undef) rfl (by kernel_rfl) (by kernel_rfl) (by kernel_rfl) (fun _ _ _ h => h) (Or.inr ⟨by rfl, rfl⟩) (by assumption) ?_
                    try simp only [Act.put, List.setIfInBounds_toArray, List.set_cons_zero, List.set_cons_succ]
                    refine wpAnyH_take (i := 9) (oi := { dst := some 109, op := Op.indexAddr 25 (Operand.tmp 107) (Operand.tmp 108), type := 0, pos := _, after := #[{ on := 7, ground := Ground.data }, { on := 8, ground := Ground.data }, { on := 1, ground := Ground.guard }], guard := some (1, false) }) (v := undef) rfl (by kernel_rfl) (by kernel_rfl) (by kernel_rfl) (fun _ _ _ h => h) (Or.inr ⟨by rfl, rfl⟩) (by assumption) ?_
                    try simp only [Act.put, List.setIfInBounds_toArray, List.set_cons_zero, List.set_cons_succ]
                    refine wpAnyH_take (i := 10) (oi := { dst := some 110, op := Op.fieldAddr 41 (Operand.tmp 109) 0, type := 0, pos := _, after := #[{ on := 9, ground := Ground.data }, { on := 1, ground := Ground.guard }], guard := some (1, false) }) (v := undef) rfl (by kernel_rfl) (by kernel_rfl) (by kernel_rfl) (fun _ _ _ h => h) (Or.inr ⟨by rfl, rfl⟩) (by assumption) ?_
                    try simp only [Act.put, List.setIfInBounds_toArray, List.set_cons_zero, List.set_cons_succ]
                    refine wpAnyH_take (i := 11) (oi := { dst := some 111, op := Op.load 33 (Operand.tmp 110), type := 33, pos := _, after := #[{ on := 10, ground := Ground.data }, { on := 1, ground := Ground.guard }], guard := some (1, false) }) (v := undef) rfl (by kernel_rfl) (by kernel_rfl) (by kernel_rfl) (fun _ _ _ h => h) (Or.inr ⟨by rfl, rfl⟩) (by assumption) ?_
                    try simp only [Act.put, List.setIfInBounds_toArray, List.set_cons_zero, List.set_cons_succ]
                    refine wpAnyH_take (i := 12) (oi := { dst := some 112, op := Op.call { callee := Callee.value (Operand.func 16), args := #[Operand.tmp 106, Operand.tmp 111], argTypes := #[33, 33] }, type := 4, pos := _, after := #[{ on := 6, ground := Ground.data }, { on := 11, ground := Ground.data }, { on := 1, ground := Ground.chain }, { on := 1, ground := Ground.guard }], guard := some (1, false) }) (v := undef) rfl (by kernel_rfl) (by kernel_rfl) (by kernel_rfl) (fun _ _ _ h => h) (Or.inr ⟨by rfl, rfl⟩) (by assumption) ?_
                    try simp only [Act.put, List.setIfInBounds_toArray, List.set_cons_zero, List.set_cons_succ]
                    refine wpAnyH_take (i := 13) (oi := { dst := some 113, op := Op.move (Operand.tmp 112), type := 4, pos := _, after := #[{ on := 12, ground := Ground.data }, { on := 12, ground := Ground.chain }, { on := 1, ground := Ground.guard }], guard := some (1, false) }) (v := undef) rfl (by kernel_rfl) (by kernel_rfl) (by kernel_rfl) (fun _ _ _ h => h) (Or.inr ⟨by rfl, rfl⟩) (by assumption) ?_
                    try simp only [Act.put, List.setIfInBounds_toArray, List.set_cons_zero, List.set_cons_succ]
                    refine wpAnyH_take (i := 14) (oi := { dst := some 114, op := Op.move (Operand.tmp 7), type := 25, pos := _, after := #[{ on := 13, ground := Ground.guard }], guard := some (13, true) }) (v := undef) rfl (by kernel_rfl) (by kernel_rfl) (by kernel_rfl) (fun _ _ _ h => h) (Or.inr ⟨by rfl, rfl⟩) (by assumption) ?_
                    try simp only [Act.put, List.setIfInBounds_toArray, List.set_cons_zero, List.set_cons_succ]
                    refine wpAnyH_take (i := 15) (oi := { dst := some 115, op := Op.move (Operand.tmp 14), type := 3, pos := _, after := #[{ on := 13, ground := Ground.guard }], guard := some (13, true) }) (v := undef) rfl (by kernel_rfl) (by kernel_rfl) (by kernel_rfl) (fun _ _ _ h => h) (Or.inr ⟨by rfl, rfl⟩) (by assumption) ?_
                    try simp only [Act.put, List.setIfInBounds_toArray, List.set_cons_zero, List.set_cons_succ]
                    refine wpAnyH_take (i := 16) (oi := { dst := some 116, op := Op.indexAddr 25 (Operand.tmp 114) (Operand.tmp 115), type := 0, pos := _, after := #[{ on := 14, ground := Ground.data }, { on := 15, ground := Ground.data }, { on := 13, ground := Ground.guard }], guard := some (13, true) }) (v := undef) rfl (by kernel_rfl) (by kernel_rfl) (by kernel_rfl) (fun _ _ _ h => h) (Or.inr ⟨by rfl, rfl⟩) (by assumption) ?_
                    try simp only [Act.put, List.setIfInBounds_toArray, List.set_cons_zero, List.set_cons_succ]
                    refine wpAnyH_take (i := 17) (oi := { dst := some 117, op := Op.fieldAddr 41 (Operand.tmp 116) 1, type := 0, pos := _, after := #[{ on := 16, ground := Ground.data }, { on := 13, ground := Ground.guard }], guard := some (13, true) }) (v := undef) rfl (by kernel_rfl) (by kernel_rfl) (by kernel_rfl) (fun _ _ _ h => h) (Or.inr ⟨by rfl, rfl⟩) (by assumption) ?_
                    try simp only [Act.put, List.setIfInBounds_toArray, List.set_cons_zero, List.set_cons_succ]
                    refine wpAnyH_take (i := 18) (oi := { dst := some 118, op := Op.load 38 (Operand.tmp 117), type := 38, pos := _, after := #[{ on := 17, ground := Ground.data }, { on := 13, ground := Ground.guard }], guard := some (13, true) }) (v := undef) rfl (by kernel_rfl) (by kernel_rfl) (by kernel_rfl) (fun _ _ _ h => h) (Or.inr ⟨by rfl, rfl⟩) (by assumption) ?_
                    try simp only [Act.put, List.setIfInBounds_toArray, List.set_cons_zero, List.set_cons_succ]
                    refine wpAnyH_take (i := 19) (oi := { dst := some 119, op := Op.move (Operand.tmp 11), type := 25, pos := _, after := #[{ on := 13, ground := Ground.guard }], guard := some (13, true) }) (v := undef) rfl (by kernel_rfl) (by kernel_rfl) (by kernel_rfl) (fun _ _ _ h => h) (Or.inr ⟨by rfl, rfl⟩) (by assumption) ?_
                    try simp only [Act.put, List.setIfInBounds_toArray, List.set_cons_zero, List.set_cons_succ]
                    refine wpAnyH_take (i := 20) (oi := { dst := some 120, op := Op.move (Operand.tmp 12), type := 3, pos := _, after := #[{ on := 13, ground := Ground.guard }], guard := some (13, true) }) (v := undef) rfl (by kernel_rfl) (by kernel_rfl) (by kernel_rfl) (fun _ _ _ h => h) (Or.inr ⟨by rfl, rfl⟩) (by assumption) ?_
                    try simp only [Act.put, List.setIfInBounds_toArray, List.set_cons_zero, List.set_cons_succ]
                    refine wpAnyH_take (i := 21) (oi := { dst := some 121, op := Op.indexAddr 25 (Operand.tmp 119) (Operand.tmp 120), type := 0, pos := _, after := #[{ on := 19, ground := Ground.data }, { on := 20, ground := Ground.data }, { on := 13, ground := Ground.guard }], guard := some (13, true) }) (v := undef) rfl (by kernel_rfl) (by kernel_rfl) (by kernel_rfl) (fun _ _ _ h => h) (Or.inr ⟨by rfl, rfl⟩) (by assumption) ?_
                    try simp only [Act.put, List.setIfInBounds_toArray, List.set_cons_zero, List.set_cons_succ]
                    refine wpAnyH_take (i := 22) (oi := { dst := some 122, op := Op.fieldAddr 41 (Operand.tmp 121) 1, type := 0, pos := _, after := #[{ on := 21, ground := Ground.data }, { on := 13, ground := Ground.guard }], guard := some (13, true) }) (v := undef) rfl (by kernel_rfl) (by kernel_rfl) (by kernel_rfl) (fun _ _ _ h => h) (Or.inr ⟨by rfl, rfl⟩) (by assumption) ?_
                    try simp only [Act.put, List.setIfInBounds_toArray, List.set_cons_zero, List.set_cons_succ]
                    refine wpAnyH_take (i := 23) (oi := { dst := some 123, op := Op.load 38 (Operand.tmp 122), type := 38, pos := _, after := #[{ on := 22, ground := Ground.data }, { on := 13, ground := Ground.guard }], guard := some (13, true) }) (v := undef) rfl (by kernel_rfl) (by kernel_rfl) (by kernel_rfl) (fun _ _ _ h => h) (Or.inr ⟨by rfl, rfl⟩) (by assumption) ?_
                    try simp only [Act.put, List.setIfInBounds_toArray, List.set_cons_zero, List.set_cons_succ]
                    refine wpAnyH_take (i := 24) (oi := { dst := some 124, op := Op.binOp BinOp.eql 38 (Operand.tmp 118) (Operand.tmp 123) 38, type := 4, pos := _, after := #[{ on := 18, ground := Ground.data }, { on := 23, ground := Ground.data }, { on := 13, ground := Ground.guard }], guard := some (13, true) }) (v := undef) rfl (by kernel_rfl) (by kernel_rfl) (by kernel_rfl) (fun _ _ _ h => h) (Or.inr ⟨by rfl, rfl⟩) (by assumption) ?_
                    try simp only [Act.put, List.setIfInBounds_toArray, List.set_cons_zero, List.set_cons_succ]
                    refine wpAnyH_take (i := 25) (oi := { dst := some 125, op := Op.pick (Operand.tmp 113) (Operand.tmp 124) (Operand.const (Value.bool false)), type := 4, pos := _, after := #[{ on := 13, ground := Ground.data }, { on := 24, ground := Ground.data }, { on := 1, ground := Ground.guard }], guard := some (1, false) }) (v := undef) rfl (by kernel_rfl) (by kernel_rfl) (by kernel_rfl) (fun _ _ _ h => h) (Or.inr ⟨by rfl, rfl⟩) (by assumption) ?_
                    try simp only [Act.put, List.setIfInBounds_toArray, List.set_cons_zero, List.set_cons_succ]
                    refine wpAnyH_take (i := 26) (oi := { dst := some 126, op := Op.move (Operand.tmp 125), type := 4, pos := _, after := #[{ on := 25, ground := Ground.data }, { on := 13, ground := Ground.chain }, { on := 1, ground := Ground.guard }], guard := some (1, false) }) (v := undef) rfl (by kernel_rfl) (by kernel_rfl) (by kernel_rfl) (fun _ _ _ h => h) (Or.inr ⟨by rfl, rfl⟩) (by assumption) ?_
                    try simp only [Act.put, List.setIfInBounds_toArray, List.set_cons_zero, List.set_cons_succ]
                    refine wpAnyH_take (i := 27) (oi := { dst := some 127, op := Op.move (Operand.tmp 7), type := 25, pos := _, after := #[{ on := 26, ground := Ground.guard }], guard := some (26, true) }) (v := undef) rfl (by kernel_rfl) (by kernel_rfl) (by kernel_rfl) (fun _ _ _ h => h) (Or.inr ⟨by rfl, rfl⟩) (by assumption) ?_
                    try simp only [Act.put, List.setIfInBounds_toArray, List.set_cons_zero, List.set_cons_succ]
                    refine wpAnyH_take (i := 28) (oi := { dst := some 128, op := Op.move (Operand.tmp 14), type := 3, pos := _, after := #[{ on := 26, ground := Ground.guard }], guard := some (26, true) }) (v := undef) rfl (by kernel_rfl) (by kernel_rfl) (by kernel_rfl) (fun _ _ _ h => h) (Or.inr ⟨by rfl, rfl⟩) (by assumption) ?_
                    try simp only [Act.put, List.setIfInBounds_toArray, List.set_cons_zero, List.set_cons_succ]
                    refine wpAnyH_take (i := 29) (oi := { dst := some 129, op := Op.indexAddr 25 (Operand.tmp 127) (Operand.tmp 128), type := 0, pos := _, after := #[{ on := 27, ground := Ground.data }, { on := 28, ground := Ground.data }, { on := 26, ground := Ground.guard }], guard := some (26, true) }) (v := undef) rfl (by kernel_rfl) (by kernel_rfl) (by kernel_rfl) (fun _ _ _ h => h) (Or.inr ⟨by rfl, rfl⟩) (by assumption) ?_
                    try simp only [Act.put, List.setIfInBounds_toArray, List.set_cons_zero, List.set_cons_succ]
                    refine wpAnyH_take (i := 30) (oi := { dst := some 130, op := Op.fieldAddr 41 (Operand.tmp 129) 2, type := 0, pos := _, after := #[{ on := 29, ground := Ground.data }, { on := 26, ground := Ground.guard }], guard := some (26, true) }) (v := undef) rfl (by kernel_rfl) (by kernel_rfl) (by kernel_rfl) (fun _ _ _ h => h) (Or.inr ⟨by rfl, rfl⟩) (by assumption) ?_
                    try simp only [Act.put, List.setIfInBounds_toArray, List.set_cons_zero, List.set_cons_succ]
                    refine wpAnyH_take (i := 31) (oi := { dst := some 131, op := Op.load 2 (Operand.tmp 130), type := 2, pos := _, after := #[{ on := 30, ground := Ground.data }, { on := 26, ground := Ground.guard }], guard := some (26, true) }) (v := undef) rfl (by kernel_rfl) (by kernel_rfl) (by kernel_rfl) (fun _ _ _ h => h) (Or.inr ⟨by rfl, rfl⟩) (by assumption) ?_
                    try simp only [Act.put, List.setIfInBounds_toArray, List.set_cons_zero, List.set_cons_succ]
                    refine wpAnyH_take (i := 32) (oi := { dst := some 132, op := Op.move (Operand.tmp 11), type := 25, pos := _, after := #[{ on := 26, ground := Ground.guard }], guard := some (26, true) }) (v := undef) rfl (by kernel_rfl) (by kernel_rfl) (by kernel_rfl) (fun _ _ _ h => h) (Or.inr ⟨by rfl, rfl⟩) (by assumption) ?_
                    try simp only [Act.put, List.setIfInBounds_toArray, List.set_cons_zero, List.set_cons_succ]
                    refine wpAnyH_take (i := 33) (oi := { dst := some 133, op := Op.move (Operand.tmp 12), type := 3, pos := _, after := #[{ on := 26, ground := Ground.guard }], guard := some (26, true) }) (v := undef) rfl (by kernel_rfl) (by kernel_rfl) (by kernel_rfl) (fun _ _ _ h => h) (Or.inr ⟨by rfl, rfl⟩) (by assumption) ?_
                    try simp only [Act.put, List.setIfInBounds_toArray, List.set_cons_zero, List.set_cons_succ]
                    refine wpAnyH_take (i := 34) (oi := { dst := some 134, op := Op.indexAddr 25 (Operand.tmp 132) (Operand.tmp 133), type := 0, pos := _, after := #[{ on := 32, ground := Ground.data }, { on := 33, ground := Ground.data }, { on := 26, ground := Ground.guard }], guard := some (26, true) }) (v := undef) rfl (by kernel_rfl) (by kernel_rfl) (by kernel_rfl) (fun _ _ _ h => h) (Or.inr ⟨by rfl, rfl⟩) (by assumption) ?_
                    try simp only [Act.put, List.setIfInBounds_toArray, List.set_cons_zero, List.set_cons_succ]
                    refine wpAnyH_take (i := 35) (oi := { dst := some 135, op := Op.fieldAddr 41 (Operand.tmp 134) 2, type := 0, pos := _, after := #[{ on := 34, ground := Ground.data }, { on := 26, ground := Ground.guard }], guard := some (26, true) }) (v := undef) rfl (by kernel_rfl) (by kernel_rfl) (by kernel_rfl) (fun _ _ _ h => h) (Or.inr ⟨by rfl, rfl⟩) (by assumption) ?_
                    try simp only [Act.put, List.setIfInBounds_toArray, List.set_cons_zero, List.set_cons_succ]
                    refine wpAnyH_take (i := 36) (oi := { dst := some 136, op := Op.load 2 (Operand.tmp 135), type := 2, pos := _, after := #[{ on := 35, ground := Ground.data }, { on := 26, ground := Ground.guard }], guard := some (26, true) }) (v := undef) rfl (by kernel_rfl) (by kernel_rfl) (by kernel_rfl) (fun _ _ _ h => h) (Or.inr ⟨by rfl, rfl⟩) (by assumption) ?_
                    try simp only [Act.put, List.setIfInBounds_toArray, List.set_cons_zero, List.set_cons_succ]
                    refine wpAnyH_take (i := 37) (oi := { dst := some 137, op := Op.binOp BinOp.eql 2 (Operand.tmp 131) (Operand.tmp 136) 2, type := 4, pos := _, after := #[{ on := 31, ground := Ground.data }, { on := 36, ground := Ground.data }, { on := 26, ground := Ground.guard }], guard := some (26, true) }) (v := undef) rfl (by kernel_rfl) (by kernel_rfl) (by kernel_rfl) (fun _ _ _ h => h) (Or.inr ⟨by rfl, rfl⟩) (by assumption) ?_
                    try simp only [Act.put, List.setIfInBounds_toArray, List.set_cons_zero, List.set_cons_succ]
                    refine wpAnyH_take (i := 38) (oi := { dst := some 138, op := Op.pick (Operand.tmp 126) (Operand.tmp 137) (Operand.const (Value.bool false)), type := 4, pos := _, after := #[{ on := 26, ground := Ground.data }, { on := 37, ground := Ground.data }, { on := 1, ground := Ground.guard }], guard := some (1, false) }) (v := undef) rfl (by kernel_rfl) (by kernel_rfl) (by kernel_rfl) (fun _ _ _ h => h) (Or.inr ⟨by rfl, rfl⟩) (by assumption) ?_
                    try simp only [Act.put, List.setIfInBounds_toArray, List.set_cons_zero, List.set_cons_succ]
                    refine wpAnyH_take (i := 39) (oi := { dst := some 139, op := Op.pick (Operand.tmp 101) (Operand.const (Value.bool true)) (Operand.tmp 138), type := 4, pos := _, after := #[{ on := 1, ground := Ground.data }, { on := 38, ground := Ground.data }], guard := none }) (v := ?v23) rfl (by kernel_rfl) (by kernel_rfl) (by kernel_rfl) (fun _ _ _ h => h) (Or.inl ⟨by rfl, ?y23⟩) (by assumption) ?r23
                    case y23 => (intro W hSw; (try dsimp only at hSw); go_simp; try (with_reducible rfl))
                    try simp only [Act.put, List.setIfInBounds_toArray, List.set_cons_zero, List.set_cons_succ]
                    refine wpAnyH_take (i := 40) (oi := { dst := some 13, op := Op.assign (Operand.tmp 139), type := 4, pos := _, after := #[{ on := 39, ground := Ground.data }, { on := 26, ground := Ground.chain }, { on := 0, ground := Ground.phase }, { on := 1, ground := Ground.phase }, { on := 2, ground := Ground.phase }, { on := 3, ground := Ground.phase }, { on := 4, ground := Ground.phase }, { on := 5, ground := Ground.phase }, { on := 6, ground := Ground.phase }, { on := 7, ground := Ground.phase }, { on := 8, ground := Ground.phase }, { on := 9, ground := Ground.phase }, { on := 10, ground := Ground.phase }, { on := 11, ground := Ground.phase }, { on := 12, ground := Ground.phase }, { on := 13, ground := Ground.phase }, { on := 14, ground := Ground.phase }, { on := 15, ground := Ground.phase }, { on := 16, ground := Ground.phase }, { on := 17, ground := Ground.phase }, { on := 18, ground := Ground.phase }, { on := 19, ground := Ground.phase }, { on := 20, ground := Ground.phase }, { on := 21, ground := Ground.phase }, { on := 22, ground := Ground.phase }, { on := 23, ground := Ground.phase }, { on := 24, ground := Ground.phase }, { on := 25, ground := Ground.phase }, { on := 26, ground := Ground.phase }, { on := 27, ground := Ground.phase }, { on := 28, ground := Ground.phase }, { on := 29, ground := Ground.phase }, { on := 30, ground := Ground.phase }, { on := 31, ground := Ground.phase }, { on := 32, ground := Ground.phase }, { on := 33, ground := Ground.phase }, { on := 34, ground := Ground.phase }, { on := 35, ground := Ground.phase }, { on := 36, ground := Ground.phase }, { on := 37, ground := Ground.phase }, { on := 38, ground := Ground.phase }, { on := 39, ground := Ground.phase }], guard := none }) (v := ?v24) rfl (by kernel_rfl) (by kernel_rfl) (by kernel_rfl) (fun _ _ _ h => h) (Or.inl ⟨by rfl, ?y24⟩) (by assumption) ?r24
                    case y24 => (intro W hSw; (try dsimp only at hSw); go_simp; try (with_reducible rfl))
                    try simp only [Act.put, List.setIfInBounds_toArray, List.set_cons_zero, List.set_cons_succ]
                    refine wpAnyH_done (by kernel_rfl) ?_ _
                    go_wp2
                    go_roundw
                    case rel => exact ⟨j + 1, by omega, by go_num, by rw [decide_eq_true (by omega : p i < j + 1)], HBX.out.drew⟩
                    case measure => simp [intOf]; omega
                  · obtain ⟨la3, hla3⟩ : ∃ la, la = (S j).1 := ⟨_, rfl⟩
                    obtain ⟨lc3, hlc3⟩ : ∃ lc, lc = (S j).2.1 := ⟨_, rfl⟩
                    obtain ⟨bv3, hbv3⟩ : ∃ bv, bv = (S j).2.2 := ⟨_, rfl⟩
                    obtain ⟨m3, hm3⟩ : ∃ m, m = x.1.length := ⟨_, rfl⟩
                    obtain ⟨ms3, hms3⟩ : ∃ m, m = x.2.2 := ⟨_, rfl⟩
                    rw [← hla3, ← hlc3, ← hm3] at t0
                    rw [← hbv3] at t1 hbvX
                    rw [← hms3] at t2
                    rw [← hla3] at hlaX
                    obtain ⟨s0, s1, s2⟩ := HYS.out wx HBX.out
                    have hlx : x.1.length ≤ 9223372036854775807 := (HS.out x (List.mem_of_getElem? hx)).1
                    have hBqx := HBX.out
                    have hsame := same_any x.1 y.1 m3 m2 la3 la2 lc3 lc2 hm3.symm HY.out.2.2.1.symm (by rw [hm3]; exact hlx) wx.drew (hlaX.below (Below.refl _ _).drew) ((HLAY.out.1.below hBqx).below (Below.refl _ _).drew)
                    have hq : wx.cell? ⟨vb, vo + j * 3, none⟩ = some (.slice la3 m3 lc3) ∧ wx.cell? ⟨sb, so + i * 3, none⟩ = some (.slice la2 m2 lc2) ∧ wx.cell? ⟨vb, vo + j * 3 + 1, none⟩ = some (.int .u64 (bv3 : Nat)) ∧ wx.cell? ⟨sb, so + i * 3 + 1, none⟩ = some (.int .u64 (bv2 : Nat)) ∧ wx.cell? ⟨vb, vo + j * 3 + 2, none⟩ = some (.int .i64 ms3) ∧ wx.cell? ⟨sb, so + i * 3 + 2, none⟩ = some (.int .i64 ms2) := ⟨t0, s0, t1, s1, t2, s2⟩
                    have HK25 : Hid (∀ W, Below wx.drew.heap.size wx.drew W → W.cell? ⟨vb, vo + j * 3, none⟩ = some (.slice la3 m3 lc3) ∧ W.cell? ⟨sb, so + i * 3, none⟩ = some (.slice la2 m2 lc2) ∧ W.cell? ⟨vb, vo + j * 3 + 1, none⟩ = some (.int .u64 (bv3 : Nat)) ∧ W.cell? ⟨sb, so + i * 3 + 1, none⟩ = some (.int .u64 (bv2 : Nat)) ∧ W.cell? ⟨vb, vo + j * 3 + 2, none⟩ = some (.int .i64 ms3) ∧ W.cell? ⟨sb, so + i * 3 + 2, none⟩ = some (.int .i64 ms2)) := fun W hW =>
                      ⟨(hW.cell (p := ⟨vb, vo + j * 3, none⟩) (World.block_lt_of_cell? wx _ t0)).trans t0, (hW.cell (p := ⟨sb, so + i * 3, none⟩) (World.block_lt_of_cell? wx _ s0)).trans s0, (hW.cell (p := ⟨vb, vo + j * 3 + 1, none⟩) (World.block_lt_of_cell? wx _ t1)).trans t1, (hW.cell (p := ⟨sb, so + i * 3 + 1, none⟩) (World.block_lt_of_cell? wx _ s1)).trans s1, (hW.cell (p := ⟨vb, vo + j * 3 + 2, none⟩) (World.block_lt_of_cell? wx _ t2)).trans t2, (hW.cell (p := ⟨sb, so + i * 3 + 2, none⟩) (World.block_lt_of_cell? wx _ s2)).trans s2⟩
                    have hd : decide (p i < j) = false := decide_eq_false hlp
                    rw [hd]
                    clear hd
                    by_cases hpj : p i = j
                    · have hxy : x = y := by rw [hxL, HY.out.1, hpj]
                      have hsx : decide (x.1 = y.1) = true := decide_eq_true (by rw [hxy])
                      rw [hsx] at hsame
                      have hbe : bv3 = bv2 := by
                        have h2 := HLAY.out.2.1
                        rw [← hxy] at h2
                        unfold BvOf at hbvX h2
                        exact Option.some.inj (hbvX.symm.trans h2)
                      have hme : ms3 = ms2 := by rw [hms3, hxy, HY.out.2.2.2]
                      have hb1 : (((bv3 : Nat) : Int) == ((bv2 : Nat) : Int)) = true := by rw [hbe]; simp
                      have hm1 : (ms3 == ms2) = true := by rw [hme]; simp
                      clear hbe hme
                      clear hxy hsx hla3 hlc3 hbv3 hm3 hms3 hlaX hbvX hlx hBqx hx hxL t0 t1 t2 s0 s1 s2
                      go_wp2_with fail
                      refine wp_region_held_drew (S := fun w' => w'.cell? ⟨vb, vo + j * 3, none⟩ = some (.slice la3 m3 lc3) ∧ w'.cell? ⟨sb, so + i * 3, none⟩ = some (.slice la2 m2 lc2) ∧ w'.cell? ⟨vb, vo + j * 3 + 1, none⟩ = some (.int .u64 (bv3 : Nat)) ∧ w'.cell? ⟨sb, so + i * 3 + 1, none⟩ = some (.int .u64 (bv2 : Nat)) ∧ w'.cell? ⟨vb, vo + j * 3 + 2, none⟩ = some (.int .i64 ms3) ∧ w'.cell? ⟨sb, so + i * 3 + 2, none⟩ = some (.int .i64 ms2)) (by kernel_rfl) hq (fun hHeld => ?_)
                      refine wpAnyH_take (i := 0) (oi := { dst := some 100, op := Op.move (Operand.tmp 13), type := 4, pos := _, after := #[], guard := none }) (v := ?v25) rfl (by kernel_rfl) (by kernel_rfl) (by kernel_rfl) (fun _ _ _ h => h) (Or.inl ⟨by rfl, ?y25⟩) (by assumption) ?r25
                      case y25 => (intro W hSw; (try dsimp only at hSw); go_simp; try (with_reducible rfl))
                      try simp only [Act.put, List.setIfInBounds_toArray, List.set_cons_zero, List.set_cons_succ]
                      refine wpAnyH_take (i := 1) (oi := { dst := some 101, op := Op.move (Operand.tmp 100), type := 4, pos := _, after := #[{ on := 0, ground := Ground.data }], guard := none }) (v := ?v26) rfl (by kernel_rfl) (by kernel_rfl) (by kernel_rfl) (fun _ _ _ h => h) (Or.inl ⟨by rfl, ?y26⟩) (by assumption) ?r26
                      case y26 => (intro W hSw; (try dsimp only at hSw); go_simp; try (with_reducible rfl))
                      try simp only [Act.put, List.setIfInBounds_toArray, List.set_cons_zero, List.set_cons_succ]
                      refine wpAnyH_take (i := 2) (oi := { dst := some 102, op := Op.move (Operand.tmp 7), type := 25, pos := _, after := #[{ on := 1, ground := Ground.guard }], guard := some (1, false) }) (v := ?v27) rfl (by kernel_rfl) (by kernel_rfl) (by kernel_rfl) (fun _ _ _ h => h) (Or.inl ⟨by rfl, ?y27⟩) (by assumption) ?r27
                      case y27 => (intro W hSw; (try dsimp only at hSw); go_simp; try (with_reducible rfl))
                      try simp only [Act.put, List.setIfInBounds_toArray, List.set_cons_zero, List.set_cons_succ]
                      refine wpAnyH_take (i := 3) (oi := { dst := some 103, op := Op.move (Operand.tmp 14), type := 3, pos := _, after := #[{ on := 1, ground := Ground.guard }], guard := some (1, false) }) (v := ?v28) rfl (by kernel_rfl) (by kernel_rfl) (by kernel_rfl) (fun _ _ _ h => h) (Or.inl ⟨by rfl, ?y28⟩) (by assumption) ?r28
                      case y28 => (intro W hSw; (try dsimp only at hSw); go_simp; try (with_reducible rfl))
                      try simp only [Act.put, List.setIfInBounds_toArray, List.set_cons_zero, List.set_cons_succ]
                      refine wpAnyH_take (i := 4) (oi := { dst := some 104, op := Op.indexAddr 25 (Operand.tmp 102) (Operand.tmp 103), type := 0, pos := _, after := #[{ on := 2, ground := Ground.data }, { on := 3, ground := Ground.data }, { on := 1, ground := Ground.guard }], guard := some (1, false) }) (v := ?v29) rfl (by kernel_rfl) (by kernel_rfl) (by kernel_rfl) (fun _ _ _ h => h) (Or.inl ⟨by rfl, ?y29⟩) (by assumption) ?r29
                      case y29 => (intro W hSw; (try dsimp only at hSw); go_simp; try (with_reducible rfl))
                      try simp only [Act.put, List.setIfInBounds_toArray, List.set_cons_zero, List.set_cons_succ]
                      refine wpAnyH_take (i := 5) (oi := { dst := some 105, op := Op.fieldAddr 41 (Operand.tmp 104) 0, type := 0, pos := _, after := #[{ on := 4, ground := Ground.data }, { on := 1, ground := Ground.guard }], guard := some (1, false) }) (v := ?v30) rfl (by kernel_rfl) (by kernel_rfl) (by kernel_rfl) (fun _ _ _ h => h) (Or.inl ⟨by rfl, ?y30⟩) (by assumption) ?r30
                      case y30 => (intro W hSw; (try dsimp only at hSw); go_simp; try (with_reducible rfl))
                      try simp only [Act.put, List.setIfInBounds_toArray, List.set_cons_zero, List.set_cons_succ]
                      refine wpAnyH_take (i := 6) (oi := { dst := some 106, op := Op.load 33 (Operand.tmp 105), type := 33, pos := _, after := #[{ on := 5, ground := Ground.data }, { on := 1, ground := Ground.guard }], guard := some (1, false) }) (v := ?v31) rfl (by kernel_rfl) (by kernel_rfl) (by kernel_rfl) (fun _ _ _ h => h) (Or.inl ⟨by rfl, ?y31⟩) (by assumption) ?r31
                      case y31 => (intro W hSw; (try dsimp only at hSw); go_simp; try (with_reducible rfl))
                      try simp only [Act.put, List.setIfInBounds_toArray, List.set_cons_zero, List.set_cons_succ]
                      refine wpAnyH_take (i := 7) (oi := { dst := some 107, op := Op.move (Operand.tmp 11), type := 25, pos := _, after := #[{ on := 1, ground := Ground.guard }], guard := some (1, false) }) (v := ?v32) rfl (by kernel_rfl) (by kernel_rfl) (by kernel_rfl) (fun _ _ _ h => h) (Or.inl ⟨by rfl, ?y32⟩) (by assumption) ?r32
                      case y32 => (intro W hSw; (try dsimp only at hSw); go_simp; try (with_reducible rfl))
                      try simp only [Act.put, List.setIfInBounds_toArray, List.set_cons_zero, List.set_cons_succ]
                      refine wpAnyH_take (i := 8) (oi := { dst := some 108, op := Op.move (Operand.tmp 12), type := 3, pos := _, after := #[{ on := 1, ground := Ground.guard }], guard := some (1, false) }) (v := ?v33) rfl (by kernel_rfl) (by kernel_rfl) (by kernel_rfl) (fun _ _ _ h => h) (Or.inl ⟨by rfl, ?y33⟩) (by assumption) ?r33
                      case y33 => (intro W hSw; (try dsimp only at hSw); go_simp; try (with_reducible rfl))
                      try simp only [Act.put, List.setIfInBounds_toArray, List.set_cons_zero, List.set_cons_succ]
                      refine wpAnyH_take (i := 9) (oi := { dst := some 109, op := Op.indexAddr 25 (Operand.tmp 107) (Operand.tmp 108), type := 0, pos := _, after := #[{ on := 7, ground := Ground.data }, { on := 8, ground := Ground.data }, { on := 1, ground := Ground.guard }], guard := some (1, false) }) (v := ?v34) rfl (by kernel_rfl) (by kernel_rfl) (by kernel_rfl) (fun _ _ _ h => h) (Or.inl ⟨by rfl, ?y34⟩) (by assumption) ?r34
                      case y34 => (intro W hSw; (try dsimp only at hSw); go_simp; try (with_reducible rfl))
                      try simp only [Act.put, List.setIfInBounds_toArray, List.set_cons_zero, List.set_cons_succ]
                      refine wpAnyH_take (i := 10) (oi := { dst := some 110, op := Op.fieldAddr 41 (Operand.tmp 109) 0, type := 0, pos := _, after := #[{ on := 9, ground := Ground.data }, { on := 1, ground := Ground.guard }], guard := some (1, false) }) (v := ?v35) rfl (by kernel_rfl) (by kernel_rfl) (by kernel_rfl) (fun _ _ _ h => h) (Or.inl ⟨by rfl, ?y35⟩) (by assumption) ?r35
                      case y35 => (intro W hSw; (try dsimp only at hSw); go_simp; try (with_reducible rfl))
                      try simp only [Act.put, List.setIfInBounds_toArray, List.set_cons_zero, List.set_cons_succ]
                      refine wpAnyH_take (i := 11) (oi := { dst := some 111, op := Op.load 33 (Operand.tmp 110), type := 33, pos := _, after := #[{ on := 10, ground := Ground.data }, { on := 1, ground := Ground.guard }], guard := some (1, false) }) (v := ?v36) rfl (by kernel_rfl) (by kernel_rfl) (by kernel_rfl) (fun _ _ _ h => h) (Or.inl ⟨by rfl, ?y36⟩) (by assumption) ?r36
                      case y36 => (intro W hSw; (try dsimp only at hSw); go_simp; try (with_reducible rfl))
                      try simp only [Act.put, List.setIfInBounds_toArray, List.set_cons_zero, List.set_cons_succ]
                      refine wpAnyH_ready (rs := [12]) (by kernel_rfl) (by simp) ?_
                      refine AllReadyH.cons (o := { dst := some 112, op := Op.call { callee := Callee.value (Operand.func 16), args := #[Operand.tmp 106, Operand.tmp 111], argTypes := #[33, 33] }, type := 4, pos := _, after := #[{ on := 6, ground := Ground.data }, { on := 11, ground := Ground.data }, { on := 1, ground := Ground.chain }, { on := 1, ground := Ground.guard }], guard := some (1, false) }) rfl (fun K hK => ?_) AllReadyH.nil
                      go_simp
                      go_at_call 16
                      with_reducible refine hsame.mono ?_
                      rintro e w6 ⟨rfl, hb6⟩
                      have HB6 := Lib.hid hb6
                      clear hb6
                      go_wp2_with fail
                      refine hK.out _ _ (HK25.out w6 HB6.out) (fun hHeld => ?_)
                      clear hK K
                      try simp only [Act.put, List.setIfInBounds_toArray, List.set_cons_zero, List.set_cons_succ]
                      refine wpAnyH_take (i := 13) (oi := { dst := some 113, op := Op.move (Operand.tmp 112), type := 4, pos := _, after := #[{ on := 12, ground := Ground.data }, { on := 12, ground := Ground.chain }, { on := 1, ground := Ground.guard }], guard := some (1, false) }) (v := ?v37) rfl (by kernel_rfl) (by kernel_rfl) (by kernel_rfl) (fun _ _ _ h => h) (Or.inl ⟨by rfl, ?y37⟩) (by assumption) ?r37
                      case y37 => (intro W hSw; (try dsimp only at hSw); go_simp; try (with_reducible rfl))
                      try simp only [Act.put, List.setIfInBounds_toArray, List.set_cons_zero, List.set_cons_succ]
                      refine wpAnyH_take (i := 14) (oi := { dst := some 114, op := Op.move (Operand.tmp 7), type := 25, pos := _, after := #[{ on := 13, ground := Ground.guard }], guard := some (13, true) }) (v := ?v38) rfl (by kernel_rfl) (by kernel_rfl) (by kernel_rfl) (fun _ _ _ h => h) (Or.inl ⟨by rfl, ?y38⟩) (by assumption) ?r38
                      case y38 => (intro W hSw; (try dsimp only at hSw); go_simp; try (with_reducible rfl))
                      try simp only [Act.put, List.setIfInBounds_toArray, List.set_cons_zero, List.set_cons_succ]
                      refine wpAnyH_take (i := 15) (oi := { dst := some 115, op := Op.move (Operand.tmp 14), type := 3, pos := _, after := #[{ on := 13, ground := Ground.guard }], guard := some (13, true) }) (v := ?v39) rfl (by kernel_rfl) (by kernel_rfl) (by kernel_rfl) (fun _ _ _ h => h) (Or.inl ⟨by rfl, ?y39⟩) (by assumption) ?r39
                      case y39 => (intro W hSw; (try dsimp only at hSw); go_simp; try (with_reducible rfl))
                      try simp only [Act.put, List.setIfInBounds_toArray, List.set_cons_zero, List.set_cons_succ]
                      refine wpAnyH_take (i := 16) (oi := { dst := some 116, op := Op.indexAddr 25 (Operand.tmp 114) (Operand.tmp 115), type := 0, pos := _, after := #[{ on := 14, ground := Ground.data }, { on := 15, ground := Ground.data }, { on := 13, ground := Ground.guard }], guard := some (13, true) }) (v := ?v40) rfl (by kernel_rfl) (by kernel_rfl) (by kernel_rfl) (fun _ _ _ h => h) (Or.inl ⟨by rfl, ?y40⟩) (by assumption) ?r40
                      case y40 => (intro W hSw; (try dsimp only at hSw); go_simp; try (with_reducible rfl))
                      try simp only [Act.put, List.setIfInBounds_toArray, List.set_cons_zero, List.set_cons_succ]
                      refine wpAnyH_take (i := 17) (oi := { dst := some 117, op := Op.fieldAddr 41 (Operand.tmp 116) 1, type := 0, pos := _, after := #[{ on := 16, ground := Ground.data }, { on := 13, ground := Ground.guard }], guard := some (13, true) }) (v := ?v41) rfl (by kernel_rfl) (by kernel_rfl) (by kernel_rfl) (fun _ _ _ h => h) (Or.inl ⟨by rfl, ?y41⟩) (by assumption) ?r41
                      case y41 => (intro W hSw; (try dsimp only at hSw); go_simp; try (with_reducible rfl))
                      try simp only [Act.put, List.setIfInBounds_toArray, List.set_cons_zero, List.set_cons_succ]
                      refine wpAnyH_take (i := 18) (oi := { dst := some 118, op := Op.load 38 (Operand.tmp 117), type := 38, pos := _, after := #[{ on := 17, ground := Ground.data }, { on := 13, ground := Ground.guard }], guard := some (13, true) }) (v := ?v42) rfl (by kernel_rfl) (by kernel_rfl) (by kernel_rfl) (fun _ _ _ h => h) (Or.inl ⟨by rfl, ?y42⟩) (by assumption) ?r42
                      case y42 => (intro W hSw; (try dsimp only at hSw); go_simp; try (with_reducible rfl))
                      try simp only [Act.put, List.setIfInBounds_toArray, List.set_cons_zero, List.set_cons_succ]
                      refine wpAnyH_take (i := 19) (oi := { dst := some 119, op := Op.move (Operand.tmp 11), type := 25, pos := _, after := #[{ on := 13, ground := Ground.guard }], guard := some (13, true) }) (v := ?v43) rfl (by kernel_rfl) (by kernel_rfl) (by kernel_rfl) (fun _ _ _ h => h) (Or.inl ⟨by rfl, ?y43⟩) (by assumption) ?r43
                      case y43 => (intro W hSw; (try dsimp only at hSw); go_simp; try (with_reducible rfl))
                      try simp only [Act.put, List.setIfInBounds_toArray, List.set_cons_zero, List.set_cons_succ]
                      refine wpAnyH_take (i := 20) (oi := { dst := some 120, op := Op.move (Operand.tmp 12), type := 3, pos := _, after := #[{ on := 13, ground := Ground.guard }], guard := some (13, true) }) (v := ?v44) rfl (by kernel_rfl) (by kernel_rfl) (by kernel_rfl) (fun _ _ _ h => h) (Or.inl ⟨by rfl, ?y44⟩) (by assumption) ?r44
                      case y44 => (intro W hSw; (try dsimp only at hSw); go_simp; try (with_reducible rfl))
                      try simp only [Act.put, List.setIfInBounds_toArray, List.set_cons_zero, List.set_cons_succ]
                      refine wpAnyH_take (i := 21) (oi := { dst := some 121, op := Op.indexAddr 25 (Operand.tmp 119) (Operand.tmp 120), type := 0, pos := _, after := #[{ on := 19, ground := Ground.data }, { on := 20, ground := Ground.data }, { on := 13, ground := Ground.guard }], guard := some (13, true) }) (v := ?v45) rfl (by kernel_rfl) (by kernel_rfl) (by kernel_rfl) (fun _ _ _ h => h) (Or.inl ⟨by rfl, ?y45⟩) (by assumption) ?r45
                      case y45 => (intro W hSw; (try dsimp only at hSw); go_simp; try (with_reducible rfl))
                      try simp only [Act.put, List.setIfInBounds_toArray, List.set_cons_zero, List.set_cons_succ]
                      refine wpAnyH_take (i := 22) (oi := { dst := some 122, op := Op.fieldAddr 41 (Operand.tmp 121) 1, type := 0, pos := _, after := #[{ on := 21, ground := Ground.data }, { on := 13, ground := Ground.guard }], guard := some (13, true) }) (v := ?v46) rfl (by kernel_rfl) (by kernel_rfl) (by kernel_rfl) (fun _ _ _ h => h) (Or.inl ⟨by rfl, ?y46⟩) (by assumption) ?r46
                      case y46 => (intro W hSw; (try dsimp only at hSw); go_simp; try (with_reducible rfl))
                      try simp only [Act.put, List.setIfInBounds_toArray, List.set_cons_zero, List.set_cons_succ]
                      refine wpAnyH_take (i := 23) (oi := { dst := some 123, op := Op.load 38 (Operand.tmp 122), type := 38, pos := _, after := #[{ on := 22, ground := Ground.data }, { on := 13, ground := Ground.guard }], guard := some (13, true) }) (v := ?v47) rfl (by kernel_rfl) (by kernel_rfl) (by kernel_rfl) (fun _ _ _ h => h) (Or.inl ⟨by rfl, ?y47⟩) (by assumption) ?r47
                      case y47 => (intro W hSw; (try dsimp only at hSw); go_simp; try (with_reducible rfl))
                      try simp only [Act.put, List.setIfInBounds_toArray, List.set_cons_zero, List.set_cons_succ]
                      refine wpAnyH_take (i := 24) (oi := { dst := some 124, op := Op.binOp BinOp.eql 38 (Operand.tmp 118) (Operand.tmp 123) 38, type := 4, pos := _, after := #[{ on := 18, ground := Ground.data }, { on := 23, ground := Ground.data }, { on := 13, ground := Ground.guard }], guard := some (13, true) }) (v := ?v48) rfl (by kernel_rfl) (by kernel_rfl) (by kernel_rfl) (fun _ _ _ h => h) (Or.inl ⟨by rfl, ?y48⟩) (by assumption) ?r48
                      case y48 => (intro W hSw; (try dsimp only at hSw); go_simp; try (with_reducible rfl))
                      try simp only [Act.put, List.setIfInBounds_toArray, List.set_cons_zero, List.set_cons_succ]
                      refine wpAnyH_take (i := 25) (oi := { dst := some 125, op := Op.pick (Operand.tmp 113) (Operand.tmp 124) (Operand.const (Value.bool false)), type := 4, pos := _, after := #[{ on := 13, ground := Ground.data }, { on := 24, ground := Ground.data }, { on := 1, ground := Ground.guard }], guard := some (1, false) }) (v := ?v49) rfl (by kernel_rfl) (by kernel_rfl) (by kernel_rfl) (fun _ _ _ h => h) (Or.inl ⟨by rfl, ?y49⟩) (by assumption) ?r49
                      case y49 => (intro W hSw; (try dsimp only at hSw); go_simp; try (with_reducible rfl))
                      try simp only [Act.put, List.setIfInBounds_toArray, List.set_cons_zero, List.set_cons_succ]
                      refine wpAnyH_take (i := 26) (oi := { dst := some 126, op := Op.move (Operand.tmp 125), type := 4, pos := _, after := #[{ on := 25, ground := Ground.data }, { on := 13, ground := Ground.chain }, { on := 1, ground := Ground.guard }], guard := some (1, false) }) (v := ?v50) rfl (by kernel_rfl) (by kernel_rfl) (by kernel_rfl) (fun _ _ _ h => h) (Or.inl ⟨by rfl, ?y50⟩) (by assumption) ?r50
                      case y50 => (intro W hSw; (try dsimp only at hSw); go_simp; try (with_reducible rfl))
                      try simp only [Act.put, List.setIfInBounds_toArray, List.set_cons_zero, List.set_cons_succ]
                      refine wpAnyH_take (i := 27) (oi := { dst := some 127, op := Op.move (Operand.tmp 7), type := 25, pos := _, after := #[{ on := 26, ground := Ground.guard }], guard := some (26, true) }) (v := ?v51) rfl (by kernel_rfl) (by kernel_rfl) (by kernel_rfl) (fun _ _ _ h => h) (Or.inl ⟨by rfl, ?y51⟩) (by assumption) ?r51
                      case y51 => (intro W hSw; (try dsimp only at hSw); go_simp; try (with_reducible rfl))
                      try simp only [Act.put, List.setIfInBounds_toArray, List.set_cons_zero, List.set_cons_succ]
                      refine wpAnyH_take (i := 28) (oi := { dst := some 128, op := Op.move (Operand.tmp 14), type := 3, pos := _, after := #[{ on := 26, ground := Ground.guard }], guard := some (26, true) }) (v := ?v52) rfl (by kernel_rfl) (by kernel_rfl) (by kernel_rfl) (fun _ _ _ h => h) (Or.inl ⟨by rfl, ?y52⟩) (by assumption) ?r52
                      case y52 => (intro W hSw; (try dsimp only at hSw); go_simp; try (with_reducible rfl))
                      try simp only [Act.put, List.setIfInBounds_toArray, List.set_cons_zero, List.set_cons_succ]
                      refine wpAnyH_take (i := 29) (oi := { dst := some 129, op := Op.indexAddr 25 (Operand.tmp 127) (Operand.tmp 128), type := 0, pos := _, after := #[{ on := 27, ground := Ground.data }, { on := 28, ground := Ground.data }, { on := 26, ground := Ground.guard }], guard := some (26, true) }) (v := ?v53) rfl (by kernel_rfl) (by kernel_rfl) (by kernel_rfl) (fun _ _ _ h => h) (Or.inl ⟨by rfl, ?y53⟩) (by assumption) ?r53
                      case y53 => (intro W hSw; (try dsimp only at hSw); go_simp; try (with_reducible rfl))
                      try simp only [Act.put, List.setIfInBounds_toArray, List.set_cons_zero, List.set_cons_succ]
                      refine wpAnyH_take (i := 30) (oi := { dst := some 130, op := Op.fieldAddr 41 (Operand.tmp 129) 2, type := 0, pos := _, after := #[{ on := 29, ground := Ground.data }, { on := 26, ground := Ground.guard }], guard := some (26, true) }) (v := ?v54) rfl (by kernel_rfl) (by kernel_rfl) (by kernel_rfl) (fun _ _ _ h => h) (Or.inl ⟨by rfl, ?y54⟩) (by assumption) ?r54
                      case y54 => (intro W hSw; (try dsimp only at hSw); go_simp; try (with_reducible rfl))
                      try simp only [Act.put, List.setIfInBounds_toArray, List.set_cons_zero, List.set_cons_succ]
                      refine wpAnyH_take (i := 31) (oi := { dst := some 131, op := Op.load 2 (Operand.tmp 130), type := 2, pos := _, after := #[{ on := 30, ground := Ground.data }, { on := 26, ground := Ground.guard }], guard := some (26, true) }) (v := ?v55) rfl (by kernel_rfl) (by kernel_rfl) (by kernel_rfl) (fun _ _ _ h => h) (Or.inl ⟨by rfl, ?y55⟩) (by assumption) ?r55
                      case y55 => (intro W hSw; (try dsimp only at hSw); go_simp; try (with_reducible rfl))
                      try simp only [Act.put, List.setIfInBounds_toArray, List.set_cons_zero, List.set_cons_succ]
                      refine wpAnyH_take (i := 32) (oi := { dst := some 132, op := Op.move (Operand.tmp 11), type := 25, pos := _, after := #[{ on := 26, ground := Ground.guard }], guard := some (26, true) }) (v := ?v56) rfl (by kernel_rfl) (by kernel_rfl) (by kernel_rfl) (fun _ _ _ h => h) (Or.inl ⟨by rfl, ?y56⟩) (by assumption) ?r56
                      case y56 => (intro W hSw; (try dsimp only at hSw); go_simp; try (with_reducible rfl))
                      try simp only [Act.put, List.setIfInBounds_toArray, List.set_cons_zero, List.set_cons_succ]
                      refine wpAnyH_take (i := 33) (oi := { dst := some 133, op := Op.move (Operand.tmp 12), type := 3, pos := _, after := #[{ on := 26, ground := Ground.guard }], guard := some (26, true) }) (v := ?v57) rfl (by kernel_rfl) (by kernel_rfl) (by kernel_rfl) (fun _ _ _ h => h) (Or.inl ⟨by rfl, ?y57⟩) (by assumption) ?r57
                      case y57 => (intro W hSw; (try dsimp only at hSw); go_simp; try (with_reducible rfl))
                      try simp only [Act.put, List.setIfInBounds_toArray, List.set_cons_zero, List.set_cons_succ]
                      refine wpAnyH_take (i := 34) (oi := { dst := some 134, op := Op.indexAddr 25 (Operand.tmp 132) (Operand.tmp 133), type := 0, pos := _, after := #[{ on := 32, ground := Ground.data }, { on := 33, ground := Ground.data }, { on := 26, ground := Ground.guard }], guard := some (26, true) }) (v := ?v58) rfl (by kernel_rfl) (by kernel_rfl) (by kernel_rfl) (fun _ _ _ h => h) (Or.inl ⟨by rfl, ?y58⟩) (by assumption) ?r58
                      case y58 => (intro W hSw; (try dsimp only at hSw); go_simp; try (with_reducible rfl))
                      try simp only [Act.put, List.setIfInBounds_toArray, List.set_cons_zero, List.set_cons_succ]
                      refine wpAnyH_take (i := 35) (oi := { dst := some 135, op := Op.fieldAddr 41 (Operand.tmp 134) 2, type := 0, pos := _, after := #[{ on := 34, ground := Ground.data }, { on := 26, ground := Ground.guard }], guard := some (26, true) }) (v := ?v59) rfl (by kernel_rfl) (by kernel_rfl) (by kernel_rfl) (fun _ _ _ h => h) (Or.inl ⟨by rfl, ?y59⟩) (by assumption) ?r59
                      case y59 => (intro W hSw; (try dsimp only at hSw); go_simp; try (with_reducible rfl))
                      try simp only [Act.put, List.setIfInBounds_toArray, List.set_cons_zero, List.set_cons_succ]
                      refine wpAnyH_take (i := 36) (oi := { dst := some 136, op := Op.load 2 (Operand.tmp 135), type := 2, pos := _, after := #[{ on := 35, ground := Ground.data }, { on := 26, ground := Ground.guard }], guard := some (26, true) }) (v := ?v60) rfl (by kernel_rfl) (by kernel_rfl) (by kernel_rfl) (fun _ _ _ h => h) (Or.inl ⟨by rfl, ?y60⟩) (by assumption) ?r60
                      case y60 => (intro W hSw; (try dsimp only at hSw); go_simp; try (with_reducible rfl))
                      try simp only [Act.put, List.setIfInBounds_toArray, List.set_cons_zero, List.set_cons_succ]
                      refine wpAnyH_take (i := 37) (oi := { dst := some 137, op := Op.binOp BinOp.eql 2 (Operand.tmp 131) (Operand.tmp 136) 2, type := 4, pos := _, after := #[{ on := 31, ground := Ground.data }, { on := 36, ground := Ground.data }, { on := 26, ground := Ground.guard }], guard := some (26, true) }) (v := ?v61) rfl (by kernel_rfl) (by kernel_rfl) (by kernel_rfl) (fun _ _ _ h => h) (Or.inl ⟨by rfl, ?y61⟩) (by assumption) ?r61
                      case y61 => (intro W hSw; (try dsimp only at hSw); go_simp; try (with_reducible rfl))
                      try simp only [Act.put, List.setIfInBounds_toArray, List.set_cons_zero, List.set_cons_succ]
                      refine wpAnyH_take (i := 38) (oi := { dst := some 138, op := Op.pick (Operand.tmp 126) (Operand.tmp 137) (Operand.const (Value.bool false)), type := 4, pos := _, after := #[{ on := 26, ground := Ground.data }, { on := 37, ground := Ground.data }, { on := 1, ground := Ground.guard }], guard := some (1, false) }) (v := ?v62) rfl (by kernel_rfl) (by kernel_rfl) (by kernel_rfl) (fun _ _ _ h => h) (Or.inl ⟨by rfl, ?y62⟩) (by assumption) ?r62
                      case y62 => (intro W hSw; (try dsimp only at hSw); go_simp; try (with_reducible rfl))
                      try simp only [Act.put, List.setIfInBounds_toArray, List.set_cons_zero, List.set_cons_succ]
                      refine wpAnyH_take (i := 39) (oi := { dst := some 139, op := Op.pick (Operand.tmp 101) (Operand.const (Value.bool true)) (Operand.tmp 138), type := 4, pos := _, after := #[{ on := 1, ground := Ground.data }, { on := 38, ground := Ground.data }], guard := none }) (v := ?v63) rfl (by kernel_rfl) (by kernel_rfl) (by kernel_rfl) (fun _ _ _ h => h) (Or.inl ⟨by rfl, ?y63⟩) (by assumption) ?r63
                      case y63 => (intro W hSw; (try dsimp only at hSw); go_simp; try (with_reducible rfl))
                      try simp only [Act.put, List.setIfInBounds_toArray, List.set_cons_zero, List.set_cons_succ]
                      refine wpAnyH_take (i := 40) (oi := { dst := some 13, op := Op.assign (Operand.tmp 139), type := 4, pos := _, after := #[{ on := 39, ground := Ground.data }, { on := 26, ground := Ground.chain }, { on := 0, ground := Ground.phase }, { on := 1, ground := Ground.phase }, { on := 2, ground := Ground.phase }, { on := 3, ground := Ground.phase }, { on := 4, ground := Ground.phase }, { on := 5, ground := Ground.phase }, { on := 6, ground := Ground.phase }, { on := 7, ground := Ground.phase }, { on := 8, ground := Ground.phase }, { on := 9, ground := Ground.phase }, { on := 10, ground := Ground.phase }, { on := 11, ground := Ground.phase }, { on := 12, ground := Ground.phase }, { on := 13, ground := Ground.phase }, { on := 14, ground := Ground.phase }, { on := 15, ground := Ground.phase }, { on := 16, ground := Ground.phase }, { on := 17, ground := Ground.phase }, { on := 18, ground := Ground.phase }, { on := 19, ground := Ground.phase }, { on := 20, ground := Ground.phase }, { on := 21, ground := Ground.phase }, { on := 22, ground := Ground.phase }, { on := 23, ground := Ground.phase }, { on := 24, ground := Ground.phase }, { on := 25, ground := Ground.phase }, { on := 26, ground := Ground.phase }, { on := 27, ground := Ground.phase }, { on := 28, ground := Ground.phase }, { on := 29, ground := Ground.phase }, { on := 30, ground := Ground.phase }, { on := 31, ground := Ground.phase }, { on := 32, ground := Ground.phase }, { on := 33, ground := Ground.phase }, { on := 34, ground := Ground.phase }, { on := 35, ground := Ground.phase }, { on := 36, ground := Ground.phase }, { on := 37, ground := Ground.phase }, { on := 38, ground := Ground.phase }, { on := 39, ground := Ground.phase }], guard := none }) (v := ?v64) rfl (by kernel_rfl) (by kernel_rfl) (by kernel_rfl) (fun _ _ _ h => h) (Or.inl ⟨by rfl, ?y64⟩) (by assumption) ?r64
                      case y64 => (intro W hSw; (try dsimp only at hSw); go_simp; try (with_reducible rfl))
                      try simp only [Act.put, List.setIfInBounds_toArray, List.set_cons_zero, List.set_cons_succ]
                      refine wpAnyH_done (by kernel_rfl) ?_ _
                      go_wp2
                      go_roundw
                      case rel => exact ⟨j + 1, by omega, by go_num, by rw [decide_eq_true (by omega : p i < j + 1)], HBX.out.trans (((Below.refl _ wx).drew.trans HB6.out).mono HBX.out.size)⟩
                      case measure => simp [intOf]; omega
                    · have hsx : decide (x.1 = y.1) = false := decide_eq_false (by rw [hxL, HY.out.1]; exact HNEQ.out j (p i) hlt2 HPI.out (fun e => hpj e.symm))
                      rw [hsx] at hsame
                      clear hsx hla3 hlc3 hbv3 hm3 hms3 hlaX hbvX hlx hBqx hx hxL t0 t1 t2 s0 s1 s2
                      go_wp2_with fail
                      refine wp_region_held_drew (S := fun w' => w'.cell? ⟨vb, vo + j * 3, none⟩ = some (.slice la3 m3 lc3) ∧ w'.cell? ⟨sb, so + i * 3, none⟩ = some (.slice la2 m2 lc2) ∧ w'.cell? ⟨vb, vo + j * 3 + 1, none⟩ = some (.int .u64 (bv3 : Nat)) ∧ w'.cell? ⟨sb, so + i * 3 + 1, none⟩ = some (.int .u64 (bv2 : Nat)) ∧ w'.cell? ⟨vb, vo + j * 3 + 2, none⟩ = some (.int .i64 ms3) ∧ w'.cell? ⟨sb, so + i * 3 + 2, none⟩ = some (.int .i64 ms2)) (by kernel_rfl) hq (fun hHeld => ?_)
                      refine wpAnyH_take (i := 0) (oi := { dst := some 100, op := Op.move (Operand.tmp 13), type := 4, pos := _, after := #[], guard := none }) (v := ?v65) rfl (by kernel_rfl) (by kernel_rfl) (by kernel_rfl) (fun _ _ _ h => h) (Or.inl ⟨by rfl, ?y65⟩) (by assumption) ?r65
                      case y65 => (intro W hSw; (try dsimp only at hSw); go_simp; try (with_reducible rfl))
                      try simp only [Act.put, List.setIfInBounds_toArray, List.set_cons_zero, List.set_cons_succ]
                      refine wpAnyH_take (i := 1) (oi := { dst := some 101, op := Op.move (Operand.tmp 100), type := 4, pos := _, after := #[{ on := 0, ground := Ground.data }], guard := none }) (v := ?v66) rfl (by kernel_rfl) (by kernel_rfl) (by kernel_rfl) (fun _ _ _ h => h) (Or.inl ⟨by rfl, ?y66⟩) (by assumption) ?r66
                      case y66 => (intro W hSw; (try dsimp only at hSw); go_simp; try (with_reducible rfl))
                      try simp only [Act.put, List.setIfInBounds_toArray, List.set_cons_zero, List.set_cons_succ]
                      refine wpAnyH_take (i := 2) (oi := { dst := some 102, op := Op.move (Operand.tmp 7), type := 25, pos := _, after := #[{ on := 1, ground := Ground.guard }], guard := some (1, false) }) (v := ?v67) rfl (by kernel_rfl) (by kernel_rfl) (by kernel_rfl) (fun _ _ _ h => h) (Or.inl ⟨by rfl, ?y67⟩) (by assumption) ?r67
                      case y67 => (intro W hSw; (try dsimp only at hSw); go_simp; try (with_reducible rfl))
                      try simp only [Act.put, List.setIfInBounds_toArray, List.set_cons_zero, List.set_cons_succ]
                      refine wpAnyH_take (i := 3) (oi := { dst := some 103, op := Op.move (Operand.tmp 14), type := 3, pos := _, after := #[{ on := 1, ground := Ground.guard }], guard := some (1, false) }) (v := ?v68) rfl (by kernel_rfl) (by kernel_rfl) (by kernel_rfl) (fun _ _ _ h => h) (Or.inl ⟨by rfl, ?y68⟩) (by assumption) ?r68
                      case y68 => (intro W hSw; (try dsimp only at hSw); go_simp; try (with_reducible rfl))
                      try simp only [Act.put, List.setIfInBounds_toArray, List.set_cons_zero, List.set_cons_succ]
                      refine wpAnyH_take (i := 4) (oi := { dst := some 104, op := Op.indexAddr 25 (Operand.tmp 102) (Operand.tmp 103), type := 0, pos := _, after := #[{ on := 2, ground := Ground.data }, { on := 3, ground := Ground.data }, { on := 1, ground := Ground.guard }], guard := some (1, false) }) (v := ?v69) rfl (by kernel_rfl) (by kernel_rfl) (by kernel_rfl) (fun _ _ _ h => h) (Or.inl ⟨by rfl, ?y69⟩) (by assumption) ?r69
                      case y69 => (intro W hSw; (try dsimp only at hSw); go_simp; try (with_reducible rfl))
                      try simp only [Act.put, List.setIfInBounds_toArray, List.set_cons_zero, List.set_cons_succ]
                      refine wpAnyH_take (i := 5) (oi := { dst := some 105, op := Op.fieldAddr 41 (Operand.tmp 104) 0, type := 0, pos := _, after := #[{ on := 4, ground := Ground.data }, { on := 1, ground := Ground.guard }], guard := some (1, false) }) (v := ?v70) rfl (by kernel_rfl) (by kernel_rfl) (by kernel_rfl) (fun _ _ _ h => h) (Or.inl ⟨by rfl, ?y70⟩) (by assumption) ?r70
                      case y70 => (intro W hSw; (try dsimp only at hSw); go_simp; try (with_reducible rfl))
                      try simp only [Act.put, List.setIfInBounds_toArray, List.set_cons_zero, List.set_cons_succ]
                      refine wpAnyH_take (i := 6) (oi := { dst := some 106, op := Op.load 33 (Operand.tmp 105), type := 33, pos := _, after := #[{ on := 5, ground := Ground.data }, { on := 1, ground := Ground.guard }], guard := some (1, false) }) (v := ?v71) rfl (by kernel_rfl) (by kernel_rfl) (by kernel_rfl) (fun _ _ _ h => h) (Or.inl ⟨by rfl, ?y71⟩) (by assumption) ?r71
                      case y71 => (intro W hSw; (try dsimp only at hSw); go_simp; try (with_reducible rfl))
                      try simp only [Act.put, List.setIfInBounds_toArray, List.set_cons_zero, List.set_cons_succ]
                      refine wpAnyH_take (i := 7) (oi := { dst := some 107, op := Op.move (Operand.tmp 11), type := 25, pos := _, after := #[{ on := 1, ground := Ground.guard }], guard := some (1, false) }) (v := ?v72) rfl (by kernel_rfl) (by kernel_rfl) (by kernel_rfl) (fun _ _ _ h => h) (Or.inl ⟨by rfl, ?y72⟩) (by assumption) ?r72
                      case y72 => (intro W hSw; (try dsimp only at hSw); go_simp; try (with_reducible rfl))
                      try simp only [Act.put, List.setIfInBounds_toArray, List.set_cons_zero, List.set_cons_succ]
                      refine wpAnyH_take (i := 8) (oi := { dst := some 108, op := Op.move (Operand.tmp 12), type := 3, pos := _, after := #[{ on := 1, ground := Ground.guard }], guard := some (1, false) }) (v := ?v73) rfl (by kernel_rfl) (by kernel_rfl) (by kernel_rfl) (fun _ _ _ h => h) (Or.inl ⟨by rfl, ?y73⟩) (by assumption) ?r73
                      case y73 => (intro W hSw; (try dsimp only at hSw); go_simp; try (with_reducible rfl))
                      try simp only [Act.put, List.setIfInBounds_toArray, List.set_cons_zero, List.set_cons_succ]
                      refine wpAnyH_take (i := 9) (oi := { dst := some 109, op := Op.indexAddr 25 (Operand.tmp 107) (Operand.tmp 108), type := 0, pos := _, after := #[{ on := 7, ground := Ground.data }, { on := 8, ground := Ground.data }, { on := 1, ground := Ground.guard }], guard := some (1, false) }) (v := ?v74) rfl (by kernel_rfl) (by kernel_rfl) (by kernel_rfl) (fun _ _ _ h => h) (Or.inl ⟨by rfl, ?y74⟩) (by assumption) ?r74
                      case y74 => (intro W hSw; (try dsimp only at hSw); go_simp; try (with_reducible rfl))
                      try simp only [Act.put, List.setIfInBounds_toArray, List.set_cons_zero, List.set_cons_succ]
                      refine wpAnyH_take (i := 10) (oi := { dst := some 110, op := Op.fieldAddr 41 (Operand.tmp 109) 0, type := 0, pos := _, after := #[{ on := 9, ground := Ground.data }, { on := 1, ground := Ground.guard }], guard := some (1, false) }) (v := ?v75) rfl (by kernel_rfl) (by kernel_rfl) (by kernel_rfl) (fun _ _ _ h => h) (Or.inl ⟨by rfl, ?y75⟩) (by assumption) ?r75
                      case y75 => (intro W hSw; (try dsimp only at hSw); go_simp; try (with_reducible rfl))
                      try simp only [Act.put, List.setIfInBounds_toArray, List.set_cons_zero, List.set_cons_succ]
                      refine wpAnyH_take (i := 11) (oi := { dst := some 111, op := Op.load 33 (Operand.tmp 110), type := 33, pos := _, after := #[{ on := 10, ground := Ground.data }, { on := 1, ground := Ground.guard }], guard := some (1, false) }) (v := ?v76) rfl (by kernel_rfl) (by kernel_rfl) (by kernel_rfl) (fun _ _ _ h => h) (Or.inl ⟨by rfl, ?y76⟩) (by assumption) ?r76
                      case y76 => (intro W hSw; (try dsimp only at hSw); go_simp; try (with_reducible rfl))
                      try simp only [Act.put, List.setIfInBounds_toArray, List.set_cons_zero, List.set_cons_succ]
                      refine wpAnyH_ready (rs := [12]) (by kernel_rfl) (by simp) ?_
                      refine AllReadyH.cons (o := { dst := some 112, op := Op.call { callee := Callee.value (Operand.func 16), args := #[Operand.tmp 106, Operand.tmp 111], argTypes := #[33, 33] }, type := 4, pos := _, after := #[{ on := 6, ground := Ground.data }, { on := 11, ground := Ground.data }, { on := 1, ground := Ground.chain }, { on := 1, ground := Ground.guard }], guard := some (1, false) }) rfl (fun K hK => ?_) AllReadyH.nil
                      go_simp
                      go_at_call 16
                      with_reducible refine hsame.mono ?_
                      rintro e w6 ⟨rfl, hb6⟩
                      have HB6 := Lib.hid hb6
                      clear hb6
                      go_wp2_with fail
                      refine hK.out _ _ (HK25.out w6 HB6.out) (fun hHeld => ?_)
                      clear hK K
                      try simp only [Act.put, List.setIfInBounds_toArray, List.set_cons_zero, List.set_cons_succ]
                      refine wpAnyH_take (i := 13) (oi := { dst := some 113, op := Op.move (Operand.tmp 112), type := 4, pos := _, after := #[{ on := 12, ground := Ground.data }, { on := 12, ground := Ground.chain }, { on := 1, ground := Ground.guard }], guard := some (1, false) }) (v := ?v77) rfl (by kernel_rfl) (by kernel_rfl) (by kernel_rfl) (fun _ _ _ h => h) (Or.inl ⟨by rfl, ?y77⟩) (by assumption) ?r77
                      case y77 => (intro W hSw; (try dsimp only at hSw); go_simp; try (with_reducible rfl))
                      try simp only [Act.put, List.setIfInBounds_toArray, List.set_cons_zero, List.set_cons_succ]
                      refine wpAnyH_take (i := 14) (oi := { dst := some 114, op := Op.move (Operand.tmp 7), type := 25, pos := _, after := #[{ on := 13, ground := Ground.guard }], guard := some (13, true) }) (v := undef) rfl (by kernel_rfl) (by kernel_rfl) (by kernel_rfl) (fun _ _ _ h => h) (Or.inr ⟨by rfl, rfl⟩) (by assumption) ?_
                      try simp only [Act.put, List.setIfInBounds_toArray, List.set_cons_zero, List.set_cons_succ]
                      refine wpAnyH_take (i := 15) (oi := { dst := some 115, op := Op.move (Operand.tmp 14), type := 3, pos := _, after := #[{ on := 13, ground := Ground.guard }], guard := some (13, true) }) (v := undef) rfl (by kernel_rfl) (by kernel_rfl) (by kernel_rfl) (fun _ _ _ h => h) (Or.inr ⟨by rfl, rfl⟩) (by assumption) ?_
                      try simp only [Act.put, List.setIfInBounds_toArray, List.set_cons_zero, List.set_cons_succ]
                      refine wpAnyH_take (i := 16) (oi := { dst := some 116, op := Op.indexAddr 25 (Operand.tmp 114) (Operand.tmp 115), type := 0, pos := _, after := #[{ on := 14, ground := Ground.data }, { on := 15, ground := Ground.data }, { on := 13, ground := Ground.guard }], guard := some (13, true) }) (v := undef) rfl (by kernel_rfl) (by kernel_rfl) (by kernel_rfl) (fun _ _ _ h => h) (Or.inr ⟨by rfl, rfl⟩) (by assumption) ?_
                      try simp only [Act.put, List.setIfInBounds_toArray, List.set_cons_zero, List.set_cons_succ]
                      refine wpAnyH_take (i := 17) (oi := { dst := some 117, op := Op.fieldAddr 41 (Operand.tmp 116) 1, type := 0, pos := _, after := #[{ on := 16, ground := Ground.data }, { on := 13, ground := Ground.guard }], guard := some (13, true) }) (v := undef) rfl (by kernel_rfl) (by kernel_rfl) (by kernel_rfl) (fun _ _ _ h => h) (Or.inr ⟨by rfl, rfl⟩) (by assumption) ?_
                      try simp only [Act.put, List.setIfInBounds_toArray, List.set_cons_zero, List.set_cons_succ]
                      refine wpAnyH_take (i := 18) (oi := { dst := some 118, op := Op.load 38 (Operand.tmp 117), type := 38, pos := _, after := #[{ on := 17, ground := Ground.data }, { on := 13, ground := Ground.guard }], guard := some (13, true) }) (v := undef) rfl (by kernel_rfl) (by kernel_rfl) (by kernel_rfl) (fun _ _ _ h => h) (Or.inr ⟨by rfl, rfl⟩) (by assumption) ?_
                      try simp only [Act.put, List.setIfInBounds_toArray, List.set_cons_zero, List.set_cons_succ]
                      refine wpAnyH_take (i := 19) (oi := { dst := some 119, op := Op.move (Operand.tmp 11), type := 25, pos := _, after := #[{ on := 13, ground := Ground.guard }], guard := some (13, true) }) (v := undef) rfl (by kernel_rfl) (by kernel_rfl) (by kernel_rfl) (fun _ _ _ h => h) (Or.inr ⟨by rfl, rfl⟩) (by assumption) ?_
                      try simp only [Act.put, List.setIfInBounds_toArray, List.set_cons_zero, List.set_cons_succ]
                      refine wpAnyH_take (i := 20) (oi := { dst := some 120, op := Op.move (Operand.tmp 12), type := 3, pos := _, after := #[{ on := 13, ground := Ground.guard }], guard := some (13, true) }) (v := undef) rfl (by kernel_rfl) (by kernel_rfl) (by kernel_rfl) (fun _ _ _ h => h) (Or.inr ⟨by rfl, rfl⟩) (by assumption) ?_
                      try simp only [Act.put, List.setIfInBounds_toArray, List.set_cons_zero, List.set_cons_succ]
                      refine wpAnyH_take (i := 21) (oi := { dst := some 121, op := Op.indexAddr 25 (Operand.tmp 119) (Operand.tmp 120), type := 0, pos := _, after := #[{ on := 19, ground := Ground.data }, { on := 20, ground := Ground.data }, { on := 13, ground := Ground.guard }], guard := some (13, true) }) (v := undef) rfl (by kernel_rfl) (by kernel_rfl) (by kernel_rfl) (fun _ _ _ h => h) (Or.inr ⟨by rfl, rfl⟩) (by assumption) ?_
                      try simp only [Act.put, List.setIfInBounds_toArray, List.set_cons_zero, List.set_cons_succ]
                      refine wpAnyH_take (i := 22) (oi := { dst := some 122, op := Op.fieldAddr 41 (Operand.tmp 121) 1, type := 0, pos := _, after := #[{ on := 21, ground := Ground.data }, { on := 13, ground := Ground.guard }], guard := some (13, true) }) (v := undef) rfl (by kernel_rfl) (by kernel_rfl) (by kernel_rfl) (fun _ _ _ h => h) (Or.inr ⟨by rfl, rfl⟩) (by assumption) ?_
                      try simp only [Act.put, List.setIfInBounds_toArray, List.set_cons_zero, List.set_cons_succ]
                      refine wpAnyH_take (i := 23) (oi := { dst := some 123, op := Op.load 38 (Operand.tmp 122), type := 38, pos := _, after := #[{ on := 22, ground := Ground.data }, { on := 13, ground := Ground.guard }], guard := some (13, true) }) (v := undef) rfl (by kernel_rfl) (by kernel_rfl) (by kernel_rfl) (fun _ _ _ h => h) (Or.inr ⟨by rfl, rfl⟩) (by assumption) ?_
                      try simp only [Act.put, List.setIfInBounds_toArray, List.set_cons_zero, List.set_cons_succ]
                      refine wpAnyH_take (i := 24) (oi := { dst := some 124, op := Op.binOp BinOp.eql 38 (Operand.tmp 118) (Operand.tmp 123) 38, type := 4, pos := _, after := #[{ on := 18, ground := Ground.data }, { on := 23, ground := Ground.data }, { on := 13, ground := Ground.guard }], guard := some (13, true) }) (v := undef) rfl (by kernel_rfl) (by kernel_rfl) (by kernel_rfl) (fun _ _ _ h => h) (Or.inr ⟨by rfl, rfl⟩) (by assumption) ?_
                      try simp only [Act.put, List.setIfInBounds_toArray, List.set_cons_zero, List.set_cons_succ]
                      refine wpAnyH_take (i := 25) (oi := { dst := some 125, op := Op.pick (Operand.tmp 113) (Operand.tmp 124) (Operand.const (Value.bool false)), type := 4, pos := _, after := #[{ on := 13, ground := Ground.data }, { on := 24, ground := Ground.data }, { on := 1, ground := Ground.guard }], guard := some (1, false) }) (v := ?v78) rfl (by kernel_rfl) (by kernel_rfl) (by kernel_rfl) (fun _ _ _ h => h) (Or.inl ⟨by rfl, ?y78⟩) (by assumption) ?r78
                      case y78 => (intro W hSw; (try dsimp only at hSw); go_simp; try (with_reducible rfl))
                      try simp only [Act.put, List.setIfInBounds_toArray, List.set_cons_zero, List.set_cons_succ]
                      refine wpAnyH_take (i := 26) (oi := { dst := some 126, op := Op.move (Operand.tmp 125), type := 4, pos := _, after := #[{ on := 25, ground := Ground.data }, { on := 13, ground := Ground.chain }, { on := 1, ground := Ground.guard }], guard := some (1, false) }) (v := ?v79) rfl (by kernel_rfl) (by kernel_rfl) (by kernel_rfl) (fun _ _ _ h => h) (Or.inl ⟨by rfl, ?y79⟩) (by assumption) ?r79
                      case y79 => (intro W hSw; (try dsimp only at hSw); go_simp; try (with_reducible rfl))
                      try simp only [Act.put, List.setIfInBounds_toArray, List.set_cons_zero, List.set_cons_succ]
                      refine wpAnyH_take (i := 27) (oi := { dst := some 127, op := Op.move (Operand.tmp 7), type := 25, pos := _, after := #[{ on := 26, ground := Ground.guard }], guard := some (26, true) }) (v := undef) rfl (by kernel_rfl) (by kernel_rfl) (by kernel_rfl) (fun _ _ _ h => h) (Or.inr ⟨by rfl, rfl⟩) (by assumption) ?_
                      try simp only [Act.put, List.setIfInBounds_toArray, List.set_cons_zero, List.set_cons_succ]
                      refine wpAnyH_take (i := 28) (oi := { dst := some 128, op := Op.move (Operand.tmp 14), type := 3, pos := _, after := #[{ on := 26, ground := Ground.guard }], guard := some (26, true) }) (v := undef) rfl (by kernel_rfl) (by kernel_rfl) (by kernel_rfl) (fun _ _ _ h => h) (Or.inr ⟨by rfl, rfl⟩) (by assumption) ?_
                      try simp only [Act.put, List.setIfInBounds_toArray, List.set_cons_zero, List.set_cons_succ]
                      refine wpAnyH_take (i := 29) (oi := { dst := some 129, op := Op.indexAddr 25 (Operand.tmp 127) (Operand.tmp 128), type := 0, pos := _, after := #[{ on := 27, ground := Ground.data }, { on := 28, ground := Ground.data }, { on := 26, ground := Ground.guard }], guard := some (26, true) }) (v := undef) rfl (by kernel_rfl) (by kernel_rfl) (by kernel_rfl) (fun _ _ _ h => h) (Or.inr ⟨by rfl, rfl⟩) (by assumption) ?_
                      try simp only [Act.put, List.setIfInBounds_toArray, List.set_cons_zero, List.set_cons_succ]
                      refine wpAnyH_take (i := 30) (oi := { dst := some 130, op := Op.fieldAddr 41 (Operand.tmp 129) 2, type := 0, pos := _, after := #[{ on := 29, ground := Ground.data }, { on := 26, ground := Ground.guard }], guard := some (26, true) }) (v := undef) rfl (by kernel_rfl) (by kernel_rfl) (by kernel_rfl) (fun _ _ _ h => h) (Or.inr ⟨by rfl, rfl⟩) (by assumption) ?_
                      try simp only [Act.put, List.setIfInBounds_toArray, List.set_cons_zero, List.set_cons_succ]
                      refine wpAnyH_take (i := 31) (oi := { dst := some 131, op := Op.load 2 (Operand.tmp 130), type := 2, pos := _, after := #[{ on := 30, ground := Ground.data }, { on := 26, ground := Ground.guard }], guard := some (26, true) }) (v := undef) rfl (by kernel_rfl) (by kernel_rfl) (by kernel_rfl) (fun _ _ _ h => h) (Or.inr ⟨by rfl, rfl⟩) (by assumption) ?_
                      try simp only [Act.put, List.setIfInBounds_toArray, List.set_cons_zero, List.set_cons_succ]
                      refine wpAnyH_take (i := 32) (oi := { dst := some 132, op := Op.move (Operand.tmp 11), type := 25, pos := _, after := #[{ on := 26, ground := Ground.guard }], guard := some (26, true) }) (v := undef) rfl (by kernel_rfl) (by kernel_rfl) (by kernel_rfl) (fun _ _ _ h => h) (Or.inr ⟨by rfl, rfl⟩) (by assumption) ?_
                      try simp only [Act.put, List.setIfInBounds_toArray, List.set_cons_zero, List.set_cons_succ]
                      refine wpAnyH_take (i := 33) (oi := { dst := some 133, op := Op.move (Operand.tmp 12), type := 3, pos := _, after := #[{ on := 26, ground := Ground.guard }], guard := some (26, true) }) (v := undef) rfl (by kernel_rfl) (by kernel_rfl) (by kernel_rfl) (fun _ _ _ h => h) (Or.inr ⟨by rfl, rfl⟩) (by assumption) ?_
                      try simp only [Act.put, List.setIfInBounds_toArray, List.set_cons_zero, List.set_cons_succ]
                      refine wpAnyH_take (i := 34) (oi := { dst := some 134, op := Op.indexAddr 25 (Operand.tmp 132) (Operand.tmp 133), type := 0, pos := _, after := #[{ on := 32, ground := Ground.data }, { on := 33, ground := Ground.data }, { on := 26, ground := Ground.guard }], guard := some (26, true) }) (v := undef) rfl (by kernel_rfl) (by kernel_rfl) (by kernel_rfl) (fun _ _ _ h => h) (Or.inr ⟨by rfl, rfl⟩) (by assumption) ?_
                      try simp only [Act.put, List.setIfInBounds_toArray, List.set_cons_zero, List.set_cons_succ]
                      refine wpAnyH_take (i := 35) (oi := { dst := some 135, op := Op.fieldAddr 41 (Operand.tmp 134) 2, type := 0, pos := _, after := #[{ on := 34, ground := Ground.data }, { on := 26, ground := Ground.guard }], guard := some (26, true) }) (v := undef) rfl (by kernel_rfl) (by kernel_rfl) (by kernel_rfl) (fun _ _ _ h => h) (Or.inr ⟨by rfl, rfl⟩) (by assumption) ?_
                      try simp only [Act.put, List.setIfInBounds_toArray, List.set_cons_zero, List.set_cons_succ]
                      refine wpAnyH_take (i := 36) (oi := { dst := some 136, op := Op.load 2 (Operand.tmp 135), type := 2, pos := _, after := #[{ on := 35, ground := Ground.data }, { on := 26, ground := Ground.guard }], guard := some (26, true) }) (v := undef) rfl (by kernel_rfl) (by kernel_rfl) (by kernel_rfl) (fun _ _ _ h => h) (Or.inr ⟨by rfl, rfl⟩) (by assumption) ?_
                      try simp only [Act.put, List.setIfInBounds_toArray, List.set_cons_zero, List.set_cons_succ]
                      refine wpAnyH_take (i := 37) (oi := { dst := some 137, op := Op.binOp BinOp.eql 2 (Operand.tmp 131) (Operand.tmp 136) 2, type := 4, pos := _, after := #[{ on := 31, ground := Ground.data }, { on := 36, ground := Ground.data }, { on := 26, ground := Ground.guard }], guard := some (26, true) }) (v := undef) rfl (by kernel_rfl) (by kernel_rfl) (by kernel_rfl) (fun _ _ _ h => h) (Or.inr ⟨by rfl, rfl⟩) (by assumption) ?_
                      try simp only [Act.put, List.setIfInBounds_toArray, List.set_cons_zero, List.set_cons_succ]
                      refine wpAnyH_take (i := 38) (oi := { dst := some 138, op := Op.pick (Operand.tmp 126) (Operand.tmp 137) (Operand.const (Value.bool false)), type := 4, pos := _, after := #[{ on := 26, ground := Ground.data }, { on := 37, ground := Ground.data }, { on := 1, ground := Ground.guard }], guard := some (1, false) }) (v := ?v80) rfl (by kernel_rfl) (by kernel_rfl) (by kernel_rfl) (fun _ _ _ h => h) (Or.inl ⟨by rfl, ?y80⟩) (by assumption) ?r80
                      case y80 => (intro W hSw; (try dsimp only at hSw); go_simp; try (with_reducible rfl))
                      try simp only [Act.put, List.setIfInBounds_toArray, List.set_cons_zero, List.set_cons_succ]
                      refine wpAnyH_take (i := 39) (oi := { dst := some 139, op := Op.pick (Operand.tmp 101) (Operand.const (Value.bool true)) (Operand.tmp 138), type := 4, pos := _, after := #[{ on := 1, ground := Ground.data }, { on := 38, ground := Ground.data }], guard := none }) (v := ?v81) rfl (by kernel_rfl) (by kernel_rfl) (by kernel_rfl) (fun _ _ _ h => h) (Or.inl ⟨by rfl, ?y81⟩) (by assumption) ?r81
                      case y81 => (intro W hSw; (try dsimp only at hSw); go_simp; try (with_reducible rfl))
                      try simp only [Act.put, List.setIfInBounds_toArray, List.set_cons_zero, List.set_cons_succ]
                      refine wpAnyH_take (i := 40) (oi := { dst := some 13, op := Op.assign (Operand.tmp 139), type := 4, pos := _, after := #[{ on := 39, ground := Ground.data }, { on := 26, ground := Ground.chain }, { on := 0, ground := Ground.phase }, { on := 1, ground := Ground.phase }, { on := 2, ground := Ground.phase }, { on := 3, ground := Ground.phase }, { on := 4, ground := Ground.phase }, { on := 5, ground := Ground.phase }, { on := 6, ground := Ground.phase }, { on := 7, ground := Ground.phase }, { on := 8, ground := Ground.phase }, { on := 9, ground := Ground.phase }, { on := 10, ground := Ground.phase }, { on := 11, ground := Ground.phase }, { on := 12, ground := Ground.phase }, { on := 13, ground := Ground.phase }, { on := 14, ground := Ground.phase }, { on := 15, ground := Ground.phase }, { on := 16, ground := Ground.phase }, { on := 17, ground := Ground.phase }, { on := 18, ground := Ground.phase }, { on := 19, ground := Ground.phase }, { on := 20, ground := Ground.phase }, { on := 21, ground := Ground.phase }, { on := 22, ground := Ground.phase }, { on := 23, ground := Ground.phase }, { on := 24, ground := Ground.phase }, { on := 25, ground := Ground.phase }, { on := 26, ground := Ground.phase }, { on := 27, ground := Ground.phase }, { on := 28, ground := Ground.phase }, { on := 29, ground := Ground.phase }, { on := 30, ground := Ground.phase }, { on := 31, ground := Ground.phase }, { on := 32, ground := Ground.phase }, { on := 33, ground := Ground.phase }, { on := 34, ground := Ground.phase }, { on := 35, ground := Ground.phase }, { on := 36, ground := Ground.phase }, { on := 37, ground := Ground.phase }, { on := 38, ground := Ground.phase }, { on := 39, ground := Ground.phase }], guard := none }) (v := ?v82) rfl (by kernel_rfl) (by kernel_rfl) (by kernel_rfl) (fun _ _ _ h => h) (Or.inl ⟨by rfl, ?y82⟩) (by assumption) ?r82
                      case y82 => (intro W hSw; (try dsimp only at hSw); go_simp; try (with_reducible rfl))
                      try simp only [Act.put, List.setIfInBounds_toArray, List.set_cons_zero, List.set_cons_succ]
                      refine wpAnyH_done (by kernel_rfl) ?_ _
                      go_wp2
                      go_roundw
                      case rel => exact ⟨j + 1, by omega, by go_num, by rw [decide_eq_false (by omega : ¬ p i < j + 1)], HBX.out.trans (((Below.refl _ wx).drew.trans HB6.out).mono HBX.out.size)⟩
                      case measure => simp [intOf]; omega
                · obtain rfl : n = j := by omega
                  have hd : decide (p i < n) = true := decide_eq_true HPI.out
                  rw [hd]
                  go_wp2_with fail
                  go_roundw
                  case rel => exact ⟨i + 1, by omega, by go_num, HBQ.out.trans (HBX.out.mono HBQ.out.size)⟩
                  case measure => simp [intOf]; omega
          · obtain rfl : n = i := by omega
            have hBbq : Below wb.heap.size wb wq := HB4.out.trans (HBQ.out.mono HB4.out.size)
            have HBBQ := Lib.hid hBbq
            have hvq := HVI.out.below hBbq
            have HVQ := Lib.hid hvq
            have HAW : Hid (∀ W, Below wq.heap.size wq W → Calls Tryz.prog 7 #[] W fun e w' => e = .returned (.bool true) ∧ Below W.heap.size W w') := fun W hW => awake W (HT2.out.below (hBbq.trans (hW.mono hBbq.size)))
            have HFEW : Hid (∀ x ∈ L, Few x.1) := fun x hx => (HOK.out x hx).2.1.1
            clear hBbq
            by_cases hn0 : n = 0
            · subst hn0
              cases turned
              all_goals
                go_wp2_with (first
                  | (at_builtin; refine wp_other wq rfl _ _ rfl vad 0 vcp L S HN.out rfl rfl HVQ.out HVN.out (by omega) ?_; intro v' w5 hrow hb5; obtain ⟨oad, ocp, hv5, hov⟩ := other_vecIn HN.out HVQ.out hb5 hrow; subst hv5; have HOV := Lib.hid hov; have HB5 := Lib.hid hb5; clear hrow hov hb5)
                  | (go_at_call 7; (with_reducible refine (HAW.out _ HB5.out).mono ?_); rintro e w6 ⟨rfl, hb6⟩; have HB6 : Hid (Below wq.heap.size wq w6) := HB5.out.trans (hb6.mono HB5.out.size); have hve1 := vequal_any L L S S 0 0 vcp ocp vad oad HN.out HN.out hn12 hn12 (fun _ => list_same L) HOK.out HFEW.out w6 (HVQ.out.below HB6.out) (HOV.out.below hb6); rw [decide_eq_true rfl] at hve1; clear hb6)
                  | (go_at_call 17; (with_reducible refine hve1.mono ?_); rintro e w7 ⟨rfl, hb7⟩; have HB7 : Hid (Below wq.heap.size wq w7) := HB6.out.trans (hb7.mono HB6.out.size); clear hb7 hve1))
                go_ret
                exact ⟨rfl, HB.out.trans ((HBBQ.out.trans (HB7.out.mono HBBQ.out.size)).mono HB.out.size)⟩
            · have hn1 : 0 < n := by omega
              have hL0 : 0 < L.length := by rw [HN.out]; exact hn1
              obtain ⟨vb, vo, rfl, -⟩ := hvq 0 _ (List.getElem?_eq_getElem hL0)
              have hne : L ≠ [] := fun e => by rw [e] at hL0; exact absurd hL0 (by decide)
              have HTL : Hid (timesV L ≠ timesV (L.drop 1)) := times_tail L hne
              have hn2 : ((n : Int) == 0) = false := by simpa using fun h => hn0 (by omega)
              have hn3 : (1 : Int) ≤ (n : Int) := by omega
              have HD : Hid ((L.drop 1).length = n - 1 ∧ n - 1 ≤ 12 ∧ n ≠ n - 1 ∧ ∀ x ∈ L.drop 1, Few x.1) := ⟨by rw [List.length_drop, HN.out], by omega, by omega, fun x hx => HFEW.out x (List.mem_of_mem_drop hx)⟩
              obtain ⟨ad2, had2⟩ : ∃ ad2 : Addr, ad2 = if vcp = 1 then ⟨vb, vo, none⟩ else ⟨vb, vo + 3, none⟩ := ⟨_, rfl⟩
              have HV2 : Hid (∀ W, Below wq.heap.size wq W → VecIn W (some ad2) (L.drop 1) (fun i => S (i + 1))) := fun W hW => by
                rw [had2]
                by_cases hc : vcp = 1
                · have h1 := HVC.out
                  have : L.drop 1 = [] := List.eq_nil_of_length_eq_zero (by rw [HD.out.1]; omega)
                  rw [this]
                  exact VecIn.none _ _ _
                · rw [if_neg hc]
                  exact (HVQ.out.below hW).tail
              have hve2 := fun W (hW : Below wq.heap.size wq W) => vequal_any L (L.drop 1) S (fun i => S (i + 1)) n (n - 1) vcp (vcp - 1) (some ⟨vb, vo, none⟩) (some ad2) HN.out HD.out.1 hn12 HD.out.2.1 (fun e => absurd e HD.out.2.2.1) HOK.out HD.out.2.2.2 W (HVQ.out.below hW) (HV2.out W hW)
              rw [decide_eq_false HTL.out] at hve2
              clear hvq hne hL0
              cases turned
              · by_cases hc : vcp = 1
                · rw [if_pos hc] at had2
                  subst had2 hc
                  have HE2 := Lib.hid hve2
                  clear hve2
                  go_wp2_with (first
                    | (at_builtin; refine wp_other wq rfl _ _ rfl (some ⟨vb, vo, none⟩) n 1 L S HN.out rfl rfl HVQ.out HVN.out (by omega) ?_; intro v' w5 hrow hb5; obtain ⟨oad, ocp, hv5, hov⟩ := other_vecIn HN.out HVQ.out hb5 hrow; subst hv5; have HOV := Lib.hid hov; have HB5 := Lib.hid hb5; clear hrow hov hb5)
                    | (go_at_call 7; (with_reducible refine (HAW.out _ HB5.out).mono ?_); rintro e w6 ⟨rfl, hb6⟩; have HB6 : Hid (Below wq.heap.size wq w6) := HB5.out.trans (hb6.mono HB5.out.size); have hve1 := vequal_any L L S S n n 1 ocp (some ⟨vb, vo, none⟩) oad HN.out HN.out hn12 hn12 (fun _ => list_same L) HOK.out HFEW.out w6 (HVQ.out.below HB6.out) (HOV.out.below hb6); rw [decide_eq_true rfl] at hve1; clear hb6)
                    | (go_at_call 17; (with_reducible refine hve1.mono ?_); rintro e w7 ⟨rfl, hb7⟩; have HB7 : Hid (Below wq.heap.size wq w7) := HB6.out.trans (hb7.mono HB6.out.size); clear hb7 hve1)
                    | (go_at_call 17; (with_reducible refine (HE2.out w7 HB7.out).mono ?_); rintro e w8 ⟨rfl, hb8⟩; have HB8 : Hid (Below wq.heap.size wq w8) := HB7.out.trans (hb8.mono HB7.out.size); clear hb8))
                  go_ret
                  exact ⟨rfl, HB.out.trans ((HBBQ.out.trans (HB8.out.mono HBBQ.out.size)).mono HB.out.size)⟩
                · rw [if_neg hc] at had2
                  subst had2
                  have HE2 := Lib.hid hve2
                  clear hve2
                  go_wp2_with (first
                    | (at_builtin; refine wp_other wq rfl _ _ rfl (some ⟨vb, vo, none⟩) n vcp L S HN.out rfl rfl HVQ.out HVN.out (by omega) ?_; intro v' w5 hrow hb5; obtain ⟨oad, ocp, hv5, hov⟩ := other_vecIn HN.out HVQ.out hb5 hrow; subst hv5; have HOV := Lib.hid hov; have HB5 := Lib.hid hb5; clear hrow hov hb5)
                    | (go_at_call 7; (with_reducible refine (HAW.out _ HB5.out).mono ?_); rintro e w6 ⟨rfl, hb6⟩; have HB6 : Hid (Below wq.heap.size wq w6) := HB5.out.trans (hb6.mono HB5.out.size); have hve1 := vequal_any L L S S n n vcp ocp (some ⟨vb, vo, none⟩) oad HN.out HN.out hn12 hn12 (fun _ => list_same L) HOK.out HFEW.out w6 (HVQ.out.below HB6.out) (HOV.out.below hb6); rw [decide_eq_true rfl] at hve1; clear hb6)
                    | (go_at_call 17; (with_reducible refine hve1.mono ?_); rintro e w7 ⟨rfl, hb7⟩; have HB7 : Hid (Below wq.heap.size wq w7) := HB6.out.trans (hb7.mono HB6.out.size); clear hb7 hve1)
                    | (go_at_call 17; (with_reducible refine (HE2.out w7 HB7.out).mono ?_); rintro e w8 ⟨rfl, hb8⟩; have HB8 : Hid (Below wq.heap.size wq w8) := HB7.out.trans (hb8.mono HB7.out.size); clear hb8))
                  go_ret
                  exact ⟨rfl, HB.out.trans ((HBBQ.out.trans (HB8.out.mono HBBQ.out.size)).mono HB.out.size)⟩
              · obtain ⟨q, hq⟩ : ∃ q, kk % n = q := ⟨_, rfl⟩
                have hqn : q < n := by rw [← hq]; exact Nat.mod_lt _ hn1
                obtain ⟨x, hx⟩ : ∃ x, L[q]? = some x := ⟨_, List.getElem?_eq_getElem (show q < L.length by rw [HN.out]; exact hqn)⟩
                obtain ⟨xl, e8, ms⟩ := x
                have hpx := HOK.out _ (List.mem_of_getElem? hx)
                have HX := Lib.hid hx
                have hm1 : IntKind.i64.wrap (kk : Int) = (kk : Int) := IntWalk.i64_in _ (by omega)
                have hm2 : (kk : Int).tmod (n : Int) = (q : Int) := by rw [← hq]; rfl
                have hm3 : IntKind.i64.wrap (q : Int) = (q : Int) := IntWalk.i64_in _ (by omega)
                have hm4 : IntKind.i64.wrap (ms + 1) = ms + 1 := IntWalk.i64_in _ (by have h1 := hpx.2.2.1; have h2 := hpx.2.2.2; dsimp only at h1 h2; omega)
                clear hx hpx hq
                by_cases hc : vcp = 1
                · rw [if_pos hc] at had2
                  subst had2 hc
                  have HE2 := Lib.hid hve2
                  clear hve2
                  go_wp2_with (first
                    | (at_builtin; refine wp_other wq rfl _ _ rfl (some ⟨vb, vo, none⟩) n 1 L S HN.out rfl rfl HVQ.out HVN.out (by omega) ?_; intro v' w5 hrow hb5; obtain ⟨g, ocp, hv5⟩ := row_some hrow hn0; subst hv5; obtain ⟨z1, z2, _⟩ := other_time HN.out HX.out hrow; obtain ⟨hov, hbt⟩ := turned_vecIn HN.out HX.out HVQ.out hb5 hrow; have HOV := Lib.hid hov; have HB5 := Lib.hid hbt; clear hrow hov hb5 hbt)
                    | (go_at_call 7; (with_reducible refine (HAW.out _ HB5.out).mono ?_); rintro e w6 ⟨rfl, hb6⟩; have HB6 : Hid (Below wq.heap.size wq w6) := HB5.out.trans (hb6.mono HB5.out.size); have hve1 := vequal_any L (L.set q (xl, e8, ms + 1)) S S n n 1 ocp (some ⟨vb, vo, none⟩) (some ⟨g, 0, none⟩) HN.out (by rw [List.length_set]; exact HN.out) hn12 hn12 (fun _ => set_same HX.out) HOK.out (set_few HOK.out HX.out) w6 (HVQ.out.below HB6.out) (HOV.out.below hb6); rw [decide_eq_false (times_turned L q _ HX.out)] at hve1; clear hb6)
                    | (go_at_call 17; (with_reducible refine hve1.mono ?_); rintro e w7 ⟨rfl, hb7⟩; have HB7 : Hid (Below wq.heap.size wq w7) := HB6.out.trans (hb7.mono HB6.out.size); clear hb7 hve1)
                    | (go_at_call 17; (with_reducible refine (HE2.out w7 HB7.out).mono ?_); rintro e w8 ⟨rfl, hb8⟩; have HB8 : Hid (Below wq.heap.size wq w8) := HB7.out.trans (hb8.mono HB7.out.size); clear hb8))
                  go_ret
                  exact ⟨rfl, HB.out.trans ((HBBQ.out.trans (HB8.out.mono HBBQ.out.size)).mono HB.out.size)⟩
                · rw [if_neg hc] at had2
                  subst had2
                  have HE2 := Lib.hid hve2
                  clear hve2
                  go_wp2_with (first
                    | (at_builtin; refine wp_other wq rfl _ _ rfl (some ⟨vb, vo, none⟩) n vcp L S HN.out rfl rfl HVQ.out HVN.out (by omega) ?_; intro v' w5 hrow hb5; obtain ⟨g, ocp, hv5⟩ := row_some hrow hn0; subst hv5; obtain ⟨z1, z2, _⟩ := other_time HN.out HX.out hrow; obtain ⟨hov, hbt⟩ := turned_vecIn HN.out HX.out HVQ.out hb5 hrow; have HOV := Lib.hid hov; have HB5 := Lib.hid hbt; clear hrow hov hb5 hbt)
                    | (go_at_call 7; (with_reducible refine (HAW.out _ HB5.out).mono ?_); rintro e w6 ⟨rfl, hb6⟩; have HB6 : Hid (Below wq.heap.size wq w6) := HB5.out.trans (hb6.mono HB5.out.size); have hve1 := vequal_any L (L.set q (xl, e8, ms + 1)) S S n n vcp ocp (some ⟨vb, vo, none⟩) (some ⟨g, 0, none⟩) HN.out (by rw [List.length_set]; exact HN.out) hn12 hn12 (fun _ => set_same HX.out) HOK.out (set_few HOK.out HX.out) w6 (HVQ.out.below HB6.out) (HOV.out.below hb6); rw [decide_eq_false (times_turned L q _ HX.out)] at hve1; clear hb6)
                    | (go_at_call 17; (with_reducible refine hve1.mono ?_); rintro e w7 ⟨rfl, hb7⟩; have HB7 : Hid (Below wq.heap.size wq w7) := HB6.out.trans (hb7.mono HB6.out.size); clear hb7 hve1)
                    | (go_at_call 17; (with_reducible refine (HE2.out w7 HB7.out).mono ?_); rintro e w8 ⟨rfl, hb8⟩; have HB8 : Hid (Below wq.heap.size wq w8) := HB7.out.trans (hb8.mono HB7.out.size); clear hb8))
                  go_ret
                  exact ⟨rfl, HB.out.trans ((HBBQ.out.trans (HB8.out.mono HBBQ.out.size)).mono HB.out.size)⟩

end Go.Proofs.YtdeejmkjhmpabaaGreatDoor

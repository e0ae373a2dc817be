/-
  impl.VectorSorted: its closure, walked.
-/
import Derived.Test.YtdeejmkjhmpabaaGreatDoorVb
namespace Go.Proofs.YtdeejmkjhmpabaaGreatDoor
open Go.RowKit Go.Lib Go.Maps Go.WideMaps

set_option maxRecDepth 100000 in
set_option maxHeartbeats 6400000 in
/-- The closure of VectorSorted. -/
theorem vsort_make (L : List Pt) (S0 : Nat → PtM) (n c lb ob : Nat) (a : Option Addr) (hn : L.length = n) (hn12 : n ≤ 12) (hok : ∀ x ∈ L, PtOk x) (hO : Ord2 n (ltV L)) (hdif : ∀ i j, i < n → j < n → i ≠ j → (L[i]!).1 ≠ (L[j]!).1) (w : World) (hV : VecIn w a L S0) (hlb : w.cell? ⟨lb, 0, none⟩ = some (.slice a n c)) (hob : w.cell? ⟨ob, 0, none⟩ = some (.slice none 0 0)) (hfz : w.frozen? ⟨ob, 0, none⟩ = false) :
    Calls Tryz.prog 34 #[.pointer (some ⟨lb, 0, none⟩), .pointer (some ⟨ob, 0, none⟩)] w fun e w' => e = .returned (.tuple #[]) ∧ ∃ p S v w2, Arr n p ∧ Srt (ltV L) n p ∧ Below w.heap.size w w2 ∧ OV w2 ob (arrV L n p) n S v w' := by
  have hvec := vector_any L S0 n a c hn hn12 (fun x hx => (hok x hx).2.1.1) w hV
  have hx : ∀ k, k < n → PtOk (L[k]!) := fun k hk => by
    have h : k < L.length := by omega
    have : L[k]! = L[k] := by simp [h]
    rw [this]
    exact hok _ (List.getElem_mem h)
  have lo := World.block_lt_of_cell? w _ hob
  dsimp only at lo
  have HN := Lib.hid hn
  have HX := Lib.hid hx
  have HO := Lib.hid hO
  have HD := Lib.hid hdif
  have HOB := Lib.hid hob
  have HFZ := Lib.hid hfz
  clear hn hok hx hO hdif hV hob hfz
  go_enter Tryz.func34, Tryz.ntmps34
  go_wp2_with (go_at_call 35; (with_reducible refine hvec.mono ?_); rintro e w1 ⟨v, Q, Bm, rfl, hvo⟩; obtain ⟨ad, cp, g, hve, hg, hwg, hpv, hgrow, hsm⟩ := hvo.pv HN.out; subst hve; have HG := Lib.hid hg; have HPV := Lib.hid hpv; have HGROW := Lib.hid hgrow; have HSM := Lib.hid hsm; have HQW : Hid (∀ k, k < n → w.heap.size ≤ Q k) := hvo.qlow HN.out; have HB1 := Lib.hid hvo.bel; clear hvo hg hpv hgrow hsm)
  go_loopw [3, 4] (fun v3 v4 wr => ∃ i p, 1 ≤ i ∧ i ≤ n + 1 ∧ v3 = .int .i64 (i : Int) ∧ Hid (Arr n p) ∧ Hid (Srt (ltV L) i p) ∧ Hid (n ≤ i ∨ i < n) ∧ Hid (PV w1 g n Q p wr)) (fun v3 _ _ => n + 1 - (intOf v3).toNat)
  case atStart => exact ⟨1, _, Nat.le_refl _, by omega, rfl, Arr.id n, (fun a b h1 h2 => by omega), by show n ≤ 1 ∨ 1 < n; omega, HPV.out⟩
  case round =>
    obtain ⟨i, p, hi1, hi2, rfl, HA, HSR, _, HP⟩ := hrel
    rename World => wr
    by_cases hlt : i < n
    · obtain rfl := HG.out (by omega)
      go_wp2_with fail
      go_loopw [4] (fun v4 wq => ∃ j q, j ≤ i ∧ v4 = .int .i64 (j : Int) ∧ Hid (Arr n q) ∧ Hid (Ins (ltV L) i j q) ∧ Hid (PV w1 g n Q q wq)) (fun v4 _ => (intOf v4).toNat)
      case atStart => exact ⟨i, p, Nat.le_refl _, rfl, HA.out, HSR.out.ins, HP.out⟩
      case round =>
        obtain ⟨j, q, hj, rfl, HA2, HI, HP3⟩ := hrel
        rename World => wq
        cases j with
        | zero =>
          go_wp2
          go_roundw
          case rel => exact ⟨i + 1, q, by omega, by omega, by go_num, HA2, HI.out.zero, by show n ≤ i + 1 ∨ i + 1 < n; omega, HP3⟩
          case measure => simp [intOf]; omega
        | succ j' =>
          obtain ⟨jj, hjj⟩ : ∃ jj, jj = j' + 1 := ⟨_, rfl⟩
          have hj1 : (jj : Int) - 1 = (j' : Int) := by omega
          have hjn : jj < n := by omega
          have hjn' : j' < n := by omega
          have hq1 := HA2.out.into jj hjn
          have hq2 := HA2.out.into j' hjn'
          have hne : q jj ≠ q j' := fun e => by have := HA2.out.inj _ _ hjn hjn' e; omega
          have hs1 := HGROW.out _ hq1 wq g (Or.inl rfl) w1 (HSM.out _ hq1) HP3.out.gr
          have hs2 := HGROW.out _ hq2 wq g (Or.inl rfl) w1 (HSM.out _ hq2) HP3.out.gr
          have hless := vec_less g n cp jj j' _ _ _ _ _ _ hjn hjn' (HX.out _ hq1) (HX.out _ hq2) (HD.out _ _ hq1 hq2 hne) wq (HP3.out.cell jj hjn) (HP3.out.cell j' hjn') hs1 hs2
          rw [← hjj] at hj
          rw [← hjj]
          have HJJ := Lib.hid hjj
          have hjp : 0 < jj := by omega
          obtain ⟨bb, hbb⟩ : ∃ bb, bb = befT (L[q jj]!).1 (L[q j']!).1 := ⟨_, rfl⟩
          rw [← hbb] at hless
          have HBB := Lib.hid hbb
          clear hjj hbb hq1 hq2 hjn hjn' hne hs1 hs2
          cases bb with
          | false =>
            go_wp2_with (go_at_call 36; (with_reducible refine hless.mono ?_); rintro e w5 ⟨rfl, hb5⟩)
            go_roundw
            case rel =>
              have hI := HI.out
              have hb := HBB.out
              rw [HJJ.out] at hb
              exact ⟨i + 1, q, by omega, by omega, by go_num, HA2, hI.stop HO.out HA2.out hlt (by have := HJJ.out; omega) hb.symm, by show n ≤ i + 1 ∨ i + 1 < n; omega, HP3.out.below hb5⟩
            case measure => simp [intOf]; omega
          | true =>
            go_wp2_with (first
              | (go_at_call 36; (with_reducible refine hless.mono ?_); rintro e w5 ⟨rfl, hb5⟩; have HP5 := Lib.hid (HP3.out.below hb5); have hsw := vec_swap g n cp jj j' _ _ _ _ rfl rfl (by omega) (by omega) (by omega) w5 (HP5.out.cell jj (by omega)) (HP5.out.cell j' (by omega)) (HP5.out.frz jj (by omega)) (HP5.out.frz j' (by omega)))
              | (go_at_call 37; (with_reducible refine hsw.mono ?_); rintro e w6 ⟨rfl, rfl⟩))
            go_roundw
            case rel =>
              have hI := HI.out
              have hb := HBB.out
              rw [HJJ.out] at hb
              have hP6 := HP5.out.swap (i := jj) (j := j') (by omega) (by omega) (by omega)
              refine ⟨j', swp q jj j', by omega, by go_num, HA2.out.swp (by omega) (by omega), ?_, hP6⟩
              rw [HJJ.out]
              exact hI.swap (by have := HJJ.out; omega) hb.symm
            case measure => simp [intOf]; omega
    · have hsn : Srt (ltV L) n p := fun a b h1 h2 => HSR.out a b h1 (by omega)
      have HSN := Lib.hid hsn
      have hBw : Below w.heap.size w wr := HB1.out.grown HP.out.gr HB1.out.size (fun k hk => by cases hk; exact hwg)
      have hov : OV wr ob (arrV L n p) 0 S0 (.slice none 0 0) wr := ⟨World.ownsRow_nil _ _ _ _, (hBw.cell (p := ⟨ob, 0, none⟩) lo).trans HOB.out, (hBw.frozen (p := ⟨ob, 0, none⟩) lo).trans HFZ.out, ⟨rfl, rfl, rfl, Nat.le_refl _, fun _ _ _ => rfl⟩, fun j x h => by omega⟩
      have HOV0 := Lib.hid hov
      have HBW := Lib.hid hBw
      have hc22 := c22
      clear hsn hov hBw HSR
      go_wp2_with fail
      go_loopw [34] (fun v34 wq => ∃ k S v, k ≤ n ∧ v34 = .int .i64 (k : Int) ∧ Hid (OV wr ob (arrV L n p) k S v wq)) (fun v34 _ => n - (intOf v34).toNat)
      case atStart => exact ⟨0, S0, _, Nat.zero_le _, rfl, HOV0.out⟩
      case round =>
        obtain ⟨k, S, v, hk, rfl, HOV⟩ := hrel
        rename World => wq
        by_cases hlt2 : k < n
        · obtain rfl := HG.out (by omega)
          have hpk := HA.out.into k hlt2
          have hgwr : g < wr.heap.size := Nat.lt_of_lt_of_le (HP.out.lt (by omega)) HP.out.gr.size
          have c0 : wq.cell? ⟨g, k, none⟩ = some (ptr (Q (p k))) := (grown_cell HOV.out.gr (p := ⟨g, k, none⟩) hgwr (fun e => by have := Option.some.inj e; dsimp only at this; omega)).1.trans (HP.out.cell k hlt2)
          have hs1 := HGROW.out _ hpk wr g (Or.inl rfl) w1 (HSM.out _ hpk) HP.out.gr
          have hs2 := HGROW.out _ hpk wq ob (Or.inr lo) wr hs1 HOV.out.gr
          have hqlt : Q (p k) < wr.heap.size := hs1.lt
          have hqob : Q (p k) ≠ ob := by have := HQW.out _ hpk; omega
          obtain ⟨bv, d0, d1, d2, d3, hM, hbv, _⟩ := hs2
          have hpx := HX.out _ hpk
          have hget := arrV_get L n p k hlt2
          obtain ⟨q, hq⟩ : ∃ q, q = Q (p k) := ⟨_, rfl⟩
          obtain ⟨b, hb⟩ : ∃ b, b = Bm (p k) := ⟨_, rfl⟩
          obtain ⟨x, hxe⟩ : ∃ x, x = L[p k]! := ⟨_, rfl⟩
          rw [← hq] at c0 d0 d1 d2 d3 hqlt hqob
          rw [← hb] at d0 hM
          rw [← hxe] at d2 hM hbv hpx hget
          obtain ⟨xl, e8, ms⟩ := x
          dsimp only at d2 hM hbv hpx
          have hso := sorted_any xl b hpx.2.1.1.1 hpx.2.1.2 wq.drew (hM.below (Below.refl _ _).drew)
          obtain ⟨m, hm⟩ : ∃ m, m = xl.length := ⟨_, rfl⟩
          rw [← hm] at hso
          have howq : wr.heap.size ≤ wq.heap.size := HOV.out.gr.size
          have hkeep : ∀ W, Below wq.heap.size wq W → W.cell? ⟨ob, 0, none⟩ = some v ∧ W.frozen? ⟨ob, 0, none⟩ = false ∧ W.cell? ⟨q, 0, none⟩ = some (.map (some b)) ∧ W.cell? ⟨q, 1, none⟩ = some (.float .f64 bv) ∧ W.cell? ⟨q, 2, none⟩ = some (.int .i64 ms) := fun W hW => by
            have h1 : ob < wq.heap.size := World.block_lt_of_cell? wq _ HOV.out.cell
            have h2 : q < wq.heap.size := by omega
            exact ⟨(hW.cell (p := ⟨ob, 0, none⟩) h1).trans HOV.out.cell, (hW.frozen (p := ⟨ob, 0, none⟩) h1).trans HOV.out.frz, (hW.cell (p := ⟨q, 0, none⟩) h2).trans d0, (hW.cell (p := ⟨q, 1, none⟩) h2).trans d1, (hW.cell (p := ⟨q, 2, none⟩) h2).trans d2⟩
          have hkeep2 : ∀ w3 W (o : Obj), Below wq.heap.size wq w3 → (w3.alloc o).grownBy W v.ownBlock → W.cell? ⟨ob, 0, none⟩ = some v ∧ W.frozen? ⟨ob, 0, none⟩ = false ∧ W.cell? ⟨q, 0, none⟩ = some (.map (some b)) ∧ W.cell? ⟨q, 1, none⟩ = some (.float .f64 bv) ∧ W.cell? ⟨q, 2, none⟩ = some (.int .i64 ms) := fun w3 W o h3 hW => by
            have hg3 : w3.grownBy W v.ownBlock := (World.grownBy_alloc w3 _ _).trans hW
            obtain ⟨k0, k1, k2, k3, k4⟩ := hkeep w3 h3
            have h0 := h3.size
            have hown : ∀ N, v.ownBlock = some N → wr.heap.size ≤ N := fun N hN => (HOV.out.row.lt N hN).1
            have how : w.heap.size ≤ wr.heap.size := HBW.out.size
            have e1 : some ob ≠ v.ownBlock := fun e => by have := hown ob e.symm; omega
            have e2 : some q ≠ v.ownBlock := fun e => by have := hown q e.symm; omega
            have g1 := grown_cell hg3 (p := ⟨ob, 0, none⟩) (by show ob < _; omega) e1
            exact ⟨g1.1.trans k0, g1.2.trans k1, (grown_cell hg3 (p := ⟨q, 0, none⟩) (by show q < _; omega) e2).1.trans k2, (grown_cell hg3 (p := ⟨q, 1, none⟩) (by show q < _; omega) e2).1.trans k3, (grown_cell hg3 (p := ⟨q, 2, none⟩) (by show q < _; omega) e2).1.trans k4⟩
          obtain ⟨d5, _, _, _, _⟩ := hkeep wq (Below.refl _ _)
          have hobq : ob ≠ q := fun e => hqob e.symm
          have hk1000 : k ≤ 1000 := by omega
          have HKEEP := Lib.hid hkeep
          have HKEEP2 := Lib.hid hkeep2
          have HGET := Lib.hid hget
          have HM := Lib.hid hm
          have HBV := Lib.hid hbv
          unfold ptr at c0
          clear hs1 hpk hgwr hM hbv hpx hget hq hb hxe hm hkeep hkeep2 d3 hqlt
          go_wp2_with fail
          refine wp_region_held_drew (S := fun w' => w'.cell? ⟨q, 0, none⟩ = some (.map (some b)) ∧ w'.cell? ⟨q, 1, none⟩ = some (.float .f64 bv) ∧ w'.cell? ⟨q, 2, none⟩ = some (.int .i64 ms)) (by kernel_rfl) ⟨d0, d1, d2⟩ (fun hHeld => ?_)
          refine wpAnyH_take (i := 1) (oi := { dst := some 39, op := Op.move (Operand.tmp 6), type := 88, pos := _, after := #[], guard := none }) (v := ?v1) rfl (by kernel_rfl) (by kernel_rfl) (by kernel_rfl) (fun _ _ _ h => h) (Or.inl ⟨by rfl, ?y1⟩) (by assumption) ?r1
          case y1 => (intro W hSw; (try dsimp only at hSw); go_simp; try (with_reducible rfl))
          try simp only [Act.put, List.setIfInBounds_toArray, List.set_cons_zero, List.set_cons_succ]
          refine wpAnyH_take (i := 2) (oi := { dst := some 40, op := Op.nilCheck (Operand.tmp 39), type := 0, pos := _, after := #[{ on := 1, ground := Ground.data }], guard := none }) (v := ?v2) rfl (by kernel_rfl) (by kernel_rfl) (by kernel_rfl) (fun _ _ _ h => h) (Or.inl ⟨by rfl, ?y2⟩) (by assumption) ?r2
          case y2 => (intro W hSw; (try dsimp only at hSw); go_simp; try (with_reducible rfl))
          try simp only [Act.put, List.setIfInBounds_toArray, List.set_cons_zero, List.set_cons_succ]
          refine wpAnyH_take (i := 3) (oi := { dst := some 41, op := Op.fieldAddr 92 (Operand.tmp 40) 0, type := 0, pos := _, after := #[{ on := 2, ground := Ground.data }], guard := none }) (v := ?v3) rfl (by kernel_rfl) (by kernel_rfl) (by kernel_rfl) (fun _ _ _ h => h) (Or.inl ⟨by rfl, ?y3⟩) (by assumption) ?r3
          case y3 => (intro W hSw; (try dsimp only at hSw); go_simp; try (with_reducible rfl))
          try simp only [Act.put, List.setIfInBounds_toArray, List.set_cons_zero, List.set_cons_succ]
          refine wpAnyH_take (i := 4) (oi := { dst := some 42, op := Op.load 70 (Operand.tmp 41), type := 70, pos := _, after := #[{ on := 3, ground := Ground.data }], guard := none }) (v := ?v4) rfl (by kernel_rfl) (by kernel_rfl) (by kernel_rfl) (fun _ _ _ h => h) (Or.inl ⟨by rfl, ?y4⟩) (by assumption) ?r4
          case y4 => (intro W hSw; (try dsimp only at hSw); go_simp; try (with_reducible rfl))
          try simp only [Act.put, List.setIfInBounds_toArray, List.set_cons_zero, List.set_cons_succ]
          refine wpAnyH_take (i := 6) (oi := { dst := some 44, op := Op.move (Operand.tmp 6), type := 88, pos := _, after := #[], guard := none }) (v := ?v5) rfl (by kernel_rfl) (by kernel_rfl) (by kernel_rfl) (fun _ _ _ h => h) (Or.inl ⟨by rfl, ?y5⟩) (by assumption) ?r5
          case y5 => (intro W hSw; (try dsimp only at hSw); go_simp; try (with_reducible rfl))
          try simp only [Act.put, List.setIfInBounds_toArray, List.set_cons_zero, List.set_cons_succ]
          refine wpAnyH_take (i := 7) (oi := { dst := some 45, op := Op.nilCheck (Operand.tmp 44), type := 0, pos := _, after := #[{ on := 6, ground := Ground.data }], guard := none }) (v := ?v6) rfl (by kernel_rfl) (by kernel_rfl) (by kernel_rfl) (fun _ _ _ h => h) (Or.inl ⟨by rfl, ?y6⟩) (by assumption) ?r6
          case y6 => (intro W hSw; (try dsimp only at hSw); go_simp; try (with_reducible rfl))
          try simp only [Act.put, List.setIfInBounds_toArray, List.set_cons_zero, List.set_cons_succ]
          refine wpAnyH_take (i := 8) (oi := { dst := some 46, op := Op.fieldAddr 92 (Operand.tmp 45) 1, type := 0, pos := _, after := #[{ on := 7, ground := Ground.data }], guard := none }) (v := ?v7) rfl (by kernel_rfl) (by kernel_rfl) (by kernel_rfl) (fun _ _ _ h => h) (Or.inl ⟨by rfl, ?y7⟩) (by assumption) ?r7
          case y7 => (intro W hSw; (try dsimp only at hSw); go_simp; try (with_reducible rfl))
          try simp only [Act.put, List.setIfInBounds_toArray, List.set_cons_zero, List.set_cons_succ]
          refine wpAnyH_take (i := 9) (oi := { dst := some 47, op := Op.load 77 (Operand.tmp 46), type := 77, pos := _, after := #[{ on := 8, ground := Ground.data }], guard := none }) (v := ?v8) rfl (by kernel_rfl) (by kernel_rfl) (by kernel_rfl) (fun _ _ _ h => h) (Or.inl ⟨by rfl, ?y8⟩) (by assumption) ?r8
          case y8 => (intro W hSw; (try dsimp only at hSw); go_simp; try (with_reducible rfl))
          try simp only [Act.put, List.setIfInBounds_toArray, List.set_cons_zero, List.set_cons_succ]
          refine wpAnyH_take (i := 11) (oi := { dst := some 49, op := Op.move (Operand.tmp 6), type := 88, pos := _, after := #[], guard := none }) (v := ?v9) rfl (by kernel_rfl) (by kernel_rfl) (by kernel_rfl) (fun _ _ _ h => h) (Or.inl ⟨by rfl, ?y9⟩) (by assumption) ?r9
          case y9 => (intro W hSw; (try dsimp only at hSw); go_simp; try (with_reducible rfl))
          try simp only [Act.put, List.setIfInBounds_toArray, List.set_cons_zero, List.set_cons_succ]
          refine wpAnyH_take (i := 12) (oi := { dst := some 50, op := Op.nilCheck (Operand.tmp 49), type := 0, pos := _, after := #[{ on := 11, ground := Ground.data }], guard := none }) (v := ?v10) rfl (by kernel_rfl) (by kernel_rfl) (by kernel_rfl) (fun _ _ _ h => h) (Or.inl ⟨by rfl, ?y10⟩) (by assumption) ?r10
          case y10 => (intro W hSw; (try dsimp only at hSw); go_simp; try (with_reducible rfl))
          try simp only [Act.put, List.setIfInBounds_toArray, List.set_cons_zero, List.set_cons_succ]
          refine wpAnyH_take (i := 13) (oi := { dst := some 51, op := Op.fieldAddr 92 (Operand.tmp 50) 2, type := 0, pos := _, after := #[{ on := 12, ground := Ground.data }], guard := none }) (v := ?v11) rfl (by kernel_rfl) (by kernel_rfl) (by kernel_rfl) (fun _ _ _ h => h) (Or.inl ⟨by rfl, ?y11⟩) (by assumption) ?r11
          case y11 => (intro W hSw; (try dsimp only at hSw); go_simp; try (with_reducible rfl))
          try simp only [Act.put, List.setIfInBounds_toArray, List.set_cons_zero, List.set_cons_succ]
          refine wpAnyH_take (i := 14) (oi := { dst := some 52, op := Op.load 79 (Operand.tmp 51), type := 79, pos := _, after := #[{ on := 13, ground := Ground.data }], guard := none }) (v := ?v12) rfl (by kernel_rfl) (by kernel_rfl) (by kernel_rfl) (fun _ _ _ h => h) (Or.inl ⟨by rfl, ?y12⟩) (by assumption) ?r12
          case y12 => (intro W hSw; (try dsimp only at hSw); go_simp; try (with_reducible rfl))
          try simp only [Act.put, List.setIfInBounds_toArray, List.set_cons_zero, List.set_cons_succ]
          refine wpAnyH_ready (rs := [0, 5]) (by kernel_rfl) (by simp) ?_
          refine AllReadyH.cons (o := { dst := some 38, op := Op.load 25 (Operand.tmp 1), type := 25, pos := _, after := #[], guard := none }) rfl (fun K hK => ?_) ?_
          · go_simp
            refine hK.out _ _ (by go_keep) (fun hHeld => ?_)
            clear hK K
            try simp only [Act.put, List.setIfInBounds_toArray, List.set_cons_zero, List.set_cons_succ]
            refine wpAnyH_ready (rs := [5]) (by kernel_rfl) (by simp) ?_
            refine AllReadyH.cons (o := { dst := some 43, op := Op.call { callee := Callee.value (Operand.func 38), args := #[Operand.tmp 42], argTypes := #[70] }, type := 33, pos := _, after := #[{ on := 4, ground := Ground.data }], guard := none }) rfl (fun K hK => ?_) AllReadyH.nil
            go_simp
            go_at_call 38
            with_reducible refine hso.mono ?_
            rintro e w3 ⟨g3, cap, rfl, hg3, hg4, hL3, hb3⟩
            have hB3 : Below wq.heap.size wq w3 := (Below.refl _ wq).drew.trans hb3
            obtain ⟨z0, z1, z2, z3, z4⟩ := HKEEP.out w3 hB3
            have z5 := (HKEEP.out (w3.alloc (.cells #[.slice (some ⟨g3, 0, none⟩) m cap, .int .u64 (bv : Nat), .int .i64 ms] 41)) (hB3.alloc hB3.size _)).1
            have hrow3 := row_below HOV.out.row hB3
            have hsz3 : wr.heap.size ≤ w3.heap.size := Nat.le_trans howq hB3.size
            have H3 := Lib.hid (And.intro hB3 (And.intro hg3 hL3))
            clear hg3 hg4 hL3 hb3 hB3
            go_wp2_with fail
            refine hK.out _ _ ⟨z2, z3, z4⟩ (fun hHeld => ?_)
            clear hK K
            try simp only [Act.put, List.setIfInBounds_toArray, List.set_cons_zero, List.set_cons_succ]
            refine wpAnyH_ready (rs := [10]) (by kernel_rfl) (by simp) ?_
            refine AllReadyH.cons (o := { dst := some 48, op := Op.call { callee := Callee.value (Operand.func 22), args := #[Operand.tmp 47], argTypes := #[30] }, type := 38, pos := _, after := #[{ on := 9, ground := Ground.data }, { on := 5, ground := Ground.chain }], guard := none }) rfl (fun K hK => ?_) AllReadyH.nil
            go_simp
            refine hK.out _ _ (by go_keep) (fun hHeld => ?_)
            clear hK K
            try simp only [Act.put, List.setIfInBounds_toArray, List.set_cons_zero, List.set_cons_succ]
            refine wpAnyH_take (i := 15) (oi := { dst := some 53, op := Op.build 41 #[(0, Operand.tmp 43), (1, Operand.tmp 48), (2, Operand.tmp 52)], type := 41, pos := _, after := #[{ on := 5, ground := Ground.data }, { on := 10, ground := Ground.data }, { on := 14, ground := Ground.data }], guard := none }) (v := ?v13) rfl (by kernel_rfl) (by kernel_rfl) (by kernel_rfl) (fun _ _ _ h => h) (Or.inl ⟨by rfl, ?y13⟩) (by assumption) ?r13
            case y13 => (intro W hSw; (try dsimp only at hSw); go_simp; try (with_reducible rfl))
            try simp only [Act.put, List.setIfInBounds_toArray, List.set_cons_zero, List.set_cons_succ]
            refine wpAnyH_ready (rs := [16]) (by kernel_rfl) (by simp) ?_
            refine AllReadyH.cons (o := { dst := some 54, op := Op.buildSlice 25 1 #[(0, Operand.tmp 53)], type := 25, pos := _, after := #[{ on := 15, ground := Ground.data }], guard := none }) rfl (fun K hK => ?_) AllReadyH.nil
            go_simp
            refine hK.out _ _ (by go_keep) (fun hHeld => ?_)
            clear hK K
            try simp only [Act.put, List.setIfInBounds_toArray, List.set_cons_zero, List.set_cons_succ]
            refine wpAnyH_ready (rs := [17]) (by kernel_rfl) (by simp) ?_
            refine AllReadyH.cons (o := { dst := some 55, op := Op.call { callee := Callee.builtin Builtin.append, args := #[Operand.tmp 38, Operand.tmp 54], argTypes := #[25, 25] }, type := 25, pos := _, after := #[{ on := 0, ground := Ground.data }, { on := 16, ground := Ground.data }, { on := 10, ground := Ground.chain }], guard := none }) rfl (fun K hK => ?_) AllReadyH.nil
            refine step_smpl w3 rfl (.tmp 38) (.tmp 54) rfl wr.heap.size v k (smpRow (arrV L n p) S k) (some ⟨g3, 0, none⟩) m cap ms bv (by simp [Act.eval]) hrow3 (by simp [Act.eval]) hk1000 hsz3 ?_
            intro v' w5 hrow5 hg5
            obtain ⟨g5, cap5, hv5⟩ := row_some hrow5 (Nat.succ_ne_zero k)
            subst hv5
            obtain ⟨y0, y1, y2, y3, y4⟩ := HKEEP2.out w3 _ _ H3.out.1 hg5
            have H5 := Lib.hid (And.intro hrow5 hg5)
            clear hrow5 hg5
            refine hK.out _ _ ⟨y2, y3, y4⟩ (fun hHeld => ?_)
            clear hK K
            try simp only [Act.put, List.setIfInBounds_toArray, List.set_cons_zero, List.set_cons_succ]
            refine wpAnyH_ready (rs := [18]) (by kernel_rfl) (by simp) ?_
            refine AllReadyH.cons (o := { dst := none, op := Op.store 25 (Operand.tmp 1) (Operand.tmp 55), type := 0, pos := _, after := #[{ on := 17, ground := Ground.data }, { on := 17, ground := Ground.chain }, { on := 0, ground := Ground.phase }, { on := 1, ground := Ground.phase }, { on := 2, ground := Ground.phase }, { on := 3, ground := Ground.phase }, { on := 4, ground := Ground.phase }, { on := 5, ground := Ground.phase }, { on := 6, ground := Ground.phase }, { on := 7, ground := Ground.phase }, { on := 8, ground := Ground.phase }, { on := 9, ground := Ground.phase }, { on := 10, ground := Ground.phase }, { on := 11, ground := Ground.phase }, { on := 12, ground := Ground.phase }, { on := 13, ground := Ground.phase }, { on := 14, ground := Ground.phase }, { on := 15, ground := Ground.phase }, { on := 16, ground := Ground.phase }, { on := 17, ground := Ground.phase }], guard := none }) rfl (fun K hK => ?_) AllReadyH.nil
            go_simp
            refine hK.out _ _ (by go_keep) (fun hHeld => ?_)
            clear hK K
            try simp only [Act.put, List.setIfInBounds_toArray, List.set_cons_zero, List.set_cons_succ]
            refine wpAnyH_done (by kernel_rfl) ?_ _
            go_wp2
            go_roundw
            case rel =>
              obtain ⟨hB3, hg3, hL3⟩ := H3.out
              obtain ⟨hrow5, hg5⟩ := H5.out
              exact ⟨k + 1, _, _, by omega, by go_num, HOV.out.step (Nat.lt_of_lt_of_le lo HBW.out.size) HGET.out hB3 hg3 hL3 HBV.out (by rw [← HM.out]; exact hrow5) hg5⟩
            case measure => simp [intOf]; omega
          refine AllReadyH.cons (o := { dst := some 43, op := Op.call { callee := Callee.value (Operand.func 38), args := #[Operand.tmp 42], argTypes := #[70] }, type := 33, pos := _, after := #[{ on := 4, ground := Ground.data }], guard := none }) rfl (fun K hK => ?_) AllReadyH.nil
          go_simp
          go_at_call 38
          with_reducible refine hso.mono ?_
          rintro e w3 ⟨g3, cap, rfl, hg3, hg4, hL3, hb3⟩
          have hB3 : Below wq.heap.size wq w3 := (Below.refl _ wq).drew.trans hb3
          obtain ⟨z0, z1, z2, z3, z4⟩ := HKEEP.out w3 hB3
          have z5 := (HKEEP.out (w3.alloc (.cells #[.slice (some ⟨g3, 0, none⟩) m cap, .int .u64 (bv : Nat), .int .i64 ms] 41)) (hB3.alloc hB3.size _)).1
          have hrow3 := row_below HOV.out.row hB3
          have hsz3 : wr.heap.size ≤ w3.heap.size := Nat.le_trans howq hB3.size
          have H3 := Lib.hid (And.intro hB3 (And.intro hg3 hL3))
          clear hg3 hg4 hL3 hb3 hB3
          go_wp2_with fail
          refine hK.out _ _ ⟨z2, z3, z4⟩ (fun hHeld => ?_)
          clear hK K
          try simp only [Act.put, List.setIfInBounds_toArray, List.set_cons_zero, List.set_cons_succ]
          refine wpAnyH_ready (rs := [0, 10]) (by kernel_rfl) (by simp) ?_
          refine AllReadyH.cons (o := { dst := some 38, op := Op.load 25 (Operand.tmp 1), type := 25, pos := _, after := #[], guard := none }) rfl (fun K hK => ?_) ?_
          · go_simp
            refine hK.out _ _ (by go_keep) (fun hHeld => ?_)
            clear hK K
            try simp only [Act.put, List.setIfInBounds_toArray, List.set_cons_zero, List.set_cons_succ]
            refine wpAnyH_ready (rs := [10]) (by kernel_rfl) (by simp) ?_
            refine AllReadyH.cons (o := { dst := some 48, op := Op.call { callee := Callee.value (Operand.func 22), args := #[Operand.tmp 47], argTypes := #[30] }, type := 38, pos := _, after := #[{ on := 9, ground := Ground.data }, { on := 5, ground := Ground.chain }], guard := none }) rfl (fun K hK => ?_) AllReadyH.nil
            go_simp
            refine hK.out _ _ (by go_keep) (fun hHeld => ?_)
            clear hK K
            try simp only [Act.put, List.setIfInBounds_toArray, List.set_cons_zero, List.set_cons_succ]
            refine wpAnyH_take (i := 15) (oi := { dst := some 53, op := Op.build 41 #[(0, Operand.tmp 43), (1, Operand.tmp 48), (2, Operand.tmp 52)], type := 41, pos := _, after := #[{ on := 5, ground := Ground.data }, { on := 10, ground := Ground.data }, { on := 14, ground := Ground.data }], guard := none }) (v := ?v14) rfl (by kernel_rfl) (by kernel_rfl) (by kernel_rfl) (fun _ _ _ h => h) (Or.inl ⟨by rfl, ?y14⟩) (by assumption) ?r14
            case y14 => (intro W hSw; (try dsimp only at hSw); go_simp; try (with_reducible rfl))
            try simp only [Act.put, List.setIfInBounds_toArray, List.set_cons_zero, List.set_cons_succ]
            refine wpAnyH_ready (rs := [16]) (by kernel_rfl) (by simp) ?_
            refine AllReadyH.cons (o := { dst := some 54, op := Op.buildSlice 25 1 #[(0, Operand.tmp 53)], type := 25, pos := _, after := #[{ on := 15, ground := Ground.data }], guard := none }) rfl (fun K hK => ?_) AllReadyH.nil
            go_simp
            refine hK.out _ _ (by go_keep) (fun hHeld => ?_)
            clear hK K
            try simp only [Act.put, List.setIfInBounds_toArray, List.set_cons_zero, List.set_cons_succ]
            refine wpAnyH_ready (rs := [17]) (by kernel_rfl) (by simp) ?_
            refine AllReadyH.cons (o := { dst := some 55, op := Op.call { callee := Callee.builtin Builtin.append, args := #[Operand.tmp 38, Operand.tmp 54], argTypes := #[25, 25] }, type := 25, pos := _, after := #[{ on := 0, ground := Ground.data }, { on := 16, ground := Ground.data }, { on := 10, ground := Ground.chain }], guard := none }) rfl (fun K hK => ?_) AllReadyH.nil
            refine step_smpl w3 rfl (.tmp 38) (.tmp 54) rfl wr.heap.size v k (smpRow (arrV L n p) S k) (some ⟨g3, 0, none⟩) m cap ms bv (by simp [Act.eval]) hrow3 (by simp [Act.eval]) hk1000 hsz3 ?_
            intro v' w5 hrow5 hg5
            obtain ⟨g5, cap5, hv5⟩ := row_some hrow5 (Nat.succ_ne_zero k)
            subst hv5
            obtain ⟨y0, y1, y2, y3, y4⟩ := HKEEP2.out w3 _ _ H3.out.1 hg5
            have H5 := Lib.hid (And.intro hrow5 hg5)
            clear hrow5 hg5
            refine hK.out _ _ ⟨y2, y3, y4⟩ (fun hHeld => ?_)
            clear hK K
            try simp only [Act.put, List.setIfInBounds_toArray, List.set_cons_zero, List.set_cons_succ]
            refine wpAnyH_ready (rs := [18]) (by kernel_rfl) (by simp) ?_
            refine AllReadyH.cons (o := { dst := none, op := Op.store 25 (Operand.tmp 1) (Operand.tmp 55), type := 0, pos := _, after := #[{ on := 17, ground := Ground.data }, { on := 17, ground := Ground.chain }, { on := 0, ground := Ground.phase }, { on := 1, ground := Ground.phase }, { on := 2, ground := Ground.phase }, { on := 3, ground := Ground.phase }, { on := 4, ground := Ground.phase }, { on := 5, ground := Ground.phase }, { on := 6, ground := Ground.phase }, { on := 7, ground := Ground.phase }, { on := 8, ground := Ground.phase }, { on := 9, ground := Ground.phase }, { on := 10, ground := Ground.phase }, { on := 11, ground := Ground.phase }, { on := 12, ground := Ground.phase }, { on := 13, ground := Ground.phase }, { on := 14, ground := Ground.phase }, { on := 15, ground := Ground.phase }, { on := 16, ground := Ground.phase }, { on := 17, ground := Ground.phase }], guard := none }) rfl (fun K hK => ?_) AllReadyH.nil
            go_simp
            refine hK.out _ _ (by go_keep) (fun hHeld => ?_)
            clear hK K
            try simp only [Act.put, List.setIfInBounds_toArray, List.set_cons_zero, List.set_cons_succ]
            refine wpAnyH_done (by kernel_rfl) ?_ _
            go_wp2
            go_roundw
            case rel =>
              obtain ⟨hB3, hg3, hL3⟩ := H3.out
              obtain ⟨hrow5, hg5⟩ := H5.out
              exact ⟨k + 1, _, _, by omega, by go_num, HOV.out.step (Nat.lt_of_lt_of_le lo HBW.out.size) HGET.out hB3 hg3 hL3 HBV.out (by rw [← HM.out]; exact hrow5) hg5⟩
            case measure => simp [intOf]; omega
          refine AllReadyH.cons (o := { dst := some 48, op := Op.call { callee := Callee.value (Operand.func 22), args := #[Operand.tmp 47], argTypes := #[30] }, type := 38, pos := _, after := #[{ on := 9, ground := Ground.data }, { on := 5, ground := Ground.chain }], guard := none }) rfl (fun K hK => ?_) AllReadyH.nil
          go_simp
          refine hK.out _ _ (by go_keep) (fun hHeld => ?_)
          clear hK K
          try simp only [Act.put, List.setIfInBounds_toArray, List.set_cons_zero, List.set_cons_succ]
          refine wpAnyH_take (i := 15) (oi := { dst := some 53, op := Op.build 41 #[(0, Operand.tmp 43), (1, Operand.tmp 48), (2, Operand.tmp 52)], type := 41, pos := _, after := #[{ on := 5, ground := Ground.data }, { on := 10, ground := Ground.data }, { on := 14, ground := Ground.data }], guard := none }) (v := ?v15) rfl (by kernel_rfl) (by kernel_rfl) (by kernel_rfl) (fun _ _ _ h => h) (Or.inl ⟨by rfl, ?y15⟩) (by assumption) ?r15
          case y15 => (intro W hSw; (try dsimp only at hSw); go_simp; try (with_reducible rfl))
          try simp only [Act.put, List.setIfInBounds_toArray, List.set_cons_zero, List.set_cons_succ]
          refine wpAnyH_ready (rs := [0, 16]) (by kernel_rfl) (by simp) ?_
          refine AllReadyH.cons (o := { dst := some 38, op := Op.load 25 (Operand.tmp 1), type := 25, pos := _, after := #[], guard := none }) rfl (fun K hK => ?_) ?_
          · go_simp
            refine hK.out _ _ (by go_keep) (fun hHeld => ?_)
            clear hK K
            try simp only [Act.put, List.setIfInBounds_toArray, List.set_cons_zero, List.set_cons_succ]
            refine wpAnyH_ready (rs := [16]) (by kernel_rfl) (by simp) ?_
            refine AllReadyH.cons (o := { dst := some 54, op := Op.buildSlice 25 1 #[(0, Operand.tmp 53)], type := 25, pos := _, after := #[{ on := 15, ground := Ground.data }], guard := none }) rfl (fun K hK => ?_) AllReadyH.nil
            go_simp
            refine hK.out _ _ (by go_keep) (fun hHeld => ?_)
            clear hK K
            try simp only [Act.put, List.setIfInBounds_toArray, List.set_cons_zero, List.set_cons_succ]
            refine wpAnyH_ready (rs := [17]) (by kernel_rfl) (by simp) ?_
            refine AllReadyH.cons (o := { dst := some 55, op := Op.call { callee := Callee.builtin Builtin.append, args := #[Operand.tmp 38, Operand.tmp 54], argTypes := #[25, 25] }, type := 25, pos := _, after := #[{ on := 0, ground := Ground.data }, { on := 16, ground := Ground.data }, { on := 10, ground := Ground.chain }], guard := none }) rfl (fun K hK => ?_) AllReadyH.nil
            refine step_smpl w3 rfl (.tmp 38) (.tmp 54) rfl wr.heap.size v k (smpRow (arrV L n p) S k) (some ⟨g3, 0, none⟩) m cap ms bv (by simp [Act.eval]) hrow3 (by simp [Act.eval]) hk1000 hsz3 ?_
            intro v' w5 hrow5 hg5
            obtain ⟨g5, cap5, hv5⟩ := row_some hrow5 (Nat.succ_ne_zero k)
            subst hv5
            obtain ⟨y0, y1, y2, y3, y4⟩ := HKEEP2.out w3 _ _ H3.out.1 hg5
            have H5 := Lib.hid (And.intro hrow5 hg5)
            clear hrow5 hg5
            refine hK.out _ _ ⟨y2, y3, y4⟩ (fun hHeld => ?_)
            clear hK K
            try simp only [Act.put, List.setIfInBounds_toArray, List.set_cons_zero, List.set_cons_succ]
            refine wpAnyH_ready (rs := [18]) (by kernel_rfl) (by simp) ?_
            refine AllReadyH.cons (o := { dst := none, op := Op.store 25 (Operand.tmp 1) (Operand.tmp 55), type := 0, pos := _, after := #[{ on := 17, ground := Ground.data }, { on := 17, ground := Ground.chain }, { on := 0, ground := Ground.phase }, { on := 1, ground := Ground.phase }, { on := 2, ground := Ground.phase }, { on := 3, ground := Ground.phase }, { on := 4, ground := Ground.phase }, { on := 5, ground := Ground.phase }, { on := 6, ground := Ground.phase }, { on := 7, ground := Ground.phase }, { on := 8, ground := Ground.phase }, { on := 9, ground := Ground.phase }, { on := 10, ground := Ground.phase }, { on := 11, ground := Ground.phase }, { on := 12, ground := Ground.phase }, { on := 13, ground := Ground.phase }, { on := 14, ground := Ground.phase }, { on := 15, ground := Ground.phase }, { on := 16, ground := Ground.phase }, { on := 17, ground := Ground.phase }], guard := none }) rfl (fun K hK => ?_) AllReadyH.nil
            go_simp
            refine hK.out _ _ (by go_keep) (fun hHeld => ?_)
            clear hK K
            try simp only [Act.put, List.setIfInBounds_toArray, List.set_cons_zero, List.set_cons_succ]
            refine wpAnyH_done (by kernel_rfl) ?_ _
            go_wp2
            go_roundw
            case rel =>
              obtain ⟨hB3, hg3, hL3⟩ := H3.out
              obtain ⟨hrow5, hg5⟩ := H5.out
              exact ⟨k + 1, _, _, by omega, by go_num, HOV.out.step (Nat.lt_of_lt_of_le lo HBW.out.size) HGET.out hB3 hg3 hL3 HBV.out (by rw [← HM.out]; exact hrow5) hg5⟩
            case measure => simp [intOf]; omega
          refine AllReadyH.cons (o := { dst := some 54, op := Op.buildSlice 25 1 #[(0, Operand.tmp 53)], type := 25, pos := _, after := #[{ on := 15, ground := Ground.data }], guard := none }) rfl (fun K hK => ?_) AllReadyH.nil
          go_simp
          refine hK.out _ _ (by go_keep) (fun hHeld => ?_)
          clear hK K
          try simp only [Act.put, List.setIfInBounds_toArray, List.set_cons_zero, List.set_cons_succ]
          refine wpAnyH_ready (rs := [0]) (by kernel_rfl) (by simp) ?_
          refine AllReadyH.cons (o := { dst := some 38, op := Op.load 25 (Operand.tmp 1), type := 25, pos := _, after := #[], guard := none }) rfl (fun K hK => ?_) AllReadyH.nil
          go_simp
          refine hK.out _ _ (by go_keep) (fun hHeld => ?_)
          clear hK K
          try simp only [Act.put, List.setIfInBounds_toArray, List.set_cons_zero, List.set_cons_succ]
          refine wpAnyH_ready (rs := [17]) (by kernel_rfl) (by simp) ?_
          refine AllReadyH.cons (o := { dst := some 55, op := Op.call { callee := Callee.builtin Builtin.append, args := #[Operand.tmp 38, Operand.tmp 54], argTypes := #[25, 25] }, type := 25, pos := _, after := #[{ on := 0, ground := Ground.data }, { on := 16, ground := Ground.data }, { on := 10, ground := Ground.chain }], guard := none }) rfl (fun K hK => ?_) AllReadyH.nil
          refine step_smpl w3 rfl (.tmp 38) (.tmp 54) rfl wr.heap.size v k (smpRow (arrV L n p) S k) (some ⟨g3, 0, none⟩) m cap ms bv (by simp [Act.eval]) hrow3 (by simp [Act.eval]) hk1000 hsz3 ?_
          intro v' w5 hrow5 hg5
          obtain ⟨g5, cap5, hv5⟩ := row_some hrow5 (Nat.succ_ne_zero k)
          subst hv5
          obtain ⟨y0, y1, y2, y3, y4⟩ := HKEEP2.out w3 _ _ H3.out.1 hg5
          have H5 := Lib.hid (And.intro hrow5 hg5)
          clear hrow5 hg5
          refine hK.out _ _ ⟨y2, y3, y4⟩ (fun hHeld => ?_)
          clear hK K
          try simp only [Act.put, List.setIfInBounds_toArray, List.set_cons_zero, List.set_cons_succ]
          refine wpAnyH_ready (rs := [18]) (by kernel_rfl) (by simp) ?_
          refine AllReadyH.cons (o := { dst := none, op := Op.store 25 (Operand.tmp 1) (Operand.tmp 55), type := 0, pos := _, after := #[{ on := 17, ground := Ground.data }, { on := 17, ground := Ground.chain }, { on := 0, ground := Ground.phase }, { on := 1, ground := Ground.phase }, { on := 2, ground := Ground.phase }, { on := 3, ground := Ground.phase }, { on := 4, ground := Ground.phase }, { on := 5, ground := Ground.phase }, { on := 6, ground := Ground.phase }, { on := 7, ground := Ground.phase }, { on := 8, ground := Ground.phase }, { on := 9, ground := Ground.phase }, { on := 10, ground := Ground.phase }, { on := 11, ground := Ground.phase }, { on := 12, ground := Ground.phase }, { on := 13, ground := Ground.phase }, { on := 14, ground := Ground.phase }, { on := 15, ground := Ground.phase }, { on := 16, ground := Ground.phase }, { on := 17, ground := Ground.phase }], guard := none }) rfl (fun K hK => ?_) AllReadyH.nil
          go_simp
          refine hK.out _ _ (by go_keep) (fun hHeld => ?_)
          clear hK K
          try simp only [Act.put, List.setIfInBounds_toArray, List.set_cons_zero, List.set_cons_succ]
          refine wpAnyH_done (by kernel_rfl) ?_ _
          go_wp2
          go_roundw
          case rel =>
            obtain ⟨hB3, hg3, hL3⟩ := H3.out
            obtain ⟨hrow5, hg5⟩ := H5.out
            exact ⟨k + 1, _, _, by omega, by go_num, HOV.out.step (Nat.lt_of_lt_of_le lo HBW.out.size) HGET.out hB3 hg3 hL3 HBV.out (by rw [← HM.out]; exact hrow5) hg5⟩
          case measure => simp [intOf]; omega
        · obtain rfl : n = k := by omega
          go_wp2
          go_end0
          exact ⟨rfl, p, S, v, wr, HA.out, HSN.out, HBW.out, HOV.out⟩

end Go.Proofs.YtdeejmkjhmpabaaGreatDoor

/-
  laws.FnMatrix returns true.
-/
import Derived.Test.YtdeejmkjhmpabaaGreatDoorX2
namespace Go.Proofs.YtdeejmkjhmpabaaGreatDoor
open Go.RowKit Go.Lib Go.Maps Go.WideMaps

set_option maxRecDepth 100000 in
set_option maxHeartbeats 40000000 in
/-- laws.FnMatrix, at few streams of few pairs. -/
theorem matrix_small (L : List Pt) (ps : List Int) (n m : Nat) (a pa : Option Addr) (c pc : Nat) (hn : L.length = n) (hm : ps.length = m) (hn6 : n ≤ 6) (hm6 : m ≤ 6) (hs : ∀ x ∈ L, x.1.length ≤ 9223372036854775807 ∧ ∀ y ∈ x.1, y.1.length ≤ 9223372036854775807) (w : World) (hL : PtsAt w a L) (hP : IntsAt w pa ps) (hT : Tabs w) :
    Calls Tryz.prog 3 #[.slice a n c, .slice pa m pc] w fun e w' => e = .returned (.bool true) ∧ Below w.heap.size w w' := by
  have hfit := fits13_any L n a c hn w hL
  obtain ⟨S, hS⟩ := pts_fix hL
  have HN := Lib.hid hn
  have HM := Lib.hid hm
  have HS := Lib.hid hs
  have HP := Lib.hid hP
  have HT := Lib.hid hT
  have HF := Lib.hid hS
  clear hn hm hs hL hP hT hS
  go_enter Tryz.func3, Tryz.ntmps3
  go_wp2_with (first
    | (go_at_call 5; (with_reducible refine hfit.mono ?_); rintro e w1 ⟨⟨b1, rfl, _⟩, hb1⟩; have HB1 := Lib.hid hb1; clear hb1; cases b1)
    | (go_at_call 6; (with_reducible refine (points_any L n a c S HN.out (by omega) HS.out _ (HF.out.below HB1.out)).mono ?_); rintro e w2 hpe; rcases hpe with ⟨rfl, hb2⟩ | ⟨v, rfl, hok, hrow, hb2⟩ <;> (have HB2 := Lib.hid hb2; clear hb2))
    | (go_at_call 7; (with_reducible refine (awake _ (HT.out.below (HB1.out.trans (HB2.out.mono HB1.out.size)))).mono ?_); rintro e w3 ⟨rfl, hb3⟩; have HB3 := Lib.hid hb3; clear hb3))
  · go_ret
    exact ⟨rfl, HB1.out⟩
  · go_ret
    exact ⟨rfl, (HB1.out.trans (HB2.out.mono HB1.out.size)).trans (HB3.out.mono (Nat.le_trans HB1.out.size HB2.out.size))⟩
  · obtain ⟨vad, vcp, rfl, _, _, _, _⟩ := ownsRow_form hrow
    have HB : Hid (Below w.heap.size w w2) := HB1.out.trans (HB2.out.mono HB1.out.size)
    have HT2 : Hid (Tabs w2) := HT.out.below HB.out
    have HF2 : Hid (PtsFix w2 a L S) := HF.out.below HB.out
    have HP2 : Hid (IntsAt w2 pa ps) := HP.out.below HB.out
    have HOK := Lib.hid hok
    clear hrow hok HT HF HP HB1 HB2 hfit
    rename World => wb
    go_loopw [9] (fun v9 wr => ∃ k, k ≤ m ∧ v9 = .int .i64 (k : Int) ∧ Hid (∀ j x, j < k → ps[j]? = some x → -562949953421312 < x ∧ x < 562949953421312) ∧ wb = wr) (fun v9 _ => m - (intOf v9).toNat)
    case atStart => exact ⟨0, Nat.zero_le _, rfl, (fun j x h => by omega), by first | rfl | trivial⟩
    case round =>
      obtain ⟨k, hk, rfl, HPF, rfl⟩ := hrel
      by_cases hlt : k < m
      · obtain ⟨x, hx⟩ : ∃ x, ps[k]? = some x := ⟨ps[k]'(by rw [HM.out]; exact hlt), List.getElem?_eq_getElem _⟩
        obtain ⟨b, o, rfl, c1⟩ := HP2.out k x hx
        obtain ⟨bv, hbv⟩ := eighth_some x
        have he := eighths_any x bv hbv wb
        have haw := awake wb HT2.out
        have HX := Lib.hid hx
        clear hx hbv
        by_cases hfit : -562949953421312 < x ∧ x < 562949953421312
        · have hd : (decide (-562949953421312 < x) && decide (x < 562949953421312)) = true := by simp [hfit.1, hfit.2]
          rw [hd] at he
          have HFIT := Lib.hid hfit
          clear hd hfit
          go_wp2_with (go_at_call 8; (with_reducible refine he.mono ?_); rintro e w1 ⟨rfl, rfl⟩)
          go_roundw
          case rel =>
            refine ⟨k + 1, by omega, by go_num, ?_, by first | rfl | trivial⟩
            intro j y hj hy
            by_cases hjk : j = k
            · subst hjk
              rw [HX.out] at hy
              cases hy
              exact HFIT.out
            · exact HPF.out j y (by omega) hy
          case measure => simp [intOf]; omega
        · have hd : (decide (-562949953421312 < x) && decide (x < 562949953421312)) = false := by
            rw [Bool.and_eq_false_iff, decide_eq_false_iff_not, decide_eq_false_iff_not]
            by_cases h1 : -562949953421312 < x
            · exact Or.inr (fun h2 => hfit ⟨h1, h2⟩)
            · exact Or.inl h1
          rw [hd] at he
          clear hd hfit
          go_wp2_with (first
            | (go_at_call 8; (with_reducible refine he.mono ?_); rintro e w1 ⟨rfl, rfl⟩)
            | (go_at_call 7; (with_reducible refine haw.mono ?_); rintro e w3 ⟨rfl, hb3⟩))
          go_ret
          exact ⟨rfl, HB.out.trans (hb3.mono HB.out.size)⟩
      · obtain rfl : m = k := by omega
        have HPF' : Hid (∀ x ∈ ps, -562949953421312 < x ∧ x < 562949953421312) := fun x hx => by
          obtain ⟨j, hj⟩ := List.mem_iff_getElem?.1 hx
          exact HPF.out j x (by have := (List.getElem?_eq_some_iff.1 hj).1; rw [HM.out] at this; exact this) hj
        clear HPF
        go_wp2_with fail
        go_loopw [7, 12] (fun v7 v12 wr => ∃ i Sp, i ≤ n ∧ v12 = .int .i64 (i : Int) ∧ Hid (OUT2 wb L ps S Sp i v7 wr)) (fun _ v12 _ => n - (intOf v12).toNat)
        case atStart => exact ⟨0, fun _ => (none, 0), Nat.zero_le _, rfl, World.ownsRow_nil _ _ _ _, Below.refl _ _, fun k h => by omega, fun _ => rfl⟩
        case round =>
          obtain ⟨i, Sp, hi, rfl, HO⟩ := hrel
          rename World => wr
          by_cases hlt2 : i < n
          · obtain ⟨x, hx⟩ : ∃ x, L[i]? = some x := ⟨L[i]'(by rw [HN.out]; exact hlt2), List.getElem?_eq_getElem _⟩
            obtain ⟨⟨b, o, rfl, c0, _, _⟩, hla, _, _⟩ := HF2.out i x hx
            have d0 := (HO.out.bel.cell (p := ⟨b, o + i * 3, none⟩) (World.block_lt_of_cell? wb _ c0)).trans c0
            obtain ⟨la, hla'⟩ : ∃ la, la = (S i).1 := ⟨_, rfl⟩
            obtain ⟨lc, hlc'⟩ : ∃ lc, lc = (S i).2.1 := ⟨_, rfl⟩
            obtain ⟨ll, hll'⟩ : ∃ ll, ll = x.1.length := ⟨_, rfl⟩
            rw [← hla', ← hlc', ← hll'] at d0
            have HLA := Lib.hid (And.intro hla' (And.intro hlc' hll'))
            have HX := Lib.hid hx
            clear c0 hla hla' hlc' hll' hx
            go_wp2_with fail
            obtain ⟨wi, hwi⟩ : ∃ wi, wi = wr.alloc (.cells #[.slice la ll lc, .slice none 0 0] 37) := ⟨_, rfl⟩
            rw [← hwi]
            have HY : Hid (YS wi wr.heap.size (.slice la ll lc) (.slice none 0 0) 0 [] wi) := by
              refine ⟨⟨rfl, rfl, rfl, Nat.le_refl _, fun _ _ _ => rfl⟩, ?_, ?_, ?_, World.ownsRow_nil _ _ _ _, ?_⟩ <;> rw [hwi] <;> simp
            have hBi : Hid (Below wb.heap.size wb wi ∧ Below wr.heap.size wr wi) := by
              rw [hwi]; exact ⟨HO.out.bel.alloc HO.out.bel.size _, (Below.refl _ _).alloc (Nat.le_refl _) _⟩
            clear hwi d0
            go_loopw [14] (fun v14 wq => ∃ k v xs, k ≤ m ∧ v14 = .int .i64 (k : Int) ∧ Hid (YS wi wr.heap.size (.slice la ll lc) v k xs wq) ∧ Hid (SBits ((prsOf ps i).take k) xs)) (fun v14 _ => m - (intOf v14).toNat)
            case atStart => exact ⟨0, _, [], Nat.zero_le _, rfl, HY.out, SBits.nil⟩
            case round =>
              obtain ⟨k, v, xs, hkm, rfl, HYK, HBT⟩ := hrel
              rename World => wq
              by_cases hlt3 : k < m
              · obtain ⟨x, hx⟩ : ∃ x, ps[k]? = some x := ⟨ps[k]'(by rw [HM.out]; exact hlt3), List.getElem?_eq_getElem _⟩
                obtain ⟨bp, op, rfl, e0⟩ := HP2.out k x hx
                have hBq : Below wb.heap.size wb wq := hBi.out.1.grown HYK.out.gr hBi.out.1.size (fun j hj => by cases hj; exact HO.out.bel.size)
                have g0 := (hBq.cell (p := ⟨bp, op + k, none⟩) (World.block_lt_of_cell? wb _ e0)).trans e0
                obtain ⟨hx1, hx2⟩ := HPF'.out x (List.mem_of_getElem? hx)
                obtain ⟨bv, hbv, hIT⟩ := eighth_bits x hx1 hx2
                have he := eighths_any x bv hbv wq
                have hd : (decide (-562949953421312 < x) && decide (x < 562949953421312)) = true := by simp [hx1, hx2]
                rw [hd] at he
                have hbits := fun W => bits_any bv W
                have HPRS := Lib.hid (prsOf_get ps i k x hx)
                obtain ⟨ms, hms⟩ : ∃ ms : Int, ms = 1000 * (k : Int) + (i : Int) := ⟨_, rfl⟩
                have hy1 := HYK.out.y1
                have hyf := HYK.out.fz
                have hsz : wi.heap.size ≤ wq.drew.heap.size := HYK.out.gr.size
                have hk1000 : k ≤ 1000 := by omega
                have hyq : wr.heap.size < wq.heap.size := Nat.lt_of_lt_of_le HYK.out.lt HYK.out.gr.size
                have HKEEP : Hid (∀ W, (wq.drew.alloc (.cells #[.slice none 0 0, .int .u64 (bv : Nat), .int .i64 ms] 41)).grownBy W v.ownBlock → W.cell? ⟨wr.heap.size, 1, none⟩ = some v ∧ W.frozen? ⟨wr.heap.size, 1, none⟩ = false) := fun W hW => by
                  have hb : Below wq.heap.size wq (wq.drew.alloc (.cells #[.slice none 0 0, .int .u64 (bv : Nat), .int .i64 ms] 41)) := ((Below.refl _ wq).drew).alloc (Nat.le_refl _) _
                  obtain ⟨h1, h2⟩ := grown_cell hW (p := ⟨wr.heap.size, 1, none⟩) (Nat.lt_of_lt_of_le hyq hb.size) HYK.out.yrow
                  exact ⟨h1.trans ((hb.cell (p := ⟨wr.heap.size, 1, none⟩) hyq).trans hy1), h2.trans ((hb.frozen (p := ⟨wr.heap.size, 1, none⟩) hyq).trans hyf)⟩
                have hy1' : (wq.alloc (.cells #[.slice none 0 0, .int .u64 (bv : Nat), .int .i64 ms] 41)).cell? ⟨wr.heap.size, 1, none⟩ = some v := (((Below.refl _ wq).alloc (Nat.le_refl _) _).cell (p := ⟨wr.heap.size, 1, none⟩) hyq).trans hy1
                have HMS := Lib.hid hms
                have HIT' := Lib.hid hIT
                have HYQ := Lib.hid hyq
                have m1 : IntKind.i64.wrap (1000 * (k : Int)) = 1000 * (k : Int) := IntWalk.i64_in _ (by omega)
                have m2 : IntKind.i64.wrap (1000 * (k : Int) + (i : Int)) = ms := by rw [hms]; exact IntWalk.i64_in _ (by omega)
                clear hx e0 hBq hx1 hx2 hbv hIT hd hms hyq
                go_wp2_with (go_at_call 8; (with_reducible refine he.mono ?_); rintro e w1 ⟨rfl, rfl⟩)
                go_region_law (first
                  | (refine step_smp wq.drew rfl (.tmp 91) (.tmp 99) rfl wi.heap.size v k (smCells xs) ms bv (by simp [Act.eval]) HYK.out.row (by simp [Act.eval]) hk1000 hsz ?_; intro v' w5 hrow5 hg5; obtain ⟨g5, cap5, hv5⟩ := row_some hrow5 (Nat.succ_ne_zero k); subst hv5; obtain ⟨f1, f2⟩ := HKEEP.out _ hg5; have H5 := Lib.hid (And.intro hrow5 hg5); clear hrow5 hg5)
                  | (rw [if_pos (by rfl)]; go_simp; go_at_call 9; (with_reducible refine (hbits _).mono ?_); rintro e w1 ⟨rfl, rfl⟩; go_wp2_with fail))
                all_goals
                  clear m1 m2
                  go_wp2
                  go_roundw
                  case rel =>
                    refine ⟨k + 1, _, xs ++ [(bv, ms)], by omega, by go_num, HYK.out.step wq.drew (Below.refl _ _).drew ms bv H5.out, ?_⟩
                    show SBits _ _
                    rw [take_snoc' _ k _ HPRS.out, ← HMS.out]
                    exact HBT.out.snoc (p := (x, ms)) HIT'.out
                  case measure => simp [intOf]; omega
              · obtain rfl : m = k := by omega
                have hpl : (prsOf ps i).length = m := (prsOf_len ps i).trans HM.out
                have hbt := HBT.out
                rw [← hpl, List.take_length] at hbt
                have hyk := HYK.out
                rw [← hpl] at hyk
                obtain ⟨pq, pcq, hv, hPO⟩ := hyk.prs hbt u7.ownBlock (fun N hN => Nat.lt_of_lt_of_le (HO.out.row.lt N hN).2 hBi.out.2.size)
                rw [hpl] at hv
                have hy0 := HYK.out.y0
                have hy1 := HYK.out.y1
                rw [hv] at hy1
                have hgq : wr.grownBy wq none := ⟨HYK.out.gr.os.trans hBi.out.2.os, HYK.out.gr.tape.trans hBi.out.2.tape, HYK.out.gr.output.trans hBi.out.2.output, Nat.le_trans hBi.out.2.size HYK.out.gr.size, fun j hj _ => (HYK.out.gr.block j (Nat.lt_of_lt_of_le hj hBi.out.2.size) (fun e => by cases e; omega)).trans (hBi.out.2.block j hj)⟩
                have hrq := HO.out.row.kept hgq (by cases u7.ownBlock <;> simp)
                have hsz : wb.heap.size ≤ wq.heap.size := Nat.le_trans HO.out.bel.size hgq.size
                have HPO := Lib.hid hPO
                have HGQ := Lib.hid hgq
                have HRQ := Lib.hid hrq
                clear hpl hbt hyk hPO hv hgq hrq
                go_wp2_with (at_builtin; refine wp_stm _ rfl _ _ rfl wb.heap.size u7 i _ la pq ll lc m pcq rfl HRQ.out rfl (by omega) hsz ?_; intro v' w5 hrow5 hg5 hl5; have HFIN := Lib.hid (And.intro hrow5 (And.intro hg5 hl5)); clear hrow5 hg5 hl5)
                go_roundw
                case rel =>
                  obtain ⟨hrow5, hg5, hl5⟩ := HFIN.out
                  obtain ⟨z1, z2, z3⟩ := HLA.out
                  have hg6 : wq.grownBy w5 u7.ownBlock := (World.grownBy_alloc wq _ _).trans hg5
                  have hg7 : wr.grownBy w5 u7.ownBlock := (HGQ.out.but _).trans hg6
                  rw [z1, z2, z3] at hrow5
                  rw [← HM.out] at hrow5
                  refine ⟨i + 1, _, by omega, by go_num, HO.out.step HX.out hg7 hrow5 ?_ (HPO.out.step hg6 hl5)⟩
                  rcases hl5 with hl5 | ⟨N, hl5, hN⟩
                  · exact Or.inl hl5
                  · exact Or.inr ⟨N, hl5, Nat.le_trans HGQ.out.size hN⟩
                case measure => simp [intOf]; omega
          · obtain rfl : n = i := by omega
            have ho := HO.out
            have hn := HN.out
            rw [← hn] at ho
            obtain ⟨sad, scp, hv, hst⟩ := ho.stm (fun k x h => (HF2.out k x h).2.1)
            rw [hn] at hv
            subst hv
            have HST := Lib.hid hst
            clear ho hn hst
            have hone : ∀ u ∈ rowS (stF L ps.length S Sp) (List.range n), u.oneCell' = true := fun u hu => by
              obtain ⟨x, _, hx⟩ := rowS_mem _ hu
              simp [stF] at hx
              rcases hx with rfl | rfl <;> rfl
            have HL : Hid (∀ x, x < n → ∃ p, PtAll L ps S wr x p) := fun x hx => by
              have hx' : x < L.length := by rw [HN.out]; exact hx
              have h1 := List.getElem?_eq_getElem hx'
              obtain ⟨_, h2, h3, _⟩ := HF2.out x _ h1
              exact ⟨L[x], h1, HOK.out.ok x _ hx h1, h2.below HO.out.bel, h3, stmsOf_at L ps x _ h1⟩
            have HORD : Hid (Ord2 n (ltS fun k => (stmsOf L ps)[k]!)) := by
              have := ord2_of L ps (by rw [HN.out]; exact HOK.out)
              rw [HN.out] at this
              exact this
            obtain ⟨lt, hlt⟩ : ∃ lt, lt = ltS fun k => (stmsOf L ps)[k]! := ⟨_, rfl⟩
            rw [← hlt] at HORD
            have HLT := Lib.hid hlt
            have hrow0 := HO.out.row
            clear hlt
            go_upto_region 24 with (fail)
            go_cut [17] from 21 (fun v17 wl => ∃ lad lcp, v17 = .slice lad n lcp ∧ Hid (wl.ownsRow wr.heap.size 37 2 (.slice lad n lcp) n (rowS (stF L ps.length S Sp) (List.range n))) ∧ Hid (Below wr.heap.size wr wl))
            case first =>
              go_wp2_with (at_builtin; refine wp_left _ rfl _ _ rfl wb.heap.size sad n scp _ rfl rfl hrow0 hone (by omega) ?_; intro v17 wl hrowl hbl; obtain ⟨lad, lcp, rfl, _, _, _, _⟩ := ownsRow_form hrowl; have HRL := Lib.hid hrowl; have HBL := Lib.hid hbl; clear hrowl hbl)
              go_meet
              case rel => exact ⟨lad, lcp, rfl, HRL, HBL⟩
            case rest =>
            rename World => wl
            obtain ⟨lad, lcp, rfl, HRL, HBL⟩ := hcut
            go_wp2_with fail
            go_loopw [8, 17] (fun v8 v17 wq => ∃ C q nq ln lad lcp, v17 = .slice lad nq lcp ∧ v8 = .string ⟨(ln : List UInt8).toArray⟩ ∧ nq ≤ n ∧ Hid (nq = q.length) ∧ Hid (ln = linesT (fun k => (stmsOf L ps)[k]!) C) ∧ Hid (Sel n lt C q) ∧ Hid (wq.ownsRow wr.heap.size 37 2 (.slice lad nq lcp) nq (rowS (stF L ps.length S Sp) q)) ∧ Hid (Below wr.heap.size wr wq)) (fun _ v17 _ => lenV v17)
            case atStart => exact ⟨[], List.range n, n, [], lad, lcp, rfl, rfl, Nat.le_refl _, by show n = _; simp, rfl, Sel.start, HRL.out, HBL.out⟩
            case round =>
              obtain ⟨C, q, nq, ln, lad, lcp, rfl, rfl, hqn, HQ, HLN, HSEL, HROW, HBQ⟩ := hrel
              rename World => wq
              by_cases hq0 : nq = 0
              · subst hq0
                have hqn : q = [] := List.eq_nil_of_length_eq_zero HQ.out.symm
                have hsel := HSEL.out
                rw [hqn] at hsel
                obtain ⟨hord, hmem⟩ := hsel.done
                have hBbq : Below wb.heap.size wb wq := HO.out.bel.trans (HBQ.out.mono HO.out.bel.size)
                have haw := awake wq (HT2.out.below hBbq)
                have HBBQ := Lib.hid hBbq
                have hORD := HORD.out
                rw [HLT.out] at hORD
                have hmtx := fun W (hW : Below wq.heap.size wq W) => matrix_text (stmsOf L ps) n scp sad (fun s hs => by
                  obtain ⟨z, hz⟩ := List.mem_iff_getElem?.1 hs
                  obtain ⟨pz, hpz, rfl⟩ := stmsOf_get L ps z s hz
                  have hz' : z < n := by have := (List.getElem?_eq_some_iff.1 hpz).1; rw [HN.out] at this; exact this
                  obtain ⟨p', hp'⟩ := HL.out z hz'
                  have e := hp'.at_
                  rw [hpz] at e
                  cases e
                  exact stm_ok HPF'.out (by rw [HM.out]; exact hm6) hp'.ok (by omega)) ((stmsOf_len L ps).trans HN.out) hn6 hORD W (HST.out.below (HBQ.out.trans (hW.mono HBQ.out.size))) (HT2.out.below (hBbq.trans (hW.mono hBbq.size)))
                have HTEXT : Hid (∀ t, MatT (stmsOf L ps) n t → t = ln) := fun t ht => by
                  obtain ⟨p, hA, hS, rfl⟩ := ht
                  have hs := lists_same hORD (lst_pairwise hS) (by rw [HLT.out] at hord; exact hord) (lst_mem hA) hmem
                  rw [hs, HLN.out]
                  rfl
                have HMT := Lib.hid hmtx
                clear hqn hsel hord hmem hBbq hORD hmtx
                go_wp2_with (first
                  | (go_at_call 7; (with_reducible refine haw.mono ?_); rintro e w5 ⟨rfl, hb5⟩; have HB5 := Lib.hid hb5; clear hb5)
                  | (go_at_call 13; (with_reducible refine (HMT.out _ HB5.out).mono ?_); rintro e w6 ⟨⟨t, ht, rfl⟩, hb6⟩; have HB6 := Lib.hid hb6; clear hb6; obtain rfl := HTEXT.out t ht; unfold str))
                go_ret
                exact ⟨rfl, (HB.out.trans (HBBQ.out.mono HB.out.size)).trans (((HB5.out.trans (HB6.out.mono HB5.out.size))).mono (Nat.le_trans HB.out.size HBBQ.out.size))⟩
              · have hqpos : 0 < nq := by omega
                obtain ⟨g, cap, hv⟩ := row_some HROW.out hq0
                cases hv
                go_wp2_with fail
                have HQ0 := Lib.hid (And.intro hq0 hqpos)
                clear hq0 hqpos
                go_loopw [18, 19] (fun v18 v19 w5 => ∃ k i, k < i ∧ i ≤ nq ∧ v18 = .int .i64 (k : Int) ∧ v19 = .int .i64 (i : Int) ∧ Hid (Least lt q k i) ∧ Hid (Below wq.heap.size wq w5)) (fun _ v19 _ => nq - (intOf v19).toNat)
                case atStart => exact ⟨0, 1, by omega, (by have := HQ0.out.2; omega), rfl, rfl, Least.start, Below.refl _ _⟩
                case round =>
                  obtain ⟨k, i, hki, hin, rfl, rfl, HLE, HB5⟩ := hrel
                  rename World => w5
                  by_cases hi : i < nq
                  · obtain ⟨x, hx⟩ : ∃ x, q[i]? = some x := ⟨q[i]'(by rw [← HQ.out]; exact hi), List.getElem?_eq_getElem _⟩
                    obtain ⟨y, hy⟩ : ∃ y, q[k]? = some y := ⟨q[k]'(by rw [← HQ.out]; omega), List.getElem?_eq_getElem _⟩
                    have hkq : k < nq := by omega
                    obtain ⟨px, hpx⟩ := HL.out x (HSEL.out.below (List.mem_of_getElem? hx))
                    obtain ⟨py, hpy⟩ := HL.out y (HSEL.out.below (List.mem_of_getElem? hy))
                    obtain ⟨r1, _, hgl⟩ := row_at HROW.out HQ.out hx hpx.at_
                    obtain ⟨r2, _, _⟩ := row_at HROW.out HQ.out hy hpy.at_
                    have hBr5 : Below wr.heap.size wr w5 := HBQ.out.trans (HB5.out.mono HBQ.out.size)
                    have c1 := (HB5.out.cell (p := ⟨g, i * 2, none⟩) hgl).trans r1
                    have c2 := (HB5.out.cell (p := ⟨g, k * 2, none⟩) hgl).trans r2
                    have hbf := spec_before px.1 py.1 (S x).1 (S y).1 (S x).2.1 (S y).2.1 hpx.ok.2.1.1 hpy.ok.2.1.1 w5.drew ((hpx.lab.below hBr5).below (Below.refl _ _).drew) ((hpy.lab.below hBr5).below (Below.refl _ _).drew) hpx.nil hpy.nil
                    have hlb := lt_bef hpx hpy
                    rw [← HLT.out] at hlb
                    rw [← hlb] at hbf
                    obtain ⟨a1, ha1⟩ : ∃ a1, a1 = (S x).1 := ⟨_, rfl⟩
                    obtain ⟨e1, he1⟩ : ∃ e1, e1 = (S x).2.1 := ⟨_, rfl⟩
                    obtain ⟨l1, hl1⟩ : ∃ l1, l1 = px.1.length := ⟨_, rfl⟩
                    obtain ⟨a2, ha2⟩ : ∃ a2, a2 = (S y).1 := ⟨_, rfl⟩
                    obtain ⟨e2, he2⟩ : ∃ e2, e2 = (S y).2.1 := ⟨_, rfl⟩
                    obtain ⟨l2, hl2⟩ : ∃ l2, l2 = py.1.length := ⟨_, rfl⟩
                    rw [← ha1, ← he1, ← hl1, ← ha2, ← he2, ← hl2] at hbf
                    rw [← ha1, ← he1, ← hl1] at c1
                    rw [← ha2, ← he2, ← hl2] at c2
                    have HXY := Lib.hid (And.intro hx hy)
                    have hg5 : g < w5.heap.size := Nat.lt_of_lt_of_le hgl HB5.out.size
                    clear hpx hpy r1 r2 hgl hBr5 hlb ha1 he1 hl1 ha2 he2 hl2 hx hy
                    cases hlt : lt x y with
                    | true =>
                      rw [hlt] at hbf
                      have HLXY := Lib.hid hlt
                      clear hlt
                      go_wp2_with fail
                      go_region_held3 (fun w' => w'.cell? ⟨g, i * 2, none⟩ = some (.slice a1 l1 e1) ∧ w'.cell? ⟨g, k * 2, none⟩ = some (.slice a2 l2 e2)) (go_keep) (first
                        | (go_at_call 10; (with_reducible refine hbf.mono ?_); rintro e w6 ⟨rfl, hb6⟩; have f1 := (hb6.cell (p := ⟨g, i * 2, none⟩) hg5).trans c1; have f2 := (hb6.cell (p := ⟨g, k * 2, none⟩) hg5).trans c2; have HB6 := Lib.hid hb6; clear hb6))
                      all_goals
                        go_wp2
                        go_roundw
                        case rel => exact ⟨i, i + 1, by omega, by omega, rfl, by go_num, Least.turn HORD.out HLE.out hki HXY.out.2 HXY.out.1 HLXY.out, HB5.out.trans (((Below.refl _ w5).drew.trans HB6.out).mono HB5.out.size)⟩
                        case measure => simp [intOf]; omega
                    | false =>
                      rw [hlt] at hbf
                      have HLXY := Lib.hid hlt
                      clear hlt
                      go_wp2_with fail
                      go_region_held3 (fun w' => w'.cell? ⟨g, i * 2, none⟩ = some (.slice a1 l1 e1) ∧ w'.cell? ⟨g, k * 2, none⟩ = some (.slice a2 l2 e2)) (go_keep) (first
                        | (go_at_call 10; (with_reducible refine hbf.mono ?_); rintro e w6 ⟨rfl, hb6⟩; have f1 := (hb6.cell (p := ⟨g, i * 2, none⟩) hg5).trans c1; have f2 := (hb6.cell (p := ⟨g, k * 2, none⟩) hg5).trans c2; have HB6 := Lib.hid hb6; clear hb6))
                      all_goals
                        go_wp2
                        go_roundw
                        case rel => exact ⟨k, i + 1, by omega, by omega, rfl, by go_num, Least.keep HORD.out HSEL.out HLE.out hki HXY.out.2 HXY.out.1 HLXY.out, HB5.out.trans (((Below.refl _ w5).drew.trans HB6.out).mono HB5.out.size)⟩
                        case measure => simp [intOf]; omega
                  · obtain rfl : nq = i := by omega
                    have hkq : k < nq := hki
                    obtain ⟨x, hx⟩ : ∃ x, q[k]? = some x := ⟨q[k]'(by rw [← HQ.out]; exact hkq), List.getElem?_eq_getElem _⟩
                    obtain ⟨p, hp⟩ := HL.out x (HSEL.out.below (List.mem_of_getElem? hx))
                    obtain ⟨r1, r2, hgl⟩ := row_at HROW.out HQ.out hx hp.at_
                    have HX := Lib.hid hx
                    have HPT := Lib.hid hp
                    have HR := Lib.hid (And.intro r1 (And.intro r2 hgl))
                    have hlC : ln.length ≤ 400000 := by
                      have h1 := HSEL.out.len
                      rw [HLN.out]
                      unfold linesT
                      dsimp only
                      have h2 := join_len (C.map fun k => streamT ((stmsOf L ps)[k]!).1 ((stmsOf L ps)[k]!).2) [10] 60000 (fun y hy => by
                        obtain ⟨z, hz, rfl⟩ := List.mem_map.1 hy
                        have hz' : z < n := by have := HSEL.out.perm.mem_iff.1 (List.mem_append_left q hz); simpa using this
                        obtain ⟨pz, hpz⟩ := HL.out z hz'
                        simp only [hpz.st]
                        exact streamT_len (s := (pz.1, prsOf ps z)) (stm_ok HPF'.out (by rw [HM.out]; exact hm6) hpz.ok (by omega)))
                      have h3 : (C.map fun k => streamT ((stmsOf L ps)[k]!).1 ((stmsOf L ps)[k]!).2).length * (60000 + [(10 : UInt8)].length) ≤ 6 * 60001 := Nat.mul_le_mul (by rw [List.length_map]; omega) (by simp)
                      omega
                    obtain ⟨s1, hs1⟩ : ∃ s1 : List UInt8, s1 = if C = [] then [] else ln ++ [10] := ⟨_, rfl⟩
                    have hl1 : s1.length ≤ 400001 := by rw [hs1]; split <;> simp <;> omega
                    have HS1 := Lib.hid hs1
                    have HLC := Lib.hid hlC
                    clear hx hp r1 r2 hgl hs1 hlC hkq
                    go_upto_if 131 with (fail)
                    go_cut [8] from 109 to 176 (fun v8 w' => v8 = .string ⟨s1.toArray⟩ ∧ w5 = w')
                    case first =>
                      by_cases hC : C = []
                      · have hs : s1 = [] := by rw [HS1.out, if_pos hC]
                        have hl : ln = [] := by rw [HLN.out, hC]; rfl
                        subst hs hl
                        clear hC
                        go_wp2
                        go_meet
                        case rel => exact ⟨rfl, rfl⟩
                      · have hs : Hid (s1 = ln ++ [10]) := by show s1 = _; rw [HS1.out, if_neg hC]
                        have hl : ln.isEmpty = false := by
                          rw [List.isEmpty_eq_false_iff, HLN.out]
                          exact linesT_ne _ C hC
                        have hl2 : (!ln.isEmpty) = true := by rw [hl]; rfl
                        obtain ⟨s1', S1', c1⟩ := cat_ex ln [10] (by have := HLC.out; simp; omega)
                        have : s1' = s1 := by rw [S1'.out, hs.out]
                        subst this
                        clear hC hl2
                        go_wp2
                        all_goals first
                          | exact absurd ‹(!ln.isEmpty) = false› (by rw [hl]; decide)
                          | (go_meet
                             case rel => exact ⟨rfl, rfl⟩)
                    case rest =>
                      obtain ⟨rfl, rfl⟩ := hcut
                      obtain ⟨r1, r2, hgl⟩ := HR.out
                      have hBr5 : Below wr.heap.size wr w5 := HBQ.out.trans (HB5.out.mono HBQ.out.size)
                      have hBb5 : Below wb.heap.size wb w5 := HO.out.bel.trans (hBr5.mono HO.out.bel.size)
                      have c1 := (HB5.out.cell (p := ⟨g, k * 2, none⟩) hgl).trans r1
                      have hmt := metric_text p.1 (S x).1 (S x).2.1 HPT.out.ok.2.1.1 HPT.out.ok.2.1.2.names w5 (HPT.out.lab.below hBr5) (HT2.out.below hBb5)
                      obtain ⟨a1, ha1⟩ : ∃ a1, a1 = (S x).1 := ⟨_, rfl⟩
                      obtain ⟨e1, he1⟩ : ∃ e1, e1 = (S x).2.1 := ⟨_, rfl⟩
                      obtain ⟨l1, hl1'⟩ : ∃ l1, l1 = p.1.length := ⟨_, rfl⟩
                      rw [← ha1, ← he1, ← hl1'] at hmt
                      rw [← ha1, ← he1, ← hl1'] at c1
                      have hml := metricT_len HPT.out.ok.2.1.1
                      obtain ⟨mt, HMT⟩ : ∃ mt, Hid (mt = metricT p.1) := ⟨_, rfl⟩
                      rw [← HMT.out] at hmt hml
                      obtain ⟨s2, S2, k2⟩ := cat_ex mt [32, 61, 62, 10] (by simp; omega)
                      have hs2 := cat_len S2
                      obtain ⟨s3, S3, k3⟩ := cat_ex s1 s2 (by simp at hs2; omega)
                      have hs3 := cat_len S3
                      have hl3 : s3.length ≤ 500000 := by simp at hs2; omega
                      have HB55 := Lib.hid (And.intro hBr5 hBb5)
                      have HML := Lib.hid hml
                      clear hBr5 hBb5 r1 r2 hgl ha1 he1 hl1' hml hs2 hs3 hl1
                      unfold str at hmt
                      go_wp2_with (go_at_call 11; (with_reducible refine hmt.mono ?_); rintro e w6 ⟨rfl, hb6⟩; have HB6 := Lib.hid hb6; clear hb6)
                      go_loopw [8, 20] (fun v8 v20 w7 => ∃ j s, j ≤ m ∧ v20 = .int .i64 (j : Int) ∧ v8 = .string ⟨(s : List UInt8).toArray⟩ ∧ Hid (s = s3 ++ Lib.join ((textsT (prsOf ps x)).take j) [10]) ∧ Hid (Below w6.heap.size w6 w7)) (fun _ v20 _ => m - (intOf v20).toNat)
                      case atStart => exact ⟨0, s3, Nat.zero_le _, rfl, rfl, by show s3 = _; simp [Lib.join_nil], Below.refl _ _⟩
                      case round =>
                        obtain ⟨j, s, hjm, rfl, rfl, HSJ, HB7⟩ := hrel
                        rename World => w7
                        have hBq7 : Below wq.heap.size wq w7 := (HB5.out.trans (HB6.out.mono HB5.out.size)).trans (HB7.out.mono (Nat.le_trans HB5.out.size HB6.out.size))
                        have hBr7 : Below wr.heap.size wr w7 := HBQ.out.trans (hBq7.mono HBQ.out.size)
                        have hBb7 : Below wb.heap.size wb w7 := HO.out.bel.trans (hBr7.mono HO.out.bel.size)
                        by_cases hj : j < m
                        · obtain ⟨y, hy⟩ : ∃ y, ps[j]? = some y := ⟨ps[j]'(by rw [HM.out]; exact hj), List.getElem?_eq_getElem _⟩
                          have hxn : x < n := HSEL.out.below (List.mem_of_getElem? HX.out)
                          obtain ⟨bp, op, rfl, g0⟩ := HP2.out j y hy
                          have d0 := (hBb7.cell (p := ⟨bp, op + j, none⟩) (World.block_lt_of_cell? wb _ g0)).trans g0
                          obtain ⟨r1, r2, hgl⟩ := HR.out
                          have d1 := (hBq7.cell (p := ⟨g, k * 2 + 1, none⟩) hgl).trans r2
                          have hpr := prsOf_get ps x j y hy
                          obtain ⟨b3, o3, bv3, hsp, _, _, e2, _⟩ := (HO.out.str x hxn).1 j _ hpr
                          have d2 := (hBr7.cell (p := ⟨b3, o3 + j * 3 + 2, none⟩) (World.block_lt_of_cell? wr _ e2)).trans e2
                          rw [hsp, HM.out] at d1
                          obtain ⟨pc3, hpc3⟩ : ∃ pc3, pc3 = (Sp x).2 := ⟨_, rfl⟩
                          rw [← hpc3] at d1
                          obtain ⟨ms, hms⟩ : ∃ ms : Int, ms = 1000 * (j : Int) + (x : Int) := ⟨_, rfl⟩
                          dsimp only at d2
                          rw [← hms] at d2
                          obtain ⟨hy1, hy2⟩ := HPF'.out y (List.mem_of_getElem? hy)
                          have hpt := pair_text y ms hy1 hy2 (by omega) (by omega) w7.drew ((HT2.out.below hBb7).below (Below.refl _ _).drew)
                          have hpl := pairT_len (y, ms) ⟨⟨hy1, hy2⟩, by show -1000000000000000 < ms; omega, by show ms < 1000000000000000; omega⟩
                          dsimp only at hpl
                          have hst : (textsT (prsOf ps x))[j]? = some (pairT y ms) := by
                            unfold textsT
                            rw [List.getElem?_map, hpr, hms]
                            rfl
                          obtain ⟨pt, HPTX⟩ : ∃ pt, Hid (pt = pairT y ms) := ⟨_, rfl⟩
                          rw [← HPTX.out] at hpt hpl
                          have hsl : s.length ≤ 500500 := by
                            rw [HSJ.out, List.length_append]
                            have h1 := join_len ((textsT (prsOf ps x)).take j) [10] 70 (fun z hz => by
                              obtain ⟨r, hr, rfl⟩ := List.mem_map.1 (List.mem_of_mem_take hz)
                              obtain ⟨q1, kk, hkk, q2⟩ := prsOf_mem ps x r hr
                              obtain ⟨q3, q4⟩ := HPF'.out _ q1
                              have hmm := HM.out
                              exact pairT_len r ⟨⟨q3, q4⟩, by rw [q2]; omega, by rw [q2]; omega⟩)
                            have h2 : ((textsT (prsOf ps x)).take j).length * (70 + [(10 : UInt8)].length) ≤ 6 * 71 := Nat.mul_le_mul (by rw [List.length_take]; omega) (by simp)
                            omega
                          obtain ⟨s4, hs4⟩ : ∃ s4 : List UInt8, s4 = if j = 0 then s else s ++ [10] := ⟨_, rfl⟩
                          have hl4 : s4.length ≤ 500501 := by rw [hs4]; split; omega; (simp; omega)
                          obtain ⟨s5, S5, k5⟩ := cat_ex s4 pt (by omega)
                          have HS4 := Lib.hid hs4
                          have HSL := Lib.hid hsl
                          have HST2 := Lib.hid hst
                          have HBB := Lib.hid (And.intro hBq7 (And.intro hBr7 hBb7))
                          have hgw : g < w7.heap.size := Nat.lt_of_lt_of_le hgl hBq7.size
                          have lp1 := World.block_lt_of_cell? w7 _ d0
                          have lp3 := World.block_lt_of_cell? w7 _ d2
                          have hkq : k < nq := hki
                          clear hy g0 r1 r2 hgl hpr hsp e2 hpc3 hms hy1 hy2 hpl hst hsl hs4 hl4 hBq7 hBr7 hBb7 c1
                          go_upto_if 150 with (fail)
                          go_cut [8] from 143 to 168 (fun v8 w' => v8 = .string ⟨s4.toArray⟩ ∧ w7 = w')
                          case first =>
                            by_cases hj0 : j = 0
                            · have hs : s4 = s := by rw [HS4.out, if_pos hj0]
                              subst hs hj0
                              go_wp2
                              all_goals first
                                | (exfalso; omega)
                                | (go_meet
                                   case rel => exact ⟨rfl, rfl⟩)
                            · have hs : Hid (s4 = s ++ [10]) := by show s4 = _; rw [HS4.out, if_neg hj0]
                              obtain ⟨s4', S4', c4⟩ := cat_ex s [10] (by have := HSL.out; simp; omega)
                              have : s4' = s4 := by rw [S4'.out, hs.out]
                              subst this
                              have hj1 : 0 < j := by omega
                              go_wp2
                              all_goals first
                                | (exfalso; omega)
                                | (go_meet
                                   case rel => exact ⟨rfl, rfl⟩)
                          case rest =>
                            obtain ⟨rfl, rfl⟩ := hcut
                            go_wp2_with fail
                            go_region_held3 (fun w' => w'.cell? ⟨bp, op + j, none⟩ = some (.int .i64 y) ∧ w'.cell? ⟨g, k * 2 + 1, none⟩ = some (.slice (some ⟨b3, o3, none⟩) m pc3) ∧ w'.cell? ⟨b3, o3 + j * 3 + 2, none⟩ = some (.int .i64 ms)) (go_keep) (first
                              | (go_at_call 12; (with_reducible refine hpt.mono ?_); rintro e w8 ⟨rfl, hb8⟩; have f0 := (hb8.cell (p := ⟨bp, op + j, none⟩) lp1).trans d0; have f1 := (hb8.cell (p := ⟨g, k * 2 + 1, none⟩) hgw).trans d1; have f2 := (hb8.cell (p := ⟨b3, o3 + j * 3 + 2, none⟩) lp3).trans d2; have HB8 := Lib.hid hb8; clear hb8))
                            all_goals
                              go_wp2
                              go_roundw
                              case rel =>
                                refine ⟨j + 1, s5, by omega, by go_num, rfl, ?_, HB7.out.trans (((Below.refl _ w7).drew.trans HB8.out).mono HB7.out.size)⟩
                                show s5 = _
                                rw [S5.out, HS4.out, HPTX.out, join_take _ j _ HST2.out, HSJ.out]
                                by_cases hj0 : j = 0
                                · subst hj0; simp [Lib.join_nil]
                                · simp [hj0]
                              case measure => simp [intOf]; omega
                        · obtain rfl : m = j := by omega
                          have hnl := HROW.out.2
                          have hcap : nq ≤ lcp := by
                            rcases hnl with ⟨h, _⟩ | ⟨_, _, _, h, _, _, h2, _⟩
                            · cases h
                            · cases h; exact h2
                          have hrow7 := row_below HROW.out hBq7
                          have hk1 : k < nq := hki
                          have hkc : k ≤ lcp := by omega
                          have hk2 : k + 1 ≤ nq := by omega
                          have hk3 : k + 1 ≤ lcp := by omega
                          obtain ⟨t1, t2, t3, t4, t5⟩ := rem_facts hrow7 HQ.out hk1
                          have hsz : wr.heap.size ≤ w7.drew.heap.size := hBr7.size
                          have hgb : wr.heap.size ≤ g := (HROW.out.lt g rfl).1
                          have hsum : k + (nq - (k + 1)) = nq - 1 := by omega
                          have HTXT : Hid (s = linesT (fun k => (stmsOf L ps)[k]!) (C ++ [x])) := by
                            show s = _
                            have hj := HSJ.out
                            rw [List.take_of_length_le (by rw [textsT, List.length_map, prsOf_len, HM.out]; exact Nat.le_refl _)] at hj
                            rw [hj, streamT_split p.1 (prsOf ps x) s1 s2 s3 mt HMT.out S2.out S3.out, linesT_snoc, HS1.out, HLN.out]
                            simp only [HPT.out.st]
                          have T1 := Lib.hid t1
                          have T2 := Lib.hid t2
                          have T3 := Lib.hid t3
                          have T4 := Lib.hid t4
                          have T5 := Lib.hid t5
                          have HBR7 := Lib.hid hBr7
                          have HSUM := Lib.hid hsum
                          clear hnl t1 t2 t3 t4 t5 hrow7 hBq7 hBr7 hBb7 c1 hsum
                          have z1 : IntKind.i64.wrap ((k : Int) + 1) = (k : Int) + 1 := IntWalk.i64_in _ (by omega)
                          have z2 : (0 : Int) ≤ (k : Int) + 1 := by omega
                          have z3 : ((k : Int) + 1).toNat = k + 1 := by omega
                          have z4 : (k : Int) + 1 ≤ (nq : Int) := by omega
                          by_cases hc : lcp = k + 1
                          · have hnil : Hid ((rowS (stF L ps.length S Sp) q).drop ((k + 1) * 2) = []) := List.eq_nil_of_length_eq_zero (by rw [T2.out]; omega)
                            have T3' : Hid (∀ j u, ((rowS (stF L ps.length S Sp) q).drop ((k + 1) * 2))[j]? = some u → w7.cell? ((⟨g, 0, none⟩ : Addr).add j) = some u) := fun j u hu => by rw [hnil.out] at hu; simp at hu
                            have hcT : (lcp = k + 1) = True := eq_true hc
                            clear hc hcap hk3
                            go_wp2_with fail
                            go_region_held3 (fun _ => True) (trivial) ((refine step_rem w7.drew rfl (.tmp 171) (.tmp 175) rfl wr.heap.size g k lcp (nq - (k + 1)) (lcp - (k + 1)) ⟨g, 0, none⟩ _ _ (by simp [Act.eval]) T1.out (by simp [Act.eval]) T2.out T3'.out T4.out (by omega) hsz ?_; intro v' w8 hrow8 hg8; have HFIN := Lib.hid (And.intro hrow8 hg8); obtain ⟨lad', lcp', rfl, _, _, _, _⟩ := ownsRow_form hrow8; clear hrow8 hg8))
                            all_goals
                              clear z1 z2 z3 z4
                              go_wp2
                              go_roundw
                              case rel =>
                                obtain ⟨hrow8, hg8⟩ := HFIN.out
                                rw [T5.out] at hrow8
                                refine ⟨C ++ [x], q.eraseIdx k, _, s, lad', lcp', rfl, rfl, by omega, ?_, HTXT.out, HSEL.out.step HX.out (by rw [← HQ.out]; exact HLE.out), hrow8, HBR7.out.drew.grown hg8 HBR7.out.size (fun j hj => by cases hj; exact hgb)⟩
                                show k + (nq - (k + 1)) = _
                                rw [List.length_eraseIdx_of_lt (by rw [← HQ.out]; exact hk1), ← HQ.out]
                                omega
                              case measure => simp [lenV]; omega
                          · clear hcap
                            go_wp2_with fail
                            go_region_held3 (fun _ => True) (trivial) ((refine step_rem w7.drew rfl (.tmp 171) (.tmp 175) rfl wr.heap.size g k lcp (nq - (k + 1)) (lcp - (k + 1)) ⟨g, (k + 1) * 2, none⟩ _ _ (by simp [Act.eval]) T1.out (by simp [Act.eval]) T2.out T3.out T4.out (by omega) hsz ?_; intro v' w8 hrow8 hg8; have HFIN := Lib.hid (And.intro hrow8 hg8); obtain ⟨lad', lcp', rfl, _, _, _, _⟩ := ownsRow_form hrow8; clear hrow8 hg8))
                            all_goals
                              clear z1 z2 z3 z4
                              go_wp2
                              go_roundw
                              case rel =>
                                obtain ⟨hrow8, hg8⟩ := HFIN.out
                                rw [T5.out] at hrow8
                                refine ⟨C ++ [x], q.eraseIdx k, _, s, lad', lcp', rfl, rfl, by omega, ?_, HTXT.out, HSEL.out.step HX.out (by rw [← HQ.out]; exact HLE.out), hrow8, HBR7.out.drew.grown hg8 HBR7.out.size (fun j hj => by cases hj; exact hgb)⟩
                                show k + (nq - (k + 1)) = _
                                rw [List.length_eraseIdx_of_lt (by rw [← HQ.out]; exact hk1), ← HQ.out]
                                omega
                              case measure => simp [lenV]; omega

set_option maxRecDepth 100000 in
set_option maxHeartbeats 3200000 in
/-- laws.FnMatrix, at more. -/
theorem matrix_more (L : List Pt) (_ps : List Int) (n m : Nat) (a pa : Option Addr) (c pc : Nat) (hn : L.length = n) (hb : n ≤ 9223372036854775807) (hbm : m ≤ 9223372036854775807) (hmore : 6 < n ∨ 6 < m) (hs : ∀ x ∈ L, x.1.length ≤ 9223372036854775807 ∧ ∀ y ∈ x.1, y.1.length ≤ 9223372036854775807) (w : World) (hL : PtsAt w a L) (hT : Tabs w) :
    Calls Tryz.prog 3 #[.slice a n c, .slice pa m pc] w fun e w' => e = .returned (.bool true) ∧ Below w.heap.size w w' := by
  have hfit := fits13_any L n a c hn w hL
  obtain ⟨S, hS⟩ := pts_fix hL
  have HN := Lib.hid hn
  have HS := Lib.hid hs
  have HT := Lib.hid hT
  have HF := Lib.hid hS
  have HMORE := Lib.hid hmore
  clear hn hs hL hT hS hmore
  by_cases hbig : (m : Int) > 2147483647
  · go_enter Tryz.func3, Tryz.ntmps3
    go_wp2_with (go_at_call 5; (with_reducible refine hfit.mono ?_); rintro e w1 ⟨⟨b1, rfl, _⟩, hb1⟩; have HB1 := Lib.hid hb1; clear hb1; cases b1)
    all_goals
      go_ret
      exact ⟨rfl, HB1.out⟩
  · by_cases hn6 : 6 < n
    all_goals
      go_enter Tryz.func3, Tryz.ntmps3
      go_wp2_with (first
        | (go_at_call 5; (with_reducible refine hfit.mono ?_); rintro e w1 ⟨⟨b1, rfl, _⟩, hb1⟩; have HB1 := Lib.hid hb1; clear hb1; cases b1)
        | (go_at_call 6; (with_reducible refine (points_any L n a c S HN.out hb HS.out _ (HF.out.below HB1.out)).mono ?_); rintro e w2 hpe; rcases hpe with ⟨rfl, hb2⟩ | ⟨v, rfl, hok, hrow, hb2⟩ <;> (have HB2 := Lib.hid hb2; clear hb2))
        | (go_at_call 7; (with_reducible refine (awake _ (HT.out.below (HB1.out.trans (HB2.out.mono HB1.out.size)))).mono ?_); rintro e w3 ⟨rfl, hb3⟩; have HB3 := Lib.hid hb3; clear hb3))
      all_goals first
        | (go_ret
           exact ⟨rfl, HB1.out⟩)
        | (go_ret
           exact ⟨rfl, (HB1.out.trans (HB2.out.mono HB1.out.size)).trans (HB3.out.mono (Nat.le_trans HB1.out.size HB2.out.size))⟩)
        | (exfalso; have := HMORE.out; omega)

end Go.Proofs.YtdeejmkjhmpabaaGreatDoor

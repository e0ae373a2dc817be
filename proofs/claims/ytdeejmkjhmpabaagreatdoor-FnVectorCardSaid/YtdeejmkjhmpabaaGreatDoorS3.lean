/-
  Matrix.String.
-/
import Derived.Test.YtdeejmkjhmpabaaGreatDoorS2
import Derived.Test.YtdeejmkjhmpabaaGreatDoorIs
import Derived.Test.YtdeejmkjhmpabaaGreatDoorM5
import Derived.Laws.CopyOwn
namespace Go.Proofs.YtdeejmkjhmpabaaGreatDoor
open Go.RowKit Go.Lib Go.Maps Go.WideMaps

/-- Which of the streams comes ahead. -/
def ltS (s : Nat → Stm) (a b : Nat) : Bool := befT (s a).1 (s b).1

/-- Block g holds pointers to the blocks Q (p k). -/
structure PRow (B : Nat) (w0 : World) (g n : Nat) (Q : Nat → Nat) (p : Nat → Nat) (w : World) : Prop where
  cell : ∀ k, k < n → w.cell? ⟨g, k, none⟩ = some (ptr (Q (p k)))
  frz : ∀ k, k < n → w.frozen? ⟨g, k, none⟩ = false
  bel : Below B w0 w
  lt : B ≤ g ∧ g < w.heap.size

theorem PRow.below {B : Nat} {w0 w w' : World} {g n : Nat} {Q p : Nat → Nat} (h : PRow B w0 g n Q p w) (hs : B ≤ w.heap.size) (hb : Below w.heap.size w w') : PRow B w0 g n Q p w' :=
  ⟨fun k hk => (hb.cell (p := ⟨g, k, none⟩) h.lt.2).trans (h.cell k hk), fun k hk => (hb.frozen (p := ⟨g, k, none⟩) h.lt.2).trans (h.frz k hk), h.bel.trans (hb.mono hs), ⟨h.lt.1, Nat.lt_of_lt_of_le h.lt.2 hb.size⟩⟩

theorem PRow.swap {B : Nat} {w0 w : World} {g n : Nat} {Q p : Nat → Nat} (h : PRow B w0 g n Q p w) {i j : Nat} (hi : i < n) (hj : j < n) (hij : i ≠ j) :
    PRow B w0 g n Q (swp p i j) ((w.setCell ⟨g, i, none⟩ (ptr (Q (p j)))).setCell ⟨g, j, none⟩ (ptr (Q (p i)))).drew := by
  have c1 := h.cell i hi
  have c2 := h.cell j hj
  have e1 : (w.setCell ⟨g, i, none⟩ (ptr (Q (p j)))).cell? ⟨g, j, none⟩ = some (ptr (Q (p j))) := by
    rw [World.cell?_setCell_other]
    · exact c2
    · intro e; injection e with _ e; exact hij e
  refine ⟨fun k hk => ?_, fun k hk => ?_, ((h.bel.setCell h.lt.1 _).setCell h.lt.1 _).drew, ⟨h.lt.1, by simpa using h.lt.2⟩⟩
  · have c3 := h.cell k hk
    show ((w.setCell _ _).setCell _ _).cell? _ = _
    unfold swp
    by_cases h1 : k = j
    · subst h1
      rw [World.cell?_setCell_same (h := e1), if_neg (fun e => hij e.symm), if_pos rfl]
    · rw [World.cell?_setCell_other (h := fun e => by injection e with _ e; exact h1 e.symm)]
      by_cases h2 : k = i
      · subst h2
        rw [World.cell?_setCell_same (h := c1), if_pos rfl]
      · rw [World.cell?_setCell_other (h := fun e => by injection e with _ e; exact h2 e.symm), if_neg h2, if_neg h1]
        exact c3
  · show ((w.setCell _ _).setCell _ _).frozen? _ = _
    rw [World.frozen?_setCell, World.frozen?_setCell]
    exact h.frz k hk

theorem info68 : (Tryz.prog.info? 68).map (fun i => (i.zero, i.size, i.bytes)) = some (some (.pointer none), 1, 8) := by kernel_rfl
theorem size68 : (Tryz.prog.info? 68).map (·.size) = some 1 := by kernel_rfl

theorem own_heap {w : World} {base g n : Nat} {e : TypeId} {xs : List Value} (h : w.ownsRow base e 1 (.slice (some ⟨g, 0, none⟩) n n) n xs) : w.heap[g]? = some (.cells xs.toArray e (0, 0)) := by
  rcases h.2 with ⟨h', _⟩ | ⟨g', cap', cur, h', hb, hg, hnc, hcm, hcs, htake⟩
  · simp at h'
  · simp only [Value.slice.injEq, Option.some.injEq, Addr.mk.injEq, and_true, true_and] at h'
    obtain ⟨rfl, rfl⟩ := h'
    have : cur.toList = xs := by rw [← htake, List.take_of_length_le]; simp; omega
    rw [hg, ← this]

theorem prow_heap {B : Nat} {w0 w : World} {g n : Nat} {Q : Nat → Nat} {L : List Value} (hL : L.length = n) (h : w.heap[g]? = some (.cells (splice L 0 ((List.range n).map fun k => ptr (Q k))).toArray 68 (0, 0))) (hb : Below B w0 w) (hg : B ≤ g) : PRow B w0 g n Q (fun k => k) w := by
  have e : splice L 0 ((List.range n).map fun k => ptr (Q k)) = (List.range n).map fun k => ptr (Q k) := by
    unfold splice
    rw [List.drop_of_length_le (by simp; omega)]
    simp
  rw [e] at h
  refine ⟨fun k hk => ?_, fun k hk => ?_, hb, hg, (Array.getElem?_eq_some_iff.1 h).1⟩
  · simp only [World.cell?, h]
    simp [hk]
  · simp [World.frozen?, h]

theorem streamT_len {s : Stm} (h : StmOk s) : (streamT s.1 s.2).length ≤ 60000 := by
  have h1 := metricT_len h.1
  have h2 := join_len (textsT s.2) [10] 70 (fun x hx => by
    unfold textsT at hx
    obtain ⟨p, hp, rfl⟩ := List.mem_map.1 hx
    exact pairT_len p (h.2.2.1 p hp))
  have h3 : (textsT s.2).length * (70 + [(10 : UInt8)].length) ≤ 6 * 71 := Nat.mul_le_mul (by simp [textsT]; exact h.2.2.2) (by simp)
  unfold streamT
  simp
  omega

set_option maxRecDepth 100000 in
set_option maxHeartbeats 6400000 in
theorem matrix_string (n c : Nat) (mv : Option Addr) (Q : Nat → Nat) (s : Nat → Stm) (hn : n ≤ 6) (hok : ∀ k, k < n → StmOk (s k)) (hO : Ord2 n (ltS s)) (w : World) (hrow : ∀ k, k < n → ∃ b o, mv = some ⟨b, o, none⟩ ∧ w.cell? ⟨b, o + k, none⟩ = some (ptr (Q k)))
    (hS : ∀ k, k < n → StmAt w (Q k) (s k)) (hT : Tabs w) :
    Calls Tryz.prog 33 #[.slice mv n c] w fun e w' => (∃ p, Arr n p ∧ Srt (ltS s) n p ∧ e = .returned (str (Lib.join ((lst n p).map fun k => streamT (s k).1 (s k).2) [10]))) ∧ Below w.heap.size w w' := by
  obtain ⟨i0, hi, hz0, hz1, hz2⟩ := info_parts info68
  have HOK := Lib.hid hok
  have HO := Lib.hid hO
  have HROW := Lib.hid hrow
  have HS := Lib.hid hS
  have HT := Lib.hid hT
  obtain ⟨cs, hcs⟩ : ∃ cs, cs = (List.range n).map fun k => ptr (Q k) := ⟨_, rfl⟩
  have hcl : cs.length = n := by rw [hcs]; simp
  have hpos : 0 < cs.length → ∃ ad, mv = some ad ∧ ∀ (W : World) j v, Below w.heap.size w W → cs[j]? = some v → W.cell? (ad.add j) = some v := fun h => by
    obtain ⟨b, o, hm, _⟩ := hrow 0 (by omega)
    refine ⟨_, hm, fun W j v hW hj => ?_⟩
    rw [hcs, List.getElem?_map] at hj
    obtain ⟨k, hk, rfl⟩ := Option.map_eq_some_iff.1 hj
    have hjn : j < n := by have := (List.getElem?_eq_some_iff.1 hk).1; simpa using this
    have : k = j := by rw [List.getElem?_range hjn] at hk; exact (Option.some.inj hk).symm
    subst this
    obtain ⟨b', o', hm', hc⟩ := hrow k hjn
    rw [hm] at hm'
    cases hm'
    rw [add_cell]
    exact (hW.cell (p := ⟨b, o + k, none⟩) (World.block_lt_of_cell? w _ hc)).trans hc
  have h1c : ∀ v ∈ cs, v.oneCell' = true := fun v hv => by
    rw [hcs] at hv
    obtain ⟨k, _, rfl⟩ := List.mem_map.1 hv
    rfl
  have HCS := Lib.hid hcs
  have HCL := Lib.hid hcl
  have HPOS := Lib.hid hpos
  have H1C := Lib.hid h1c
  clear hok hO hrow hS hT hcs hcl hpos h1c
  go_enter Tryz.func33, Tryz.ntmps33
  go_wp2_with (first
    | (at_make; refine wpList_make_full _ rfl _ _ 67 rfl w.heap.size 68 i0 (.pointer none) 1 Tryz.underlying67 hi hz0 hz1 _ _ _ _ n rfl rfl rfl rfl (by rw [hz2]; omega) (by unfold maxLen; omega) (Nat.le_refl _) ?_; intro w1 hrow1 hg1; have hB1 := Lib.hid ((Below.refl _ w).grown hg1 (Nat.le_refl _) (fun k hk => by cases hk)); obtain ⟨L, hLh⟩ : ∃ L : List Value, Hid (L.length = n ∧ w1.heap[w.heap.size]? = some (.cells L.toArray 68 (0, 0))) := ⟨_, by have := hrow1.1; omega, own_heap hrow1⟩; clear hrow1 hg1)
    | ((refine wpList_copy_splice rfl _ _ 67 67 rfl 68 Tryz.underlying67 size68 (some ⟨w.heap.size, 0, none⟩) mv n n n c rfl rfl w.heap.size 0 L 68 hLh.out.2 cs (by rw [HCL.out]; exact (Nat.min_self n).symm) (fun h => ⟨rfl, by obtain ⟨ad, h1, h2⟩ := HPOS.out h; exact ⟨ad, h1, fun j v hv => h2 w1 j v hB1.out hv⟩⟩) (by rw [HCL.out, hLh.out.1]; omega) H1C.out w.heap.size w hB1.out (Nat.le_refl _) ?_; intro w2 hh2 hB2; have hP2 := Lib.hid (prow_heap (Q := Q) hLh.out.1 (by have := hh2.out; rw [HCS.out] at this; exact this) hB2 (Nat.le_refl _))))
    | go_in)
  clear hLh hB1 HROW HPOS H1C HCS HCL
  go_loopw [4, 5] (fun v4 v5 wr => ∃ i p, 1 ≤ i ∧ i ≤ n + 1 ∧ v4 = .int .i64 (i : Int) ∧ Hid (Arr n p) ∧ Hid (Srt (ltS s) i p) ∧ Hid (n ≤ i ∨ i < n) ∧ Hid (PRow w.heap.size w w.heap.size n Q p wr)) (fun v4 _ _ => n + 1 - (intOf v4).toNat)
  case atStart => exact ⟨1, _, Nat.le_refl _, by omega, rfl, Arr.id n, (fun a b h1 h2 => by omega), by show n ≤ 1 ∨ 1 < n; omega, hP2.out⟩
  case round =>
    obtain ⟨i, p, hi1, hi2, rfl, HA, HSR, _, HP⟩ := hrel
    rename World => wr
    by_cases hlt : i < n
    · go_wp2_with fail
      go_loopw [5] (fun v5 wq => ∃ j q, j ≤ i ∧ v5 = .int .i64 (j : Int) ∧ Hid (Arr n q) ∧ Hid (Ins (ltS s) i j q) ∧ Hid (PRow w.heap.size w w.heap.size n Q q wq)) (fun v5 _ => (intOf v5).toNat)
      case atStart => exact ⟨i, p, Nat.le_refl _, rfl, HA.out, HSR.out.ins, HP.out⟩
      case round =>
        obtain ⟨j, q, hj, rfl, HA2, HI, HP3⟩ := hrel
        rename World => wq
        cases j with
        | zero =>
          go_wp2
          go_roundw
          case rel => exact ⟨i + 1, q, by omega, by omega, by go_num, HA2, HI.out.zero, by show n ≤ i + 1 ∨ i + 1 < n; omega, HP3⟩
          case measure => simp [intOf]; omega
        | succ j' =>
          obtain ⟨jj, hjj⟩ : ∃ jj, jj = j' + 1 := ⟨_, rfl⟩
          have hj1 : (jj : Int) - 1 = (j' : Int) := by omega
          have hB := HP3.out.bel
          have hjn : jj < n := by omega
          have hjn' : j' < n := by omega
          have hq1 := HA2.out.into jj hjn
          have hq2 := HA2.out.into j' hjn'
          have hless := matrix_less w.heap.size n n jj j' (Q (q jj)) (Q (q j')) (s (q jj)) (s (q j')) hjn hjn' (by omega) (HOK.out _ hq1) (HOK.out _ hq2) wq (HP3.out.cell jj hjn) (HP3.out.cell j' hjn') ((HS.out _ hq1).below hB) ((HS.out _ hq2).below hB)
          rw [← hjj] at hj
          rw [← hjj]
          have HJJ := Lib.hid hjj
          have hjp : 0 < jj := by omega
          have hBs := HP3.out.bel.size
          obtain ⟨bb, hbb⟩ : ∃ bb, bb = befT (s (q jj)).1 (s (q j')).1 := ⟨_, rfl⟩
          rw [← hbb] at hless
          have HBB := Lib.hid hbb
          clear hjj hbb hq1 hq2 hjn hjn' hB
          cases bb with
          | false =>
            go_wp2_with (go_at_call 57; (with_reducible refine hless.mono ?_); rintro e w5 ⟨rfl, hb5⟩)
            go_roundw
            case rel =>
              have hI := HI.out
              have hb := HBB.out
              rw [HJJ.out] at hb
              exact ⟨i + 1, q, by omega, by omega, by go_num, HA2, hI.stop HO.out HA2.out hlt (by have := HJJ.out; omega) hb.symm, by show n ≤ i + 1 ∨ i + 1 < n; omega, HP3.out.below hBs hb5⟩
            case measure => simp [intOf]; omega
          | true =>
            go_wp2_with (first
              | (go_at_call 57; (with_reducible refine hless.mono ?_); rintro e w5 ⟨rfl, hb5⟩; have HP5 := Lib.hid (HP3.out.below hBs hb5); have hsw := matrix_swap w.heap.size n n jj j' _ _ _ _ rfl rfl (by omega) (by omega) (by omega) (by omega) w5 (HP5.out.cell jj (by omega)) (HP5.out.cell j' (by omega)) (HP5.out.frz jj (by omega)) (HP5.out.frz j' (by omega)))
              | (go_at_call 58; (with_reducible refine hsw.mono ?_); rintro e w6 ⟨rfl, rfl⟩))
            go_roundw
            case rel =>
              have hI := HI.out
              have hb := HBB.out
              rw [HJJ.out] at hb
              have hP6 := HP5.out.swap (i := jj) (j := j') (by omega) (by omega) (by omega)
              refine ⟨j', swp q jj j', by omega, by go_num, HA2.out.swp (by omega) (by omega), ?_, hP6⟩
              rw [HJJ.out]
              exact hI.swap (by have := HJJ.out; omega) hb.symm
            case measure => simp [intOf]; omega
    · have hsn : Srt (ltS s) n p := fun a b h1 h2 => HSR.out a b h1 (by omega)
      have HSN := Lib.hid hsn
      obtain ⟨T, hT0⟩ : ∃ T, T = (lst n p).map fun k => streamT (s k).1 (s k).2 := ⟨_, rfl⟩
      have hTl : n = T.length := by rw [hT0]; simp [lst]
      have hT6 : ∀ t ∈ T, t.length ≤ 60000 := fun t ht => by
        rw [hT0] at ht
        obtain ⟨k, hk, rfl⟩ := List.mem_map.1 ht
        exact streamT_len (HOK.out k ((lst_mem HA.out k).1 hk))
      have hTg : ∀ k, k < n → T[k]? = some (streamT (s (p k)).1 (s (p k)).2) := fun k hk => by
        rw [hT0]
        simp [lst, hk]
      have HT0 := Lib.hid hT0
      have HTL := Lib.hid hTl
      have HT6 := Lib.hid hT6
      have HTG := Lib.hid hTg
      obtain ⟨j0, hj0, hj1, hj2, hj3⟩ := info_parts info9
      clear hsn hT0 hTl hT6 hTg HSR hi hz0 hz1 hz2
      go_wp2_with (first
        | (at_make; refine wpList_make_full _ rfl _ _ 57 rfl wr.heap.size 9 j0 (.string ⟨#[]⟩) 1 Tryz.underlying57 hj0 hj1 hj2 _ _ _ _ n rfl rfl rfl rfl (by rw [hj3]; omega) (by unfold maxLen; omega) (Nat.le_refl _) ?_; intro w3 hrow3 hg3; have hRS := Lib.hid (RS.start HTL.out hrow3 hg3); clear hrow3 hg3)
        | go_in)
      go_loopw [43] (fun v43 wq => ∃ k, k ≤ n ∧ v43 = .int .i64 (k : Int) ∧ Hid (RS wr wr.heap.size T k wq)) (fun v43 _ => n - (intOf v43).toNat)
      case atStart => exact ⟨0, Nat.zero_le _, rfl, hRS.out⟩
      case round =>
        obtain ⟨k, hk, rfl, HR⟩ := hrel
        rename World => wq
        by_cases hlt2 : k < n
        · have hB := HP.out.below HP.out.bel.size HR.out.bel
          have hc := hB.cell k hlt2
          have hpk := HA.out.into k hlt2
          have hst := (HS.out _ hpk).below hB.bel
          obtain ⟨b, va, vc, k0, k1, k2, hM, hV⟩ := hst
          have hok := HOK.out _ hpk
          have hstr := stream_string (s (p k)).1 (s (p k)).2 b va vc hok.1 hok.2.1 hok.2.2.1 hok.2.2.2 wq hM hV (HT.out.below hB.bel)
          have hx := HTG.out k hlt2
          have hql := (HS.out _ hpk).lt
          obtain ⟨x, hxe⟩ : ∃ x, x = streamT (s (p k)).1 (s (p k)).2 := ⟨_, rfl⟩
          obtain ⟨m, hme⟩ : ∃ m, m = (s (p k)).2.length := ⟨_, rfl⟩
          obtain ⟨q, hqe⟩ : ∃ q, q = Q (p k) := ⟨_, rfl⟩
          rw [← hxe] at hstr hx
          rw [← hme] at hstr k1
          rw [← hqe] at k0 k1 k2 hc
          have HX := Lib.hid hx
          unfold ptr at hc
          unfold str at hstr
          clear hB hM hV hok hx hql hxe hme hqe hpk
          go_wp2_with (go_at_call 59; (with_reducible refine hstr.mono ?_); rintro e w5 ⟨rfl, hb5⟩; have hr5 := Lib.hid (HR.out.below hb5); have f1 := hr5.out.cell (by rw [← HTL.out]; exact hlt2); have f2 := hr5.out.frozen k; clear hb5)
          go_roundw
          case rel => exact ⟨k + 1, by omega, by go_num, hr5.out.step HX.out⟩
          case measure => simp [intOf]; omega
        · have hkn : k = n := by omega
          subst hkn
          have hR := HR.out
          have hlen := HTL.out
          rw [hlen] at hR
          have hBw : Below w.heap.size w wq := HP.out.bel.trans (HR.out.bel.mono HP.out.bel.size)
          have hj := join_call T [10] wr.heap.size T.length 60000 wq hR.cells hR.lt.2 (by omega) (Nat.le_refl _) HT6.out (by simp)
          rw [← hlen] at hj
          obtain ⟨J, HJ⟩ : ∃ J, Hid (J = Lib.join T [10]) := ⟨_, rfl⟩
          rw [← HJ.out] at hj
          have HBW := Lib.hid hBw
          clear hlen hR hBw
          go_wp2_with (go_at_call 26; (with_reducible refine hj.mono ?_); rintro e w6 ⟨rfl, hb6⟩)
          go_ret
          refine ⟨⟨p, HA.out, HSN.out, ?_⟩, HBW.out.trans (hb6.mono HBW.out.size)⟩
          rw [HJ.out, HT0.out]
          rfl

end Go.Proofs.YtdeejmkjhmpabaaGreatDoor

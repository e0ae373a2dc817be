/-
  spec.Before.
-/
import Derived.Test.YtdeejmkjhmpabaaGreatDoorM4
import Derived.Laws.AppendOwnNone
import Derived.Shelf.Slices.In.SortNone
import Derived.Shelf.Slices.In.SortNone2
namespace Go.Proofs
open Go.Shelf
open Go.RowKit in
theorem Tryz.sort_Strings_nil (p : Option Addr) (cap : Nat) (w : World) :
    Calls Tryz.prog 23 #[.slice p 0 cap] w fun e w' => e = .returned (.tuple #[]) ∧ w' = w := Any.sort_Strings_none Tryz.lays192 p cap w
end Go.Proofs
namespace Go.Proofs.YtdeejmkjhmpabaaGreatDoor
open Go.RowKit Go.Lib Go.Maps Go.WideMaps

def labCells (l : List Lab) : List Value := l.flatMap fun x => [str x.1, str x.2]

theorem labCells_len (l : List Lab) : (labCells l).length = l.length * 2 := by
  induction l with
  | nil => rfl
  | cons x l ih => unfold labCells at ih ⊢; rw [List.flatMap_cons, List.length_append, ih]; simp; omega

theorem labCells_one (l : List Lab) : ∀ u ∈ labCells l, u.oneCell' = true := by
  intro u hu
  unfold labCells at hu
  obtain ⟨x, _, hx⟩ := List.mem_flatMap.1 hu
  simp [str] at hx
  rcases hx with rfl | rfl <;> rfl

theorem labCells_get : ∀ (l : List Lab) (i : Nat) (x : Lab), l[i]? = some x → (labCells l)[i * 2]? = some (str x.1) ∧ (labCells l)[i * 2 + 1]? = some (str x.2) := by
  intro l
  induction l with
  | nil => intro i x h; simp at h
  | cons y l ih =>
    intro i x h
    have e : labCells (y :: l) = str y.1 :: str y.2 :: labCells l := rfl
    rw [e]
    cases i with
    | zero => simp at h; subst h; exact ⟨rfl, rfl⟩
    | succ i =>
      simp at h
      have := ih i x h
      have e1 : (i + 1) * 2 = i * 2 + 1 + 1 := by omega
      rw [e1]
      simpa using this

theorem labCells_inv (l : List Lab) (j : Nat) (u : Value) (h : (labCells l)[j]? = some u) : ∃ x, l[j / 2]? = some x ∧ u = (if j % 2 = 0 then str x.1 else str x.2) := by
  have hj : j < l.length * 2 := by rw [← labCells_len]; exact (List.getElem?_eq_some_iff.1 h).1
  have hx : l[j / 2]? = some (l[j / 2]'(by omega)) := List.getElem?_eq_getElem _
  obtain ⟨h1, h2⟩ := labCells_get l (j / 2) _ hx
  refine ⟨_, hx, ?_⟩
  by_cases hp : j % 2 = 0
  · have : j / 2 * 2 = j := by omega
    rw [this, h] at h1
    simp [hp, Option.some.inj h1]
  · have : j / 2 * 2 + 1 = j := by omega
    rw [this, h] at h2
    simp [hp, Option.some.inj h2]

theorem info59 : (Tryz.prog.info? 59).map (fun i => (i.zero, i.size, i.bytes)) = some (some (.agg #[.string ⟨#[]⟩, .string ⟨#[]⟩]), 2, 32) := by kernel_rfl

theorem add_cell (w : World) (b o j : Nat) : w.cell? ((⟨b, o, none⟩ : Addr).add j) = w.cell? ⟨b, o + j, none⟩ := by
  cases j with
  | zero => simp [Addr.add]
  | succ j => simp [Addr.add]

theorem keysT_snoc (l : List Lab) (i : Nat) (x : Lab) (h : l[i]? = some x) : keysT (l.take (i + 1)) = keysT (l.take i) ++ [x.1] := by
  rw [take_snoc' l i x h]; simp [keysT]

/-- append of labels onto an own row of labels. -/
theorem wp_labs {ops : Array Oper} {rest : List Oper} {o : Oper} {a : Act} {Q : Exit → Act → World → Prop} (w : World) (hgd : o.guard = none) (s x : Operand)
    (ho : o.op = .call { callee := .builtin .append, args := #[s, x], argTypes := #[33, 33] }) (base : Nat) (v : Value) (n m : Nat) (l0 : List Lab) (l : List Lab) (ad : Option Addr) (c : Nat) (hs : a.eval s = v)
    (hown : w.ownsRow base 59 2 v n (labCells l0)) (hm : l.length = m) (hx : a.eval x = .slice ad m c) (hL : LabsAt w ad l) (hnil : ad = none → c = 0) (hn : n ≤ 1000) (hlm : m ≤ 1000) (hbase : base ≤ w.heap.size)
    (h : ∀ v' w', w'.ownsRow base 59 2 v' (n + m) (labCells (l0 ++ l)) → w.grownBy w' v.ownBlock → (v ≠ .slice none 0 0 → v' ≠ .slice none 0 0) → wpList Tryz.prog ops Q rest (a.put o.dst v') w') :
    wpList Tryz.prog ops Q (o :: rest) a w := by
  subst hm
  obtain ⟨i, hi, hz0, hz1, hz2⟩ := info_parts info59
  cases ad with
  | none =>
    obtain rfl := hnil rfl
    have hl0 : l = [] := by
      cases l with
      | nil => rfl
      | cons y l => obtain ⟨b, o, h, _⟩ := hL 0 y rfl; cases h
    subst hl0
    exact wpList_append_own_none hgd s x 33 ho base 59 i 2 Tryz.underlying33 hi v n _ hs hown hx (h v w (by simpa using hown) ⟨rfl, rfl, rfl, Nat.le_refl _, fun _ _ _ => rfl⟩ id)
  | some p =>
    refine wpList_append_own w hgd s x 33 ho base 59 i _ 2 32 Tryz.underlying33 hi hz0 hz1 hz2 rfl (by decide) v n _ hs hown p l.length c (labCells l) hx (labCells_len l) ?_ (labCells_one l) (by unfold maxLen; omega) (by omega) hbase ?_
    · intro j u hj
      obtain ⟨y, hy, rfl⟩ := labCells_inv l j u hj
      obtain ⟨b, o, hp, c1, c2⟩ := hL (j / 2) y hy
      cases hp
      by_cases he : j % 2 = 0
      · rw [if_pos he, ← c1]
        have : j / 2 * 2 = j := by omega
        rw [this]; exact add_cell w b o j
      · rw [if_neg he, ← c2]
        have : o + j / 2 * 2 + 1 = o + j := by omega
        rw [this]; exact add_cell w b o j
    · intro v' w' h1 h2 h3
      exact h v' w' (by unfold labCells at h1 ⊢; rw [List.flatMap_append]; exact h1) h2 (fun hv hv' => hv (h3.1 hv').1)

/-- The labels of an own row. -/
theorem row_labs {w : World} {base g n cap : Nat} {l : List Lab} (h : w.ownsRow base 59 2 (.slice (some ⟨g, 0, none⟩) n cap) n (labCells l)) (hn : n = l.length) : LabsAt w (some ⟨g, 0, none⟩) l := by
  intro i x hx
  have hi := (List.getElem?_eq_some_iff.1 hx).1
  obtain ⟨h1, h2⟩ := labCells_get l i x hx
  refine ⟨g, 0, rfl, ?_, ?_⟩
  · rw [Nat.zero_add, h.cellAt (i * 2) (by omega), h1]
  · rw [Nat.zero_add, h.cellAt (i * 2 + 1) (by omega), h2]

theorem own_labs_new (w : World) : (w.alloc (.cells #[] 59)).ownsRow w.heap.size 59 2 (.slice (some ⟨w.heap.size, 0, none⟩) 0 0) 0 (labCells []) :=
  ⟨rfl, Or.inr ⟨w.heap.size, 0, #[], rfl, Nat.le_refl _, heap_new w _, by decide, by decide, rfl, rfl⟩⟩

set_option maxRecDepth 100000 in
set_option maxHeartbeats 3200000 in
theorem sbefore_walk (l1 l2 : List Lab) (a1 a2 : Option Addr) (c1 c2 n : Nat) (hF1 : Few l1) (hF2 : Few l2) (hn1 : l1.length = n) (hn2 : l2.length = n) (w : World) (hL1 : LabsAt w a1 l1) (hL2 : LabsAt w a2 l2) (hz1 : a1 = none → c1 = 0) (hz2 : a2 = none → c2 = 0) :
    Calls Tryz.prog 10 #[.slice a1 n c1, .slice a2 n c2] w fun e w' => e = .returned (.bool (befGo l1 l2 (namesT l1 l2))) ∧ Below w.heap.size w w' := by
  have hn10 : n ≤ 10 := by rw [← hn1]; exact hF1.1
  have HF1 := Lib.hid hF1
  have HF2 := Lib.hid hF2
  have HL1 := Lib.hid hL1
  have HL2 := Lib.hid hL2
  have Hn1 := Lib.hid hn1
  have Hn2 := Lib.hid hn2
  have Hz1 := Lib.hid hz1
  have Hz2 := Lib.hid hz2
  obtain ⟨N, hN⟩ : ∃ N, n + n = N := ⟨_, rfl⟩
  have hNi : (n : Int) + (n : Int) = (N : Int) := by omega
  have HNN := Lib.hid hN
  have hN20 : N ≤ 20 := by omega
  have HB0 : Hid (Below w.heap.size w (w.alloc (.cells #[] 59))) := (Below.refl _ _).alloc (Nat.le_refl _) _
  clear hF1 hF2 hn1 hn2 hL1 hL2 hz1 hz2
  go_enter Tryz.func10, Tryz.ntmps10
  go_wp2_with (first
    | (at_builtin; refine wp_labs _ rfl _ _ rfl w.heap.size (.slice (some ⟨w.heap.size, 0, none⟩) 0 0) 0 n [] l1 a1 c1 rfl (own_labs_new w) Hn1.out rfl (HL1.out.below HB0.out) Hz1.out (by omega) (by omega) (by simp) ?_; intro v1 w1 hrow1 hg1 hv1; have hB1 := HB0.out.grown hg1 (by simp) (fun k hk => ((own_labs_new w).lt k hk).1))
    | (at_builtin; refine wp_labs _ rfl _ _ rfl w.heap.size v1 (0 + n) n ([] ++ l1) l2 a2 c2 rfl hrow1 Hn2.out rfl (HL2.out.below hB1) Hz2.out (by omega) (by omega) hB1.size ?_; intro v2 w2 hrow2 hg2 hv2; have hB2 := hB1.grown hg2 hB1.size (fun k hk => (hrow1.lt k hk).1); obtain ⟨g, cap, hv, hgl⟩ : ∃ g cap, v2 = .slice (some ⟨g, 0, none⟩) (0 + n + n) cap ∧ g < w2.heap.size := (by
        rcases hrow2.2 with ⟨hnil, _⟩ | ⟨g, cap, cur, hv, hbase, hb, _⟩
        · exact absurd hnil (hv2 (hv1 (by intro h; cases h)))
        · exact ⟨g, cap, hv, (Array.getElem?_eq_some_iff.1 hb).1⟩); subst hv)
    | go_in)
  have hle : LabsAt w2 (some ⟨g, 0, none⟩) (l1 ++ l2) := row_labs (l := l1 ++ l2) hrow2 (by rw [List.length_append, Hn1.out, Hn2.out]; omega)
  have hll : (l1 ++ l2).length = N := by rw [List.length_append, Hn1.out, Hn2.out]; exact hN
  have HLL := Lib.hid hll
  have HLE := Lib.hid hle
  have HB2 := Lib.hid hB2
  clear hrow2 hg2 hv2 hrow1 hg1 hv1 hB1 hB2 hll hle
  go_loopw [5, 29] (fun v5 v29 wr => ∃ i, i ≤ N ∧ v29 = .int .i64 (i : Int) ∧ Hid (wr.ownsRow w2.heap.size 9 1 v5 (keysT ((l1 ++ l2).take i)).length ((keysT ((l1 ++ l2).take i)).map encStr)) ∧ Hid (Below w2.heap.size w2 wr)) (fun _ v29 _ => N - (intOf v29).toNat)
  case atStart => exact ⟨0, Nat.zero_le _, rfl, World.ownsRow_nil _ _ _ _, Below.refl _ _⟩
  case round =>
    obtain ⟨i, hk, rfl, HROW, HBEL⟩ := hrel
    rename World => wr
    by_cases hlt : i < N
    · obtain ⟨x, hx⟩ : ∃ x, (l1 ++ l2)[i]? = some x := ⟨(l1 ++ l2)[i]'(by rw [HLL.out]; exact hlt), List.getElem?_eq_getElem _⟩
      obtain ⟨b, o, hbo, k1, k2⟩ := (HLE.out.below HBEL.out) i x hx
      have HX := Lib.hid hx
      unfold str at k1 k2
      cases hbo
      rw [Nat.zero_add] at k1 k2
      obtain ⟨x1, x2⟩ := x
      dsimp only at k1 k2
      clear hx
      have hrow := HROW.out.alloc (.cells #[.string ⟨x1.toArray⟩, .string ⟨x2.toArray⟩] 59)
      have hsz : w2.heap.size ≤ (wr.alloc (.cells #[.string ⟨x1.toArray⟩, .string ⟨x2.toArray⟩] 59)).heap.size := by have := HBEL.out.size; simp; omega
      have hps : (keysT ((l1 ++ l2).take i)).length ≤ 1000 := by
        simp only [keysT, List.length_map, List.length_take]
        omega
      have HR := Lib.hid hrow
      clear hrow
      go_wp2_with (at_builtin; refine wp_str 57 9 Tryz.underlying57 info9 _ rfl _ _ rfl w2.heap.size u5 _ _ x1 rfl HR.out (by show Value.slice (some ⟨wr.heap.size + 1, 0, none⟩) 1 1 = _; simp) hps hsz ?_; intro v' w5 hrow5 hg5; have hl5 := Lib.hid (And.intro hrow5 hg5); clear hrow5 hg5)
      go_roundw
      case rel =>
        obtain ⟨h1, h2⟩ := hl5.out
        refine ⟨i + 1, by omega, by go_num, ?_, ?_⟩
        · show World.ownsRow _ _ _ _ _ _ _
          rw [keysT_snoc _ i _ HX.out, List.length_append, List.map_append]; exact h1
        · have hB' := HBEL.out.alloc HBEL.out.size (.cells #[.string ⟨x1.toArray⟩, .string ⟨x2.toArray⟩] 59)
          exact (hB'.alloc hsz _).grown h2 (by simp at hsz ⊢; omega) (fun k hk => (HR.out.lt k hk).1)
      case measure => simp [intOf]; omega
    · have hkn : i = N := by omega
      subst hkn
      have hrow := HROW.out
      rw [← HLL.out, List.take_length] at hrow
      have hkl : (keysT (l1 ++ l2)).length = i := by rw [keysT, List.length_map, HLL.out]
      rw [hkl] at hrow
      have hkm : (keysT (l1 ++ l2)).mergeSort leB = namesT l1 l2 := by unfold namesT keysT; rw [List.map_append]
      have hns3 : ∀ x ∈ namesT l1 l2, x.length ≤ 300 := fun x hx => by
        unfold namesT at hx
        rw [(List.mergeSort_perm _ _).mem_iff, List.mem_append, List.mem_map, List.mem_map] at hx
        rcases hx with ⟨y, hy, rfl⟩ | ⟨y, hy, rfl⟩
        · exact (HF1.out.2 y hy).1
        · exact (HF2.out.2 y hy).1
      have hnsl : (namesT l1 l2).length = i := by rw [← hkm, List.length_mergeSort, hkl]
      have hBw : Below w.heap.size w wr := HB2.out.trans (HBEL.out.mono HB2.out.size)
      obtain ⟨u, cap2, hv, hsort⟩ : ∃ (u : Option Addr) (cap2 : Nat), u5 = .slice u i cap2 ∧ Calls Tryz.prog 23 #[.slice u i cap2] wr fun e' w' => e' = .returned (.tuple #[]) ∧ Below w.heap.size w w' ∧ ∀ j x, (namesT l1 l2)[j]? = some x → ∃ g, u = some ⟨g, 0, none⟩ ∧ w'.cell? ⟨g, j, none⟩ = some (.string ⟨x.toArray⟩) := by
        by_cases h0 : i = 0
        · subst h0
          have hnil : namesT l1 l2 = [] := List.eq_nil_of_length_eq_zero hnsl
          have hv : ∃ u cap2, u5 = .slice u 0 cap2 := by
            rcases hrow.2 with ⟨hnil, hk0⟩ | ⟨g, cap, cur, hv, hbase, hb, h1, h2, h3, h4⟩
            · exact ⟨_, _, hnil⟩
            · exact ⟨_, _, hv⟩
          obtain ⟨u, cap2, hv⟩ := hv
          refine ⟨u, cap2, hv, (Tryz.sort_Strings_nil u cap2 wr).mono ?_⟩
          rintro e w' ⟨rfl, rfl⟩
          refine ⟨rfl, hBw, fun j x hx => ?_⟩
          rw [hnil] at hx; simp at hx
        · obtain ⟨g2, cap2, hv, hcap, hgl2, hbase, hsort⟩ := sort_own 23 Tryz.sort_Strings w2.heap.size 9 u5 i (keysT (l1 ++ l2)) wr hrow hkl (Or.inl h0) (by omega) HBEL.out.size
          rw [hkm] at hsort
          refine ⟨some ⟨g2, 0, none⟩, cap2, hv, hsort.mono ?_⟩
          rintro e w' ⟨rfl, hb, hro⟩
          refine ⟨rfl, hBw.trans (hb.mono HB2.out.size), fun j x hx => ⟨g2, rfl, cell_enc hro hnsl.symm j x hx⟩⟩
      subst hv
      obtain ⟨ns, hns⟩ : ∃ ns, ns = namesT l1 l2 := ⟨_, rfl⟩
      rw [← hns] at hsort hnsl hns3
      have HNS := Lib.hid hns
      have HNL := Lib.hid hnsl
      have HN3 := Lib.hid hns3
      clear hns hnsl hns3 hkm hkl hrow hBw HROW HBEL hk hlt
      go_wp2_with (go_at_call 23; (with_reducible refine hsort.mono ?_); rintro e w4 ⟨rfl, hB4, hce⟩)
      have HB4 := Lib.hid hB4
      have HCE := Lib.hid hce
      have HG1 := Lib.hid (fun x => get_any l1 a1 c1 x (by rw [Hn1.out]; omega) w4 (HL1.out.below hB4))
      have HG2 := Lib.hid (fun x => get_any l2 a2 c2 x (by rw [Hn2.out]; omega) w4 (HL2.out.below hB4))
      rw [Hn1.out] at HG1
      rw [Hn2.out] at HG2
      clear hB4 hce hsort
      go_loopw [8] (fun v8 wz => ∃ k, k ≤ i ∧ v8 = .int .i64 (k : Int) ∧ Hid (befGo l1 l2 ns = befGo l1 l2 (ns.drop k)) ∧ w4 = wz) (fun v8 _ => i - (intOf v8).toNat)
      case atStart => exact ⟨0, Nat.zero_le _, rfl, by show befGo l1 l2 ns = _; simp, by first | rfl | trivial⟩
      case round =>
        obtain ⟨k, hk, rfl, HG, rfl⟩ := hrel
        by_cases hlt : k < i
        · obtain ⟨x, hx⟩ : ∃ x, ns[k]? = some x := ⟨ns[k]'(by rw [HNL.out]; exact hlt), List.getElem?_eq_getElem _⟩
          obtain ⟨g2, hu, hc⟩ := HCE.out k x hx
          subst hu
          have hg1 := HG1.out x
          have hg2 := HG2.out x
          have hdrop : ns.drop k = x :: ns.drop (k + 1) := by
            obtain ⟨h1, rfl⟩ := List.getElem?_eq_some_iff.1 hx
            exact List.drop_eq_getElem_cons h1
          have HD := Lib.hid hdrop
          clear hdrop hx
          cases hq1 : getT l1 x with
          | none =>
            rw [hq1] at hg1
            dsimp only [Option.getD, Option.isSome] at hg1
            go_wp2_with (first
              | (go_at_call 24; (with_reducible refine hg1.mono ?_); rintro e w5 ⟨rfl, rfl⟩)
              | (go_at_call 24; (with_reducible refine hg2.mono ?_); rintro e w5 ⟨rfl, rfl⟩))
            go_ret
            have h := HG.out
            rw [HD.out, befGo, hq1, HNS.out] at h
            rw [h]
            exact ⟨rfl, HB4.out⟩
          | some u =>
            rw [hq1] at hg1
            dsimp only [Option.getD, Option.isSome] at hg1
            cases hq2 : getT l2 x with
            | none =>
              rw [hq2] at hg2
              dsimp only [Option.getD, Option.isSome] at hg2
              go_wp2_with (first
                | (go_at_call 24; (with_reducible refine hg1.mono ?_); rintro e w5 ⟨rfl, rfl⟩)
                | (go_at_call 24; (with_reducible refine hg2.mono ?_); rintro e w5 ⟨rfl, rfl⟩))
              go_ret
              have h := HG.out
              rw [HD.out, befGo, hq1, hq2, HNS.out] at h
              rw [h]
              exact ⟨rfl, HB4.out⟩
            | some y =>
              rw [hq2] at hg2
              dsimp only [Option.getD, Option.isSome] at hg2
              have HQ1 := Lib.hid hq1
              have HQ2 := Lib.hid hq2
              clear hq1 hq2
              by_cases e : u = y
              · subst e
                go_wp2_with (first
                  | (go_at_call 24; (with_reducible refine hg1.mono ?_); rintro e w5 ⟨rfl, rfl⟩)
                  | (go_at_call 24; (with_reducible refine hg2.mono ?_); rintro e w5 ⟨rfl, rfl⟩))
                go_roundw
                case rel => exact ⟨k + 1, by omega, by go_num, by show befGo l1 l2 ns = _; rw [HG.out, HD.out, befGo, HQ1.out, HQ2.out]; simp, by first | rfl | trivial⟩
                case measure => simp [intOf]; omega
              · have hb2 : (u == y) = false := by rw [beq_eq_false_iff_ne]; exact e
                have hb1 : Op.bytesLess u y = decide (u < y) := by
                  cases hx : Op.bytesLess u y with
                  | false => exact (decide_eq_false (fun h => by rw [(less_iff u y).2 h] at hx; cases hx)).symm
                  | true => exact (decide_eq_true ((less_iff u y).1 hx)).symm
                have HE := Lib.hid e
                obtain ⟨bb, hbb⟩ : ∃ bb, bb = decide (u < y) := ⟨_, rfl⟩
                rw [← hbb] at hb1
                have HBB := Lib.hid hbb
                clear e hbb
                go_wp2_with (first
                  | (go_at_call 24; (with_reducible refine hg1.mono ?_); rintro e w5 ⟨rfl, rfl⟩)
                  | (go_at_call 24; (with_reducible refine hg2.mono ?_); rintro e w5 ⟨rfl, rfl⟩))
                go_ret
                have h := HG.out
                rw [HD.out, befGo, HQ1.out, HQ2.out, HNS.out] at h
                rw [h, HBB.out]
                simp [HE.out, HB4.out]
        · have hkn : k = i := by omega
          subst hkn
          go_wp2
          go_ret
          have h := HG.out
          rw [List.drop_eq_nil_of_le (by rw [HNL.out]; exact Nat.le_refl _), HNS.out] at h
          rw [h]
          exact ⟨rfl, HB4.out⟩

set_option maxHeartbeats 400000 in
/-- spec.Before. -/
theorem spec_before (l1 l2 : List Lab) (a1 a2 : Option Addr) (c1 c2 : Nat) (hF1 : Few l1) (hF2 : Few l2) (w : World) (hL1 : LabsAt w a1 l1) (hL2 : LabsAt w a2 l2) (hz1 : a1 = none → c1 = 0) (hz2 : a2 = none → c2 = 0) :
    Calls Tryz.prog 10 #[.slice a1 l1.length c1, .slice a2 l2.length c2] w fun e w' => e = .returned (.bool (befT l1 l2)) ∧ Below w.heap.size w w' := by
  by_cases hl : l1.length = l2.length
  · unfold befT
    rw [if_pos hl]
    have h := sbefore_walk l1 l2 a1 a2 c1 c2 l2.length hF1 hF2 hl rfl w hL1 hL2 hz1 hz2
    rw [hl]
    exact h
  · unfold befT
    rw [if_neg hl]
    have hn1 := hF1.1
    have hn2 := hF2.1
    generalize l1.length = n1 at *
    generalize l2.length = n2 at *
    obtain ⟨bb, hbb⟩ : ∃ bb, bb = decide (n1 < n2) := ⟨_, rfl⟩
    rw [← hbb]
    have hd : decide ((n1 : Int) < (n2 : Int)) = bb := by rw [hbb]; simp
    have hne : ((n1 : Int) == (n2 : Int)) = false := by simpa using fun h => hl (by omega)
    clear hF1 hF2 hL1 hL2 hz1 hz2 hbb
    by_cases hlt : n1 < n2
    · have : bb = true := by rw [← hd]; simpa using hlt
      subst this
      clear hd
      go_enter Tryz.func10, Tryz.ntmps10
      go_wp2
      go_ret
      exact ⟨rfl, Below.refl _ _⟩
    · have : bb = false := by rw [← hd]; simpa using hlt
      subst this
      clear hd
      go_enter Tryz.func10, Tryz.ntmps10
      go_wp2
      go_ret
      exact ⟨rfl, Below.refl _ _⟩

end Go.Proofs.YtdeejmkjhmpabaaGreatDoor

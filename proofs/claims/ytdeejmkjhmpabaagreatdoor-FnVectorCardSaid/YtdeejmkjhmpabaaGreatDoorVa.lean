/-
  impl.sorted: the labels of a set, by name.
-/
import Derived.Test.YtdeejmkjhmpabaaGreatDoorM5
import Derived.Test.YtdeejmkjhmpabaaGreatDoorSh2
namespace Go.Proofs.YtdeejmkjhmpabaaGreatDoor
open Go.RowKit Go.Lib Go.Maps Go.WideMaps

/-- A label's two cells. -/
def encLab (x : Lab) : List Value := [str x.1, str x.2]

def cmpLab (x y : Lab) : Int := if x.1 < y.1 then -1 else if y.1 < x.1 then 1 else 0

theorem ltLab (x y : Lab) : ltOf cmpLab x y = decide (x.1 < y.1) := by
  unfold ltOf cmpLab
  by_cases h : x.1 < y.1
  · simp [h]
  · by_cases h2 : y.1 < x.1 <;> simp [h, h2]

theorem swoLab : Go.Sort.SWO (ltOf cmpLab) where
  irrefl x := by rw [ltLab]; exact decide_eq_false (List.lt_irrefl _)
  trans x y z := by
    rw [ltLab, ltLab, ltLab, decide_eq_true_eq, decide_eq_true_eq, decide_eq_true_eq]
    exact List.lt_trans
  ntrans x y z := by
    rw [ltLab, ltLab, ltLab, decide_eq_false_iff_not, decide_eq_false_iff_not, decide_eq_false_iff_not]
    intro h1 h2 h3
    by_cases e : x.1 = y.1
    · rw [e] at h3; exact h2 h3
    · rcases bytes_or _ _ e with h | h
      · exact h1 h
      · exact h2 (List.lt_trans h h3)

theorem sorted_is (xs l : List Lab) (n : Nat) (hn : xs.length = n) (hp : xs.Perm l) (ho : Ord l) (d' : Array Lab) (h1 : Go.Sort.PermIn 0 n xs.toArray d') (h2 : Go.Sort.SortedIn (ltOf cmpLab) 0 n d') : d' = l.toArray := by
  obtain ⟨hs, _, hpp⟩ := h1
  have hs' : d'.size = n := by rw [hs]; simpa using hn
  have hdp : d'.toList.Perm l := by
    have e1 : d'.extract 0 n = d' := by rw [← hs']; simp
    have e2 : xs.toArray.extract 0 n = xs.toArray := by rw [← hn]; simp
    rw [e1, e2] at hpp
    exact hpp.trans (by simpa using hp)
  have hN : Names d'.toList := by
    have := ho.names
    unfold Names at this ⊢
    exact (hdp.map Prod.fst).nodup_iff.2 this
  have hO : Ord d'.toList := by
    unfold Ord
    rw [List.pairwise_iff_getElem]
    intro i j hi hj hij
    have h := h2 i j (Nat.zero_le _) hij (by simpa [hs'] using hj)
    rw [ltLab, decide_eq_false_iff_not, getElem!_pos d' j (by simpa using hj), getElem!_pos d' i (by simpa using hi)] at h
    have hne : (d'.toList[i]).1 ≠ (d'.toList[j]).1 := by
      unfold Names at hN
      rw [List.Nodup, List.pairwise_map, List.pairwise_iff_getElem] at hN
      exact hN i j hi hj hij
    rcases bytes_or _ _ hne with h' | h'
    · exact h'
    · exact absurd (by simpa using h') h
  have := List.Perm.eq_of_pairwise (fun x y _ _ h1 h2 => (List.lt_irrefl _ (List.lt_trans h1 h2)).elim) hO ho hdp
  rw [← this]

set_option maxRecDepth 100000 in
set_option maxHeartbeats 800000 in
/-- The closure that compares two labels' names. -/
theorem cmp_any (x y : Lab) (W : World) : Calls Tryz.prog 64 #[.agg #[str x.1, str x.2], .agg #[str y.1, str y.2]] W fun e w' => e = .returned (.int .i64 (cmpLab x y)) ∧ ∃ q os', w' = Go.Sort.grow (W.drewN q) os' := by
  obtain ⟨x1, x2⟩ := x
  obtain ⟨y1, y2⟩ := y
  have hless : ∀ u v : List UInt8, Op.bytesLess u v = decide (u < v) := fun u v => by
    cases hx : Op.bytesLess u v with
    | false => exact (decide_eq_false (fun h => by rw [(less_iff u v).2 h] at hx; cases hx)).symm
    | true => exact (decide_eq_true ((less_iff u v).1 hx)).symm
  have hl1 := hless x1 y1
  clear hless
  unfold str cmpLab
  dsimp only
  by_cases h1 : x1 < y1
  · rw [if_pos h1]
    rw [decide_eq_true h1] at hl1
    clear h1
    go_enter Tryz.func64, Tryz.ntmps64
    go_wp2
    go_ret
    exact ⟨rfl, 0, _, by rw [Go.Sort.alloc_eq_grow, Go.Sort.alloc_eq_grow, Go.Sort.grow_grow]; rfl⟩
  · rw [if_neg h1]
    rw [decide_eq_false h1] at hl1
    by_cases h2 : y1 < x1
    · rw [if_pos h2]
      have hne : (x1 == y1) = false := by rw [beq_eq_false_iff_ne]; intro e; subst e; exact h1 h2
      clear h1 h2
      go_enter Tryz.func64, Tryz.ntmps64
      go_wp2
      go_ret
      exact ⟨rfl, 0, _, by rw [Go.Sort.alloc_eq_grow, Go.Sort.alloc_eq_grow, Go.Sort.grow_grow]; rfl⟩
    · rw [if_neg h2]
      obtain rfl : x1 = y1 := Classical.byContradiction fun e => by rcases bytes_or _ _ e with h | h; exact h1 h; exact h2 h
      clear h1 h2
      go_enter Tryz.func64, Tryz.ntmps64
      go_wp2
      go_ret
      exact ⟨rfl, 0, _, by rw [Go.Sort.alloc_eq_grow, Go.Sort.alloc_eq_grow, Go.Sort.grow_grow]; rfl⟩

theorem len_small (n : Nat) (W : World) (h : n ≤ 12) : Calls Tryz.prog 76 #[.int .u64 n] W fun e w' => (∃ l : Int, e = .returned (.int .i64 l)) ∧ w' = W :=
  (Tryz.bits_Len n W (by omega) (by omega)).mono fun _ _ ⟨he, hw⟩ => ⟨⟨_, he⟩, hw⟩

theorem grownBy_sortedK {w : World} {g n : Nat} {os : Array Obj} (F : Array Value) : w.grownBy (Go.Sort.grow (Go.Sort.putRow id (Go.Sort.ahead w n) g 0 F) os) (some g) := by
  refine ⟨rfl, rfl, rfl, by simp, fun k hk hne => ?_⟩
  rw [Go.Sort.heap_grow_old _ _ (by simpa using hk)]
  have : g ≠ k := fun e => hne (by rw [e])
  simp [Go.Sort.putRow, Go.Sort.mapBlock, Go.Sort.ahead, Array.getElem?_modify, this]

/-- slices.SortFunc of an own row of labels. -/
theorem sortf_own (l xs : List Lab) (n base : Nat) (v : Value) (hv : v ≠ .slice none 0 0) (w : World) (hrow : w.ownsRow base 59 2 v n (labCells xs)) (hn : xs.length = n) (h10 : n ≤ 12) (hp : xs.Perm l) (ho : Ord l) (hB : base ≤ w.heap.size) :
    ∃ g cap, v = .slice (some ⟨g, 0, none⟩) n cap ∧ base ≤ g ∧ g < w.heap.size ∧ Calls Tryz.prog 63 #[.slice (some ⟨g, 0, none⟩) n cap, .func (.func 64) #[] #[]] w fun e w' => e = .returned (.tuple #[]) ∧ Below base w w' ∧ LabsAt w' (some ⟨g, 0, none⟩) l := by
  rcases hrow.2 with ⟨hnil, _⟩ | ⟨g, cap, cur, hv', hbase, hb, h1, h2, h3, h4⟩
  · exact absurd hnil hv
  have hgl : g < w.heap.size := (Array.getElem?_eq_some_iff.1 hb).1
  refine ⟨g, cap, hv', hbase, hgl, ?_⟩
  subst hv'
  have hH : Go.Sort.HoldsK encLab 2 w g 0 xs.toArray := by
    intro j hj
    have hj2 : j < xs.length * 2 := by simpa using hj
    refine ⟨?_, by simp [World.frozen?, hb]⟩
    rw [Nat.zero_add, hrow.cellAt j (by omega), Go.Sort.get_flatK _ _ _ _ (by simpa using hj2)]
    have hq : j / 2 < xs.length := by omega
    have hx : xs[j / 2]? = some xs[j / 2] := List.getElem?_eq_getElem _
    obtain ⟨c1, c2⟩ := labCells_get xs (j / 2) _ hx
    have hxe : xs.toArray[j / 2]! = xs[j / 2] := by rw [getElem!_pos _ _ (by simpa using hq)]; simp
    rw [hxe]
    by_cases he : j % 2 = 0
    · have e : j / 2 * 2 = j := by omega
      rw [e] at c1
      rw [c1, he]; rfl
    · have e : j / 2 * 2 + 1 = j := by omega
      have e1 : j % 2 = 1 := by omega
      rw [e] at c2
      rw [c2, e1]; rfl
  have hcon := AnyQ.slices_SortFunc_small_sorted Tryz.sortLb 2 Tryz.isAgg59 Tryz.sizeOf59 encLab (fun _ => rfl) (fun x v hv => by simp [encLab, str] at hv; rcases hv with rfl | rfl <;> rfl) cmpLab 64 #[] swoLab g 0 cap xs.toArray w
    (enters_of Tryz.func64 (by kernel_rfl) rfl) (fun _ _ _ _ x y => cmp_any x y _) hH hgl (by simpa [hn] using h10) len_small
  have hsz : xs.toArray.size = n := by simpa using hn
  rw [hsz] at hcon
  refine Calls.mono hcon ?_
  rintro e w' ⟨rfl, d', nn, os, hpm, hso, rfl⟩
  have hd := sorted_is xs l n hn hp ho d' hpm hso
  subst hd
  refine ⟨rfl, (Below.refl _ _).grown (grownBy_sortedK _) hB (fun k hk => by cases hk; exact hbase), ?_⟩
  have hH2 := holdsK_sortWorldK_c encLab 2 w g 0 xs.toArray l.toArray nn os hH hgl (by simpa using hp.length_eq.symm)
  intro i x hx
  have hi := (List.getElem?_eq_some_iff.1 hx).1
  have hxe : l.toArray[i]! = x := by rw [getElem!_pos _ _ (by simpa using hi)]; simpa using (List.getElem?_eq_some_iff.1 hx).2
  have q1 := (hH2 (i * 2) (by simp; omega)).1
  have q2 := (hH2 (i * 2 + 1) (by simp; omega)).1
  rw [Go.Sort.get_flatK _ _ _ _ (by simp; omega)] at q1 q2
  have e1 : i * 2 / 2 = i := by omega
  have e2 : (i * 2 + 1) / 2 = i := by omega
  have e3 : i * 2 % 2 = 0 := by omega
  have e4 : (i * 2 + 1) % 2 = 1 := by omega
  rw [e1, e3, hxe] at q1
  rw [e2, e4, hxe] at q2
  exact ⟨g, 0, rfl, q1, q2⟩

theorem labs_one (w : World) (x : Lab) : LabsAt (w.alloc (.cells #[.string ⟨x.1.toArray⟩, .string ⟨x.2.toArray⟩] 59)) (some ⟨w.heap.size, 0, none⟩) [x] := by
  intro i y hy
  match i, hy with
  | 0, hy =>
    simp at hy
    subst hy
    exact ⟨_, _, rfl, by simp [str], by simp [str]⟩

/-- What the loop over the labels has made. -/
structure SS (w : World) (l : List Lab) (b r n : Nat) (v : Value) (wr : World) (left : Lit → Bool) (cnt : Nat) (xs : List Lab) : Prop where
  rg : wr.ranges Tryz.prog 111 (plainElem Tryz.prog 110) b r n (LabMap l) left cnt
  row : wr.ownsRow w.heap.size 59 2 v xs.length (labCells xs)
  nn : v ≠ .slice none 0 0
  col : Col l left xs
  bel : Below w.heap.size w wr

theorem SS.kept {w wr w1 : World} {l : List Lab} {b r n cnt : Nat} {v : Value} {left : Lit → Bool} {xs : List Lab} (h : SS w l b r n v wr left cnt xs) (hr : w.heap.size ≤ r)
    (hg : wr.grownBy w1 (some r)) : w1.ownsRow w.heap.size 59 2 v xs.length (labCells xs) ∧ Below w.heap.size w w1 := by
  refine ⟨h.row.kept hg ?_, h.bel.grown hg h.bel.size (fun k hk => by cases hk; exact hr)⟩
  cases hob : v.ownBlock with
  | none => exact Or.inl rfl
  | some g => exact Or.inr (fun e => row_ne_iter h.row h.rg (by rw [hob]; exact e.symm))

theorem SS.added {w w2 w3 : World} {l : List Lab} {b r n cnt1 : Nat} {v v' : Value} {left' : Lit → Bool} {xs : List Lab} {x : Lab} (hbw : b < w.heap.size) (ob : Obj)
    (hrow : w2.ownsRow w.heap.size 59 2 v xs.length (labCells xs)) (hB : Below w.heap.size w w2) (hrg : w2.ranges Tryz.prog 111 (plainElem Tryz.prog 110) b r n (LabMap l) left' cnt1) (hC : Col l left' (xs ++ [x])) (hnn : v ≠ .slice none 0 0)
    (h1 : w3.ownsRow w.heap.size 59 2 v' (xs.length + 1) (labCells (xs ++ [x]))) (h2 : (w2.alloc ob).grownBy w3 v.ownBlock) (h3 : v ≠ .slice none 0 0 → v' ≠ .slice none 0 0) :
    SS w l b r n v' w3 left' cnt1 (xs ++ [x]) := by
  have hr1 := hrow.alloc ob
  refine ⟨(hrg.alloc _).kept h2 (row_ne_low hr1 hbw) (row_ne_iter hr1 (hrg.alloc _)), ?_, h3 hnn, hC, ?_⟩
  · rw [List.length_append]; exact h1
  · exact (hB.alloc hB.size _).grown h2 (by have := hB.size; simp; omega) (fun k hk => (hr1.lt k hk).1)

set_option maxRecDepth 100000 in
set_option maxHeartbeats 3200000 in
/-- impl.sorted. -/
theorem sorted_any (l : List Lab) (b : Nat) (hl10 : l.length ≤ 10) (ho : Ord l) (w : World) (hM : MapAt w b l) :
    Calls Tryz.prog 38 #[.map (some b)] w fun e w' => ∃ g cap, e = .returned (.slice (some ⟨g, 0, none⟩) l.length cap) ∧ w.heap.size ≤ g ∧ g < w'.heap.size ∧ LabsAt w' (some ⟨g, 0, none⟩) l ∧ Below w.heap.size w w' := by
  have hbw := hM.lt
  have HN := Lib.hid ho.names
  have HO := Lib.hid ho
  obtain ⟨wA, hwA⟩ : ∃ wA, wA = w.alloc (.cells #[] 59) := ⟨_, rfl⟩
  have hBA : Below w.heap.size w wA := by rw [hwA]; exact (Below.refl _ _).alloc (Nat.le_refl _) _
  have hM1 := hM.below hBA
  have hrow0 : wA.ownsRow w.heap.size 59 2 (.slice (some ⟨w.heap.size, 0, none⟩) 0 0) 0 (labCells []) := by rw [hwA]; exact own_labs_new w
  have HBA := Lib.hid hBA
  have HROW0 := Lib.hid hrow0
  clear ho hM hBA hrow0
  go_enter Tryz.func38, Tryz.ntmps38
  go_wp2_with (rw [← hwA]; at_range; refine wpList_range_own _ rfl _ 70 rfl 111 110 keyed111 Tryz.underlying70 _ b l.length _ rfl hM1 ?_; intro w2 hrg2 hg2 hs2)
  try go_frame
  have hr : w.heap.size ≤ wA.heap.size := HBA.out.size
  have hss : Hid (SS w l b wA.heap.size l.length (.slice (some ⟨w.heap.size, 0, none⟩) 0 0) w2 (has (LabMap l)) (size (LabMap l)) []) :=
    ⟨hrg2, HROW0.out.kept hg2 (Or.inr (by simp [Value.ownBlock])), (fun h => by cases h), Col.start l, HBA.out.grown hg2 hr (fun k hk => by cases hk)⟩
  clear hrg2 hg2 hs2 hM1 hwA HROW0 HBA
  go_loopw [3] (fun v3 wr => ∃ left cnt xs, Hid (SS w l b wA.heap.size l.length v3 wr left cnt xs)) (fun _ wr => wr.rangeLeft b wA.heap.size)
  case atStart => exact ⟨_, _, [], hss.out⟩
  case round =>
    obtain ⟨left, cnt, xs, HM⟩ := hrel
    rename World => wr
    have hrg := HM.out.rg
    have hm0 := HM.out.rg.left_eq
    go_wp2_with (first
      | (at_next; refine next_labs _ rfl _ rfl b wA.heap.size l.length l HN.out left cnt xs rfl hrg HM.out.col ?_ ?_)
      | go_in)
    · intro hp
      obtain ⟨g, cap, hv, hbase, hgl, hsort⟩ := sortf_own l xs l.length w.heap.size u3 HM.out.nn wr (hp.length_eq ▸ HM.out.row) hp.length_eq (by omega) hp HO.out HM.out.bel.size
      have HBEL := Lib.hid HM.out.bel
      subst hv
      clear hrg HM hp
      go_wp2_with (go_at_call 63; (with_reducible refine hsort.mono ?_); rintro e w4 ⟨rfl, hb4, hL4⟩)
      go_ret
      exact ⟨_, _, rfl, hbase, Nat.lt_of_lt_of_le hgl hb4.size, hL4, HBEL.out.trans hb4⟩
    · intro xn xv w3 left' cnt' hx hC hrg3 hlt hg3 hs3 hen
      obtain ⟨hrow3, hB3⟩ := HM.out.kept hr hg3
      have hnn := HM.out.nn
      have hxs : xs.length ≤ 10 := by
        have h1 := hC.le
        rw [List.length_append] at h1
        omega
      have HC := Lib.hid hC
      have HNN := Lib.hid hnn
      have HR3 := Lib.hid hrow3
      have HB3 := Lib.hid hB3
      have HRG := Lib.hid hrg3
      clear hx HM hrg hC hnn hrow3 hB3 hrg3 hs3 hg3
      go_wp2_with (first
        | (at_builtin; refine wp_labs _ rfl _ _ rfl w.heap.size u3 xs.length 1 xs [(xn, xv)] (some ⟨w3.heap.size, 0, none⟩) 1 rfl (HR3.out.alloc _) rfl rfl (labs_one w3 (xn, xv)) (fun h => by cases h) (by omega) (by omega) (by have := HB3.out.size; simp; omega) ?_; intro v' w5 hrow5 hg5 hv5; have hss5 := Lib.hid (SS.added hbw _ HR3.out HB3.out HRG.out HC.out HNN.out hrow5 hg5 hv5); have hm5 := hss5.out.rg.left_eq; clear hrow5 hg5 hv5)
        | go_in)
      go_roundw
      case rel => exact ⟨_, _, _, hss5⟩
      case measure => rw [hm5, hm0]; exact hlt

end Go.Proofs.YtdeejmkjhmpabaaGreatDoor

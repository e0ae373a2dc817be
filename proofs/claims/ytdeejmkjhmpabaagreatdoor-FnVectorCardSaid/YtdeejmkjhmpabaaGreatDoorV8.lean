/-
  Vector.Equal, impl.VectorEqual, where labels and values are the same.
-/
import Derived.Test.YtdeejmkjhmpabaaGreatDoorV7
namespace Go.Proofs.YtdeejmkjhmpabaaGreatDoor
open Go.RowKit Go.Lib Go.Maps Go.WideMaps

/-- The slice mv holds pointers to the samples; of their blocks P holds. -/
def VRowP (w : World) (mv : Option Addr) (L : List Pt) (P : Nat → Prop) : Prop :=
  ∀ k x, L[k]? = some x → ∃ b o q bm, mv = some ⟨b, o, none⟩ ∧ w.cell? ⟨b, o + k, none⟩ = some (ptr q) ∧ SmB w q bm x ∧ P q

theorem VRowP.below {w w' : World} {mv : Option Addr} {L : List Pt} {P : Nat → Prop} (h : VRowP w mv L P) (hb : Below w.heap.size w w') : VRowP w' mv L P := by
  intro k x hx
  obtain ⟨b, o, q, bm, ha, h1, h2, h3⟩ := h k x hx
  exact ⟨b, o, q, bm, ha, (hb.cell (p := ⟨b, o + k, none⟩) (World.block_lt_of_cell? w _ h1)).trans h1, h2.below hb, h3⟩

theorem VO.vrowP {w wr : World} {L : List Pt} {Q Bm : Nat → Nat} {v : Value} (h : VO w L L.length Q Bm v wr) : ∃ ad cp, v = .slice ad L.length cp ∧ VRowP wr ad L (fun q => w.heap.size ≤ q ∧ q < wr.heap.size) := by
  obtain ⟨ad, cp, hv, _, _, hnone, hsome⟩ := ownsRow_form h.row
  refine ⟨ad, cp, hv, fun k x hx => ?_⟩
  have hk := (List.getElem?_eq_some_iff.1 hx).1
  cases ad with
  | none => have := (hnone rfl).1; omega
  | some a =>
    obtain ⟨ha, _, _⟩ := hsome a rfl
    have hr := h.row
    rw [hv, ha] at hr
    obtain ⟨s1, _, _, s4, _⟩ := h.smp k x hk hx
    refine ⟨a.block, 0, Q k, Bm k, by rw [← ha], ?_, s1, s4, s1.lt⟩
    rw [Nat.zero_add, hr.cellAt k (by omega), List.getElem?_map, List.getElem?_range hk]
    rfl

/-- The times of samples. -/
def timesV (L : List Pt) : List Int := L.map fun x => x.2.2

set_option maxRecDepth 100000 in
set_option maxHeartbeats 3200000 in
/-- Vector.Equal. -/
theorem vector_equal (L1 L2 : List Pt) (n1 n2 c1 c2 : Nat) (m1 m2 : Option Addr) (P1 P2 : Nat → Prop) (hn1 : L1.length = n1) (hn2 : L2.length = n2) (hn12 : n1 ≤ 12) (hP : ∀ a b, P1 a → P2 b → a ≠ b) (hsame : n1 = n2 → ∀ (k : Nat) (x y : Pt), L1[k]? = some x → L2[k]? = some y → x.1 = y.1 ∧ x.2.1 = y.2.1) (hok : ∀ x ∈ L1, PtOk x) (w : World) (h1 : VRowP w m1 L1 P1) (h2 : VRowP w m2 L2 P2) :
    Calls Tryz.prog 42 #[.slice m1 n1 c1, .slice m2 n2 c2] w fun e w' => e = .returned (.bool (decide (timesV L1 = timesV L2))) ∧ Below w.heap.size w w' := by
  obtain ⟨r, hr⟩ : ∃ r, r = decide (timesV L1 = timesV L2) := ⟨_, rfl⟩
  rw [← hr]
  have HN1 := Lib.hid hn1
  have HN2 := Lib.hid hn2
  have HP := Lib.hid hP
  have HSAME := Lib.hid hsame
  have HOK := Lib.hid hok
  have H1 := Lib.hid h1
  have H2 := Lib.hid h2
  have HR := Lib.hid hr
  clear hn1 hn2 hP hsame hok h1 h2 hr
  by_cases hne : n1 = n2
  · subst hne
    go_enter Tryz.func42, Tryz.ntmps42
    go_wp2_with fail
    go_loopw [14] (fun v14 wr => ∃ k, k ≤ n1 ∧ v14 = .int .i64 (k : Int) ∧ Hid (∀ j, j < k → (timesV L1)[j]? = (timesV L2)[j]?) ∧ Hid (Below w.heap.size w wr)) (fun v14 _ => n1 - (intOf v14).toNat)
    case atStart => exact ⟨0, Nat.zero_le _, rfl, (fun j h => by omega), Below.refl _ _⟩
    case round =>
      obtain ⟨k, hk, rfl, HE, HB⟩ := hrel
      rename World => wr
      by_cases hlt : k < n1
      · obtain ⟨x, hx⟩ : ∃ x, L1[k]? = some x := ⟨L1[k]'(by rw [HN1.out]; exact hlt), List.getElem?_eq_getElem _⟩
        obtain ⟨y, hy⟩ : ∃ y, L2[k]? = some y := ⟨L2[k]'(by rw [HN2.out]; exact hlt), List.getElem?_eq_getElem _⟩
        obtain ⟨b1, o1, q1, bm1, rfl, d1, s1, p1⟩ := (H1.out.below HB.out) k x hx
        obtain ⟨b2, o2, q2, bm2, rfl, d2, s2, p2⟩ := (H2.out.below HB.out) k y hy
        obtain ⟨e1, e2⟩ := HSAME.out (by first | rfl | trivial) k x y hx hy
        have hokx := HOK.out x (List.mem_of_getElem? hx)
        obtain ⟨l, e8, ms⟩ := x
        obtain ⟨l', e8', ms'⟩ := y
        dsimp only at e1 e2
        subst e1 e2
        have hse := sample_equal l e8 ms ms' q1 q2 bm1 bm2 (HP.out q1 q2 p1 p2) hokx.2.1.1 hokx.2.1.2.names wr s1 s2
        have t1 : (timesV L1)[k]? = some ms := by unfold timesV; rw [List.getElem?_map, hx]; rfl
        have t2 : (timesV L2)[k]? = some ms' := by unfold timesV; rw [List.getElem?_map, hy]; rfl
        have HT := Lib.hid (And.intro t1 t2)
        unfold ptr at d1 d2 hse
        clear hx hy s1 s2 p1 p2 hokx t1 t2
        by_cases hm : ms = ms'
        · subst hm
          rw [show (ms == ms) = true by simp] at hse
          go_wp2_with (go_at_call 66; (with_reducible refine hse.mono ?_); rintro e w2 ⟨rfl, hb2⟩)
          go_roundw
          case rel =>
            refine ⟨k + 1, by omega, by go_num, fun j hj => ?_, HB.out.trans (hb2.mono HB.out.size)⟩
            by_cases hjk : j = k
            · subst hjk; rw [HT.out.1, HT.out.2]
            · exact HE.out j (by omega)
          case measure => simp [intOf]; omega
        · have hrf : r = false := by
            rw [HR.out]
            refine decide_eq_false fun h => hm ?_
            have := HT.out.1.symm.trans ((congrArg (·[k]?) h).trans HT.out.2)
            exact Option.some.inj this
          subst hrf
          rw [show (ms == ms') = false by simpa using hm] at hse
          clear hm
          go_wp2_with (go_at_call 66; (with_reducible refine hse.mono ?_); rintro e w2 ⟨rfl, hb2⟩)
          go_ret
          exact ⟨rfl, HB.out.trans (hb2.mono HB.out.size)⟩
      · obtain rfl : n1 = k := by omega
        have hrt : r = true := by
          rw [HR.out]
          refine decide_eq_true (List.ext_getElem? fun j => ?_)
          by_cases hj : j < n1
          · exact HE.out j hj
          · rw [List.getElem?_eq_none (by rw [timesV, List.length_map, HN1.out]; omega), List.getElem?_eq_none (by rw [timesV, List.length_map, HN2.out]; omega)]
        subst hrt
        go_wp2
        go_ret
        exact ⟨rfl, HB.out⟩
  · have hrf : r = false := by
      rw [HR.out]
      refine decide_eq_false fun h => hne ?_
      have := congrArg List.length h
      rw [timesV, timesV, List.length_map, List.length_map, HN1.out, HN2.out] at this
      exact this
    subst hrf
    have hn : ((n1 : Int) == (n2 : Int)) = false := by simpa using fun h => hne (by omega)
    clear hne
    go_enter Tryz.func42, Tryz.ntmps42
    go_wp2
    go_ret
    exact ⟨rfl, Below.refl _ _⟩

end Go.Proofs.YtdeejmkjhmpabaaGreatDoor

/-
  Vector.String.
-/
import Derived.Test.YtdeejmkjhmpabaaGreatDoorV3
namespace Go.Proofs.YtdeejmkjhmpabaaGreatDoor
open Go.RowKit Go.Lib Go.Maps Go.WideMaps

/-- The slice mv holds pointers to the samples. -/
def VRow (w : World) (mv : Option Addr) (L : List Pt) : Prop :=
  ∀ k x, L[k]? = some x → ∃ b o q bm, mv = some ⟨b, o, none⟩ ∧ w.cell? ⟨b, o + k, none⟩ = some (ptr q) ∧ SmB w q bm x

theorem VRow.below {w w' : World} {mv : Option Addr} {L : List Pt} (h : VRow w mv L) (hb : Below w.heap.size w w') : VRow w' mv L := by
  intro k x hx
  obtain ⟨b, o, q, bm, ha, h1, h2⟩ := h k x hx
  exact ⟨b, o, q, bm, ha, (hb.cell (p := ⟨b, o + k, none⟩) (World.block_lt_of_cell? w _ h1)).trans h1, h2.below hb⟩

/-- The lines of a vector. -/
def linesV (L : List Pt) : List (List UInt8) := L.map smT

set_option maxRecDepth 100000 in
set_option maxHeartbeats 3200000 in
/-- Vector.String. -/
theorem vector_string (L : List Pt) (n c : Nat) (mv : Option Addr) (hn : L.length = n) (hn12 : n ≤ 12) (hok : ∀ x ∈ L, PtOk x) (w : World) (hrow : VRow w mv L) (hT : Tabs w) :
    Calls Tryz.prog 40 #[.slice mv n c] w fun e w' => e = .returned (str (Lib.join (linesV L) [10])) ∧ Below w.heap.size w w' := by
  obtain ⟨j0, hj0, hj1, hj2, hj3⟩ := info_parts info9
  obtain ⟨T, hT0⟩ : ∃ T, T = linesV L := ⟨_, rfl⟩
  have hTl : n = T.length := by rw [hT0]; simp [linesV, hn]
  have hT6 : ∀ t ∈ T, t.length ≤ 60000 := fun t ht => by
    rw [hT0] at ht
    obtain ⟨k, hk, rfl⟩ := List.mem_map.1 ht
    exact Nat.le_trans (smT_len (hok k hk)) (by decide)
  have hTg : ∀ k x, L[k]? = some x → T[k]? = some (smT x) := fun k x hk => by
    rw [hT0, linesV, List.getElem?_map, hk]
    rfl
  rw [← hT0]
  obtain ⟨J, hJ⟩ : ∃ J, J = Lib.join T [10] := ⟨_, rfl⟩
  rw [← hJ]
  have HJ := Lib.hid hJ
  clear hJ
  have HN := Lib.hid hn
  have HOK := Lib.hid hok
  have HROW := Lib.hid hrow
  have HT := Lib.hid hT
  have HTL := Lib.hid hTl
  have HT6 := Lib.hid hT6
  have HTG := Lib.hid hTg
  clear hn hok hrow hT hT0 hTl hT6 hTg
  go_enter Tryz.func40, Tryz.ntmps40
  go_wp2_with (first
    | (at_make; refine wpList_make_full _ rfl _ _ 57 rfl w.heap.size 9 j0 (.string ⟨#[]⟩) 1 Tryz.underlying57 hj0 hj1 hj2 _ _ _ _ n rfl rfl rfl rfl (by rw [hj3]; omega) (by unfold maxLen; omega) (Nat.le_refl _) ?_; intro w3 hrow3 hg3; have hRS := Lib.hid (RS.start HTL.out hrow3 hg3); clear hrow3 hg3)
    | go_in)
  go_loopw [11] (fun v11 wq => ∃ k, k ≤ n ∧ v11 = .int .i64 (k : Int) ∧ Hid (RS w w.heap.size T k wq)) (fun v11 _ => n - (intOf v11).toNat)
  case atStart => exact ⟨0, Nat.zero_le _, rfl, hRS.out⟩
  case round =>
    obtain ⟨k, hk, rfl, HR⟩ := hrel
    rename World => wq
    by_cases hlt2 : k < n
    · obtain ⟨x, hx⟩ : ∃ x, L[k]? = some x := ⟨L[k]'(by rw [HN.out]; exact hlt2), List.getElem?_eq_getElem _⟩
      obtain ⟨b, o, q, bm, rfl, hc, hS⟩ := (HROW.out.below HR.out.bel) k x hx
      obtain ⟨bv, k0, k1, k2, k3, hM, hbv, _⟩ := hS
      have hstr := sample_string x bm bv (HOK.out x (List.mem_of_getElem? hx)) hbv wq hM (HT.out.below HR.out.bel)
      have htx := HTG.out k x hx
      obtain ⟨t, hte⟩ : ∃ t, t = smT x := ⟨_, rfl⟩
      obtain ⟨ms, hms⟩ : ∃ ms, ms = x.2.2 := ⟨_, rfl⟩
      rw [← hte] at hstr htx
      rw [← hms] at hstr k2
      have HX := Lib.hid htx
      unfold ptr at hc
      clear hM hbv hx htx hte hms
      go_wp2_with (go_at_call 65; (with_reducible refine hstr.mono ?_); rintro e w5 ⟨rfl, hb5⟩; have hr5 := Lib.hid (HR.out.below hb5); have f1 := hr5.out.cell (by rw [← HTL.out]; exact hlt2); have f2 := hr5.out.frozen k; clear hb5)
      go_roundw
      case rel => exact ⟨k + 1, by omega, by go_num, hr5.out.step HX.out⟩
      case measure => simp [intOf]; omega
    · obtain rfl : n = k := by omega
      have hR := HR.out
      have hlen := HTL.out
      rw [hlen] at hR
      have hj := join_call T [10] w.heap.size T.length 60000 wq hR.cells hR.lt.2 (by omega) (Nat.le_refl _) HT6.out (by simp)
      rw [← hlen] at hj
      rw [← HJ.out] at hj
      clear hlen hR
      go_wp2_with (go_at_call 26; (with_reducible refine hj.mono ?_); rintro e w6 ⟨rfl, hb6⟩)
      go_ret
      exact ⟨rfl, HR.out.bel.trans (hb6.mono HR.out.bel.size)⟩

theorem VO.vrow {w wr : World} {L : List Pt} {Q Bm : Nat → Nat} {v : Value} (h : VO w L L.length Q Bm v wr) : ∃ ad cp, v = .slice ad L.length cp ∧ VRow wr ad L := by
  obtain ⟨ad, cp, hv, _, _, hnone, hsome⟩ := ownsRow_form h.row
  refine ⟨ad, cp, hv, fun k x hx => ?_⟩
  have hk := (List.getElem?_eq_some_iff.1 hx).1
  cases ad with
  | none => have := (hnone rfl).1; omega
  | some a =>
    obtain ⟨ha, _, _⟩ := hsome a rfl
    have hr := h.row
    rw [hv, ha] at hr
    refine ⟨a.block, 0, Q k, Bm k, by rw [← ha], ?_, (h.smp k x hk hx).1⟩
    rw [Nat.zero_add, hr.cellAt k (by omega), List.getElem?_map, List.getElem?_range hk]
    rfl

end Go.Proofs.YtdeejmkjhmpabaaGreatDoor

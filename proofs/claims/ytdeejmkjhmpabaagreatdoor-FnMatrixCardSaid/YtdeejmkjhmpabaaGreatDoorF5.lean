import Derived.Test.YtdeejmkjhmpabaaGreatDoorPb
namespace Go.Proofs.YtdeejmkjhmpabaaGreatDoor
open Go.RowKit Go.Lib

def sgn (neg : Bool) : List Value := if neg then [.int .u8 45] else []

/-- fmtEFG at 'f' in the shortest form. -/
theorem fmt_any (g b nd : Nat) (dp : Int) (neg : Bool) (D : Nat → Int) (w : World) (hO : OB g b w 0 [] w) (hgb : g ≠ b) (h1 : 1 ≤ nd) (hlen : (fText D nd dp).length ≤ 20) (hD : ∀ t, t < nd → w.cell? ⟨b, t, none⟩ = some (.int .u8 (D t))) (pr : Int) (hpr : pr = max ((nd : Int) - dp) 0) :
    Calls Tryz.prog 202 #[.slice (some ⟨g, 0, none⟩) 0 24, .bool neg, .slice (some ⟨b, 0, none⟩) 32 32, .int .i64 dp, .int .i64 (nd : Int), .int .i64 pr, .int .u8 102, .bool true] w fun e w' =>
      e = .returned (.slice (some ⟨g, 0, none⟩) (sgn neg ++ fText D nd dp).length 24) ∧ OB g b w (sgn neg ++ fText D nd dp).length (sgn neg ++ fText D nd dp) w' := by
  have hl := hlen
  unfold fText at hl ⊢
  by_cases c1 : (nd : Int) ≤ dp
  · rw [if_pos c1] at hl ⊢
    obtain ⟨z, rfl⟩ : ∃ z : Nat, dp = ((nd + z : Nat) : Int) := ⟨(dp - nd).toNat, by omega⟩
    have e : (((nd + z : Nat) : Int)).toNat - nd = z := by omega
    rw [e] at hl ⊢
    have hp0 : pr = 0 := by omega
    subst hp0
    have hdl : (digs D 0 nd).length = nd := by simp [digs]
    simp only [List.length_append, hdl, List.length_replicate] at hl
    cases neg with
    | false =>
      refine (fmt_one g b (nd + z) nd z 0 0 0 0 [] D w hO hgb h1 rfl (by omega) hD).mono fun e w' ⟨he, h⟩ => ?_
      have el : (sgn false ++ (digs D 0 nd ++ List.replicate z (Value.int .u8 48))).length = 0 + nd + z := by simp [sgn, hdl]
      rw [el]
      exact ⟨he, by simpa [sgn] using h⟩
    | true =>
      refine (fmt_onen g b (nd + z) nd z 0 0 0 0 [] D w hO hgb h1 rfl (by omega) hD).mono fun e w' ⟨he, h⟩ => ?_
      have el : (sgn true ++ (digs D 0 nd ++ List.replicate z (Value.int .u8 48))).length = 0 + 1 + nd + z := by simp [sgn, hdl]; omega
      rw [el]
      exact ⟨he, by simpa [sgn] using h⟩
  · rw [if_neg c1] at hl ⊢
    by_cases c2 : 0 < dp
    · rw [if_pos c2] at hl ⊢
      obtain ⟨q, rfl⟩ : ∃ q : Nat, dp = (q : Int) := ⟨dp.toNat, by omega⟩
      obtain ⟨fr, hfr⟩ : ∃ fr : Nat, q + fr = nd := ⟨nd - q, by omega⟩
      have e : (q : Int).toNat = q := by omega
      have e2 : nd - q = fr := by omega
      rw [e, e2] at hl ⊢
      have hp0 : pr = (fr : Int) := by omega
      subst hp0
      have hdl : (digs D 0 q).length = q := by simp [digs]
      have hdl2 : (digs D q fr).length = fr := by simp [digs]
      simp only [List.length_append, hdl, hdl2, List.length_cons, List.length_nil] at hl
      cases neg with
      | false =>
        refine (fmt_two g b q nd 0 fr 0 0 0 [] D w hO hgb (by omega) hfr (by omega) (by omega) hD).mono fun e w' ⟨he, h⟩ => ?_
        have el : (sgn false ++ (digs D 0 q ++ [Value.int .u8 46] ++ digs D q fr)).length = 0 + q + 1 + fr := by simp [sgn, hdl, hdl2]; omega
        rw [el]
        exact ⟨he, by simpa [sgn] using h⟩
      | true =>
        refine (fmt_twon g b q nd 0 fr 0 0 0 [] D w hO hgb (by omega) hfr (by omega) (by omega) hD).mono fun e w' ⟨he, h⟩ => ?_
        have el : (sgn true ++ (digs D 0 q ++ [Value.int .u8 46] ++ digs D q fr)).length = 0 + 1 + q + 1 + fr := by simp [sgn, hdl, hdl2]; omega
        rw [el]
        exact ⟨he, by simpa [sgn] using h⟩
    · rw [if_neg c2] at hl ⊢
      obtain ⟨q, rfl⟩ : ∃ q : Nat, dp = -(q : Int) := ⟨(-dp).toNat, by omega⟩
      have e : (-(-(q : Int))).toNat = q := by omega
      rw [e] at hl ⊢
      have hp0 : pr = ((nd + q : Nat) : Int) := by omega
      subst hp0
      have hdl : (digs D 0 nd).length = nd := by simp [digs]
      simp only [List.length_append, hdl, List.length_replicate, List.length_cons, List.length_nil] at hl
      cases neg with
      | false =>
        refine (fmt_three g b 0 nd 0 0 (nd + q) q 0 [] D w hO hgb (by omega) rfl (by omega) hD).mono fun e w' ⟨he, h⟩ => ?_
        have el : (sgn false ++ ([Value.int .u8 48] ++ [Value.int .u8 46] ++ List.replicate q (Value.int .u8 48) ++ digs D 0 nd)).length = 0 + 1 + 1 + q + nd := by simp [sgn, hdl]; omega
        rw [el]
        exact ⟨he, by simpa [sgn] using h⟩
      | true =>
        refine (fmt_threen g b 0 nd 0 0 (nd + q) q 0 [] D w hO hgb (by omega) rfl (by omega) hD).mono fun e w' ⟨he, h⟩ => ?_
        have el : (sgn true ++ ([Value.int .u8 48] ++ [Value.int .u8 46] ++ List.replicate q (Value.int .u8 48) ++ digs D 0 nd)).length = 0 + 1 + 1 + 1 + q + nd := by simp [sgn, hdl]; omega
        rw [el]
        exact ⟨he, by simpa [sgn] using h⟩

end Go.Proofs.YtdeejmkjhmpabaaGreatDoor

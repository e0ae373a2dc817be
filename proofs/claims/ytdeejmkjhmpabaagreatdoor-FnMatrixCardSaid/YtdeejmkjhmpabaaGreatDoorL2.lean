/-
  spec.Legacy, laws.ordered, setFits; the bounds zzFits.
-/
import Derived.Test.YtdeejmkjhmpabaaGreatDoorL1
namespace Go.Proofs.YtdeejmkjhmpabaaGreatDoor
open Go.RowKit Go.Lib Go.Maps Go.WideMaps

set_option maxRecDepth 100000 in
set_option maxHeartbeats 3200000 in
/-- spec.Legacy: it says something. -/
theorem legacy_any (s : List UInt8) (hs : s.length ≤ 9223372036854775807) (w : World) : Calls Tryz.prog 68 #[.string ⟨s.toArray⟩, .bool false] w fun e w' => SaysB True e ∧ w = w' := by
  obtain ⟨n, hn⟩ : ∃ n, n = s.length := ⟨_, rfl⟩
  have HN := Lib.hid hn
  clear hn
  go_enter Tryz.func68, Tryz.ntmps68
  go_wp2_with fail
  go_loopw [5] (fun v5 wr => ∃ i, i ≤ s.length ∧ v5 = .int .i64 (i : Int) ∧ w = wr) (fun v5 _ => s.length - (intOf v5).toNat)
  case atStart => exact ⟨0, Nat.zero_le _, rfl, by first | rfl | trivial⟩
  case round =>
    obtain ⟨i, hk, rfl, rfl⟩ := hrel
    by_cases hlt : i < s.length
    · obtain ⟨x, hx⟩ : ∃ x, s[i] = x := ⟨_, rfl⟩
      go_wp2
      all_goals first
        | (go_ret
           exact ⟨SaysB.no _, rfl⟩)
        | (go_roundw
           case rel => exact ⟨i + 1, by omega, by go_num, by first | rfl | trivial⟩
           case measure => simp [intOf]; omega)
    · have hkn : i = s.length := by omega
      subst hkn
      go_wp2
      go_ret
      exact ⟨SaysB.of fun _ => trivial, rfl⟩

set_option maxRecDepth 100000 in
set_option maxHeartbeats 400000 in
/-- laws.ordered. -/
theorem ordered_any (l : List Lab) (n : Nat) (a : Option Addr) (c : Nat) (hn : l.length = n) (hb : n ≤ 9223372036854775807) (w : World) (hL : LabsAt w a l) :
    Calls Tryz.prog 69 #[.slice a n c] w fun e w' => SaysB (Few l ∧ Ord l) e ∧ Below w.heap.size w w' := by
  have h1 := few_any l n a c hn hb w hL
  have h2 := inorder_any l n a c hn hb w hL
  clear hL hn hb
  go_enter Tryz.func69, Tryz.ntmps69
  go_wp2_with (first
    | (go_at_call 94; (with_reducible refine h1.mono ?_); rintro e w1 ⟨⟨b1, rfl, hb1⟩, rfl⟩; cases b1)
    | (go_at_call 95; (with_reducible refine h2.mono ?_); rintro e w1 ⟨⟨b2, rfl, hb2⟩, hB⟩))
  all_goals go_ret
  · exact ⟨SaysB.no _, Below.refl _ _⟩
  · exact ⟨SaysB.of fun h => ⟨hb1 trivial, hb2 h⟩, hB⟩

set_option maxRecDepth 100000 in
set_option maxHeartbeats 1600000 in
/-- laws.setFits. -/
theorem setfits_any (l : List Lab) (n : Nat) (a : Option Addr) (c : Nat) (hn : l.length = n) (hb : n ≤ 9223372036854775807) (hs : ∀ x ∈ l, x.1.length ≤ 9223372036854775807) (w : World) (hL : LabsAt w a l) :
    Calls Tryz.prog 44 #[.slice a n c] w fun e w' => SaysB (Few l ∧ Ord l) e ∧ Below w.heap.size w w' := by
  have h1 := ordered_any l n a c hn hb w hL
  have HN := Lib.hid hn
  have HL := Lib.hid hL
  have HS := Lib.hid hs
  clear hn hL hs
  go_enter Tryz.func44, Tryz.ntmps44
  go_wp2_with fail
  go_loopw [3] (fun v3 wr => ∃ i, i ≤ n ∧ v3 = .int .i64 (i : Int) ∧ w = wr) (fun v3 _ => n - (intOf v3).toNat)
  case atStart => exact ⟨0, Nat.zero_le _, rfl, by first | rfl | trivial⟩
  case round =>
    obtain ⟨i, hk, rfl, rfl⟩ := hrel
    by_cases hlt : i < n
    · obtain ⟨x, hx⟩ : ∃ x, l[i]? = some x := ⟨l[i]'(by rw [HN.out]; exact hlt), List.getElem?_eq_getElem _⟩
      obtain ⟨b, o, rfl, c1, c2⟩ := HL.out i x hx
      have hle := legacy_any x.1 (HS.out x (List.mem_of_getElem? hx)) w
      unfold str at c1 c2
      obtain ⟨x1, x2⟩ := x
      dsimp only at c1 c2 hle
      clear hx
      go_wp2_with (go_at_call 68; (with_reducible refine hle.mono ?_); rintro e w1 ⟨⟨b1, rfl, _⟩, rfl⟩; cases b1)
      · go_ret
        exact ⟨SaysB.no _, Below.refl _ _⟩
      · go_roundw
        case rel => exact ⟨i + 1, by omega, by go_num, by first | rfl | trivial⟩
        case measure => simp [intOf]; omega
    · have hkn : i = n := by omega
      subst hkn
      go_wp2_with (go_at_call 69; (with_reducible refine h1.mono ?_); rintro e w1 ⟨⟨b1, rfl, hb1⟩, hB⟩)
      go_ret
      exact ⟨SaysB.of hb1, hB⟩

end Go.Proofs.YtdeejmkjhmpabaaGreatDoor

import Derived.Test.YtdeejmkjhmpabaaGreatDoorFb
import Derived.Deep.DeepAppendRoom
namespace Go.Proofs.YtdeejmkjhmpabaaGreatDoor
open Go.RowKit Go.Lib

theorem info5 : (Tryz.prog.info? 5).map (fun i => (i.zero, i.size, i.bytes)) = some (some (.int .u8 0), 1, 1) := by kernel_rfl

/-- The call's own row of bytes (block g, room for 24) holds xs; below g nothing has turned; the digits' buffer (block b) reads as it did. -/
structure OB (g b : Nat) (w0 : World) (n : Nat) (xs : List Value) (w : World) : Prop where
  own : w.ownsRow g 5 1 (.slice (some ⟨g, 0, none⟩) n 24) n xs
  low : Below g w0 w
  src : ∀ t, w.cell? ⟨b, t, none⟩ = w0.cell? ⟨b, t, none⟩
  bs : b < w.heap.size
  gs : g < w.heap.size

theorem wp_byte {ops : Array Oper} {rest : List Oper} {o : Oper} {a : Act} {Q : Exit → Act → World → Prop} (w : World) (hgd : o.guard = none) (s x : Operand)
    (ho : o.op = .call { callee := .builtin .append, args := #[s, x], argTypes := #[102, 102] }) (g b : Nat) (w0 : World) (n : Nat) (xs : List Value) (c : Int) (hb : OB g b w0 n xs w) (hgb : g ≠ b)
    (hs : a.eval s = .slice (some ⟨g, 0, none⟩) n 24) (hx : a.eval x = .slice (some ⟨w.heap.size, 0, none⟩) 1 1) (hn : n + 1 ≤ 24)
    (h : ∀ w', OB g b w0 (n + 1) (xs ++ [.int .u8 c]) w' → wpList Tryz.prog ops Q rest (a.put o.dst (.slice (some ⟨g, 0, none⟩) (n + 1) 24)) w') :
    wpList Tryz.prog ops Q (o :: rest) a (w.alloc (.cells #[.int .u8 c] 5)) := by
  obtain ⟨i, hi, hzz⟩ := Option.map_eq_some_iff.1 info5
  simp only [Prod.mk.injEq] at hzz
  obtain ⟨_, hs1, _⟩ := hzz
  have hg0 := World.grownBy_alloc w (.cells #[.int .u8 c] 5) (some g)
  have hown : (w.alloc (.cells #[.int .u8 c] 5)).ownsRow g 5 1 (.slice (some ⟨g, 0, none⟩) n 24) n xs := hb.own.alloc _
  refine wpList_append_own_spare _ hgd s x 102 ho g 5 i 1 Tryz.underlying102 hi hs1 g n 24 xs hs hown ⟨w.heap.size, 0, none⟩ 1 1 [.int .u8 c] hx rfl ?_ ?_ hn ?_
  · intro j u hj
    match j, hj with
    | 0, hj => simp at hj; subst hj; simp [Addr.add]
    | (j + 1), hj => simp at hj
  · intro u hu; simp at hu; subst hu; rfl
  · intro w' ho' hg
    refine h w' ⟨ho', ?_, fun t => ?_, ?_, ?_⟩
    · exact (hb.low.alloc (Nat.le_of_lt hb.gs) _).grown hg (by have := hb.gs; simp; omega) (fun k hk => by cases hk; exact Nat.le_refl _)
    · have h1 : w'.heap[b]? = (w.alloc (.cells #[.int .u8 c] 5)).heap[b]? := hg.block b (by have := hb.bs; simp; omega) (by simp; omega)
      rw [World.cell?_of_block (a := ⟨b, t, none⟩) h1, ← hb.src t]
      exact World.cell?_of_block (Below.heap_alloc w _ b hb.bs)
    · have := hg.size; have := hb.bs; simp at *; omega
    · have := hg.size; have := hb.gs; simp at *; omega

def digs (D : Nat → Int) (a k : Nat) : List Value := (List.range k).map fun t => .int .u8 (D (a + t))
theorem digs_succ (D : Nat → Int) (a k : Nat) : digs D a (k + 1) = digs D a k ++ [.int .u8 (D (a + k))] := by simp [digs, List.range_succ]
theorem zeros_succ (k : Nat) : List.replicate (k + 1) (Value.int .u8 48) = List.replicate k (Value.int .u8 48) ++ [.int .u8 48] := List.replicate_succ'

theorem OB.zero {g b : Nat} {w0 w : World} {n : Nat} {xs : List Value} (h : OB g b w0 n xs w) : OB g b w0 (n + 0) (xs ++ []) w := by simpa using h
theorem OB.dig {g b : Nat} {w0 w : World} {n k : Nat} {xs : List Value} {D : Nat → Int} {a : Nat} (h : OB g b w0 (n + k + 1) (xs ++ digs D a k ++ [.int .u8 (D (a + k))]) w) : OB g b w0 (n + (k + 1)) (xs ++ digs D a (k + 1)) w := by
  rw [digs_succ, ← List.append_assoc]; exact h
theorem OB.dig0 {g b : Nat} {w0 w : World} {n k : Nat} {xs : List Value} {D : Nat → Int} (h : OB g b w0 (n + k + 1) (xs ++ digs D 0 k ++ [.int .u8 (D k)]) w) : OB g b w0 (n + (k + 1)) (xs ++ digs D 0 (k + 1)) w := by
  rw [digs_succ, ← List.append_assoc, Nat.zero_add]; exact h
theorem OB.nul {g b : Nat} {w0 w : World} {n k : Nat} {xs : List Value} (h : OB g b w0 (n + k + 1) (xs ++ List.replicate k (.int .u8 48) ++ [.int .u8 48]) w) : OB g b w0 (n + (k + 1)) (xs ++ List.replicate (k + 1) (.int .u8 48)) w := by
  rw [zeros_succ, ← List.append_assoc]; exact h

set_option maxRecDepth 100000 in
set_option maxHeartbeats 4000000 in
theorem fmt_one (g b dp nd z _fr _pr _q n0 : Nat) (xs0 : List Value) (D : Nat → Int) (w : World) (hO : OB g b w n0 xs0 w) (hgb : g ≠ b) (h1 : 1 ≤ nd) (h2 : nd + z = dp) (h3 : n0 + dp ≤ 22) (hD : ∀ t, t < nd → w.cell? ⟨b, t, none⟩ = some (.int .u8 (D t))) :
    Calls Tryz.prog 202 #[.slice (some ⟨g, 0, none⟩) n0 24, .bool false, .slice (some ⟨b, 0, none⟩) 32 32, .int .i64 (dp : Int), .int .i64 (nd : Int), .int .i64 0, .int .u8 102, .bool true] w fun e w' => e = .returned (.slice (some ⟨g, 0, none⟩) (n0 + nd + z) 24) ∧ OB g b w (n0 + nd + z) (xs0 ++ digs D 0 nd ++ List.replicate z (.int .u8 48)) w' := by
  have hmin : min (nd : Int) (dp : Int) = (nd : Int) := by omega
  have hmax : max (nd : Int) 0 = (nd : Int) := by omega
  have hsub : (dp : Int) - (nd : Int) = (z : Int) := by omega
  have hdp0 : 0 < dp := by omega
  have hnd32 : nd ≤ 32 := by omega
  have hdp32 : dp ≤ 32 := by omega
  have hn : n0 + nd + z ≤ 22 := by omega
  clear h2 h3
  go_enter Tryz.func202, Tryz.ntmps202
  go_wp2_with fail
  go_loopw [0, 191] (fun v0 v1 wr => ∃ k, k ≤ nd ∧ v1 = .int .i64 (k : Int) ∧ v0 = .slice (some ⟨g, 0, none⟩) (n0 + k) 24 ∧ OB g b w (n0 + k) (xs0 ++ digs D 0 k) wr) (fun _ v1 _ => nd - (intOf v1).toNat)
  case atStart => exact ⟨0, Nat.zero_le _, rfl, rfl, hO.zero⟩
  case round =>
    obtain ⟨k, hk, rfl, rfl, hOk⟩ := hrel
    rename World => wr
    by_cases hlt : k < nd
    · have hc : wr.cell? ⟨b, k, none⟩ = some (.int .u8 (D k)) := by rw [hOk.src]; exact hD _ (by omega)
      go_wp2_with (at_builtin; refine wp_byte wr rfl _ _ rfl g b w (n0 + k) _ (D k) hOk hgb rfl rfl (by omega) ?_; intro w' hO')
      go_roundw
      case rel => exact ⟨k + 1, by omega, by go_num, rfl, hO'.dig0⟩
      case measure => simp [intOf]; omega
    · obtain rfl : nd = k := by omega
      clear hlt hk
      go_wp2_with fail
      go_loopw [0, 203] (fun v0 v1 wr => ∃ k, k ≤ z ∧ v1 = .int .i64 (k : Int) ∧ v0 = .slice (some ⟨g, 0, none⟩) (n0 + nd + k) 24 ∧ OB g b w (n0 + nd + k) (xs0 ++ digs D 0 nd ++ List.replicate k (.int .u8 48)) wr) (fun _ v1 _ => z - (intOf v1).toNat)
      case atStart => exact ⟨0, Nat.zero_le _, rfl, rfl, hOk.zero⟩
      case round =>
        obtain ⟨k, hk, rfl, rfl, hOk⟩ := hrel
        rename World => wr
        by_cases hlt : k < z
        · go_wp2_with (at_builtin; refine wp_byte wr rfl _ _ rfl g b w (n0 + nd + k) _ (48) hOk hgb rfl rfl (by omega) ?_; intro w' hO')
          go_roundw
          case rel => exact ⟨k + 1, by omega, by go_num, rfl, hO'.nul⟩
          case measure => simp [intOf]; omega
        · obtain rfl : z = k := by omega
          clear hlt hk
          go_wp2_with fail
          go_ret
          exact ⟨rfl, hOk⟩

set_option maxRecDepth 100000 in
set_option maxHeartbeats 4000000 in
theorem fmt_two (g b dp nd _z fr _pr _q n0 : Nat) (xs0 : List Value) (D : Nat → Int) (w : World) (hO : OB g b w n0 xs0 w) (hgb : g ≠ b) (h1 : 1 ≤ dp) (h2 : dp + fr = nd) (hfr : 1 ≤ fr) (h3 : n0 + nd ≤ 21) (hD : ∀ t, t < nd → w.cell? ⟨b, t, none⟩ = some (.int .u8 (D t))) :
    Calls Tryz.prog 202 #[.slice (some ⟨g, 0, none⟩) n0 24, .bool false, .slice (some ⟨b, 0, none⟩) 32 32, .int .i64 (dp : Int), .int .i64 (nd : Int), .int .i64 (fr : Int), .int .u8 102, .bool true] w fun e w' => e = .returned (.slice (some ⟨g, 0, none⟩) (n0 + dp + 1 + fr) 24) ∧ OB g b w (n0 + dp + 1 + fr) (xs0 ++ digs D 0 dp ++ [.int .u8 46] ++ digs D dp fr) w' := by
  have hmin : min (nd : Int) (dp : Int) = (dp : Int) := by omega
  have hmax : max (dp : Int) 0 = (dp : Int) := by omega
  have hneg : max 0 (-(dp : Int)) = 0 := by omega
  have hmin2 : min (fr : Int) 0 = 0 := by omega
  have hsub2 : (nd : Int) - (dp : Int) = (fr : Int) := by omega
  have hmax2 : max 0 (fr : Int) = (fr : Int) := by omega
  have hmin3 : min (fr : Int) (fr : Int) = (fr : Int) := by omega
  have hdp0 : 0 < dp := by omega
  have hfr0 : 0 < fr := by omega
  have hnd32 : nd ≤ 32 := by omega
  have hdp32 : dp ≤ 32 := by omega
  have hn : n0 + dp + fr ≤ 21 := by omega
  have hD' : ∀ t, t < dp + fr → w.cell? ⟨b, t, none⟩ = some (.int .u8 (D t)) := fun t ht => hD t (by omega)
  clear h2 h3 hD
  have hD := hD'
  clear hD'
  go_enter Tryz.func202, Tryz.ntmps202
  go_wp2_with fail
  go_loopw [0, 191] (fun v0 v1 wr => ∃ k, k ≤ dp ∧ v1 = .int .i64 (k : Int) ∧ v0 = .slice (some ⟨g, 0, none⟩) (n0 + k) 24 ∧ OB g b w (n0 + k) (xs0 ++ digs D 0 k) wr) (fun _ v1 _ => dp - (intOf v1).toNat)
  case atStart => exact ⟨0, Nat.zero_le _, rfl, rfl, hO.zero⟩
  case round =>
    obtain ⟨k, hk, rfl, rfl, hOk⟩ := hrel
    rename World => wr
    by_cases hlt : k < dp
    · have hc : wr.cell? ⟨b, k, none⟩ = some (.int .u8 (D k)) := by rw [hOk.src]; exact hD _ (by omega)
      go_wp2_with (at_builtin; refine wp_byte wr rfl _ _ rfl g b w (n0 + k) _ (D k) hOk hgb rfl rfl (by omega) ?_; intro w' hO')
      go_roundw
      case rel => exact ⟨k + 1, by omega, by go_num, rfl, hO'.dig0⟩
      case measure => simp [intOf]; omega
    · obtain rfl : dp = k := by omega
      clear hlt hk
      go_wp2_with fail
      refine wp_loop_rounds 1 ?_
      rw [rounds_succ]
      go_wp2_with (at_builtin; refine wp_byte wr rfl _ _ rfl g b w (n0 + dp) _ 46 hOk hgb rfl rfl (by omega) ?_; intro w1 hO1)
      refine wp_loop_rounds 1 ?_
      rw [rounds_succ]
      go_wp2_with fail
      go_loopw [0, 247] (fun v0 v1 wr => ∃ k, k ≤ fr ∧ v1 = .int .i64 (k : Int) ∧ v0 = .slice (some ⟨g, 0, none⟩) (n0 + dp + 1 + k) 24 ∧ OB g b w (n0 + dp + 1 + k) (xs0 ++ digs D 0 dp ++ [.int .u8 46] ++ digs D dp k) wr) (fun _ v1 _ => fr - (intOf v1).toNat)
      case atStart => exact ⟨0, Nat.zero_le _, rfl, rfl, hO1.zero⟩
      case round =>
        obtain ⟨k, hk, rfl, rfl, hOk⟩ := hrel
        rename World => wr
        by_cases hlt : k < fr
        · have hc : wr.cell? ⟨b, dp + k, none⟩ = some (.int .u8 (D (dp + k))) := by rw [hOk.src]; exact hD _ (by omega)
          go_wp2_with (at_builtin; refine wp_byte wr rfl _ _ rfl g b w (n0 + dp + 1 + k) _ (D (dp + k)) hOk hgb rfl rfl (by omega) ?_; intro w' hO')
          go_roundw
          case rel => exact ⟨k + 1, by omega, by go_num, rfl, hO'.dig⟩
          case measure => simp [intOf]; omega
        · obtain rfl : fr = k := by omega
          clear hlt hk
          go_wp2_with fail
          refine wp_loop_rounds 1 ?_
          rw [rounds_succ]
          go_wp2_with fail
          go_ret
          exact ⟨rfl, hOk⟩

set_option maxRecDepth 100000 in
set_option maxHeartbeats 4000000 in
theorem fmt_three (g b _dp nd _z _fr pr q n0 : Nat) (xs0 : List Value) (D : Nat → Int) (w : World) (hO : OB g b w n0 xs0 w) (hgb : g ≠ b) (h1 : 1 ≤ nd) (h2 : nd + q = pr) (h3 : n0 + pr ≤ 20) (hD : ∀ t, t < nd → w.cell? ⟨b, t, none⟩ = some (.int .u8 (D t))) :
    Calls Tryz.prog 202 #[.slice (some ⟨g, 0, none⟩) n0 24, .bool false, .slice (some ⟨b, 0, none⟩) 32 32, .int .i64 (-(q : Int)), .int .i64 (nd : Int), .int .i64 (pr : Int), .int .u8 102, .bool true] w fun e w' => e = .returned (.slice (some ⟨g, 0, none⟩) (n0 + 1 + 1 + q + nd) 24) ∧ OB g b w (n0 + 1 + 1 + q + nd) (xs0 ++ [.int .u8 48] ++ [.int .u8 46] ++ List.replicate q (.int .u8 48) ++ digs D 0 nd) w' := by
  have hmax : max 0 (q : Int) = (q : Int) := by omega
  have hmin : min (pr : Int) (q : Int) = (q : Int) := by omega
  have hoff : -(q : Int) + (q : Int) = 0 := by omega
  have hsub : (pr : Int) - (q : Int) = (nd : Int) := by omega
  have hmax2 : max 0 (nd : Int) = (nd : Int) := by omega
  have hmin3 : min (nd : Int) (nd : Int) = (nd : Int) := by omega
  have hdp0 : decide (0 < -(q : Int)) = false := by simp
  have hpr0 : 0 < pr := by omega
  have hnd32 : nd ≤ 32 := by omega
  have hpr32 : pr ≤ 32 := by omega
  have hn : n0 + q + nd ≤ 20 := by omega
  clear h2 h3
  go_enter Tryz.func202, Tryz.ntmps202
  go_wp2_with (first
    | (at_builtin; refine wp_byte w rfl _ _ rfl g b w (n0) _ 48 hO hgb rfl rfl (by omega) ?_; intro w1 hO1)
    | (at_builtin; refine wp_byte w1 rfl _ _ rfl g b w (n0 + 1) _ 46 hO1 hgb rfl rfl (by omega) ?_; intro w2 hO2))
  go_loopw [0, 240] (fun v0 v1 wr => ∃ k, k ≤ q ∧ v1 = .int .i64 (k : Int) ∧ v0 = .slice (some ⟨g, 0, none⟩) (n0 + 1 + 1 + k) 24 ∧ OB g b w (n0 + 1 + 1 + k) (xs0 ++ [.int .u8 48] ++ [.int .u8 46] ++ List.replicate k (.int .u8 48)) wr) (fun _ v1 _ => q - (intOf v1).toNat)
  case atStart => exact ⟨0, Nat.zero_le _, rfl, rfl, hO2.zero⟩
  case round =>
    obtain ⟨k, hk, rfl, rfl, hOk⟩ := hrel
    rename World => wr
    by_cases hlt : k < q
    · go_wp2_with (at_builtin; refine wp_byte wr rfl _ _ rfl g b w (n0 + 1 + 1 + k) _ (48) hOk hgb rfl rfl (by omega) ?_; intro w' hO')
      go_roundw
      case rel => exact ⟨k + 1, by omega, by go_num, rfl, hO'.nul⟩
      case measure => simp [intOf]; omega
    · obtain rfl : q = k := by omega
      clear hlt hk
      go_wp2_with fail
      go_loopw [0, 247] (fun v0 v1 wr => ∃ k, k ≤ nd ∧ v1 = .int .i64 (k : Int) ∧ v0 = .slice (some ⟨g, 0, none⟩) (n0 + 1 + 1 + q + k) 24 ∧ OB g b w (n0 + 1 + 1 + q + k) (xs0 ++ [.int .u8 48] ++ [.int .u8 46] ++ List.replicate q (.int .u8 48) ++ digs D 0 k) wr) (fun _ v1 _ => nd - (intOf v1).toNat)
      case atStart => exact ⟨0, Nat.zero_le _, rfl, rfl, hOk.zero⟩
      case round =>
        obtain ⟨k, hk, rfl, rfl, hOk⟩ := hrel
        rename World => wr
        by_cases hlt : k < nd
        · have hc : wr.cell? ⟨b, k, none⟩ = some (.int .u8 (D k)) := by rw [hOk.src]; exact hD _ (by omega)
          go_wp2_with (at_builtin; refine wp_byte wr rfl _ _ rfl g b w (n0 + 1 + 1 + q + k) _ (D k) hOk hgb rfl rfl (by omega) ?_; intro w' hO')
          go_roundw
          case rel => exact ⟨k + 1, by omega, by go_num, rfl, hO'.dig0⟩
          case measure => simp [intOf]; omega
        · obtain rfl : nd = k := by omega
          clear hlt hk
          go_wp2_with fail
          refine wp_loop_rounds 1 ?_
          rw [rounds_succ]
          go_wp2_with fail
          go_ret
          exact ⟨rfl, hOk⟩

set_option maxRecDepth 100000 in
set_option maxHeartbeats 4000000 in
theorem fmt_onen (g b dp nd z _fr _pr _q n0 : Nat) (xs0 : List Value) (D : Nat → Int) (w : World) (hO : OB g b w n0 xs0 w) (hgb : g ≠ b) (h1 : 1 ≤ nd) (h2 : nd + z = dp) (h3 : n0 + dp ≤ 22) (hD : ∀ t, t < nd → w.cell? ⟨b, t, none⟩ = some (.int .u8 (D t))) :
    Calls Tryz.prog 202 #[.slice (some ⟨g, 0, none⟩) n0 24, .bool true, .slice (some ⟨b, 0, none⟩) 32 32, .int .i64 (dp : Int), .int .i64 (nd : Int), .int .i64 0, .int .u8 102, .bool true] w fun e w' => e = .returned (.slice (some ⟨g, 0, none⟩) (n0 + 1 + nd + z) 24) ∧ OB g b w (n0 + 1 + nd + z) (xs0 ++ [.int .u8 45] ++ digs D 0 nd ++ List.replicate z (.int .u8 48)) w' := by
  have hmin : min (nd : Int) (dp : Int) = (nd : Int) := by omega
  have hmax : max (nd : Int) 0 = (nd : Int) := by omega
  have hsub : (dp : Int) - (nd : Int) = (z : Int) := by omega
  have hdp0 : 0 < dp := by omega
  have hnd32 : nd ≤ 32 := by omega
  have hdp32 : dp ≤ 32 := by omega
  have hn : n0 + nd + z ≤ 22 := by omega
  clear h2 h3
  go_enter Tryz.func202, Tryz.ntmps202
  go_wp2_with (at_builtin; refine wp_byte w rfl _ _ rfl g b w (n0) _ 45 hO hgb rfl rfl (by omega) ?_; intro w9 hO9)
  go_loopw [0, 191] (fun v0 v1 wr => ∃ k, k ≤ nd ∧ v1 = .int .i64 (k : Int) ∧ v0 = .slice (some ⟨g, 0, none⟩) (n0 + 1 + k) 24 ∧ OB g b w (n0 + 1 + k) (xs0 ++ [.int .u8 45] ++ digs D 0 k) wr) (fun _ v1 _ => nd - (intOf v1).toNat)
  case atStart => exact ⟨0, Nat.zero_le _, rfl, rfl, hO9.zero⟩
  case round =>
    obtain ⟨k, hk, rfl, rfl, hOk⟩ := hrel
    rename World => wr
    by_cases hlt : k < nd
    · have hc : wr.cell? ⟨b, k, none⟩ = some (.int .u8 (D k)) := by rw [hOk.src]; exact hD _ (by omega)
      go_wp2_with (at_builtin; refine wp_byte wr rfl _ _ rfl g b w (n0 + 1 + k) _ (D k) hOk hgb rfl rfl (by omega) ?_; intro w' hO')
      go_roundw
      case rel => exact ⟨k + 1, by omega, by go_num, rfl, hO'.dig0⟩
      case measure => simp [intOf]; omega
    · obtain rfl : nd = k := by omega
      clear hlt hk
      go_wp2_with fail
      go_loopw [0, 203] (fun v0 v1 wr => ∃ k, k ≤ z ∧ v1 = .int .i64 (k : Int) ∧ v0 = .slice (some ⟨g, 0, none⟩) (n0 + 1 + nd + k) 24 ∧ OB g b w (n0 + 1 + nd + k) (xs0 ++ [.int .u8 45] ++ digs D 0 nd ++ List.replicate k (.int .u8 48)) wr) (fun _ v1 _ => z - (intOf v1).toNat)
      case atStart => exact ⟨0, Nat.zero_le _, rfl, rfl, hOk.zero⟩
      case round =>
        obtain ⟨k, hk, rfl, rfl, hOk⟩ := hrel
        rename World => wr
        by_cases hlt : k < z
        · go_wp2_with (at_builtin; refine wp_byte wr rfl _ _ rfl g b w (n0 + 1 + nd + k) _ (48) hOk hgb rfl rfl (by omega) ?_; intro w' hO')
          go_roundw
          case rel => exact ⟨k + 1, by omega, by go_num, rfl, hO'.nul⟩
          case measure => simp [intOf]; omega
        · obtain rfl : z = k := by omega
          clear hlt hk
          go_wp2_with fail
          go_ret
          exact ⟨rfl, hOk⟩

set_option maxRecDepth 100000 in
set_option maxHeartbeats 4000000 in
theorem fmt_twon (g b dp nd _z fr _pr _q n0 : Nat) (xs0 : List Value) (D : Nat → Int) (w : World) (hO : OB g b w n0 xs0 w) (hgb : g ≠ b) (h1 : 1 ≤ dp) (h2 : dp + fr = nd) (hfr : 1 ≤ fr) (h3 : n0 + nd ≤ 21) (hD : ∀ t, t < nd → w.cell? ⟨b, t, none⟩ = some (.int .u8 (D t))) :
    Calls Tryz.prog 202 #[.slice (some ⟨g, 0, none⟩) n0 24, .bool true, .slice (some ⟨b, 0, none⟩) 32 32, .int .i64 (dp : Int), .int .i64 (nd : Int), .int .i64 (fr : Int), .int .u8 102, .bool true] w fun e w' => e = .returned (.slice (some ⟨g, 0, none⟩) (n0 + 1 + dp + 1 + fr) 24) ∧ OB g b w (n0 + 1 + dp + 1 + fr) (xs0 ++ [.int .u8 45] ++ digs D 0 dp ++ [.int .u8 46] ++ digs D dp fr) w' := by
  have hmin : min (nd : Int) (dp : Int) = (dp : Int) := by omega
  have hmax : max (dp : Int) 0 = (dp : Int) := by omega
  have hneg : max 0 (-(dp : Int)) = 0 := by omega
  have hmin2 : min (fr : Int) 0 = 0 := by omega
  have hsub2 : (nd : Int) - (dp : Int) = (fr : Int) := by omega
  have hmax2 : max 0 (fr : Int) = (fr : Int) := by omega
  have hmin3 : min (fr : Int) (fr : Int) = (fr : Int) := by omega
  have hdp0 : 0 < dp := by omega
  have hfr0 : 0 < fr := by omega
  have hnd32 : nd ≤ 32 := by omega
  have hdp32 : dp ≤ 32 := by omega
  have hn : n0 + dp + fr ≤ 21 := by omega
  have hD' : ∀ t, t < dp + fr → w.cell? ⟨b, t, none⟩ = some (.int .u8 (D t)) := fun t ht => hD t (by omega)
  clear h2 h3 hD
  have hD := hD'
  clear hD'
  go_enter Tryz.func202, Tryz.ntmps202
  go_wp2_with (at_builtin; refine wp_byte w rfl _ _ rfl g b w (n0) _ 45 hO hgb rfl rfl (by omega) ?_; intro w9 hO9)
  go_loopw [0, 191] (fun v0 v1 wr => ∃ k, k ≤ dp ∧ v1 = .int .i64 (k : Int) ∧ v0 = .slice (some ⟨g, 0, none⟩) (n0 + 1 + k) 24 ∧ OB g b w (n0 + 1 + k) (xs0 ++ [.int .u8 45] ++ digs D 0 k) wr) (fun _ v1 _ => dp - (intOf v1).toNat)
  case atStart => exact ⟨0, Nat.zero_le _, rfl, rfl, hO9.zero⟩
  case round =>
    obtain ⟨k, hk, rfl, rfl, hOk⟩ := hrel
    rename World => wr
    by_cases hlt : k < dp
    · have hc : wr.cell? ⟨b, k, none⟩ = some (.int .u8 (D k)) := by rw [hOk.src]; exact hD _ (by omega)
      go_wp2_with (at_builtin; refine wp_byte wr rfl _ _ rfl g b w (n0 + 1 + k) _ (D k) hOk hgb rfl rfl (by omega) ?_; intro w' hO')
      go_roundw
      case rel => exact ⟨k + 1, by omega, by go_num, rfl, hO'.dig0⟩
      case measure => simp [intOf]; omega
    · obtain rfl : dp = k := by omega
      clear hlt hk
      go_wp2_with fail
      refine wp_loop_rounds 1 ?_
      rw [rounds_succ]
      go_wp2_with (at_builtin; refine wp_byte wr rfl _ _ rfl g b w (n0 + 1 + dp) _ 46 hOk hgb rfl rfl (by omega) ?_; intro w1 hO1)
      refine wp_loop_rounds 1 ?_
      rw [rounds_succ]
      go_wp2_with fail
      go_loopw [0, 247] (fun v0 v1 wr => ∃ k, k ≤ fr ∧ v1 = .int .i64 (k : Int) ∧ v0 = .slice (some ⟨g, 0, none⟩) (n0 + 1 + dp + 1 + k) 24 ∧ OB g b w (n0 + 1 + dp + 1 + k) (xs0 ++ [.int .u8 45] ++ digs D 0 dp ++ [.int .u8 46] ++ digs D dp k) wr) (fun _ v1 _ => fr - (intOf v1).toNat)
      case atStart => exact ⟨0, Nat.zero_le _, rfl, rfl, hO1.zero⟩
      case round =>
        obtain ⟨k, hk, rfl, rfl, hOk⟩ := hrel
        rename World => wr
        by_cases hlt : k < fr
        · have hc : wr.cell? ⟨b, dp + k, none⟩ = some (.int .u8 (D (dp + k))) := by rw [hOk.src]; exact hD _ (by omega)
          go_wp2_with (at_builtin; refine wp_byte wr rfl _ _ rfl g b w (n0 + 1 + dp + 1 + k) _ (D (dp + k)) hOk hgb rfl rfl (by omega) ?_; intro w' hO')
          go_roundw
          case rel => exact ⟨k + 1, by omega, by go_num, rfl, hO'.dig⟩
          case measure => simp [intOf]; omega
        · obtain rfl : fr = k := by omega
          clear hlt hk
          go_wp2_with fail
          refine wp_loop_rounds 1 ?_
          rw [rounds_succ]
          go_wp2_with fail
          go_ret
          exact ⟨rfl, hOk⟩

set_option maxRecDepth 100000 in
set_option maxHeartbeats 4000000 in
theorem fmt_threen (g b _dp nd _z _fr pr q n0 : Nat) (xs0 : List Value) (D : Nat → Int) (w : World) (hO : OB g b w n0 xs0 w) (hgb : g ≠ b) (h1 : 1 ≤ nd) (h2 : nd + q = pr) (h3 : n0 + pr ≤ 20) (hD : ∀ t, t < nd → w.cell? ⟨b, t, none⟩ = some (.int .u8 (D t))) :
    Calls Tryz.prog 202 #[.slice (some ⟨g, 0, none⟩) n0 24, .bool true, .slice (some ⟨b, 0, none⟩) 32 32, .int .i64 (-(q : Int)), .int .i64 (nd : Int), .int .i64 (pr : Int), .int .u8 102, .bool true] w fun e w' => e = .returned (.slice (some ⟨g, 0, none⟩) (n0 + 1 + 1 + 1 + q + nd) 24) ∧ OB g b w (n0 + 1 + 1 + 1 + q + nd) (xs0 ++ [.int .u8 45] ++ [.int .u8 48] ++ [.int .u8 46] ++ List.replicate q (.int .u8 48) ++ digs D 0 nd) w' := by
  have hmax : max 0 (q : Int) = (q : Int) := by omega
  have hmin : min (pr : Int) (q : Int) = (q : Int) := by omega
  have hoff : -(q : Int) + (q : Int) = 0 := by omega
  have hsub : (pr : Int) - (q : Int) = (nd : Int) := by omega
  have hmax2 : max 0 (nd : Int) = (nd : Int) := by omega
  have hmin3 : min (nd : Int) (nd : Int) = (nd : Int) := by omega
  have hdp0 : decide (0 < -(q : Int)) = false := by simp
  have hpr0 : 0 < pr := by omega
  have hnd32 : nd ≤ 32 := by omega
  have hpr32 : pr ≤ 32 := by omega
  have hn : n0 + q + nd ≤ 20 := by omega
  clear h2 h3
  go_enter Tryz.func202, Tryz.ntmps202
  go_wp2_with (first
    | (at_builtin; refine wp_byte w rfl _ _ rfl g b w (n0) _ 45 hO hgb rfl rfl (by omega) ?_; intro w9 hO9)
    | (at_builtin; refine wp_byte w9 rfl _ _ rfl g b w (n0 + 1) _ 48 hO9 hgb rfl rfl (by omega) ?_; intro w1 hO1)
    | (at_builtin; refine wp_byte w1 rfl _ _ rfl g b w (n0 + 1 + 1) _ 46 hO1 hgb rfl rfl (by omega) ?_; intro w2 hO2))
  go_loopw [0, 240] (fun v0 v1 wr => ∃ k, k ≤ q ∧ v1 = .int .i64 (k : Int) ∧ v0 = .slice (some ⟨g, 0, none⟩) (n0 + 1 + 1 + 1 + k) 24 ∧ OB g b w (n0 + 1 + 1 + 1 + k) (xs0 ++ [.int .u8 45] ++ [.int .u8 48] ++ [.int .u8 46] ++ List.replicate k (.int .u8 48)) wr) (fun _ v1 _ => q - (intOf v1).toNat)
  case atStart => exact ⟨0, Nat.zero_le _, rfl, rfl, hO2.zero⟩
  case round =>
    obtain ⟨k, hk, rfl, rfl, hOk⟩ := hrel
    rename World => wr
    by_cases hlt : k < q
    · go_wp2_with (at_builtin; refine wp_byte wr rfl _ _ rfl g b w (n0 + 1 + 1 + 1 + k) _ (48) hOk hgb rfl rfl (by omega) ?_; intro w' hO')
      go_roundw
      case rel => exact ⟨k + 1, by omega, by go_num, rfl, hO'.nul⟩
      case measure => simp [intOf]; omega
    · obtain rfl : q = k := by omega
      clear hlt hk
      go_wp2_with fail
      go_loopw [0, 247] (fun v0 v1 wr => ∃ k, k ≤ nd ∧ v1 = .int .i64 (k : Int) ∧ v0 = .slice (some ⟨g, 0, none⟩) (n0 + 1 + 1 + 1 + q + k) 24 ∧ OB g b w (n0 + 1 + 1 + 1 + q + k) (xs0 ++ [.int .u8 45] ++ [.int .u8 48] ++ [.int .u8 46] ++ List.replicate q (.int .u8 48) ++ digs D 0 k) wr) (fun _ v1 _ => nd - (intOf v1).toNat)
      case atStart => exact ⟨0, Nat.zero_le _, rfl, rfl, hOk.zero⟩
      case round =>
        obtain ⟨k, hk, rfl, rfl, hOk⟩ := hrel
        rename World => wr
        by_cases hlt : k < nd
        · have hc : wr.cell? ⟨b, k, none⟩ = some (.int .u8 (D k)) := by rw [hOk.src]; exact hD _ (by omega)
          go_wp2_with (at_builtin; refine wp_byte wr rfl _ _ rfl g b w (n0 + 1 + 1 + 1 + q + k) _ (D k) hOk hgb rfl rfl (by omega) ?_; intro w' hO')
          go_roundw
          case rel => exact ⟨k + 1, by omega, by go_num, rfl, hO'.dig0⟩
          case measure => simp [intOf]; omega
        · obtain rfl : nd = k := by omega
          clear hlt hk
          go_wp2_with fail
          refine wp_loop_rounds 1 ?_
          rw [rounds_succ]
          go_wp2_with fail
          go_ret
          exact ⟨rfl, hOk⟩

set_option maxRecDepth 100000 in
set_option maxHeartbeats 4000000 in
theorem fmt_nought (g b n0 : Nat) (xs0 : List Value) (w : World) (hO : OB g b w n0 xs0 w) (hgb : g ≠ b) (h3 : n0 ≤ 20) :
    Calls Tryz.prog 202 #[.slice (some ⟨g, 0, none⟩) n0 24, .bool false, .slice none 0 0, .int .i64 0, .int .i64 0, .int .i64 (-1), .int .u8 102, .bool true] w fun e w' => e = .returned (.slice (some ⟨g, 0, none⟩) (n0 + 1) 24) ∧ OB g b w (n0 + 1) (xs0 ++ [.int .u8 48]) w' := by
  go_enter Tryz.func202, Tryz.ntmps202
  go_wp2_with (at_builtin; refine wp_byte w rfl _ _ rfl g b w (n0) _ 48 hO hgb rfl rfl (by omega) ?_; intro w1 hO1)
  go_ret
  exact ⟨rfl, hO1⟩

end Go.Proofs.YtdeejmkjhmpabaaGreatDoor

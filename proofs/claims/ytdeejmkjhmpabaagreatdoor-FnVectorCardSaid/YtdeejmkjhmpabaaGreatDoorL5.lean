/-
  laws.point. (The region's lines: by genL5.py.)
-/
import Derived.Test.YtdeejmkjhmpabaaGreatDoorLa
import Derived.Deep.RegionHeld3
namespace Go.Proofs.YtdeejmkjhmpabaaGreatDoor
open Go.RowKit Go.Lib Go.Maps Go.WideMaps

/-- The call hands v and says false, or true and P holds. -/
def SaysV (v : Value) (P : Prop) (e : Ending) : Prop := ∃ b, e = .returned (.tuple #[v, .bool b]) ∧ (b = true → P)
theorem SaysV.no (v : Value) (P : Prop) : SaysV v P (.returned (.tuple #[v, .bool false])) := ⟨false, rfl, fun h => by cases h⟩
theorem SaysV.yes {v : Value} {P : Prop} (h : P) : SaysV v P (.returned (.tuple #[v, .bool true])) := ⟨true, rfl, fun _ => h⟩

def PtOk (x : Pt) : Prop := (-562949953421312 < x.2.1 ∧ x.2.1 < 562949953421312) ∧ (Few x.1 ∧ Ord x.1) ∧ -1000000000000000 < x.2.2 ∧ x.2.2 < 1000000000000000

set_option maxRecDepth 100000 in
set_option maxHeartbeats 6400000 in
theorem point_any (l : List Lab) (e8 ms : Int) (m : Nat) (la : Option Addr) (lc : Nat) (bv : Nat) (hq : floatBits .quo .f64 (floatOfInt .f64 e8) 4620693217682128896 = some bv) (hm : l.length = m) (hb : m ≤ 9223372036854775807) (hs : ∀ x ∈ l, x.1.length ≤ 9223372036854775807) (w : World) (hL : LabsAt w la l) :
    Calls Tryz.prog 19 #[.agg #[.slice la m lc, .int .i64 e8, .int .i64 ms]] w fun e w' => SaysV (.agg #[.slice la m lc, .int .u64 (bv : Nat), .int .i64 ms]) (PtOk (l, e8, ms)) e ∧ Below w.heap.size w w' := by
  obtain ⟨W0, hW0⟩ : ∃ W0, W0 = (w.alloc (.cells #[.slice la m lc, .int .i64 e8, .int .i64 ms] 35)).alloc (.cells #[.slice none 0 0, .int .u64 0, .int .i64 0] 41) := ⟨_, rfl⟩
  have hB0 : Below w.heap.size w W0 := by rw [hW0]; exact ((Below.refl _ _).alloc (Nat.le_refl _) _).alloc (by simp) _
  have he := fun W => eighths_any e8 bv hq W
  obtain ⟨ok, hok⟩ : ∃ ok, ok = (decide (-562949953421312 < e8) && decide (e8 < 562949953421312)) := ⟨_, rfl⟩
  rw [← hok] at he
  have hbits := fun W => bits_any bv W
  have HW0 := Lib.hid hW0
  have HB0 := Lib.hid hB0
  have HOK := Lib.hid hok
  have hset := fun W (hW : Below w.heap.size w W) => setfits_any l m la lc hm hb hs W (hL.below hW)
  have HSET := Lib.hid hset
  clear hW0 hB0 hok hL hset hq
  go_enter Tryz.func19, Tryz.ntmps19
  go_wp2_with (go_at_call 8; (with_reducible refine (he _).mono ?_); rintro e w1 ⟨rfl, rfl⟩)
  rw [← HW0.out]
  have hk : Hid (∀ W, Below W0.heap.size W0 W → (W.cell? ⟨w.heap.size, 0, none⟩ = some (.slice la m lc) ∧ W.cell? ⟨w.heap.size, 1, none⟩ = some (.int .i64 e8) ∧ W.cell? ⟨w.heap.size, 2, none⟩ = some (.int .i64 ms)) ∧
      (W.cell? ⟨w.heap.size + 1, 0, none⟩ = some (.slice none 0 0) ∧ W.cell? ⟨w.heap.size + 1, 1, none⟩ = some (.int .u64 0) ∧ W.cell? ⟨w.heap.size + 1, 2, none⟩ = some (.int .i64 0)) ∧ ∀ j, W.frozen? ⟨w.heap.size + 1, j, none⟩ = false) := fun W hW => by
    have hs0 : W0.heap.size = w.heap.size + 2 := by rw [HW0.out]; simp
    have l0 : w.heap.size < W0.heap.size := by omega
    have l1 : w.heap.size + 1 < W0.heap.size := by omega
    refine ⟨⟨(hW.cell (p := ⟨w.heap.size, 0, none⟩) l0).trans ?_, (hW.cell (p := ⟨w.heap.size, 1, none⟩) l0).trans ?_, (hW.cell (p := ⟨w.heap.size, 2, none⟩) l0).trans ?_⟩, ⟨(hW.cell (p := ⟨w.heap.size + 1, 0, none⟩) l1).trans ?_, (hW.cell (p := ⟨w.heap.size + 1, 1, none⟩) l1).trans ?_, (hW.cell (p := ⟨w.heap.size + 1, 2, none⟩) l1).trans ?_⟩, fun j => (hW.frozen (p := ⟨w.heap.size + 1, j, none⟩) l1).trans ?_⟩ <;> rw [HW0.out] <;> simp
  obtain ⟨⟨a0, a1, a2⟩, ⟨r0, r1, r2⟩, rf⟩ := hk.out W0 (Below.refl _ _)
  have rf0 := rf 0
  have rf1 := rf 1
  have rf2 := rf 2
  have hne : w.heap.size + 1 ≠ w.heap.size := by omega
  clear rf he
  refine wp_region_held_drew (S := fun w' => w'.cell? ⟨w.heap.size, 0, none⟩ = some (.slice la m lc) ∧ w'.cell? ⟨w.heap.size, 2, none⟩ = some (.int .i64 ms)) (by kernel_rfl) ⟨a0, a2⟩ (fun hHeld => ?_)
  refine wpAnyH_take (i := 0) (oi := { dst := some 12, op := Op.fieldAddr 35 (Operand.tmp 1) 0, type := 0, pos := _, after := #[], guard := none }) (v := ?v1) rfl (by kernel_rfl) (by kernel_rfl) (by kernel_rfl) (fun _ _ _ h => h) (Or.inl ⟨by rfl, ?y1⟩) (by assumption) ?r1
  case y1 => (intro W hSw; (try dsimp only at hSw); go_simp; try (with_reducible rfl))
  try simp only [Act.put, List.setIfInBounds_toArray, List.set_cons_zero, List.set_cons_succ]
  refine wpAnyH_take (i := 1) (oi := { dst := some 13, op := Op.load 33 (Operand.tmp 12), type := 33, pos := _, after := #[{ on := 0, ground := Ground.data }], guard := none }) (v := ?v2) rfl (by kernel_rfl) (by kernel_rfl) (by kernel_rfl) (fun _ _ _ h => h) (Or.inl ⟨by rfl, ?y2⟩) (by assumption) ?r2
  case y2 => (intro W hSw; (try dsimp only at hSw); go_simp; try (with_reducible rfl))
  try simp only [Act.put, List.setIfInBounds_toArray, List.set_cons_zero, List.set_cons_succ]
  refine wpAnyH_take (i := 2) (oi := { dst := some 14, op := Op.move (Operand.tmp 4), type := 30, pos := _, after := #[], guard := none }) (v := ?v3) rfl (by kernel_rfl) (by kernel_rfl) (by kernel_rfl) (fun _ _ _ h => h) (Or.inl ⟨by rfl, ?y3⟩) (by assumption) ?r3
  case y3 => (intro W hSw; (try dsimp only at hSw); go_simp; try (with_reducible rfl))
  try simp only [Act.put, List.setIfInBounds_toArray, List.set_cons_zero, List.set_cons_succ]
  refine wpAnyH_take (i := 4) (oi := { dst := some 16, op := Op.fieldAddr 35 (Operand.tmp 1) 2, type := 0, pos := _, after := #[], guard := none }) (v := ?v4) rfl (by kernel_rfl) (by kernel_rfl) (by kernel_rfl) (fun _ _ _ h => h) (Or.inl ⟨by rfl, ?y4⟩) (by assumption) ?r4
  case y4 => (intro W hSw; (try dsimp only at hSw); go_simp; try (with_reducible rfl))
  try simp only [Act.put, List.setIfInBounds_toArray, List.set_cons_zero, List.set_cons_succ]
  refine wpAnyH_take (i := 5) (oi := { dst := some 17, op := Op.load 2 (Operand.tmp 16), type := 2, pos := _, after := #[{ on := 4, ground := Ground.data }], guard := none }) (v := ?v5) rfl (by kernel_rfl) (by kernel_rfl) (by kernel_rfl) (fun _ _ _ h => h) (Or.inl ⟨by rfl, ?y5⟩) (by assumption) ?r5
  case y5 => (intro W hSw; (try dsimp only at hSw); go_simp; try (with_reducible rfl))
  try simp only [Act.put, List.setIfInBounds_toArray, List.set_cons_zero, List.set_cons_succ]
  refine wpAnyH_take (i := 7) (oi := { dst := some 19, op := Op.move (Operand.tmp 5), type := 4, pos := _, after := #[], guard := none }) (v := ?v6) rfl (by kernel_rfl) (by kernel_rfl) (by kernel_rfl) (fun _ _ _ h => h) (Or.inl ⟨by rfl, ?y6⟩) (by assumption) ?r6
  case y6 => (intro W hSw; (try dsimp only at hSw); go_simp; try (with_reducible rfl))
  try simp only [Act.put, List.setIfInBounds_toArray, List.set_cons_zero, List.set_cons_succ]
  refine wpAnyH_ready (rs := [3]) (by kernel_rfl) (by simp) ?_
  refine AllReadyH.cons (o := { dst := some 15, op := Op.call { callee := Callee.value (Operand.func 9), args := #[Operand.tmp 14], argTypes := #[30] }, type := 38, pos := _, after := #[{ on := 2, ground := Ground.data }], guard := none }) rfl (fun K hK => ?_) AllReadyH.nil
  go_simp
  go_at_call 9
  with_reducible refine (hbits _).mono ?_
  rintro e w1 ⟨rfl, rfl⟩
  go_wp2_with fail
  refine hK.out _ _ ⟨a0, a2⟩ (fun hHeld => ?_)
  clear hK K
  try simp only [Act.put, List.setIfInBounds_toArray, List.set_cons_zero, List.set_cons_succ]
  refine wpAnyH_take (i := 6) (oi := { dst := some 18, op := Op.build 41 #[(0, Operand.tmp 13), (1, Operand.tmp 15), (2, Operand.tmp 17)], type := 41, pos := _, after := #[{ on := 1, ground := Ground.data }, { on := 3, ground := Ground.data }, { on := 5, ground := Ground.data }], guard := none }) (v := ?v7) rfl (by kernel_rfl) (by kernel_rfl) (by kernel_rfl) (fun _ _ _ h => h) (Or.inl ⟨by rfl, ?y7⟩) (by assumption) ?r7
  case y7 => (intro W hSw; (try dsimp only at hSw); go_simp; try (with_reducible rfl))
  try simp only [Act.put, List.setIfInBounds_toArray, List.set_cons_zero, List.set_cons_succ]
  refine wpAnyH_take (i := 8) (oi := { dst := some 20, op := Op.move (Operand.tmp 19), type := 4, pos := _, after := #[{ on := 7, ground := Ground.data }, { on := 3, ground := Ground.chain }], guard := none }) (v := ?v8) rfl (by kernel_rfl) (by kernel_rfl) (by kernel_rfl) (fun _ _ _ h => h) (Or.inl ⟨by rfl, ?y8⟩) (by assumption) ?r8
  case y8 => (intro W hSw; (try dsimp only at hSw); go_simp; try (with_reducible rfl))
  try simp only [Act.put, List.setIfInBounds_toArray, List.set_cons_zero, List.set_cons_succ]
  cases ok with
  | false =>
    refine wpAnyH_take (i := 9) (oi := { dst := some 21, op := Op.fieldAddr 35 (Operand.tmp 1) 0, type := 0, pos := _, after := #[{ on := 8, ground := Ground.guard }], guard := some (8, true) }) (v := undef) rfl (by kernel_rfl) (by kernel_rfl) (by kernel_rfl) (fun _ _ _ h => h) (Or.inr ⟨by rfl, rfl⟩) (by assumption) ?_
    try simp only [Act.put, List.setIfInBounds_toArray, List.set_cons_zero, List.set_cons_succ]
    refine wpAnyH_take (i := 10) (oi := { dst := some 22, op := Op.load 33 (Operand.tmp 21), type := 33, pos := _, after := #[{ on := 9, ground := Ground.data }, { on := 8, ground := Ground.guard }], guard := some (8, true) }) (v := undef) rfl (by kernel_rfl) (by kernel_rfl) (by kernel_rfl) (fun _ _ _ h => h) (Or.inr ⟨by rfl, rfl⟩) (by assumption) ?_
    try simp only [Act.put, List.setIfInBounds_toArray, List.set_cons_zero, List.set_cons_succ]
    refine wpAnyH_take (i := 11) (oi := { dst := some 23, op := Op.call { callee := Callee.value (Operand.func 44), args := #[Operand.tmp 22], argTypes := #[33] }, type := 4, pos := _, after := #[{ on := 10, ground := Ground.data }, { on := 8, ground := Ground.chain }, { on := 8, ground := Ground.guard }], guard := some (8, true) }) (v := undef) rfl (by kernel_rfl) (by kernel_rfl) (by kernel_rfl) (fun _ _ _ h => h) (Or.inr ⟨by rfl, rfl⟩) (by assumption) ?_
    try simp only [Act.put, List.setIfInBounds_toArray, List.set_cons_zero, List.set_cons_succ]
    refine wpAnyH_take (i := 12) (oi := { dst := some 24, op := Op.pick (Operand.tmp 20) (Operand.tmp 23) (Operand.const (Value.bool false)), type := 4, pos := _, after := #[{ on := 8, ground := Ground.data }, { on := 11, ground := Ground.data }], guard := none }) (v := ?v9) rfl (by kernel_rfl) (by kernel_rfl) (by kernel_rfl) (fun _ _ _ h => h) (Or.inl ⟨by rfl, ?y9⟩) (by assumption) ?r9
    case y9 => (intro W hSw; (try dsimp only at hSw); go_simp; try (with_reducible rfl))
    try simp only [Act.put, List.setIfInBounds_toArray, List.set_cons_zero, List.set_cons_succ]
    refine wpAnyH_take (i := 13) (oi := { dst := some 25, op := Op.move (Operand.tmp 24), type := 4, pos := _, after := #[{ on := 12, ground := Ground.data }, { on := 11, ground := Ground.chain }], guard := none }) (v := ?v10) rfl (by kernel_rfl) (by kernel_rfl) (by kernel_rfl) (fun _ _ _ h => h) (Or.inl ⟨by rfl, ?y10⟩) (by assumption) ?r10
    case y10 => (intro W hSw; (try dsimp only at hSw); go_simp; try (with_reducible rfl))
    try simp only [Act.put, List.setIfInBounds_toArray, List.set_cons_zero, List.set_cons_succ]
    refine wpAnyH_take (i := 14) (oi := { dst := some 26, op := Op.fieldAddr 35 (Operand.tmp 1) 2, type := 0, pos := _, after := #[{ on := 13, ground := Ground.guard }], guard := some (13, true) }) (v := undef) rfl (by kernel_rfl) (by kernel_rfl) (by kernel_rfl) (fun _ _ _ h => h) (Or.inr ⟨by rfl, rfl⟩) (by assumption) ?_
    try simp only [Act.put, List.setIfInBounds_toArray, List.set_cons_zero, List.set_cons_succ]
    refine wpAnyH_take (i := 15) (oi := { dst := some 27, op := Op.load 2 (Operand.tmp 26), type := 2, pos := _, after := #[{ on := 14, ground := Ground.data }, { on := 13, ground := Ground.guard }], guard := some (13, true) }) (v := undef) rfl (by kernel_rfl) (by kernel_rfl) (by kernel_rfl) (fun _ _ _ h => h) (Or.inr ⟨by rfl, rfl⟩) (by assumption) ?_
    try simp only [Act.put, List.setIfInBounds_toArray, List.set_cons_zero, List.set_cons_succ]
    refine wpAnyH_take (i := 16) (oi := { dst := some 28, op := Op.binOp BinOp.gtr 2 (Operand.tmp 27) (Operand.const (Value.int IntKind.i64 (-1000000000000000))) 2, type := 4, pos := _, after := #[{ on := 15, ground := Ground.data }, { on := 13, ground := Ground.guard }], guard := some (13, true) }) (v := undef) rfl (by kernel_rfl) (by kernel_rfl) (by kernel_rfl) (fun _ _ _ h => h) (Or.inr ⟨by rfl, rfl⟩) (by assumption) ?_
    try simp only [Act.put, List.setIfInBounds_toArray, List.set_cons_zero, List.set_cons_succ]
    refine wpAnyH_take (i := 17) (oi := { dst := some 29, op := Op.pick (Operand.tmp 25) (Operand.tmp 28) (Operand.const (Value.bool false)), type := 4, pos := _, after := #[{ on := 13, ground := Ground.data }, { on := 16, ground := Ground.data }], guard := none }) (v := ?v11) rfl (by kernel_rfl) (by kernel_rfl) (by kernel_rfl) (fun _ _ _ h => h) (Or.inl ⟨by rfl, ?y11⟩) (by assumption) ?r11
    case y11 => (intro W hSw; (try dsimp only at hSw); go_simp; try (with_reducible rfl))
    try simp only [Act.put, List.setIfInBounds_toArray, List.set_cons_zero, List.set_cons_succ]
    refine wpAnyH_take (i := 18) (oi := { dst := some 30, op := Op.move (Operand.tmp 29), type := 4, pos := _, after := #[{ on := 17, ground := Ground.data }, { on := 13, ground := Ground.chain }], guard := none }) (v := ?v12) rfl (by kernel_rfl) (by kernel_rfl) (by kernel_rfl) (fun _ _ _ h => h) (Or.inl ⟨by rfl, ?y12⟩) (by assumption) ?r12
    case y12 => (intro W hSw; (try dsimp only at hSw); go_simp; try (with_reducible rfl))
    try simp only [Act.put, List.setIfInBounds_toArray, List.set_cons_zero, List.set_cons_succ]
    refine wpAnyH_take (i := 19) (oi := { dst := some 31, op := Op.fieldAddr 35 (Operand.tmp 1) 2, type := 0, pos := _, after := #[{ on := 18, ground := Ground.guard }, { on := 23, ground := Ground.gcOnly Departure.lateStores }], guard := some (18, true) }) (v := undef) rfl (by kernel_rfl) (by kernel_rfl) (by kernel_rfl) (fun _ _ _ h => h) (Or.inr ⟨by rfl, rfl⟩) (by assumption) ?_
    try simp only [Act.put, List.setIfInBounds_toArray, List.set_cons_zero, List.set_cons_succ]
    refine wpAnyH_take (i := 20) (oi := { dst := some 32, op := Op.load 2 (Operand.tmp 31), type := 2, pos := _, after := #[{ on := 19, ground := Ground.data }, { on := 18, ground := Ground.guard }, { on := 23, ground := Ground.gcOnly Departure.lateStores }], guard := some (18, true) }) (v := undef) rfl (by kernel_rfl) (by kernel_rfl) (by kernel_rfl) (fun _ _ _ h => h) (Or.inr ⟨by rfl, rfl⟩) (by assumption) ?_
    try simp only [Act.put, List.setIfInBounds_toArray, List.set_cons_zero, List.set_cons_succ]
    refine wpAnyH_take (i := 21) (oi := { dst := some 33, op := Op.binOp BinOp.lss 2 (Operand.tmp 32) (Operand.const (Value.int IntKind.i64 1000000000000000)) 2, type := 4, pos := _, after := #[{ on := 20, ground := Ground.data }, { on := 18, ground := Ground.guard }, { on := 23, ground := Ground.gcOnly Departure.lateStores }], guard := some (18, true) }) (v := undef) rfl (by kernel_rfl) (by kernel_rfl) (by kernel_rfl) (fun _ _ _ h => h) (Or.inr ⟨by rfl, rfl⟩) (by assumption) ?_
    try simp only [Act.put, List.setIfInBounds_toArray, List.set_cons_zero, List.set_cons_succ]
    refine wpAnyH_take (i := 22) (oi := { dst := some 34, op := Op.pick (Operand.tmp 30) (Operand.tmp 33) (Operand.const (Value.bool false)), type := 4, pos := _, after := #[{ on := 18, ground := Ground.data }, { on := 21, ground := Ground.data }, { on := 23, ground := Ground.gcOnly Departure.lateStores }], guard := none }) (v := ?v13) rfl (by kernel_rfl) (by kernel_rfl) (by kernel_rfl) (fun _ _ _ h => h) (Or.inl ⟨by rfl, ?y13⟩) (by assumption) ?r13
    case y13 => (intro W hSw; (try dsimp only at hSw); go_simp; try (with_reducible rfl))
    try simp only [Act.put, List.setIfInBounds_toArray, List.set_cons_zero, List.set_cons_succ]
    refine wpAnyH_ready (rs := [23]) (by kernel_rfl) (by simp) ?_
    refine AllReadyH.cons (o := { dst := none, op := Op.store 41 (Operand.tmp 2) (Operand.tmp 18), type := 0, pos := _, after := #[{ on := 6, ground := Ground.data }, { on := 18, ground := Ground.chain }, { on := 0, ground := Ground.phase }, { on := 1, ground := Ground.phase }, { on := 2, ground := Ground.phase }, { on := 3, ground := Ground.phase }, { on := 4, ground := Ground.phase }, { on := 5, ground := Ground.phase }, { on := 6, ground := Ground.phase }, { on := 7, ground := Ground.textOnly Departure.lateStores }, { on := 8, ground := Ground.textOnly Departure.lateStores }, { on := 9, ground := Ground.textOnly Departure.lateStores }, { on := 10, ground := Ground.textOnly Departure.lateStores }, { on := 11, ground := Ground.textOnly Departure.lateStoresUnsure }, { on := 12, ground := Ground.textOnly Departure.lateStores }, { on := 13, ground := Ground.textOnly Departure.lateStores }, { on := 14, ground := Ground.textOnly Departure.lateStores }, { on := 15, ground := Ground.textOnly Departure.lateStores }, { on := 16, ground := Ground.textOnly Departure.lateStores }, { on := 17, ground := Ground.textOnly Departure.lateStores }, { on := 18, ground := Ground.textOnly Departure.lateStores }, { on := 19, ground := Ground.textOnly Departure.lateStores }, { on := 20, ground := Ground.textOnly Departure.lateStores }, { on := 21, ground := Ground.textOnly Departure.lateStores }, { on := 22, ground := Ground.textOnly Departure.lateStores }], guard := none }) rfl (fun K hK => ?_) AllReadyH.nil
    go_simp
    refine hK.out _ _ (by go_keep) (fun hHeld => ?_)
    clear hK K
    try simp only [Act.put, List.setIfInBounds_toArray, List.set_cons_zero, List.set_cons_succ]
    refine wpAnyH_take (i := 24) (oi := { dst := some 3, op := Op.assign (Operand.tmp 34), type := 4, pos := _, after := #[{ on := 22, ground := Ground.data }, { on := 23, ground := Ground.chain }, { on := 0, ground := Ground.phase }, { on := 1, ground := Ground.phase }, { on := 2, ground := Ground.phase }, { on := 3, ground := Ground.phase }, { on := 4, ground := Ground.phase }, { on := 5, ground := Ground.phase }, { on := 6, ground := Ground.phase }, { on := 7, ground := Ground.phase }, { on := 8, ground := Ground.phase }, { on := 9, ground := Ground.phase }, { on := 10, ground := Ground.phase }, { on := 11, ground := Ground.phase }, { on := 12, ground := Ground.phase }, { on := 13, ground := Ground.phase }, { on := 14, ground := Ground.phase }, { on := 15, ground := Ground.phase }, { on := 16, ground := Ground.phase }, { on := 17, ground := Ground.phase }, { on := 18, ground := Ground.phase }, { on := 19, ground := Ground.phase }, { on := 20, ground := Ground.phase }, { on := 21, ground := Ground.phase }, { on := 22, ground := Ground.phase }, { on := 23, ground := Ground.phase }], guard := none }) (v := ?v14) rfl (by kernel_rfl) (by kernel_rfl) (by kernel_rfl) (fun _ _ _ h => h) (Or.inl ⟨by rfl, ?y14⟩) (by assumption) ?r14
    case y14 => (intro W hSw; (try dsimp only at hSw); go_simp; try (with_reducible rfl))
    try simp only [Act.put, List.setIfInBounds_toArray, List.set_cons_zero, List.set_cons_succ]
    refine wpAnyH_done (by kernel_rfl) ?_ _
    go_wp2
    refine bodyPost_ret (v := .tuple #[.agg #[.slice la m lc, .int .u64 (bv : Nat), .int .i64 ms], .bool false]) (by simp [results, Tryz.results19, go_sem, r0, r1, r2]) rfl ⟨SaysV.no _ _, ?_⟩
    exact (((HB0.out.setCell (by show w.heap.size ≤ w.heap.size + 1; omega) _).setCell (by show w.heap.size ≤ w.heap.size + 1; omega) _).setCell (by show w.heap.size ≤ w.heap.size + 1; omega) _).drew
  | true =>
    refine wpAnyH_take (i := 9) (oi := { dst := some 21, op := Op.fieldAddr 35 (Operand.tmp 1) 0, type := 0, pos := _, after := #[{ on := 8, ground := Ground.guard }], guard := some (8, true) }) (v := ?v15) rfl (by kernel_rfl) (by kernel_rfl) (by kernel_rfl) (fun _ _ _ h => h) (Or.inl ⟨by rfl, ?y15⟩) (by assumption) ?r15
    case y15 => (intro W hSw; (try dsimp only at hSw); go_simp; try (with_reducible rfl))
    try simp only [Act.put, List.setIfInBounds_toArray, List.set_cons_zero, List.set_cons_succ]
    refine wpAnyH_take (i := 10) (oi := { dst := some 22, op := Op.load 33 (Operand.tmp 21), type := 33, pos := _, after := #[{ on := 9, ground := Ground.data }, { on := 8, ground := Ground.guard }], guard := some (8, true) }) (v := ?v16) rfl (by kernel_rfl) (by kernel_rfl) (by kernel_rfl) (fun _ _ _ h => h) (Or.inl ⟨by rfl, ?y16⟩) (by assumption) ?r16
    case y16 => (intro W hSw; (try dsimp only at hSw); go_simp; try (with_reducible rfl))
    try simp only [Act.put, List.setIfInBounds_toArray, List.set_cons_zero, List.set_cons_succ]
    refine wpAnyH_ready (rs := [11]) (by kernel_rfl) (by simp) ?_
    refine AllReadyH.cons (o := { dst := some 23, op := Op.call { callee := Callee.value (Operand.func 44), args := #[Operand.tmp 22], argTypes := #[33] }, type := 4, pos := _, after := #[{ on := 10, ground := Ground.data }, { on := 8, ground := Ground.chain }, { on := 8, ground := Ground.guard }], guard := some (8, true) }) rfl (fun K hK => ?_) AllReadyH.nil
    go_simp
    go_at_call 44
    with_reducible refine (HSET.out _ HB0.out.drew).mono ?_
    rintro e w1 ⟨⟨b1, rfl, hb1⟩, hB1⟩
    have hW1 : Below W0.heap.size W0 w1 := (Below.refl _ _).drew.trans hB1
    have HBW : Hid (Below w.heap.size w w1) := HB0.out.trans (hW1.mono HB0.out.size)
    clear a0 a1 a2 r0 r1 r2 rf0 rf1 rf2
    obtain ⟨⟨a0, a1, a2⟩, ⟨r0, r1, r2⟩, rf⟩ := hk.out w1 hW1
    have rf0 := rf 0
    have rf1 := rf 1
    have rf2 := rf 2
    clear rf hB1 hW1
    have HB1 := Lib.hid hb1
    clear hb1
    go_wp2_with fail
    refine hK.out _ _ ⟨a0, a2⟩ (fun hHeld => ?_)
    clear hK K
    try simp only [Act.put, List.setIfInBounds_toArray, List.set_cons_zero, List.set_cons_succ]
    cases b1 with
    | false =>
      refine wpAnyH_take (i := 12) (oi := { dst := some 24, op := Op.pick (Operand.tmp 20) (Operand.tmp 23) (Operand.const (Value.bool false)), type := 4, pos := _, after := #[{ on := 8, ground := Ground.data }, { on := 11, ground := Ground.data }], guard := none }) (v := ?v17) rfl (by kernel_rfl) (by kernel_rfl) (by kernel_rfl) (fun _ _ _ h => h) (Or.inl ⟨by rfl, ?y17⟩) (by assumption) ?r17
      case y17 => (intro W hSw; (try dsimp only at hSw); go_simp; try (with_reducible rfl))
      try simp only [Act.put, List.setIfInBounds_toArray, List.set_cons_zero, List.set_cons_succ]
      refine wpAnyH_take (i := 13) (oi := { dst := some 25, op := Op.move (Operand.tmp 24), type := 4, pos := _, after := #[{ on := 12, ground := Ground.data }, { on := 11, ground := Ground.chain }], guard := none }) (v := ?v18) rfl (by kernel_rfl) (by kernel_rfl) (by kernel_rfl) (fun _ _ _ h => h) (Or.inl ⟨by rfl, ?y18⟩) (by assumption) ?r18
      case y18 => (intro W hSw; (try dsimp only at hSw); go_simp; try (with_reducible rfl))
      try simp only [Act.put, List.setIfInBounds_toArray, List.set_cons_zero, List.set_cons_succ]
      refine wpAnyH_take (i := 14) (oi := { dst := some 26, op := Op.fieldAddr 35 (Operand.tmp 1) 2, type := 0, pos := _, after := #[{ on := 13, ground := Ground.guard }], guard := some (13, true) }) (v := undef) rfl (by kernel_rfl) (by kernel_rfl) (by kernel_rfl) (fun _ _ _ h => h) (Or.inr ⟨by rfl, rfl⟩) (by assumption) ?_
      try simp only [Act.put, List.setIfInBounds_toArray, List.set_cons_zero, List.set_cons_succ]
      refine wpAnyH_take (i := 15) (oi := { dst := some 27, op := Op.load 2 (Operand.tmp 26), type := 2, pos := _, after := #[{ on := 14, ground := Ground.data }, { on := 13, ground := Ground.guard }], guard := some (13, true) }) (v := undef) rfl (by kernel_rfl) (by kernel_rfl) (by kernel_rfl) (fun _ _ _ h => h) (Or.inr ⟨by rfl, rfl⟩) (by assumption) ?_
      try simp only [Act.put, List.setIfInBounds_toArray, List.set_cons_zero, List.set_cons_succ]
      refine wpAnyH_take (i := 16) (oi := { dst := some 28, op := Op.binOp BinOp.gtr 2 (Operand.tmp 27) (Operand.const (Value.int IntKind.i64 (-1000000000000000))) 2, type := 4, pos := _, after := #[{ on := 15, ground := Ground.data }, { on := 13, ground := Ground.guard }], guard := some (13, true) }) (v := undef) rfl (by kernel_rfl) (by kernel_rfl) (by kernel_rfl) (fun _ _ _ h => h) (Or.inr ⟨by rfl, rfl⟩) (by assumption) ?_
      try simp only [Act.put, List.setIfInBounds_toArray, List.set_cons_zero, List.set_cons_succ]
      refine wpAnyH_take (i := 17) (oi := { dst := some 29, op := Op.pick (Operand.tmp 25) (Operand.tmp 28) (Operand.const (Value.bool false)), type := 4, pos := _, after := #[{ on := 13, ground := Ground.data }, { on := 16, ground := Ground.data }], guard := none }) (v := ?v19) rfl (by kernel_rfl) (by kernel_rfl) (by kernel_rfl) (fun _ _ _ h => h) (Or.inl ⟨by rfl, ?y19⟩) (by assumption) ?r19
      case y19 => (intro W hSw; (try dsimp only at hSw); go_simp; try (with_reducible rfl))
      try simp only [Act.put, List.setIfInBounds_toArray, List.set_cons_zero, List.set_cons_succ]
      refine wpAnyH_take (i := 18) (oi := { dst := some 30, op := Op.move (Operand.tmp 29), type := 4, pos := _, after := #[{ on := 17, ground := Ground.data }, { on := 13, ground := Ground.chain }], guard := none }) (v := ?v20) rfl (by kernel_rfl) (by kernel_rfl) (by kernel_rfl) (fun _ _ _ h => h) (Or.inl ⟨by rfl, ?y20⟩) (by assumption) ?r20
      case y20 => (intro W hSw; (try dsimp only at hSw); go_simp; try (with_reducible rfl))
      try simp only [Act.put, List.setIfInBounds_toArray, List.set_cons_zero, List.set_cons_succ]
      refine wpAnyH_take (i := 19) (oi := { dst := some 31, op := Op.fieldAddr 35 (Operand.tmp 1) 2, type := 0, pos := _, after := #[{ on := 18, ground := Ground.guard }, { on := 23, ground := Ground.gcOnly Departure.lateStores }], guard := some (18, true) }) (v := undef) rfl (by kernel_rfl) (by kernel_rfl) (by kernel_rfl) (fun _ _ _ h => h) (Or.inr ⟨by rfl, rfl⟩) (by assumption) ?_
      try simp only [Act.put, List.setIfInBounds_toArray, List.set_cons_zero, List.set_cons_succ]
      refine wpAnyH_take (i := 20) (oi := { dst := some 32, op := Op.load 2 (Operand.tmp 31), type := 2, pos := _, after := #[{ on := 19, ground := Ground.data }, { on := 18, ground := Ground.guard }, { on := 23, ground := Ground.gcOnly Departure.lateStores }], guard := some (18, true) }) (v := undef) rfl (by kernel_rfl) (by kernel_rfl) (by kernel_rfl) (fun _ _ _ h => h) (Or.inr ⟨by rfl, rfl⟩) (by assumption) ?_
      try simp only [Act.put, List.setIfInBounds_toArray, List.set_cons_zero, List.set_cons_succ]
      refine wpAnyH_take (i := 21) (oi := { dst := some 33, op := Op.binOp BinOp.lss 2 (Operand.tmp 32) (Operand.const (Value.int IntKind.i64 1000000000000000)) 2, type := 4, pos := _, after := #[{ on := 20, ground := Ground.data }, { on := 18, ground := Ground.guard }, { on := 23, ground := Ground.gcOnly Departure.lateStores }], guard := some (18, true) }) (v := undef) rfl (by kernel_rfl) (by kernel_rfl) (by kernel_rfl) (fun _ _ _ h => h) (Or.inr ⟨by rfl, rfl⟩) (by assumption) ?_
      try simp only [Act.put, List.setIfInBounds_toArray, List.set_cons_zero, List.set_cons_succ]
      refine wpAnyH_take (i := 22) (oi := { dst := some 34, op := Op.pick (Operand.tmp 30) (Operand.tmp 33) (Operand.const (Value.bool false)), type := 4, pos := _, after := #[{ on := 18, ground := Ground.data }, { on := 21, ground := Ground.data }, { on := 23, ground := Ground.gcOnly Departure.lateStores }], guard := none }) (v := ?v21) rfl (by kernel_rfl) (by kernel_rfl) (by kernel_rfl) (fun _ _ _ h => h) (Or.inl ⟨by rfl, ?y21⟩) (by assumption) ?r21
      case y21 => (intro W hSw; (try dsimp only at hSw); go_simp; try (with_reducible rfl))
      try simp only [Act.put, List.setIfInBounds_toArray, List.set_cons_zero, List.set_cons_succ]
      refine wpAnyH_ready (rs := [23]) (by kernel_rfl) (by simp) ?_
      refine AllReadyH.cons (o := { dst := none, op := Op.store 41 (Operand.tmp 2) (Operand.tmp 18), type := 0, pos := _, after := #[{ on := 6, ground := Ground.data }, { on := 18, ground := Ground.chain }, { on := 0, ground := Ground.phase }, { on := 1, ground := Ground.phase }, { on := 2, ground := Ground.phase }, { on := 3, ground := Ground.phase }, { on := 4, ground := Ground.phase }, { on := 5, ground := Ground.phase }, { on := 6, ground := Ground.phase }, { on := 7, ground := Ground.textOnly Departure.lateStores }, { on := 8, ground := Ground.textOnly Departure.lateStores }, { on := 9, ground := Ground.textOnly Departure.lateStores }, { on := 10, ground := Ground.textOnly Departure.lateStores }, { on := 11, ground := Ground.textOnly Departure.lateStoresUnsure }, { on := 12, ground := Ground.textOnly Departure.lateStores }, { on := 13, ground := Ground.textOnly Departure.lateStores }, { on := 14, ground := Ground.textOnly Departure.lateStores }, { on := 15, ground := Ground.textOnly Departure.lateStores }, { on := 16, ground := Ground.textOnly Departure.lateStores }, { on := 17, ground := Ground.textOnly Departure.lateStores }, { on := 18, ground := Ground.textOnly Departure.lateStores }, { on := 19, ground := Ground.textOnly Departure.lateStores }, { on := 20, ground := Ground.textOnly Departure.lateStores }, { on := 21, ground := Ground.textOnly Departure.lateStores }, { on := 22, ground := Ground.textOnly Departure.lateStores }], guard := none }) rfl (fun K hK => ?_) AllReadyH.nil
      go_simp
      refine hK.out _ _ (by go_keep) (fun hHeld => ?_)
      clear hK K
      try simp only [Act.put, List.setIfInBounds_toArray, List.set_cons_zero, List.set_cons_succ]
      refine wpAnyH_take (i := 24) (oi := { dst := some 3, op := Op.assign (Operand.tmp 34), type := 4, pos := _, after := #[{ on := 22, ground := Ground.data }, { on := 23, ground := Ground.chain }, { on := 0, ground := Ground.phase }, { on := 1, ground := Ground.phase }, { on := 2, ground := Ground.phase }, { on := 3, ground := Ground.phase }, { on := 4, ground := Ground.phase }, { on := 5, ground := Ground.phase }, { on := 6, ground := Ground.phase }, { on := 7, ground := Ground.phase }, { on := 8, ground := Ground.phase }, { on := 9, ground := Ground.phase }, { on := 10, ground := Ground.phase }, { on := 11, ground := Ground.phase }, { on := 12, ground := Ground.phase }, { on := 13, ground := Ground.phase }, { on := 14, ground := Ground.phase }, { on := 15, ground := Ground.phase }, { on := 16, ground := Ground.phase }, { on := 17, ground := Ground.phase }, { on := 18, ground := Ground.phase }, { on := 19, ground := Ground.phase }, { on := 20, ground := Ground.phase }, { on := 21, ground := Ground.phase }, { on := 22, ground := Ground.phase }, { on := 23, ground := Ground.phase }], guard := none }) (v := ?v22) rfl (by kernel_rfl) (by kernel_rfl) (by kernel_rfl) (fun _ _ _ h => h) (Or.inl ⟨by rfl, ?y22⟩) (by assumption) ?r22
      case y22 => (intro W hSw; (try dsimp only at hSw); go_simp; try (with_reducible rfl))
      try simp only [Act.put, List.setIfInBounds_toArray, List.set_cons_zero, List.set_cons_succ]
      refine wpAnyH_done (by kernel_rfl) ?_ _
      go_wp2
      refine bodyPost_ret (v := .tuple #[.agg #[.slice la m lc, .int .u64 (bv : Nat), .int .i64 ms], .bool false]) (by simp [results, Tryz.results19, go_sem, r0, r1, r2]) rfl ⟨SaysV.no _ _, ?_⟩
      exact (((HBW.out.setCell (by show w.heap.size ≤ w.heap.size + 1; omega) _).setCell (by show w.heap.size ≤ w.heap.size + 1; omega) _).setCell (by show w.heap.size ≤ w.heap.size + 1; omega) _)
    | true =>
      by_cases h1 : ms > -1000000000000000
      · refine wpAnyH_take (i := 12) (oi := { dst := some 24, op := Op.pick (Operand.tmp 20) (Operand.tmp 23) (Operand.const (Value.bool false)), type := 4, pos := _, after := #[{ on := 8, ground := Ground.data }, { on := 11, ground := Ground.data }], guard := none }) (v := ?v23) rfl (by kernel_rfl) (by kernel_rfl) (by kernel_rfl) (fun _ _ _ h => h) (Or.inl ⟨by rfl, ?y23⟩) (by assumption) ?r23
        case y23 => (intro W hSw; (try dsimp only at hSw); go_simp; try (with_reducible rfl))
        try simp only [Act.put, List.setIfInBounds_toArray, List.set_cons_zero, List.set_cons_succ]
        refine wpAnyH_take (i := 13) (oi := { dst := some 25, op := Op.move (Operand.tmp 24), type := 4, pos := _, after := #[{ on := 12, ground := Ground.data }, { on := 11, ground := Ground.chain }], guard := none }) (v := ?v24) rfl (by kernel_rfl) (by kernel_rfl) (by kernel_rfl) (fun _ _ _ h => h) (Or.inl ⟨by rfl, ?y24⟩) (by assumption) ?r24
        case y24 => (intro W hSw; (try dsimp only at hSw); go_simp; try (with_reducible rfl))
        try simp only [Act.put, List.setIfInBounds_toArray, List.set_cons_zero, List.set_cons_succ]
        refine wpAnyH_take (i := 14) (oi := { dst := some 26, op := Op.fieldAddr 35 (Operand.tmp 1) 2, type := 0, pos := _, after := #[{ on := 13, ground := Ground.guard }], guard := some (13, true) }) (v := ?v25) rfl (by kernel_rfl) (by kernel_rfl) (by kernel_rfl) (fun _ _ _ h => h) (Or.inl ⟨by rfl, ?y25⟩) (by assumption) ?r25
        case y25 => (intro W hSw; (try dsimp only at hSw); go_simp; try (with_reducible rfl))
        try simp only [Act.put, List.setIfInBounds_toArray, List.set_cons_zero, List.set_cons_succ]
        refine wpAnyH_take (i := 15) (oi := { dst := some 27, op := Op.load 2 (Operand.tmp 26), type := 2, pos := _, after := #[{ on := 14, ground := Ground.data }, { on := 13, ground := Ground.guard }], guard := some (13, true) }) (v := ?v26) rfl (by kernel_rfl) (by kernel_rfl) (by kernel_rfl) (fun _ _ _ h => h) (Or.inl ⟨by rfl, ?y26⟩) (by assumption) ?r26
        case y26 => (intro W hSw; (try dsimp only at hSw); go_simp; try (with_reducible rfl))
        try simp only [Act.put, List.setIfInBounds_toArray, List.set_cons_zero, List.set_cons_succ]
        refine wpAnyH_take (i := 16) (oi := { dst := some 28, op := Op.binOp BinOp.gtr 2 (Operand.tmp 27) (Operand.const (Value.int IntKind.i64 (-1000000000000000))) 2, type := 4, pos := _, after := #[{ on := 15, ground := Ground.data }, { on := 13, ground := Ground.guard }], guard := some (13, true) }) (v := ?v27) rfl (by kernel_rfl) (by kernel_rfl) (by kernel_rfl) (fun _ _ _ h => h) (Or.inl ⟨by rfl, ?y27⟩) (by assumption) ?r27
        case y27 => (intro W hSw; (try dsimp only at hSw); go_simp; try (with_reducible rfl))
        try simp only [Act.put, List.setIfInBounds_toArray, List.set_cons_zero, List.set_cons_succ]
        refine wpAnyH_take (i := 17) (oi := { dst := some 29, op := Op.pick (Operand.tmp 25) (Operand.tmp 28) (Operand.const (Value.bool false)), type := 4, pos := _, after := #[{ on := 13, ground := Ground.data }, { on := 16, ground := Ground.data }], guard := none }) (v := ?v28) rfl (by kernel_rfl) (by kernel_rfl) (by kernel_rfl) (fun _ _ _ h => h) (Or.inl ⟨by rfl, ?y28⟩) (by assumption) ?r28
        case y28 => (intro W hSw; (try dsimp only at hSw); go_simp; try (with_reducible rfl))
        try simp only [Act.put, List.setIfInBounds_toArray, List.set_cons_zero, List.set_cons_succ]
        refine wpAnyH_take (i := 18) (oi := { dst := some 30, op := Op.move (Operand.tmp 29), type := 4, pos := _, after := #[{ on := 17, ground := Ground.data }, { on := 13, ground := Ground.chain }], guard := none }) (v := ?v29) rfl (by kernel_rfl) (by kernel_rfl) (by kernel_rfl) (fun _ _ _ h => h) (Or.inl ⟨by rfl, ?y29⟩) (by assumption) ?r29
        case y29 => (intro W hSw; (try dsimp only at hSw); go_simp; try (with_reducible rfl))
        try simp only [Act.put, List.setIfInBounds_toArray, List.set_cons_zero, List.set_cons_succ]
        by_cases h2 : ms < 1000000000000000
        · refine wpAnyH_take (i := 19) (oi := { dst := some 31, op := Op.fieldAddr 35 (Operand.tmp 1) 2, type := 0, pos := _, after := #[{ on := 18, ground := Ground.guard }, { on := 23, ground := Ground.gcOnly Departure.lateStores }], guard := some (18, true) }) (v := ?v30) rfl (by kernel_rfl) (by kernel_rfl) (by kernel_rfl) (fun _ _ _ h => h) (Or.inl ⟨by rfl, ?y30⟩) (by assumption) ?r30
          case y30 => (intro W hSw; (try dsimp only at hSw); go_simp; try (with_reducible rfl))
          try simp only [Act.put, List.setIfInBounds_toArray, List.set_cons_zero, List.set_cons_succ]
          refine wpAnyH_take (i := 20) (oi := { dst := some 32, op := Op.load 2 (Operand.tmp 31), type := 2, pos := _, after := #[{ on := 19, ground := Ground.data }, { on := 18, ground := Ground.guard }, { on := 23, ground := Ground.gcOnly Departure.lateStores }], guard := some (18, true) }) (v := ?v31) rfl (by kernel_rfl) (by kernel_rfl) (by kernel_rfl) (fun _ _ _ h => h) (Or.inl ⟨by rfl, ?y31⟩) (by assumption) ?r31
          case y31 => (intro W hSw; (try dsimp only at hSw); go_simp; try (with_reducible rfl))
          try simp only [Act.put, List.setIfInBounds_toArray, List.set_cons_zero, List.set_cons_succ]
          refine wpAnyH_take (i := 21) (oi := { dst := some 33, op := Op.binOp BinOp.lss 2 (Operand.tmp 32) (Operand.const (Value.int IntKind.i64 1000000000000000)) 2, type := 4, pos := _, after := #[{ on := 20, ground := Ground.data }, { on := 18, ground := Ground.guard }, { on := 23, ground := Ground.gcOnly Departure.lateStores }], guard := some (18, true) }) (v := ?v32) rfl (by kernel_rfl) (by kernel_rfl) (by kernel_rfl) (fun _ _ _ h => h) (Or.inl ⟨by rfl, ?y32⟩) (by assumption) ?r32
          case y32 => (intro W hSw; (try dsimp only at hSw); go_simp; try (with_reducible rfl))
          try simp only [Act.put, List.setIfInBounds_toArray, List.set_cons_zero, List.set_cons_succ]
          refine wpAnyH_take (i := 22) (oi := { dst := some 34, op := Op.pick (Operand.tmp 30) (Operand.tmp 33) (Operand.const (Value.bool false)), type := 4, pos := _, after := #[{ on := 18, ground := Ground.data }, { on := 21, ground := Ground.data }, { on := 23, ground := Ground.gcOnly Departure.lateStores }], guard := none }) (v := ?v33) rfl (by kernel_rfl) (by kernel_rfl) (by kernel_rfl) (fun _ _ _ h => h) (Or.inl ⟨by rfl, ?y33⟩) (by assumption) ?r33
          case y33 => (intro W hSw; (try dsimp only at hSw); go_simp; try (with_reducible rfl))
          try simp only [Act.put, List.setIfInBounds_toArray, List.set_cons_zero, List.set_cons_succ]
          refine wpAnyH_ready (rs := [23]) (by kernel_rfl) (by simp) ?_
          refine AllReadyH.cons (o := { dst := none, op := Op.store 41 (Operand.tmp 2) (Operand.tmp 18), type := 0, pos := _, after := #[{ on := 6, ground := Ground.data }, { on := 18, ground := Ground.chain }, { on := 0, ground := Ground.phase }, { on := 1, ground := Ground.phase }, { on := 2, ground := Ground.phase }, { on := 3, ground := Ground.phase }, { on := 4, ground := Ground.phase }, { on := 5, ground := Ground.phase }, { on := 6, ground := Ground.phase }, { on := 7, ground := Ground.textOnly Departure.lateStores }, { on := 8, ground := Ground.textOnly Departure.lateStores }, { on := 9, ground := Ground.textOnly Departure.lateStores }, { on := 10, ground := Ground.textOnly Departure.lateStores }, { on := 11, ground := Ground.textOnly Departure.lateStoresUnsure }, { on := 12, ground := Ground.textOnly Departure.lateStores }, { on := 13, ground := Ground.textOnly Departure.lateStores }, { on := 14, ground := Ground.textOnly Departure.lateStores }, { on := 15, ground := Ground.textOnly Departure.lateStores }, { on := 16, ground := Ground.textOnly Departure.lateStores }, { on := 17, ground := Ground.textOnly Departure.lateStores }, { on := 18, ground := Ground.textOnly Departure.lateStores }, { on := 19, ground := Ground.textOnly Departure.lateStores }, { on := 20, ground := Ground.textOnly Departure.lateStores }, { on := 21, ground := Ground.textOnly Departure.lateStores }, { on := 22, ground := Ground.textOnly Departure.lateStores }], guard := none }) rfl (fun K hK => ?_) AllReadyH.nil
          go_simp
          refine hK.out _ _ (by go_keep) (fun hHeld => ?_)
          clear hK K
          try simp only [Act.put, List.setIfInBounds_toArray, List.set_cons_zero, List.set_cons_succ]
          refine wpAnyH_take (i := 24) (oi := { dst := some 3, op := Op.assign (Operand.tmp 34), type := 4, pos := _, after := #[{ on := 22, ground := Ground.data }, { on := 23, ground := Ground.chain }, { on := 0, ground := Ground.phase }, { on := 1, ground := Ground.phase }, { on := 2, ground := Ground.phase }, { on := 3, ground := Ground.phase }, { on := 4, ground := Ground.phase }, { on := 5, ground := Ground.phase }, { on := 6, ground := Ground.phase }, { on := 7, ground := Ground.phase }, { on := 8, ground := Ground.phase }, { on := 9, ground := Ground.phase }, { on := 10, ground := Ground.phase }, { on := 11, ground := Ground.phase }, { on := 12, ground := Ground.phase }, { on := 13, ground := Ground.phase }, { on := 14, ground := Ground.phase }, { on := 15, ground := Ground.phase }, { on := 16, ground := Ground.phase }, { on := 17, ground := Ground.phase }, { on := 18, ground := Ground.phase }, { on := 19, ground := Ground.phase }, { on := 20, ground := Ground.phase }, { on := 21, ground := Ground.phase }, { on := 22, ground := Ground.phase }, { on := 23, ground := Ground.phase }], guard := none }) (v := ?v34) rfl (by kernel_rfl) (by kernel_rfl) (by kernel_rfl) (fun _ _ _ h => h) (Or.inl ⟨by rfl, ?y34⟩) (by assumption) ?r34
          case y34 => (intro W hSw; (try dsimp only at hSw); go_simp; try (with_reducible rfl))
          try simp only [Act.put, List.setIfInBounds_toArray, List.set_cons_zero, List.set_cons_succ]
          have hb1 := HB1.out
          have OKF : -562949953421312 < e8 ∧ e8 < 562949953421312 := by have := HOK.out; rw [eq_comm, Bool.and_eq_true, decide_eq_true_eq, decide_eq_true_eq] at this; exact this
          refine wpAnyH_done (by kernel_rfl) ?_ _
          go_wp2
          refine bodyPost_ret (v := .tuple #[.agg #[.slice la m lc, .int .u64 (bv : Nat), .int .i64 ms], .bool true]) (by simp [results, Tryz.results19, go_sem, r0, r1, r2]) rfl ⟨SaysV.yes ⟨OKF, hb1 (by first | rfl | trivial), by omega, by omega⟩, ?_⟩
          exact (((HBW.out.setCell (by show w.heap.size ≤ w.heap.size + 1; omega) _).setCell (by show w.heap.size ≤ w.heap.size + 1; omega) _).setCell (by show w.heap.size ≤ w.heap.size + 1; omega) _)
        · refine wpAnyH_take (i := 19) (oi := { dst := some 31, op := Op.fieldAddr 35 (Operand.tmp 1) 2, type := 0, pos := _, after := #[{ on := 18, ground := Ground.guard }, { on := 23, ground := Ground.gcOnly Departure.lateStores }], guard := some (18, true) }) (v := ?v35) rfl (by kernel_rfl) (by kernel_rfl) (by kernel_rfl) (fun _ _ _ h => h) (Or.inl ⟨by rfl, ?y35⟩) (by assumption) ?r35
          case y35 => (intro W hSw; (try dsimp only at hSw); go_simp; try (with_reducible rfl))
          try simp only [Act.put, List.setIfInBounds_toArray, List.set_cons_zero, List.set_cons_succ]
          refine wpAnyH_take (i := 20) (oi := { dst := some 32, op := Op.load 2 (Operand.tmp 31), type := 2, pos := _, after := #[{ on := 19, ground := Ground.data }, { on := 18, ground := Ground.guard }, { on := 23, ground := Ground.gcOnly Departure.lateStores }], guard := some (18, true) }) (v := ?v36) rfl (by kernel_rfl) (by kernel_rfl) (by kernel_rfl) (fun _ _ _ h => h) (Or.inl ⟨by rfl, ?y36⟩) (by assumption) ?r36
          case y36 => (intro W hSw; (try dsimp only at hSw); go_simp; try (with_reducible rfl))
          try simp only [Act.put, List.setIfInBounds_toArray, List.set_cons_zero, List.set_cons_succ]
          refine wpAnyH_take (i := 21) (oi := { dst := some 33, op := Op.binOp BinOp.lss 2 (Operand.tmp 32) (Operand.const (Value.int IntKind.i64 1000000000000000)) 2, type := 4, pos := _, after := #[{ on := 20, ground := Ground.data }, { on := 18, ground := Ground.guard }, { on := 23, ground := Ground.gcOnly Departure.lateStores }], guard := some (18, true) }) (v := ?v37) rfl (by kernel_rfl) (by kernel_rfl) (by kernel_rfl) (fun _ _ _ h => h) (Or.inl ⟨by rfl, ?y37⟩) (by assumption) ?r37
          case y37 => (intro W hSw; (try dsimp only at hSw); go_simp; try (with_reducible rfl))
          try simp only [Act.put, List.setIfInBounds_toArray, List.set_cons_zero, List.set_cons_succ]
          refine wpAnyH_take (i := 22) (oi := { dst := some 34, op := Op.pick (Operand.tmp 30) (Operand.tmp 33) (Operand.const (Value.bool false)), type := 4, pos := _, after := #[{ on := 18, ground := Ground.data }, { on := 21, ground := Ground.data }, { on := 23, ground := Ground.gcOnly Departure.lateStores }], guard := none }) (v := ?v38) rfl (by kernel_rfl) (by kernel_rfl) (by kernel_rfl) (fun _ _ _ h => h) (Or.inl ⟨by rfl, ?y38⟩) (by assumption) ?r38
          case y38 => (intro W hSw; (try dsimp only at hSw); go_simp; try (with_reducible rfl))
          try simp only [Act.put, List.setIfInBounds_toArray, List.set_cons_zero, List.set_cons_succ]
          refine wpAnyH_ready (rs := [23]) (by kernel_rfl) (by simp) ?_
          refine AllReadyH.cons (o := { dst := none, op := Op.store 41 (Operand.tmp 2) (Operand.tmp 18), type := 0, pos := _, after := #[{ on := 6, ground := Ground.data }, { on := 18, ground := Ground.chain }, { on := 0, ground := Ground.phase }, { on := 1, ground := Ground.phase }, { on := 2, ground := Ground.phase }, { on := 3, ground := Ground.phase }, { on := 4, ground := Ground.phase }, { on := 5, ground := Ground.phase }, { on := 6, ground := Ground.phase }, { on := 7, ground := Ground.textOnly Departure.lateStores }, { on := 8, ground := Ground.textOnly Departure.lateStores }, { on := 9, ground := Ground.textOnly Departure.lateStores }, { on := 10, ground := Ground.textOnly Departure.lateStores }, { on := 11, ground := Ground.textOnly Departure.lateStoresUnsure }, { on := 12, ground := Ground.textOnly Departure.lateStores }, { on := 13, ground := Ground.textOnly Departure.lateStores }, { on := 14, ground := Ground.textOnly Departure.lateStores }, { on := 15, ground := Ground.textOnly Departure.lateStores }, { on := 16, ground := Ground.textOnly Departure.lateStores }, { on := 17, ground := Ground.textOnly Departure.lateStores }, { on := 18, ground := Ground.textOnly Departure.lateStores }, { on := 19, ground := Ground.textOnly Departure.lateStores }, { on := 20, ground := Ground.textOnly Departure.lateStores }, { on := 21, ground := Ground.textOnly Departure.lateStores }, { on := 22, ground := Ground.textOnly Departure.lateStores }], guard := none }) rfl (fun K hK => ?_) AllReadyH.nil
          go_simp
          refine hK.out _ _ (by go_keep) (fun hHeld => ?_)
          clear hK K
          try simp only [Act.put, List.setIfInBounds_toArray, List.set_cons_zero, List.set_cons_succ]
          refine wpAnyH_take (i := 24) (oi := { dst := some 3, op := Op.assign (Operand.tmp 34), type := 4, pos := _, after := #[{ on := 22, ground := Ground.data }, { on := 23, ground := Ground.chain }, { on := 0, ground := Ground.phase }, { on := 1, ground := Ground.phase }, { on := 2, ground := Ground.phase }, { on := 3, ground := Ground.phase }, { on := 4, ground := Ground.phase }, { on := 5, ground := Ground.phase }, { on := 6, ground := Ground.phase }, { on := 7, ground := Ground.phase }, { on := 8, ground := Ground.phase }, { on := 9, ground := Ground.phase }, { on := 10, ground := Ground.phase }, { on := 11, ground := Ground.phase }, { on := 12, ground := Ground.phase }, { on := 13, ground := Ground.phase }, { on := 14, ground := Ground.phase }, { on := 15, ground := Ground.phase }, { on := 16, ground := Ground.phase }, { on := 17, ground := Ground.phase }, { on := 18, ground := Ground.phase }, { on := 19, ground := Ground.phase }, { on := 20, ground := Ground.phase }, { on := 21, ground := Ground.phase }, { on := 22, ground := Ground.phase }, { on := 23, ground := Ground.phase }], guard := none }) (v := ?v39) rfl (by kernel_rfl) (by kernel_rfl) (by kernel_rfl) (fun _ _ _ h => h) (Or.inl ⟨by rfl, ?y39⟩) (by assumption) ?r39
          case y39 => (intro W hSw; (try dsimp only at hSw); go_simp; try (with_reducible rfl))
          try simp only [Act.put, List.setIfInBounds_toArray, List.set_cons_zero, List.set_cons_succ]
          refine wpAnyH_done (by kernel_rfl) ?_ _
          go_wp2
          refine bodyPost_ret (v := .tuple #[.agg #[.slice la m lc, .int .u64 (bv : Nat), .int .i64 ms], .bool false]) (by simp [results, Tryz.results19, go_sem, r0, r1, r2]) rfl ⟨SaysV.no _ _, ?_⟩
          exact (((HBW.out.setCell (by show w.heap.size ≤ w.heap.size + 1; omega) _).setCell (by show w.heap.size ≤ w.heap.size + 1; omega) _).setCell (by show w.heap.size ≤ w.heap.size + 1; omega) _)
      · refine wpAnyH_take (i := 12) (oi := { dst := some 24, op := Op.pick (Operand.tmp 20) (Operand.tmp 23) (Operand.const (Value.bool false)), type := 4, pos := _, after := #[{ on := 8, ground := Ground.data }, { on := 11, ground := Ground.data }], guard := none }) (v := ?v40) rfl (by kernel_rfl) (by kernel_rfl) (by kernel_rfl) (fun _ _ _ h => h) (Or.inl ⟨by rfl, ?y40⟩) (by assumption) ?r40
        case y40 => (intro W hSw; (try dsimp only at hSw); go_simp; try (with_reducible rfl))
        try simp only [Act.put, List.setIfInBounds_toArray, List.set_cons_zero, List.set_cons_succ]
        refine wpAnyH_take (i := 13) (oi := { dst := some 25, op := Op.move (Operand.tmp 24), type := 4, pos := _, after := #[{ on := 12, ground := Ground.data }, { on := 11, ground := Ground.chain }], guard := none }) (v := ?v41) rfl (by kernel_rfl) (by kernel_rfl) (by kernel_rfl) (fun _ _ _ h => h) (Or.inl ⟨by rfl, ?y41⟩) (by assumption) ?r41
        case y41 => (intro W hSw; (try dsimp only at hSw); go_simp; try (with_reducible rfl))
        try simp only [Act.put, List.setIfInBounds_toArray, List.set_cons_zero, List.set_cons_succ]
        refine wpAnyH_take (i := 14) (oi := { dst := some 26, op := Op.fieldAddr 35 (Operand.tmp 1) 2, type := 0, pos := _, after := #[{ on := 13, ground := Ground.guard }], guard := some (13, true) }) (v := ?v42) rfl (by kernel_rfl) (by kernel_rfl) (by kernel_rfl) (fun _ _ _ h => h) (Or.inl ⟨by rfl, ?y42⟩) (by assumption) ?r42
        case y42 => (intro W hSw; (try dsimp only at hSw); go_simp; try (with_reducible rfl))
        try simp only [Act.put, List.setIfInBounds_toArray, List.set_cons_zero, List.set_cons_succ]
        refine wpAnyH_take (i := 15) (oi := { dst := some 27, op := Op.load 2 (Operand.tmp 26), type := 2, pos := _, after := #[{ on := 14, ground := Ground.data }, { on := 13, ground := Ground.guard }], guard := some (13, true) }) (v := ?v43) rfl (by kernel_rfl) (by kernel_rfl) (by kernel_rfl) (fun _ _ _ h => h) (Or.inl ⟨by rfl, ?y43⟩) (by assumption) ?r43
        case y43 => (intro W hSw; (try dsimp only at hSw); go_simp; try (with_reducible rfl))
        try simp only [Act.put, List.setIfInBounds_toArray, List.set_cons_zero, List.set_cons_succ]
        refine wpAnyH_take (i := 16) (oi := { dst := some 28, op := Op.binOp BinOp.gtr 2 (Operand.tmp 27) (Operand.const (Value.int IntKind.i64 (-1000000000000000))) 2, type := 4, pos := _, after := #[{ on := 15, ground := Ground.data }, { on := 13, ground := Ground.guard }], guard := some (13, true) }) (v := ?v44) rfl (by kernel_rfl) (by kernel_rfl) (by kernel_rfl) (fun _ _ _ h => h) (Or.inl ⟨by rfl, ?y44⟩) (by assumption) ?r44
        case y44 => (intro W hSw; (try dsimp only at hSw); go_simp; try (with_reducible rfl))
        try simp only [Act.put, List.setIfInBounds_toArray, List.set_cons_zero, List.set_cons_succ]
        refine wpAnyH_take (i := 17) (oi := { dst := some 29, op := Op.pick (Operand.tmp 25) (Operand.tmp 28) (Operand.const (Value.bool false)), type := 4, pos := _, after := #[{ on := 13, ground := Ground.data }, { on := 16, ground := Ground.data }], guard := none }) (v := ?v45) rfl (by kernel_rfl) (by kernel_rfl) (by kernel_rfl) (fun _ _ _ h => h) (Or.inl ⟨by rfl, ?y45⟩) (by assumption) ?r45
        case y45 => (intro W hSw; (try dsimp only at hSw); go_simp; try (with_reducible rfl))
        try simp only [Act.put, List.setIfInBounds_toArray, List.set_cons_zero, List.set_cons_succ]
        refine wpAnyH_take (i := 18) (oi := { dst := some 30, op := Op.move (Operand.tmp 29), type := 4, pos := _, after := #[{ on := 17, ground := Ground.data }, { on := 13, ground := Ground.chain }], guard := none }) (v := ?v46) rfl (by kernel_rfl) (by kernel_rfl) (by kernel_rfl) (fun _ _ _ h => h) (Or.inl ⟨by rfl, ?y46⟩) (by assumption) ?r46
        case y46 => (intro W hSw; (try dsimp only at hSw); go_simp; try (with_reducible rfl))
        try simp only [Act.put, List.setIfInBounds_toArray, List.set_cons_zero, List.set_cons_succ]
        refine wpAnyH_take (i := 19) (oi := { dst := some 31, op := Op.fieldAddr 35 (Operand.tmp 1) 2, type := 0, pos := _, after := #[{ on := 18, ground := Ground.guard }, { on := 23, ground := Ground.gcOnly Departure.lateStores }], guard := some (18, true) }) (v := undef) rfl (by kernel_rfl) (by kernel_rfl) (by kernel_rfl) (fun _ _ _ h => h) (Or.inr ⟨by rfl, rfl⟩) (by assumption) ?_
        try simp only [Act.put, List.setIfInBounds_toArray, List.set_cons_zero, List.set_cons_succ]
        refine wpAnyH_take (i := 20) (oi := { dst := some 32, op := Op.load 2 (Operand.tmp 31), type := 2, pos := _, after := #[{ on := 19, ground := Ground.data }, { on := 18, ground := Ground.guard }, { on := 23, ground := Ground.gcOnly Departure.lateStores }], guard := some (18, true) }) (v := undef) rfl (by kernel_rfl) (by kernel_rfl) (by kernel_rfl) (fun _ _ _ h => h) (Or.inr ⟨by rfl, rfl⟩) (by assumption) ?_
        try simp only [Act.put, List.setIfInBounds_toArray, List.set_cons_zero, List.set_cons_succ]
        refine wpAnyH_take (i := 21) (oi := { dst := some 33, op := Op.binOp BinOp.lss 2 (Operand.tmp 32) (Operand.const (Value.int IntKind.i64 1000000000000000)) 2, type := 4, pos := _, after := #[{ on := 20, ground := Ground.data }, { on := 18, ground := Ground.guard }, { on := 23, ground := Ground.gcOnly Departure.lateStores }], guard := some (18, true) }) (v := undef) rfl (by kernel_rfl) (by kernel_rfl) (by kernel_rfl) (fun _ _ _ h => h) (Or.inr ⟨by rfl, rfl⟩) (by assumption) ?_
        try simp only [Act.put, List.setIfInBounds_toArray, List.set_cons_zero, List.set_cons_succ]
        refine wpAnyH_take (i := 22) (oi := { dst := some 34, op := Op.pick (Operand.tmp 30) (Operand.tmp 33) (Operand.const (Value.bool false)), type := 4, pos := _, after := #[{ on := 18, ground := Ground.data }, { on := 21, ground := Ground.data }, { on := 23, ground := Ground.gcOnly Departure.lateStores }], guard := none }) (v := ?v47) rfl (by kernel_rfl) (by kernel_rfl) (by kernel_rfl) (fun _ _ _ h => h) (Or.inl ⟨by rfl, ?y47⟩) (by assumption) ?r47
        case y47 => (intro W hSw; (try dsimp only at hSw); go_simp; try (with_reducible rfl))
        try simp only [Act.put, List.setIfInBounds_toArray, List.set_cons_zero, List.set_cons_succ]
        refine wpAnyH_ready (rs := [23]) (by kernel_rfl) (by simp) ?_
        refine AllReadyH.cons (o := { dst := none, op := Op.store 41 (Operand.tmp 2) (Operand.tmp 18), type := 0, pos := _, after := #[{ on := 6, ground := Ground.data }, { on := 18, ground := Ground.chain }, { on := 0, ground := Ground.phase }, { on := 1, ground := Ground.phase }, { on := 2, ground := Ground.phase }, { on := 3, ground := Ground.phase }, { on := 4, ground := Ground.phase }, { on := 5, ground := Ground.phase }, { on := 6, ground := Ground.phase }, { on := 7, ground := Ground.textOnly Departure.lateStores }, { on := 8, ground := Ground.textOnly Departure.lateStores }, { on := 9, ground := Ground.textOnly Departure.lateStores }, { on := 10, ground := Ground.textOnly Departure.lateStores }, { on := 11, ground := Ground.textOnly Departure.lateStoresUnsure }, { on := 12, ground := Ground.textOnly Departure.lateStores }, { on := 13, ground := Ground.textOnly Departure.lateStores }, { on := 14, ground := Ground.textOnly Departure.lateStores }, { on := 15, ground := Ground.textOnly Departure.lateStores }, { on := 16, ground := Ground.textOnly Departure.lateStores }, { on := 17, ground := Ground.textOnly Departure.lateStores }, { on := 18, ground := Ground.textOnly Departure.lateStores }, { on := 19, ground := Ground.textOnly Departure.lateStores }, { on := 20, ground := Ground.textOnly Departure.lateStores }, { on := 21, ground := Ground.textOnly Departure.lateStores }, { on := 22, ground := Ground.textOnly Departure.lateStores }], guard := none }) rfl (fun K hK => ?_) AllReadyH.nil
        go_simp
        refine hK.out _ _ (by go_keep) (fun hHeld => ?_)
        clear hK K
        try simp only [Act.put, List.setIfInBounds_toArray, List.set_cons_zero, List.set_cons_succ]
        refine wpAnyH_take (i := 24) (oi := { dst := some 3, op := Op.assign (Operand.tmp 34), type := 4, pos := _, after := #[{ on := 22, ground := Ground.data }, { on := 23, ground := Ground.chain }, { on := 0, ground := Ground.phase }, { on := 1, ground := Ground.phase }, { on := 2, ground := Ground.phase }, { on := 3, ground := Ground.phase }, { on := 4, ground := Ground.phase }, { on := 5, ground := Ground.phase }, { on := 6, ground := Ground.phase }, { on := 7, ground := Ground.phase }, { on := 8, ground := Ground.phase }, { on := 9, ground := Ground.phase }, { on := 10, ground := Ground.phase }, { on := 11, ground := Ground.phase }, { on := 12, ground := Ground.phase }, { on := 13, ground := Ground.phase }, { on := 14, ground := Ground.phase }, { on := 15, ground := Ground.phase }, { on := 16, ground := Ground.phase }, { on := 17, ground := Ground.phase }, { on := 18, ground := Ground.phase }, { on := 19, ground := Ground.phase }, { on := 20, ground := Ground.phase }, { on := 21, ground := Ground.phase }, { on := 22, ground := Ground.phase }, { on := 23, ground := Ground.phase }], guard := none }) (v := ?v48) rfl (by kernel_rfl) (by kernel_rfl) (by kernel_rfl) (fun _ _ _ h => h) (Or.inl ⟨by rfl, ?y48⟩) (by assumption) ?r48
        case y48 => (intro W hSw; (try dsimp only at hSw); go_simp; try (with_reducible rfl))
        try simp only [Act.put, List.setIfInBounds_toArray, List.set_cons_zero, List.set_cons_succ]
        refine wpAnyH_done (by kernel_rfl) ?_ _
        go_wp2
        refine bodyPost_ret (v := .tuple #[.agg #[.slice la m lc, .int .u64 (bv : Nat), .int .i64 ms], .bool false]) (by simp [results, Tryz.results19, go_sem, r0, r1, r2]) rfl ⟨SaysV.no _ _, ?_⟩
        exact (((HBW.out.setCell (by show w.heap.size ≤ w.heap.size + 1; omega) _).setCell (by show w.heap.size ≤ w.heap.size + 1; omega) _).setCell (by show w.heap.size ≤ w.heap.size + 1; omega) _)

end Go.Proofs.YtdeejmkjhmpabaaGreatDoor

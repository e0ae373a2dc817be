/-
  impl.safe: a call under recover, where nothing panics.
-/
import Derived.Test.YtdeejmkjhmpabaaGreatDoorFb
import Derived.Defers
import Derived.Recover
namespace Go.Proofs.YtdeejmkjhmpabaaGreatDoor
open Go.RowKit Go.Lib

set_option maxHeartbeats 400000 in
/-- The deferred closure, of a frame that returns. -/
theorem caught_idle (p : Addr) (v : Value) (w : World) (hc : w.cell? p = some v) (hf : w.frozen? p = false) :
    CallsD Tryz.prog 56 #[.pointer (some p)] .returning w fun e u' w' => e = .returned (.tuple #[]) ∧ u' = .returning ∧ w' = w.setCell p (.bool true) := by
  have hnil : ∀ w : World, (binOp BinOp.eql 20 .nilIface .nilIface).run Tryz.prog w = .ok (.bool true) w := fun _ => by kernel_rfl
  refine callsD_of_wpS Tryz.func56 rfl fun c₀ cs hu => ?_
  apply wpS_region
  simp [wpOpsS, go_sem, recoverD, hu, Tryz.ntmps56, hnil, hc, hf]
  cases c₀
  simp_all [bodyPostS, results, Tryz.results56]

set_option maxRecDepth 100000 in
set_option maxHeartbeats 800000 in
theorem safe_any (K : Nat) (cap : Array Value) (hent : ∀ w, (callFunc K cap).run Tryz.prog w = .ok (.enter K cap) w) (B : Nat) (w w0 : World) (hw0 : Hid (w0 = w.alloc (.cells #[.bool false] 4))) (hB : B ≤ w.heap.size) (R : World → Prop)
    (hc : Calls Tryz.prog K cap w0 fun e w' => e = .returned (.tuple #[]) ∧ Below B w0 w' ∧ w'.cell? ⟨w.heap.size, 0, none⟩ = some (.bool false) ∧ w'.frozen? ⟨w.heap.size, 0, none⟩ = false ∧ R w')
    (hR : ∀ w', R w' → R (w'.setCell ⟨w.heap.size, 0, none⟩ (.bool true))) :
    Calls Tryz.prog 29 #[.func (.func K) #[] cap] w fun e w' => e = .returned (.bool true) ∧ Below B w w' ∧ R w' := by
  have hmf : ∀ (fn : Fn) (first cap : Array Value) (w : World), (Instr.makeFunc fn first cap).run Tryz.prog w = .ok (.func fn first cap) w := fun _ _ _ _ => rfl
  have hB0 : Below B w w0 := by rw [hw0.out]; exact (Below.refl _ _).alloc hB _
  have HB0 := Lib.hid hB0
  have HR := Lib.hid hR
  clear hB0 hR
  go_enter_defers Tryz.func29, Tryz.ntmps29
  go_wp2_with (rw [← hw0.out]; (with_reducible refine hc.mono ?_); rintro e w1 ⟨rfl, hb1, k1, k2, hr1⟩)
  have k3 : (w1.setCell ⟨w.heap.size, 0, none⟩ (.bool true)).cell? ⟨w.heap.size, 0, none⟩ = some (.bool true) := World.cell?_setCell_same _ _ _ k1
  have k4 : (w1.setCell ⟨w.heap.size, 0, none⟩ (.bool true)).frozen? ⟨w.heap.size, 0, none⟩ = false := by rw [World.frozen?_setCell]; exact k2
  refine leaves_cons (f := 56) (args := #[.pointer (some ⟨w.heap.size, 0, none⟩)]) (by simp) (by simp [go_sem]) ?_
  refine (caught_idle ⟨w.heap.size, 0, none⟩ _ _ k3 k4).mono ?_
  rintro e u' w'' ⟨rfl, rfl, rfl⟩
  have k5 : ((w1.setCell ⟨w.heap.size, 0, none⟩ (.bool true)).setCell ⟨w.heap.size, 0, none⟩ (.bool true)).cell? ⟨w.heap.size, 0, none⟩ = some (.bool true) := World.cell?_setCell_same _ _ _ k3
  have hbw3 : Below B w ((w1.setCell ⟨w.heap.size, 0, none⟩ (.bool true)).setCell ⟨w.heap.size, 0, none⟩ (.bool true)) := ((HB0.out.trans hb1).setCell hB _).setCell hB _
  have hr3 := HR.out _ (HR.out _ hr1)
  simp [Leaves, settle, results, Tryz.results29, go_sem, k5]
  exact ⟨hbw3, hr3⟩

end Go.Proofs.YtdeejmkjhmpabaaGreatDoor

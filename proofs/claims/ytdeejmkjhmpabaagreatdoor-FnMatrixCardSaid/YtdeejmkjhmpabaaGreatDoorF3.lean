import Derived.Test.YtdeejmkjhmpabaaGreatDoorF2
import Derived.Lib.ItoaMem
namespace Go.Proofs.YtdeejmkjhmpabaaGreatDoor
open Go.RowKit Go.Sort Go.Lib

/-- A byte in a cell. -/
def encB (b : UInt8) : Value := .int .u8 (b.toNat : Int)

theorem nDigits_mul (d z : Nat) (hd : 1 ≤ d) : nDigits (d * 10 ^ z) = nDigits d + z := by
  induction z with
  | zero => simp
  | succ z ih =>
    have h1 : 1 ≤ d * 10 ^ z := Nat.mul_pos hd (Nat.pow_pos (by decide))
    rw [Nat.pow_succ, ← Nat.mul_assoc, nDigits_big (by omega), Nat.mul_div_cancel _ (by decide), ih]
    omega

theorem dg_nat (u j : Nat) : (dg u j).toNat = 48 + u / 10 ^ j % 10 := by
  unfold dg
  rw [UInt8.toNat_ofNat']
  omega

/-- What formatBase10 leaves: the digits in the buffer. -/
def FB (d nd b : Nat) (w w' : World) : Prop :=
  (∀ k z, k + z + 1 = nd → w'.cell? ⟨b, k, none⟩ = some (.int .u8 (48 + ((d / 10 ^ z % 10 : Nat) : Int)))) ∧ Below b w w' ∧ w'.heap.size = w.heap.size

/-- What setDigits answers: the digits without the zeros at the end. -/
def SDpost (d nd b : Nat) (dp : Int) (w : World) (e : Ending) (w' : World) : Prop :=
  (∃ d' z k : Nat, e = .returned (.tuple #[.int .i64 dp, .int .i64 (k : Int)]) ∧ d = d' * 10 ^ z ∧ d' % 10 ≠ 0 ∧ k + z = nd) ∧ FB d nd b w w'

theorem sd_done (d nd k z b : Nat) (hz : d % 10 ^ z = 0) (hk : k + z = nd) (hc : d / 10 ^ z % 10 ≠ 0) (dp x y : Int) (w W1 : World) (hF : FB d nd b w W1) (hx : x = dp) (hy : y = (k : Int)) :
    SDpost d nd b dp w (.returned (.tuple #[.int .i64 x, .int .i64 y])) W1 := by
  subst hx hy
  exact ⟨⟨d / 10 ^ z, z, k, rfl, (Nat.div_mul_cancel (Nat.dvd_of_mod_eq_zero hz)).symm, hc, hk⟩, hF⟩

theorem sd_step (d z : Nat) (hz : d % 10 ^ z = 0) (hc : d / 10 ^ z % 10 = 0) : d % 10 ^ (z + 1) = 0 := by
  rw [Nat.pow_succ, Nat.mod_mul, hz, hc]; simp

set_option maxRecDepth 100000 in
set_option maxHeartbeats 1000000 in
theorem setDigits_walk (d nd b : Nat) (P dp : Int) (w : World) (hnd : nd ≤ 32) (h1 : 1 ≤ nd) (hd : 1 ≤ d) (hdd : d < 10 ^ nd) (hdp : wrap64 ((nd : Int) + P) = dp)
    (cF : Calls Tryz.prog 115 #[.slice (some ⟨b, 0, none⟩) nd 32, .int .u64 (d : Int)] w fun e w' => e = .returned (.tuple #[]) ∧ FB d nd b w w') :
    Calls Tryz.prog 204 #[.slice (some ⟨b, 0, none⟩) 32 32, .int .u64 (d : Int), .int .i64 P, .int .i64 (nd : Int)] w (SDpost d nd b dp w) := by
  obtain ⟨n1, rfl⟩ : ∃ n1, nd = n1 + 1 := ⟨nd - 1, by omega⟩
  have HD := Lib.hid hdd
  clear hdd
  go_enter Tryz.func204, Tryz.ntmps204
  go_wp2_with (go_at_call 115; (with_reducible refine cF.mono ?_); rintro e W1 ⟨rfl, hFB⟩)
  clear cF
  go_loop [3] (fun v => ∃ k z : Nat, v = .int .i64 ((k : Int) + 1) ∧ Hid (k + z = n1 ∧ d % 10 ^ z = 0)) (fun v => (intOf v).toNat)
  case atStart => exact ⟨n1, 0, by go_num, by simp, by simp [Nat.mod_one]⟩
  case round =>
    obtain ⟨k, z, rfl, HK⟩ := hrel
    have hc := hFB.1 k z (by have := HK.out.1; omega)
    have hk32 : k ≤ 31 := by have := HK.out.1; omega
    by_cases h0 : d / 10 ^ z % 10 = 0
    · rw [h0] at hc
      have hk1 : 1 ≤ k := by
        rcases Nat.eq_zero_or_pos k with h | h
        · exfalso
          have hz := HK.out
          have := sd_step d z hz.2 h0
          rw [show z + 1 = n1 + 1 by omega] at this
          rw [Nat.mod_eq_of_lt HD.out] at this
          omega
        · exact h
      have HZ := Lib.hid (sd_step d z HK.out.2 h0)
      clear h0
      go_wp2
      go_round
      case rel => exact ⟨k - 1, z + 1, by congr 1; omega, by have := HK.out.1; omega, HZ.out⟩
      case measure => simp [intOf]
    · have hlt : d / 10 ^ z % 10 < 10 := Nat.mod_lt _ (by decide)
      have HN := Lib.hid h0
      obtain ⟨c, hcd⟩ : ∃ c, c = d / 10 ^ z % 10 := ⟨_, rfl⟩
      rw [← hcd] at hc hlt
      have ht : ((48 + (c : Int)) == 48) = false := by have : ¬ c = 0 := by rw [hcd]; exact h0
                                                       simp; omega
      clear h0 hcd
      go_wp2
      go_ret2
      exact sd_done d (n1 + 1) (k + 1) z b HK.out.2 (by have := HK.out.1; omega) HN.out dp _ _ w W1 hFB hdp (by omega)

theorem nDigits_le : ∀ (k d : Nat), 1 ≤ k → d < 10 ^ k → nDigits d ≤ k
  | 0, _, h, _ => absurd h (by decide)
  | k + 1, d, _, h => by
    by_cases hd : d < 10
    · rw [nDigits_small hd]; omega
    · rw [nDigits_big hd]
      have hk : 1 ≤ k := by
        rcases Nat.eq_zero_or_pos k with h0 | h0
        · subst h0; omega
        · exact h0
      have := nDigits_le k (d / 10) hk (Nat.div_lt_of_lt_mul (by rw [Nat.pow_succ, Nat.mul_comm] at h; exact h))
      omega

theorem below_putRow (enc : UInt8 → Value) (w : World) (b off : Nat) (d : Array UInt8) : Below b w (putRow enc w b off d) ∧ (putRow enc w b off d).heap.size = w.heap.size := by
  refine ⟨⟨rfl, rfl, rfl, by simp [putRow, mapBlock], fun k hk => ?_⟩, by simp [putRow, mapBlock]⟩
  simp only [putRow, mapBlock, Array.getElem?_modify]
  rw [if_neg (by omega)]

/-- setDigits: the digits of d, without the zeros at the end, stand at the head of the buffer b. -/
theorem setDigits_any (d P b : Nat) (hd : 1 ≤ d) (hd2 : d < 1000000000000000000) (hP : P ≤ 100) (w : World) (hH : ∀ t, t < 32 → w.cell? ⟨b, t, none⟩ = some (.int .u8 0) ∧ w.frozen? ⟨b, t, none⟩ = false) :
    Calls Tryz.prog 204 #[.slice (some ⟨b, 0, none⟩) 32 32, .int .u64 (d : Int), .int .i64 (-(P : Int)), .int .i64 (nDigits d : Int)] w fun e w' =>
      (∃ d' z k : Nat, e = .returned (.tuple #[.int .i64 ((nDigits d : Int) - P), .int .i64 (k : Int)]) ∧ d = d' * 10 ^ z ∧ d' % 10 ≠ 0 ∧ k + z = nDigits d ∧ k = nDigits d' ∧ (∀ t j, t + j + 1 = k → w'.cell? ⟨b, t, none⟩ = some (.int .u8 (48 + ((d' / 10 ^ j % 10 : Nat) : Int))))) ∧ Below b w w' ∧ w'.heap.size = w.heap.size := by
  have hn := nDigits_pos d
  have hn18 := nDigits_le 18 d (by decide) hd2
  have hlt := lt_pow_nDigits d
  have hHold : Holds (fun (b : UInt8) => Value.int .u8 (b.toNat : Int)) w b 0 (Array.replicate (nDigits d) (0 : UInt8)) := fun j hj => by
    have hj' : j < nDigits d := by simpa using hj
    have := hH j (by omega)
    rw [Nat.zero_add]
    refine ⟨?_, this.2⟩
    rw [this.1, getElem!_pos _ j hj, Array.getElem_replicate]
    rfl
  have cF := Tryz.internal_strconv_formatBase10 b 0 32 d (Array.replicate (nDigits d) (0 : UInt8)) w hHold (by rw [Array.size_replicate]; exact hlt) (by omega) (by rw [Array.size_replicate]; omega)
  rw [Array.size_replicate] at cF
  have cF' : Calls Tryz.prog 115 #[.slice (some ⟨b, 0, none⟩) (nDigits d) 32, .int .u64 (d : Int)] w fun e w' => e = .returned (.tuple #[]) ∧ FB d (nDigits d) b w w' := by
    refine cF.mono fun e w' ⟨he, n, v', dk, hw, hI⟩ => ⟨he, ?_⟩
    subst hw
    have hs := hI.size
    have hH2 := holds_putRow _ w b 0 _ dk hHold (by simp [hs])
    obtain ⟨hB, hS⟩ := below_putRow (fun (b : UInt8) => Value.int .u8 (b.toNat : Int)) w b 0 dk
    refine ⟨fun k z hkz => ?_, below_drewN hB n, hS⟩
    have h1 := (hH2 k (by rw [hs]; omega)).1
    rw [hI.done k (Nat.zero_le _) (by omega), Nat.zero_add] at h1
    dsimp only at h1
    rw [dg_nat] at h1
    rw [World.cell?_drewN, h1]
    have : nDigits d - 1 - k = z := by omega
    rw [this]
    simp
  refine (setDigits_walk d (nDigits d) b (-(P : Int)) ((nDigits d : Int) - P) w (by omega) hn hd hlt ?_ cF').mono ?_
  · rw [IntWalk.wrap64_in _ (by omega)]; omega
  · rintro e w' ⟨⟨d', z, k, he, hd1, hd2, hk⟩, hFB⟩
    have hd0 : 1 ≤ d' := by omega
    have hnd := nDigits_mul d' z hd0
    rw [← hd1] at hnd
    refine ⟨⟨d', z, k, he, hd1, hd2, hk, by omega, fun t j htj => ?_⟩, hFB.2⟩
    have h1 := hFB.1 t (j + z) (by omega)
    have h2 : d / 10 ^ (j + z) = d' / 10 ^ j := by
      rw [hd1, Nat.pow_add, Nat.mul_div_mul_right _ _ (Nat.pow_pos (by decide))]
    rw [h2] at h1
    exact h1

end Go.Proofs.YtdeejmkjhmpabaaGreatDoor

/-
  zzPlaceValue, walked: it computes what parseLength computes.
-/
import Derived.Test.Qxb6618121aParse
namespace Go.Proofs.Qxb6618121a
open Go.RowKit

theorem place_none (a : Option Addr) (c : Nat) (w : World) :
    Calls Try.prog 10 #[.slice a 0 c] w fun e w' => e = .returned (.tuple #[.int .i64 0, .bool false]) ∧ w' = w := by
  go_enter Try.func10, Try.ntmps10
  go_wp2
  go_ret2
  exact ⟨rfl, rfl⟩

theorem digs_cons {z : Nat → Int} {n i : Nat} (hi : i < n) (h : digs z (n - i) n) (hk : dig z (n - 1 - i)) : digs z (n - (i + 1)) n := fun j h1 h2 => by
  by_cases e : j = n - 1 - i
  · rw [e]; exact hk
  · exact h j (by omega) h2

set_option maxHeartbeats 400000 in
theorem place_pos (g off n c : Nat) (z : Nat → Int) (v : Int) (b : Bool) (w : World) (h1 : 1 ≤ n) (hc : n ≤ c) (hm : c ≤ maxLen) (hz : ¬ z 0 = 45) (hr : Hid (RowAt w g off n z)) (hPL : PL z n v b) :
    Calls Try.prog 10 #[.slice (some ⟨g, off, none⟩) n c] w fun e w' => e = .returned (.tuple #[.int .i64 v, .bool b]) ∧ w' = w := by
  unfold maxLen at hm
  have g0 : w.cell? ⟨g, off, none⟩ = some (.int .u8 (z 0)) := (hr.out 0 (by omega)).1
  have hn : ¬ neg z n := fun h => hz h.2
  have t1 : (z 0 == 45) = false := beq_eq_false_iff_ne.2 hz
  have t3 : decide (0 < n) = true := decide_eq_true (by omega)
  have t2 : decide ((n : Int) < 1) = false := decide_eq_false (by omega)
  by_cases h18 : n ≤ 18
  · have t4 : decide ((18 : Int) < (n : Int)) = false := decide_eq_false (by omega)
    go_enter Try.func10, Try.ntmps10
    go_wp2_with fail
    go_loop [6, 7, 8] (fun x p k => ∃ i : Nat, i ≤ n ∧ k = .int .i64 ((n : Int) - 1 - i) ∧ x = .int .i64 (pvs z n i) ∧ p = .int .i64 (p10 i) ∧ digs z (n - i) n) (fun _ _ k => (intOf k + 1).toNat)
    case atStart => exact ⟨0, Nat.zero_le _, by go_num, rfl, rfl, fun j h1 h2 => by omega⟩
    case round =>
      obtain ⟨i, hi, rfl, rfl, rfl, hds⟩ := hrel
      by_cases hlt : i < n
      · obtain ⟨gc, g1, g2⟩ := hr.out (n - 1 - i) (by omega)
        have hb := pvs_bd i hi hds
        have hb2 := p10_le (show i ≤ 17 by omega)
        rw [p10_17] at hb2
        have hp1 := p10_pos i
        by_cases d1 : 48 ≤ z (n - 1 - i)
        · by_cases d2 : z (n - 1 - i) ≤ 57
          · have hm2 := dig_mul (x := z (n - 1 - i) - 48) (by omega) (by omega) hp1
            have e1 : Hid (pvs z n (i + 1) = pvs z n i + (z (n - 1 - i) - 48) * p10 i) := rfl
            have e3 : Hid (p10 (i + 1) = p10 i * 10) := rfl
            have e2 : Hid (digs z (n - (i + 1)) n) := digs_cons hlt hds ⟨d1, d2⟩
            go_wp2_with fail
            go_round
            case rel => exact ⟨i + 1, by omega, by go_num, by rw [e1.out], by rw [e3.out], e2.out⟩
            case measure => simp [intOf]; omega
          · have hp := pl_ret hPL (PL_pos_bad hn (show n - 1 - i < n by omega) (by omega))
            have d3 : decide (57 < z (n - 1 - i)) = true := decide_eq_true (by omega)
            go_wp2_with fail
            go_ret2
            exact ⟨hp, rfl⟩
        · have hp := pl_ret hPL (PL_pos_bad hn (show n - 1 - i < n by omega) (by omega))
          have d3 : decide (z (n - 1 - i) < 48) = true := decide_eq_true (by omega)
          go_wp2_with fail
          go_ret2
          exact ⟨hp, rfl⟩
      · obtain rfl : i = n := by omega
        have hp := pl_ret hPL (PL_pos hz h1 h18 (by simpa using hds))
        rw [hv_eq_pvs, Nat.zero_add] at hp
        go_wp2_with fail
        go_ret2
        exact ⟨hp, rfl⟩
  · have hp := pl_ret hPL (PL_pos_len hn (by omega))
    have t4 : decide ((18 : Int) < (n : Int)) = true := decide_eq_true (by omega)
    go_enter Try.func10, Try.ntmps10
    go_wp2_with fail
    go_ret2
    exact ⟨hp, rfl⟩

set_option maxHeartbeats 400000 in
theorem place_neg (g off n c : Nat) (z : Nat → Int) (v : Int) (b : Bool) (w : World) (h1 : 1 ≤ n) (hc : n ≤ c) (hm : c ≤ maxLen) (hz : z 0 = 45) (hr : Hid (RowAt w g off n z)) (hPL : PL z n v b) :
    Calls Try.prog 10 #[.slice (some ⟨g, off, none⟩) n c] w fun e w' => e = .returned (.tuple #[.int .i64 v, .bool b]) ∧ w' = w := by
  unfold maxLen at hm
  have g0 : w.cell? ⟨g, off, none⟩ = some (.int .u8 (z 0)) := (hr.out 0 (by omega)).1
  have Hz : Hid (z 0 = 45) := hz
  have t1 : (z 0 == 45) = true := beq_iff_eq.2 hz
  clear hz
  have t3 : decide (0 < n) = true := decide_eq_true (by omega)
  by_cases hn1 : n = 1
  · have hp := pl_ret hPL (PL_neg_len (by omega) Hz.out (by omega))
    subst hn1
    go_enter Try.func10, Try.ntmps10
    go_wp2_with fail
    go_ret2
    exact ⟨hp, rfl⟩
  · obtain ⟨m, rfl⟩ : ∃ m, n = m + 1 := ⟨n - 1, by omega⟩
    have hm1 : 1 ≤ m := by omega
    have t2 : decide ((m : Int) < 1) = false := decide_eq_false (by omega)
    by_cases h18 : m ≤ 18
    · have t4 : decide ((18 : Int) < (m : Int)) = false := decide_eq_false (by omega)
      go_enter Try.func10, Try.ntmps10
      go_wp2_with fail
      go_loop [6, 7, 8] (fun x p k => ∃ i : Nat, i ≤ m ∧ k = .int .i64 ((m : Int) - i) ∧ x = .int .i64 (pvs z (m + 1) i) ∧ p = .int .i64 (p10 i) ∧ digs z (m + 1 - i) (m + 1)) (fun _ _ k => (intOf k).toNat)
      case atStart => exact ⟨0, Nat.zero_le _, by go_num, rfl, rfl, fun j h1 h2 => by omega⟩
      case round =>
        obtain ⟨i, hi, rfl, rfl, rfl, hds⟩ := hrel
        by_cases hlt : i < m
        · obtain ⟨gc, g1, g2⟩ := hr.out (m - i) (by omega)
          have hb := pvs_bd i (by omega) hds
          have hb2 := p10_le (show i ≤ 17 by omega)
          rw [p10_17] at hb2
          have hp1 := p10_pos i
          by_cases d1 : 48 ≤ z (m - i)
          · by_cases d2 : z (m - i) ≤ 57
            · have hm2 := dig_mul (x := z (m - i) - 48) (by omega) (by omega) hp1
              have e1 : Hid (pvs z (m + 1) (i + 1) = pvs z (m + 1) i + (z (m - i) - 48) * p10 i) := rfl
              have e3 : Hid (p10 (i + 1) = p10 i * 10) := rfl
              have e2 : Hid (digs z (m + 1 - (i + 1)) (m + 1)) := digs_cons (by omega) hds ⟨d1, d2⟩
              go_wp2_with fail
              go_round
              case rel => exact ⟨i + 1, by omega, by go_num, by rw [e1.out], by rw [e3.out], e2.out⟩
              case measure => simp [intOf]; omega
            · have hp := pl_ret hPL (PL_neg_bad (by omega) Hz.out (show 1 ≤ m - i by omega) (by omega) (by omega))
              have d3 : decide (57 < z (m - i)) = true := decide_eq_true (by omega)
              go_wp2_with fail
              go_ret2
              exact ⟨hp, rfl⟩
          · have hp := pl_ret hPL (PL_neg_bad (by omega) Hz.out (show 1 ≤ m - i by omega) (by omega) (by omega))
            have d3 : decide (z (m - i) < 48) = true := decide_eq_true (by omega)
            go_wp2_with fail
            go_ret2
            exact ⟨hp, rfl⟩
        · obtain rfl : i = m := by omega
          have hp := pl_ret hPL (PL_neg (by omega) Hz.out (by omega) (by omega) (by simpa using hds))
          rw [Nat.add_sub_cancel, hv_eq_pvs, Nat.add_comm 1 i] at hp
          have hb := pvs_bd i (by omega) hds
          have hb2 := p10_le (show i ≤ 18 by omega)
          rw [p10_18] at hb2
          go_wp2_with fail
          go_ret2
          exact ⟨hp, rfl⟩
    · have hp := pl_ret hPL (PL_neg_len (by omega) Hz.out (by omega))
      have t4 : decide ((18 : Int) < (m : Int)) = true := decide_eq_true (by omega)
      go_enter Try.func10, Try.ntmps10
      go_wp2_with fail
      go_ret2
      exact ⟨hp, rfl⟩
theorem place_any (g off n c : Nat) (z : Nat → Int) (v : Int) (b : Bool) (w : World) (h1 : 1 ≤ n) (hc : n ≤ c) (hm : c ≤ maxLen) (hr : Hid (RowAt w g off n z)) (hPL : PL z n v b) :
    Calls Try.prog 10 #[.slice (some ⟨g, off, none⟩) n c] w fun e w' => e = .returned (.tuple #[.int .i64 v, .bool b]) ∧ w' = w := by
  by_cases hz : z 0 = 45
  · exact place_neg g off n c z v b w h1 hc hm hz hr hPL
  · exact place_pos g off n c z v b w h1 hc hm hz hr hPL
end Go.Proofs.Qxb6618121a

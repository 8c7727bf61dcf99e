/-
  parseLength and ZZparseLength, walked.
-/
import Derived.Test.Qxb6618121aDigits
import Derived.WalkSpells
import Derived.WalkLawsBesides
namespace Go.Proofs.Qxb6618121a
open Go.RowKit

/-- the bytes of the row, each at its cell and within a byte -/
def RowAt (w : World) (g off n : Nat) (z : Nat → Int) : Prop := ∀ j, j < n → w.cell? ⟨g, off + j, none⟩ = some (.int .u8 (z j)) ∧ 0 ≤ z j ∧ z j ≤ 255

theorem pl_ret {z : Nat → Int} {n : Nat} {v v' : Int} {b b' : Bool} (h : PL z n v b) (h' : PL z n v' b') :
    Ending.returned (.tuple #[.int .i64 v', .bool b']) = .returned (.tuple #[.int .i64 v, .bool b]) := by
  obtain ⟨rfl, rfl⟩ := PL_uniq h h'; rfl

theorem parse_none (a : Option Addr) (c : Nat) (w : World) :
    Calls Try.prog 19 #[.slice a 0 c] w fun e w' => e = .returned (.tuple #[.int .i64 0, .bool false]) ∧ w' = w := by
  go_enter Try.func19, Try.ntmps19
  go_wp2
  go_ret2
  exact ⟨rfl, rfl⟩

theorem hv_zero (z : Nat → Int) (k : Nat) : hv z 0 (k + 1) = hv z 0 k * 10 + (z k - 48) := by
  show hv z 0 k * 10 + (z (0 + k) - 48) = _; rw [Nat.zero_add]
theorem digs_snoc {z : Nat → Int} {s k : Nat} (h : digs z s k) (hk : dig z k) : digs z s (k + 1) := fun j h1 h2 => by
  by_cases e : j = k
  · rw [e]; exact hk
  · exact h j h1 (by omega)
theorem dig_dec {x : Int} (h0 : 48 ≤ x) (h1 : x ≤ 57) : decide (x < 48) = false ∧ decide (57 < x) = false := ⟨decide_eq_false (by omega), decide_eq_false (by omega)⟩

set_option maxHeartbeats 400000 in
theorem parse_pos (g off n c : Nat) (z : Nat → Int) (v : Int) (b : Bool) (w : World) (h1 : 1 ≤ n) (hc : n ≤ c) (hm : c ≤ maxLen) (hz : ¬ z 0 = 45) (hr : Hid (RowAt w g off n z)) (hPL : PL z n v b) :
    Calls Try.prog 19 #[.slice (some ⟨g, off, none⟩) n c] w fun e w' => e = .returned (.tuple #[.int .i64 v, .bool b]) ∧ w' = w := by
  unfold maxLen at hm
  have g0 : w.cell? ⟨g, off, none⟩ = some (.int .u8 (z 0)) := (hr.out 0 (by omega)).1
  have hn : ¬ neg z n := fun h => hz h.2
  have t1 : (z 0 == 45) = false := beq_eq_false_iff_ne.2 hz
  have t2 : ((n : Int) == 0) = false := beq_eq_false_iff_ne.2 (by omega)
  have t3 : decide (0 < n) = true := decide_eq_true (by omega)
  by_cases h18 : n ≤ 18
  · have t4 : decide ((18 : Int) < (n : Int)) = false := decide_eq_false (by omega)
    go_enter Try.func19, Try.ntmps19
    go_wp2_with fail
    go_loop [5, 30] (fun x i => ∃ k : Nat, k ≤ n ∧ i = .int .i64 k ∧ x = .int .i64 (hv z 0 k) ∧ digs z 0 k) (fun _ i => n - (intOf i).toNat)
    case atStart => exact ⟨0, Nat.zero_le _, rfl, rfl, fun j h1 h2 => by omega⟩
    case round =>
      obtain ⟨k, hk, rfl, rfl, hds⟩ := hrel
      by_cases hlt : k < n
      · obtain ⟨gc, g1, g2⟩ := hr.out k hlt
        have hb := hv_bd k (z := z) (s := 0) (by simpa using hds)
        have hb2 := p10_le (show k ≤ 17 by omega)
        rw [p10_17] at hb2
        by_cases d1 : 48 ≤ z k
        · by_cases d2 : z k ≤ 57
          · have e1 : Hid (hv z 0 (k + 1) = hv z 0 k * 10 + (z k - 48)) := hv_zero z k
            have e2 : Hid (digs z 0 (k + 1)) := digs_snoc hds ⟨d1, d2⟩
            go_wp2_with fail
            go_round
            case rel => exact ⟨k + 1, by omega, by go_num, by rw [e1.out], e2.out⟩
            case measure => simp [intOf]; omega
          · have hp := pl_ret hPL (PL_pos_bad hn hlt (by omega))
            have d3 : decide (57 < z k) = true := decide_eq_true (by omega)
            go_wp2_with fail
            go_ret2
            exact ⟨hp, rfl⟩
        · have hp := pl_ret hPL (PL_pos_bad hn hlt (by omega))
          have d3 : decide (z k < 48) = true := decide_eq_true (by omega)
          go_wp2_with fail
          go_ret2
          exact ⟨hp, rfl⟩
      · obtain rfl : k = n := by omega
        have hp := pl_ret hPL (PL_pos hz h1 h18 hds)
        go_wp2_with fail
        go_ret2
        exact ⟨hp, rfl⟩
  · have hp := pl_ret hPL (PL_pos_len hn (by omega))
    have t4 : decide ((18 : Int) < (n : Int)) = true := decide_eq_true (by omega)
    go_enter Try.func19, Try.ntmps19
    go_wp2_with fail
    go_ret2
    exact ⟨hp, rfl⟩

set_option maxHeartbeats 400000 in
theorem parse_neg (g off n c : Nat) (z : Nat → Int) (v : Int) (b : Bool) (w : World) (h1 : 1 ≤ n) (hc : n ≤ c) (_hm : c ≤ maxLen) (hz : z 0 = 45) (hr : Hid (RowAt w g off n z)) (hPL : PL z n v b) :
    Calls Try.prog 19 #[.slice (some ⟨g, off, none⟩) n c] w fun e w' => e = .returned (.tuple #[.int .i64 v, .bool b]) ∧ w' = w := by
  unfold maxLen at _hm
  have g0 : w.cell? ⟨g, off, none⟩ = some (.int .u8 (z 0)) := (hr.out 0 (by omega)).1
  have Hz : Hid (z 0 = 45) := hz
  have t1 : (z 0 == 45) = true := beq_iff_eq.2 hz
  clear hz
  have t3 : decide (0 < n) = true := decide_eq_true (by omega)
  by_cases hn1 : n = 1
  · have hp := pl_ret hPL (PL_neg_len (by omega) Hz.out (by omega))
    subst hn1
    go_enter Try.func19, Try.ntmps19
    go_wp2_with fail
    all_goals
      go_ret2
      exact ⟨hp, rfl⟩
  · obtain ⟨m, rfl⟩ : ∃ m, n = m + 1 := ⟨n - 1, by omega⟩
    have hm1 : 1 ≤ m := by omega
    by_cases h18 : m ≤ 18
    · have t2 : ((m : Int) == 0) = false := beq_eq_false_iff_ne.2 (by omega)
      have t4 : decide ((18 : Int) < (m : Int)) = false := decide_eq_false (by omega)
      go_enter Try.func19, Try.ntmps19
      go_wp2_with fail
      go_loop [5, 30] (fun x i => ∃ k : Nat, k ≤ m ∧ i = .int .i64 k ∧ x = .int .i64 (hv z 1 k) ∧ digs z 1 (1 + k)) (fun _ i => m - (intOf i).toNat)
      case atStart => exact ⟨0, Nat.zero_le _, rfl, rfl, fun j h1 h2 => by omega⟩
      case round =>
        obtain ⟨k, hk, rfl, rfl, hds⟩ := hrel
        by_cases hlt : k < m
        · obtain ⟨gc, g1, g2⟩ := hr.out (1 + k) (by omega)
          rw [show off + (1 + k) = off + 1 + k by omega] at gc
          have hb := hv_bd k (z := z) (s := 1) hds
          have hb2 := p10_le (show k ≤ 17 by omega)
          rw [p10_17] at hb2
          by_cases d1 : 48 ≤ z (1 + k)
          · by_cases d2 : z (1 + k) ≤ 57
            · have e1 : Hid (hv z 1 (k + 1) = hv z 1 k * 10 + (z (1 + k) - 48)) := rfl
              have e2 : Hid (digs z 1 (1 + (k + 1))) := digs_snoc hds ⟨d1, d2⟩
              go_wp2_with fail
              go_round
              case rel => exact ⟨k + 1, by omega, by go_num, by rw [e1.out], e2.out⟩
              case measure => simp [intOf]; omega
            · have hp := pl_ret hPL (PL_neg_bad (by omega) Hz.out (show 1 ≤ 1 + k by omega) (by omega) (by omega))
              have d3 : decide (57 < z (1 + k)) = true := decide_eq_true (by omega)
              go_wp2_with fail
              go_ret2
              exact ⟨hp, rfl⟩
          · have hp := pl_ret hPL (PL_neg_bad (by omega) Hz.out (show 1 ≤ 1 + k by omega) (by omega) (by omega))
            have d3 : decide (z (1 + k) < 48) = true := decide_eq_true (by omega)
            go_wp2_with fail
            go_ret2
            exact ⟨hp, rfl⟩
        · obtain rfl : k = m := by omega
          have hp := pl_ret hPL (PL_neg (by omega) Hz.out (by omega) (by omega) (by rwa [Nat.add_comm] at hds))
          rw [Nat.add_sub_cancel] at hp
          have hb := hv_bd k (z := z) (s := 1) hds
          have hb2 := p10_le (show k ≤ 18 by omega)
          rw [p10_18] at hb2
          go_wp2_with fail
          go_ret2
          exact ⟨hp, rfl⟩
    · have hp := pl_ret hPL (PL_neg_len (by omega) Hz.out (by omega))
      have t2 : ((m : Int) == 0) = false := beq_eq_false_iff_ne.2 (by omega)
      have t4 : decide ((18 : Int) < (m : Int)) = true := decide_eq_true (by omega)
      go_enter Try.func19, Try.ntmps19
      go_wp2_with fail
      go_ret2
      exact ⟨hp, rfl⟩

/-- ZZparseLength on a row -/
theorem zzParse_any (g off n c : Nat) (z : Nat → Int) (v : Int) (b : Bool) (w : World) (h1 : 1 ≤ n) (hc : n ≤ c) (hm : c ≤ maxLen) (hr : Hid (RowAt w g off n z)) (hPL : PL z n v b) :
    Calls Try.prog 9 #[.slice (some ⟨g, off, none⟩) n c] w fun e w' => e = .returned (.tuple #[.int .i64 v, .bool b]) ∧ w' = w := by
  by_cases hz : z 0 = 45
  · have Hz : Hid (z 0 = 45) := hz
    clear hz
    go_enter Try.func9, Try.ntmps9
    go_wp2_with (go_at_call 19; refine (parse_neg g off n c z v b _ h1 hc hm Hz.out hr hPL).mono ?_; rintro e w' ⟨rfl, rfl⟩)
    go_ret2
    exact ⟨rfl, rfl⟩
  · go_enter Try.func9, Try.ntmps9
    go_wp2_with (go_at_call 19; refine (parse_pos g off n c z v b _ h1 hc hm hz hr hPL).mono ?_; rintro e w' ⟨rfl, rfl⟩)
    go_ret2
    exact ⟨rfl, rfl⟩
theorem zzParse_none (a : Option Addr) (c : Nat) (w : World) :
    Calls Try.prog 9 #[.slice a 0 c] w fun e w' => e = .returned (.tuple #[.int .i64 0, .bool false]) ∧ w' = w := by
  go_enter Try.func9, Try.ntmps9
  go_wp2_with (go_at_call 19; refine (parse_none _ _ _).mono ?_; rintro e w' ⟨rfl, rfl⟩)
  go_ret2
  exact ⟨rfl, rfl⟩
end Go.Proofs.Qxb6618121a

/-
  zzDecimal18, zzPow10 and the bound on length, walked; the plain laws of '-' ahead of a row.
-/
import Derived.Test.Qxb6618121aRow
namespace Go.Proofs.Qxb6618121a
open Go.RowKit

theorem dec_none (a : Option Addr) (c : Nat) (w : World) :
    Calls Try.prog 12 #[.slice a 0 c] w fun e w' => e = .returned (.bool false) ∧ w' = w := by
  go_enter Try.func12, Try.ntmps12
  go_wp2
  go_ret
  exact ⟨rfl, rfl⟩

theorem dec_ret {z : Nat → Int} {n : Nat} {b b' : Bool} (h : Hid (b = true ↔ 1 ≤ n ∧ n ≤ 18 ∧ digs z 0 n)) (h' : b' = true ↔ 1 ≤ n ∧ n ≤ 18 ∧ digs z 0 n) :
    Ending.returned (.bool b') = .returned (.bool b) := by
  have e : b' = b := Bool.eq_iff_iff.2 (h'.trans h.out.symm)
  rw [e]

set_option maxHeartbeats 400000 in
theorem dec_any (g off n c : Nat) (z : Nat → Int) (b : Bool) (w : World) (h1 : 1 ≤ n) (hc : n ≤ c) (hm : c ≤ maxLen) (hr : Hid (RowAt w g off n z)) (hb : Hid (b = true ↔ 1 ≤ n ∧ n ≤ 18 ∧ digs z 0 n)) :
    Calls Try.prog 12 #[.slice (some ⟨g, off, none⟩) n c] w fun e w' => e = .returned (.bool b) ∧ w' = w := by
  unfold maxLen at hm
  have t2 : decide ((n : Int) < 1) = false := decide_eq_false (by omega)
  by_cases h18 : n ≤ 18
  · have t4 : decide ((18 : Int) < (n : Int)) = false := decide_eq_false (by omega)
    go_enter Try.func12, Try.ntmps12
    go_wp2_with fail
    go_loop [3] (fun i => ∃ k : Nat, k ≤ n ∧ i = .int .i64 k ∧ digs z 0 k) (fun i => n - (intOf i).toNat)
    case atStart => exact ⟨0, Nat.zero_le _, rfl, fun j h1 h2 => by omega⟩
    case round =>
      obtain ⟨k, hk, rfl, hds⟩ := hrel
      by_cases hlt : k < n
      · obtain ⟨gc, g1, g2⟩ := hr.out k hlt
        by_cases d1 : 48 ≤ z k
        · by_cases d2 : z k ≤ 57
          · have e2 : Hid (digs z 0 (k + 1)) := digs_snoc hds ⟨d1, d2⟩
            go_wp2_with fail
            go_round
            case rel => exact ⟨k + 1, by omega, by go_num, e2.out⟩
            case measure => simp [intOf]; omega
          · have hp := dec_ret hb (b' := false) (by refine ⟨fun h => (by cases h), fun h => absurd (h.2.2 k (by omega) hlt) (fun hd => d2 hd.2)⟩)
            have d3 : decide (57 < z k) = true := decide_eq_true (by omega)
            go_wp2_with fail
            go_ret
            exact ⟨hp, rfl⟩
        · have hp := dec_ret hb (b' := false) (by refine ⟨fun h => (by cases h), fun h => absurd (h.2.2 k (by omega) hlt) (fun hd => d1 hd.1)⟩)
          have d3 : decide (z k < 48) = true := decide_eq_true (by omega)
          go_wp2_with fail
          go_ret
          exact ⟨hp, rfl⟩
      · obtain rfl : k = n := by omega
        have hp := dec_ret hb (b' := true) ⟨fun _ => ⟨h1, h18, hds⟩, fun _ => rfl⟩
        go_wp2_with fail
        go_ret
        exact ⟨hp, rfl⟩
  · have hp := dec_ret hb (b' := false) (by refine ⟨fun h => (by cases h), fun h => absurd h.2.1 h18⟩)
    have t4 : decide ((18 : Int) < (n : Int)) = true := decide_eq_true (by omega)
    go_enter Try.func12, Try.ntmps12
    go_wp2_with fail
    go_ret
    exact ⟨hp, rfl⟩

theorem pow_any (n : Nat) (hn : n ≤ 18) (w : World) :
    Calls Try.prog 13 #[.int .i64 n] w fun e w' => e = .returned (.int .i64 (p10 n)) ∧ w' = w := by
  go_enter Try.func13, Try.ntmps13
  go_wp2_with fail
  go_loop [3, 4] (fun p t => ∃ k : Nat, k ≤ n ∧ t = .int .i64 k ∧ p = .int .i64 (p10 k)) (fun _ t => n - (intOf t).toNat)
  case atStart => exact ⟨0, Nat.zero_le _, rfl, rfl⟩
  case round =>
    obtain ⟨k, hk, rfl, rfl⟩ := hrel
    by_cases hlt : k < n
    · have hb2 := p10_le (show k ≤ 17 by omega)
      rw [p10_17] at hb2
      have hp1 := p10_pos k
      have e3 : Hid (p10 (k + 1) = p10 k * 10) := rfl
      go_wp2_with fail
      go_round
      case rel => exact ⟨k + 1, by omega, by go_num, by rw [e3.out]⟩
      case measure => simp [intOf]; omega
    · obtain rfl : k = n := by omega
      go_wp2_with fail
      go_ret
      exact ⟨rfl, rfl⟩

theorem minusBytes_any (a : Option Addr) (n c : Nat) (hn : n ≤ 1048576) (w : World) :
    Calls Try.prog 11 #[.slice a n c] w fun e w' => e = .returned (.bool true) ∧ w' = w := by
  go_enter Try.func11, Try.ntmps11
  go_wp2
  go_ret
  exact ⟨rfl, rfl⟩
theorem minusBytes_long (a : Option Addr) (n c : Nat) (hn : 1048576 < n) (w : World) :
    Calls Try.prog 11 #[.slice a n c] w fun e w' => e = .returned (.bool false) ∧ w' = w := by
  go_enter Try.func11, Try.ntmps11
  go_wp2
  go_ret
  exact ⟨rfl, rfl⟩

/-! ### '-' ahead of a row: z' 0 = 45, z' (1 + j) = z j -/
theorem hv_shift {z z' : Nat → Int} (h : ∀ j, z' (1 + j) = z j) (n : Nat) : hv z' 1 n = hv z 0 n := by
  induction n with
  | zero => rfl
  | succ n ih => show hv z' 1 n * 10 + (z' (1 + n) - 48) = hv z 0 n * 10 + (z (0 + n) - 48); rw [ih, h, Nat.zero_add]
theorem digs_shift {z z' : Nat → Int} (h : ∀ j, z' (1 + j) = z j) (n : Nat) : digs z' 1 (n + 1) ↔ digs z 0 n := by
  refine ⟨fun hd j _ hj => ?_, fun hd j h1 hj => ?_⟩
  · have := hd (1 + j) (by omega) (by omega)
    unfold dig at this ⊢; rwa [h] at this
  · obtain ⟨k, rfl⟩ : ∃ k, j = 1 + k := ⟨j - 1, by omega⟩
    have := hd k (by omega) (by omega)
    unfold dig at this ⊢; rwa [h]
/-- b opens with '-': the longer row is refused; b's verdict is that of its rest; its value is not positive -/
theorem minus_neg {z z' : Nat → Int} {n : Nat} {v1 v2 : Int} {b1 b2 : Bool} (h0 : z' 0 = 45) (h : ∀ j, z' (1 + j) = z j) (hn : 0 < n) (hz : z 0 = 45) (p1 : PL z n v1 b1) (p2 : PL z' (n + 1) v2 b2) :
    v2 = 0 ∧ b2 = false ∧ (b1 = true ↔ 1 ≤ n - 1 ∧ n - 1 ≤ 18 ∧ digs (fun j => z (1 + j)) 0 (n - 1)) ∧ (b1 = false → v1 = 0) ∧ v1 ≤ 0 := by
  have hbad : ¬ (48 ≤ z' 1 ∧ z' 1 ≤ 57) := by have := h 0; rw [Nat.add_zero] at this; omega
  obtain ⟨rfl, rfl⟩ := PL_uniq p2 (PL_neg_bad (j := 1) (by omega) h0 (by omega) (by omega) hbad)
  refine ⟨rfl, rfl, ?_, ?_⟩
  · have hd : digs z 1 n ↔ digs (fun j => z (1 + j)) 0 (n - 1) := by
      have := digs_shift (z := fun j => z (1 + j)) (z' := z) (fun _ => rfl) (n - 1)
      rwa [show n - 1 + 1 = n by omega] at this
    rw [← hd]
    rcases p1 with ⟨h1, rfl, rfl⟩ | ⟨h1, rfl, rfl⟩ | ⟨h1, rfl, rfl⟩
    · exact ⟨fun _ => h1.2, fun _ => rfl⟩
    · exact absurd ⟨hn, hz⟩ h1.1
    · exact ⟨fun h => (by cases h), fun hh => absurd ⟨⟨hn, hz⟩, hh⟩ h1.1⟩
  · rcases p1 with ⟨h1, rfl, rfl⟩ | ⟨h1, rfl, rfl⟩ | ⟨h1, rfl, rfl⟩
    · have hb := (hv_bd (z := z) (s := 1) (n - 1) (by rw [show 1 + (n - 1) = n by omega]; exact h1.2.2.2)).1
      exact ⟨fun h => (by cases h), by omega⟩
    · exact absurd ⟨hn, hz⟩ h1.1
    · exact ⟨fun _ => rfl, by omega⟩
/-- b does not open with '-' -/
theorem minus_pos {z z' : Nat → Int} {n : Nat} {v1 v2 : Int} {b1 b2 : Bool} (h0 : z' 0 = 45) (h : ∀ j, z' (1 + j) = z j) (hz : ¬ neg z n) (p1 : PL z n v1 b1) (p2 : PL z' (n + 1) v2 b2) :
    (b1 = true ↔ 1 ≤ n ∧ n ≤ 18 ∧ digs z 0 n) ∧ b2 = b1 ∧ v2 = - v1 ∧ (b1 = false → v1 = 0) ∧
    (b1 = true → 1 ≤ n ∧ n ≤ 18 ∧ 0 ≤ v1 ∧ v1 < p10 n ∧ 48 ≤ z (n - 1) ∧ z (n - 1) ≤ 57 ∧ v1 % 10 = z (n - 1) - 48) := by
  rcases p1 with ⟨h1, rfl, rfl⟩ | ⟨h1, rfl, rfl⟩ | ⟨h1, rfl, rfl⟩
  · exact absurd h1.1 hz
  · obtain ⟨_, hn1, hn2, hd⟩ := h1
    obtain ⟨rfl, rfl⟩ := PL_uniq p2 (PL_neg (by omega) h0 (by omega) (by omega) ((digs_shift h n).2 hd))
    refine ⟨⟨fun _ => ⟨hn1, hn2, hd⟩, fun _ => rfl⟩, rfl, ?_, fun h => (by cases h), fun _ => ?_⟩
    · rw [Nat.add_sub_cancel, hv_shift h]
    · have hb := hv_bd (z := z) (s := 0) n (by rwa [Nat.zero_add])
      obtain ⟨m, rfl⟩ : ∃ m, n = m + 1 := ⟨n - 1, by omega⟩
      have hdm := hd m (by omega) (by omega)
      unfold dig at hdm
      have e := hv_zero z m
      rw [Nat.add_sub_cancel]
      exact ⟨hn1, hn2, hb.1, by omega, hdm.1, hdm.2, by omega⟩
  · have hnd : ¬ (1 ≤ n ∧ n ≤ 18 ∧ digs z 0 n) := fun hh => h1.2 ⟨hz, hh⟩
    have p3 : PL z' (n + 1) 0 false := .inr (.inr ⟨⟨fun hh => hnd ⟨by omega, by omega, (digs_shift h n).1 hh.2.2.2⟩, fun hh => hh.1 ⟨by omega, h0⟩⟩, rfl, rfl⟩)
    obtain ⟨rfl, rfl⟩ := PL_uniq p2 p3
    exact ⟨⟨fun h => (by cases h), fun hh => absurd hh hnd⟩, rfl, by simp, fun _ => rfl, fun h => (by cases h)⟩
end Go.Proofs.Qxb6618121a

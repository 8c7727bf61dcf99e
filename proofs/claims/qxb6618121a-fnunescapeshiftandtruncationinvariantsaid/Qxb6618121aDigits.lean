/-
  PLAIN: what parseLength and zzPlaceValue compute; no Go in sight. 'z j': byte j of the row; 'n': its length.
-/
import Derived.Test.Qxb6618121aRows
import Derived.WalkKit
namespace Go.Proofs.Qxb6618121a

/-- byte j is an ASCII digit -/
def dig (z : Nat → Int) (j : Nat) : Prop := 48 ≤ z j ∧ z j ≤ 57
/-- all bytes from s up to e are digits -/
def digs (z : Nat → Int) (s e : Nat) : Prop := ∀ j, s ≤ j → j < e → dig z j
/-- the value of the k digits from s on, left to right -/
def hv (z : Nat → Int) (s : Nat) : Nat → Int
  | 0 => 0
  | k + 1 => hv z s k * 10 + (z (s + k) - 48)
/-- 10^i -/
def p10 : Nat → Int
  | 0 => 1
  | i + 1 => p10 i * 10
/-- the value of the i last digits ahead of e, right to left by place -/
def pvs (z : Nat → Int) (e : Nat) : Nat → Int
  | 0 => 0
  | i + 1 => pvs z e i + (z (e - 1 - i) - 48) * p10 i

theorem p10_pos (i : Nat) : 1 ≤ p10 i := by
  induction i with
  | zero => exact Int.le_refl _
  | succ i ih => unfold p10; omega
theorem p10_le {i j : Nat} (h : i ≤ j) : p10 i ≤ p10 j := by
  induction j with
  | zero => obtain rfl : i = 0 := by omega
            exact Int.le_refl _
  | succ j ih =>
    by_cases e : i = j + 1
    · rw [e]; exact Int.le_refl _
    · have := ih (by omega); have hp := p10_pos j
      show p10 i ≤ p10 j * 10
      omega
theorem p10_17 : p10 17 = 100000000000000000 := by decide +kernel
theorem p10_18 : p10 18 = 1000000000000000000 := by decide +kernel

theorem hv_bd {z : Nat → Int} {s : Nat} (k : Nat) (h : digs z s (s + k)) : 0 ≤ hv z s k ∧ hv z s k ≤ p10 k - 1 := by
  induction k with
  | zero => exact ⟨Int.le_refl _, Int.le_refl _⟩
  | succ k ih =>
    have hd := h (s + k) (by omega) (by omega)
    unfold dig at hd
    have := ih fun j h1 h2 => h j h1 (by omega)
    unfold hv p10
    omega
theorem dig_mul {x P : Int} (h0 : 0 ≤ x) (h1 : x ≤ 9) (hP : 1 ≤ P) : 0 ≤ x * P ∧ x * P ≤ 9 * P :=
  ⟨Int.mul_nonneg h0 (by omega), Int.mul_le_mul_of_nonneg_right h1 (by omega)⟩
theorem pvs_bd {z : Nat → Int} {e : Nat} (i : Nat) (hi : i ≤ e) (h : digs z (e - i) e) : 0 ≤ pvs z e i ∧ pvs z e i ≤ p10 i - 1 := by
  induction i with
  | zero => exact ⟨Int.le_refl _, Int.le_refl _⟩
  | succ i ih =>
    have hd := h (e - 1 - i) (by omega) (by omega)
    unfold dig at hd
    have := ih (by omega) fun j h1 h2 => h j (by omega) h2
    have hm := dig_mul (x := z (e - 1 - i) - 48) (by omega) (by omega) (p10_pos i)
    show 0 ≤ pvs z e i + (z (e - 1 - i) - 48) * p10 i ∧ pvs z e i + (z (e - 1 - i) - 48) * p10 i ≤ p10 i * 10 - 1
    omega
/-- left to right and right to left agree -/
theorem hv_pvs (z : Nat → Int) (s m : Nat) : ∀ i, i ≤ m → hv z s m = hv z s (m - i) * p10 i + pvs z (s + m) i := by
  intro i
  induction i with
  | zero => intro _; simp [p10, pvs]
  | succ i ih =>
    intro hi
    rw [ih (by omega)]
    obtain ⟨t, ht⟩ : ∃ t, m - i = t + 1 := ⟨m - i - 1, by omega⟩
    rw [ht, show m - (i + 1) = t by omega]
    show (hv z s t * 10 + (z (s + t) - 48)) * p10 i + pvs z (s + m) i = hv z s t * (p10 i * 10) + (pvs z (s + m) i + (z (s + m - 1 - i) - 48) * p10 i)
    rw [show s + m - 1 - i = s + t by omega, Int.add_mul, Int.mul_comm (p10 i) 10, Int.mul_assoc]
    omega
theorem hv_eq_pvs (z : Nat → Int) (s m : Nat) : hv z s m = pvs z (s + m) m := by
  have := hv_pvs z s m m (Nat.le_refl _)
  rw [Nat.sub_self] at this
  simpa [hv] using this

/-- does the row open with '-'? -/
def neg (z : Nat → Int) (n : Nat) : Prop := 0 < n ∧ z 0 = 45
/-- parseLength's verdict and value, case by case -/
def PL (z : Nat → Int) (n : Nat) (v : Int) (b : Bool) : Prop :=
  ((neg z n ∧ 1 ≤ n - 1 ∧ n - 1 ≤ 18 ∧ digs z 1 n) ∧ v = - hv z 1 (n - 1) ∧ b = true) ∨
  ((¬ neg z n ∧ 1 ≤ n ∧ n ≤ 18 ∧ digs z 0 n) ∧ v = hv z 0 n ∧ b = true) ∨
  ((¬ (neg z n ∧ 1 ≤ n - 1 ∧ n - 1 ≤ 18 ∧ digs z 1 n) ∧ ¬ (¬ neg z n ∧ 1 ≤ n ∧ n ≤ 18 ∧ digs z 0 n)) ∧ v = 0 ∧ b = false)

theorem PL_uniq {z : Nat → Int} {n : Nat} {v v' : Int} {b b' : Bool} (h : PL z n v b) (h' : PL z n v' b') : v = v' ∧ b = b' := by
  rcases h with ⟨h1, rfl, rfl⟩ | ⟨h1, rfl, rfl⟩ | ⟨h1, rfl, rfl⟩
  · rcases h' with ⟨h2, rfl, rfl⟩ | ⟨h2, rfl, rfl⟩ | ⟨h2, rfl, rfl⟩
    · exact ⟨rfl, rfl⟩
    · exact absurd h1.1 h2.1
    · exact absurd h1 h2.1
  · rcases h' with ⟨h2, rfl, rfl⟩ | ⟨h2, rfl, rfl⟩ | ⟨h2, rfl, rfl⟩
    · exact absurd h2.1 h1.1
    · exact ⟨rfl, rfl⟩
    · exact absurd h1 h2.2
  · rcases h' with ⟨h2, rfl, rfl⟩ | ⟨h2, rfl, rfl⟩ | ⟨h2, rfl, rfl⟩
    · exact absurd h2 h1.1
    · exact absurd h2 h1.2
    · exact ⟨rfl, rfl⟩
theorem PL_ex (z : Nat → Int) (n : Nat) : ∃ v b, PL z n v b := by
  by_cases h1 : neg z n ∧ 1 ≤ n - 1 ∧ n - 1 ≤ 18 ∧ digs z 1 n
  · exact ⟨_, _, .inl ⟨h1, rfl, rfl⟩⟩
  · by_cases h2 : ¬ neg z n ∧ 1 ≤ n ∧ n ≤ 18 ∧ digs z 0 n
    · exact ⟨_, _, .inr (.inl ⟨h2, rfl, rfl⟩)⟩
    · exact ⟨_, _, .inr (.inr ⟨⟨h1, h2⟩, rfl, rfl⟩)⟩
/-- the four ways out -/
theorem PL_neg {z : Nat → Int} {n : Nat} (h0 : 0 < n) (h : z 0 = 45) (h1 : 1 ≤ n - 1) (h2 : n - 1 ≤ 18) (hd : digs z 1 n) : PL z n (- hv z 1 (n - 1)) true :=
  .inl ⟨⟨⟨h0, h⟩, h1, h2, hd⟩, rfl, rfl⟩
theorem PL_pos {z : Nat → Int} {n : Nat} (h : ¬ z 0 = 45) (h1 : 1 ≤ n) (h2 : n ≤ 18) (hd : digs z 0 n) : PL z n (hv z 0 n) true :=
  .inr (.inl ⟨⟨fun hn => h hn.2, h1, h2, hd⟩, rfl, rfl⟩)
theorem PL_neg_len {z : Nat → Int} {n : Nat} (h0 : 0 < n) (h : z 0 = 45) (h1 : ¬ (1 ≤ n - 1 ∧ n - 1 ≤ 18)) : PL z n 0 false :=
  .inr (.inr ⟨⟨fun hh => h1 ⟨hh.2.1, hh.2.2.1⟩, fun hh => hh.1 ⟨h0, h⟩⟩, rfl, rfl⟩)
theorem PL_pos_len {z : Nat → Int} {n : Nat} (hn : ¬ neg z n) (h1 : ¬ (1 ≤ n ∧ n ≤ 18)) : PL z n 0 false :=
  .inr (.inr ⟨⟨fun hh => hn hh.1, fun hh => h1 ⟨hh.2.1, hh.2.2.1⟩⟩, rfl, rfl⟩)
theorem PL_neg_bad {z : Nat → Int} {n j : Nat} (h0 : 0 < n) (h : z 0 = 45) (hj : 1 ≤ j) (hj' : j < n) (hb : ¬ (48 ≤ z j ∧ z j ≤ 57)) : PL z n 0 false :=
  .inr (.inr ⟨⟨fun hh => hb (hh.2.2.2 j hj hj'), fun hh => hh.1 ⟨h0, h⟩⟩, rfl, rfl⟩)
theorem PL_pos_bad {z : Nat → Int} {n j : Nat} (hn : ¬ neg z n) (hj' : j < n) (hb : ¬ (48 ≤ z j ∧ z j ≤ 57)) : PL z n 0 false :=
  .inr (.inr ⟨⟨fun hh => hn hh.1, fun hh => hb (hh.2.2.2 j (Nat.zero_le _) hj')⟩, rfl, rfl⟩)
end Go.Proofs.Qxb6618121a

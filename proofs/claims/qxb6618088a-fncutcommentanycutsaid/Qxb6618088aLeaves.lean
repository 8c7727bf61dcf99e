/-
  THE LEAVES: isNameStart, isBlank, the three bounds on length, hasHashB1, isName, cutComment: each Go function computes a plain function.
-/
import Derived.Test.Qxb6618088aRows
import Derived.WalkKit
import Derived.WalkSpells
import Derived.WalkLawsBesides
import Derived.PlainAid
namespace Go.Proofs.Qxb6618088a
open Go.RowKit Go.PlainAid

/-- may a byte start a NAME? -/
def stI (n : Int) : Bool := decide (n = 95 ∨ (65 ≤ n ∧ n ≤ 90) ∨ (97 ≤ n ∧ n ≤ 122))

theorem start_any (n : Int) (w : World) :
    Calls Try.prog 14 #[.int .u8 n] w fun e w' => e = .returned (.bool (stI n)) ∧ w' = w := by
  have fin (b : Bool) (h : stI n = b) : Ending.returned (.bool b) = .returned (.bool (stI n)) := by rw [h]
  by_cases h1 : n = 95
  · subst h1
    go_enter Try.func14, Try.ntmps14
    go_wp2
    go_ret
    exact ⟨rfl, rfl⟩
  · by_cases h2 : 65 ≤ n
    · by_cases h3 : n ≤ 90
      · go_enter Try.func14, Try.ntmps14
        go_wp2
        go_ret
        exact ⟨fin _ (by rw [Bool.eq_iff_iff]; simp [stI]; omega), rfl⟩
      · by_cases h4 : 97 ≤ n
        · by_cases h5 : n ≤ 122
          · go_enter Try.func14, Try.ntmps14
            go_wp2
            go_ret
            exact ⟨fin _ (by rw [Bool.eq_iff_iff]; simp [stI]; omega), rfl⟩
          · go_enter Try.func14, Try.ntmps14
            go_wp2
            go_ret
            exact ⟨fin _ (by rw [Bool.eq_iff_iff]; simp [stI]; omega), rfl⟩
        · go_enter Try.func14, Try.ntmps14
          go_wp2
          go_ret
          exact ⟨fin _ (by rw [Bool.eq_iff_iff]; simp [stI]; omega), rfl⟩
    · have h4 : ¬ 97 ≤ n := by omega
      go_enter Try.func14, Try.ntmps14
      go_wp2
      go_ret
      exact ⟨fin _ (by rw [Bool.eq_iff_iff]; simp [stI]; omega), rfl⟩

/-- is a byte a blank? -/
def blI (n : Int) : Bool := decide (n = 32 ∨ n = 9)

theorem blank_any (n : Int) (w : World) :
    Calls Try.prog 15 #[.int .u8 n] w fun e w' => e = .returned (.bool (blI n)) ∧ w' = w := by
  have fin (b : Bool) (h : blI n = b) : Ending.returned (.bool b) = .returned (.bool (blI n)) := by rw [h]
  by_cases h1 : n = 32
  · subst h1
    go_enter Try.func15, Try.ntmps15
    go_wp2
    go_ret
    exact ⟨rfl, rfl⟩
  · by_cases h2 : n = 9
    · subst h2
      go_enter Try.func15, Try.ntmps15
      go_wp2
      go_ret
      exact ⟨rfl, rfl⟩
    · go_enter Try.func15, Try.ntmps15
      go_wp2
      go_ret
      exact ⟨fin _ (by rw [Bool.eq_iff_iff]; simp [blI]), rfl⟩

/-- may a byte stand in a NAME behind its first? -/
def ctI (n : Int) : Bool := decide (n = 95 ∨ (65 ≤ n ∧ n ≤ 90) ∨ (97 ≤ n ∧ n ≤ 122) ∨ (48 ≤ n ∧ n ≤ 57))
theorem ct_of_st {n : Int} (h : stI n = true) : ctI n = true := by simp [stI, ctI] at *; omega
theorem ct_of_dig {n : Int} (h : 48 ≤ n) (h' : n ≤ 57) : ctI n = true := by simp [ctI]; omega
theorem ct_no {n : Int} (h : stI n = false) (h' : ¬ (48 ≤ n ∧ n ≤ 57)) : ctI n = false := by
  unfold stI at h; have := of_decide_eq_false h; unfold ctI; exact decide_eq_false (by omega)

/-- is it a NAME? Over the bytes of a string. -/
def nmB (s : ByteArray) : Bool := decide (0 < s.size ∧ stI (bt s 0) = true ∧ ∀ j, j < s.size → 1 ≤ j → ctI (bt s j) = true)

theorem nm_empty {s : ByteArray} (h : s.size = 0) : nmB s = false := decide_eq_false (by omega)
theorem nm_bad0 {s : ByteArray} (h : stI (bt s 0) = false) : nmB s = false := decide_eq_false (by intro ⟨_, h2, _⟩; rw [h] at h2; cases h2)
theorem nm_bad {s : ByteArray} {j : Nat} (hj : j < s.size) (h1 : 1 ≤ j) (h : ctI (bt s j) = false) : nmB s = false :=
  decide_eq_false (by intro ⟨_, _, h3⟩; have := h3 j hj h1; rw [h] at this; cases this)
theorem nm_good {s : ByteArray} (h0 : 0 < s.size) (h : stI (bt s 0) = true) (h1 : ∀ j, j < s.size → 1 ≤ j → ctI (bt s j) = true) : nmB s = true :=
  decide_eq_true ⟨h0, h, h1⟩

theorem empty_true {s : ByteArray} (h : s.size = 0) : s.toList.isEmpty = true := by
  rw [ByteArray.toList_eq, List.isEmpty_iff, ← List.length_eq_zero_iff]; simpa using h
theorem empty_false {s : ByteArray} (h : ¬ s.size = 0) : s.toList.isEmpty = false := by
  rw [ByteArray.toList_eq, List.isEmpty_eq_false_iff, ne_eq, ← List.length_eq_zero_iff]; simpa using h

set_option maxHeartbeats 400000 in
theorem isName_any (s : ByteArray) (hs : s.size ≤ maxLen) (w : World) :
    Calls Try.prog 12 #[.string s] w fun e w' => e = .returned (.bool (nmB s)) ∧ w' = w := by
  unfold maxLen at hs
  have fin (b : Bool) (h : nmB s = b) : Ending.returned (.bool b) = .returned (.bool (nmB s)) := by rw [h]
  by_cases h0 : s.size = 0
  · have he := empty_true h0
    go_enter Try.func12, Try.ntmps12
    go_wp2
    go_ret
    exact ⟨fin _ (nm_empty h0), rfl⟩
  · have he := empty_false h0
    have hb := get_bt s
    have hpos : 0 < s.size := by omega
    cases hst : stI (bt s 0)
    · go_enter Try.func12, Try.ntmps12
      go_wp2_with (go_at_call 14; refine (start_any _ _).mono ?_; rintro e w' ⟨rfl, rfl⟩)
      go_ret
      exact ⟨fin _ (nm_bad0 hst), rfl⟩
    · go_enter Try.func12, Try.ntmps12
      go_wp2_with (go_at_call 14; refine (start_any _ _).mono ?_; rintro e w' ⟨rfl, rfl⟩)
      go_loop [3] (fun i => ∃ k : Nat, 1 ≤ k ∧ k ≤ s.size ∧ i = .int .i64 k ∧ ∀ j, j < k → 1 ≤ j → ctI (bt s j) = true) (fun i => s.size - (intOf i).toNat)
      case atStart => exact ⟨1, Nat.le_refl _, hpos, rfl, fun j h1 h2 => by omega⟩
      case round =>
        obtain ⟨k, hk1, hk, rfl, hall⟩ := hrel
        have hlt0 : k < s.size → 0 ≤ bt s k ∧ bt s k ≤ 255 := fun _ => ⟨bt_nonneg s k, bt_le s k⟩
        by_cases hlt : k < s.size
        · cases hsk : stI (bt s k)
          · by_cases hd : 48 ≤ bt s k
            · by_cases hd' : bt s k ≤ 57
              · have hc : Hid (ctI (bt s k) = true) := ct_of_dig hd hd'
                go_wp2_with (go_at_call 14; refine (start_any _ _).mono ?_; rintro e w' ⟨rfl, rfl⟩)
                go_round
                case rel => exact ⟨k + 1, by omega, by omega, by go_num, fun j h1 h2 => by
                  by_cases e : j = k
                  · rw [e]; exact hc.out
                  · exact hall j (by omega) h2⟩
                case measure => simp [intOf]; omega
              · have hc : Hid (ctI (bt s k) = false) := ct_no hsk (by omega)
                have hdd : decide (bt s k ≤ 57) = false := decide_eq_false hd'
                go_wp2_with (go_at_call 14; refine (start_any _ _).mono ?_; rintro e w' ⟨rfl, rfl⟩)
                go_ret
                exact ⟨fin _ (nm_bad hlt hk1 hc.out), rfl⟩
            · have hc : Hid (ctI (bt s k) = false) := ct_no hsk (by omega)
              go_wp2_with (go_at_call 14; refine (start_any _ _).mono ?_; rintro e w' ⟨rfl, rfl⟩)
              go_ret
              exact ⟨fin _ (nm_bad hlt hk1 hc.out), rfl⟩
          · have hc : Hid (ctI (bt s k) = true) := ct_of_st hsk
            go_wp2_with (go_at_call 14; refine (start_any _ _).mono ?_; rintro e w' ⟨rfl, rfl⟩)
            go_round
            case rel => exact ⟨k + 1, by omega, by omega, by go_num, fun j h1 h2 => by
              by_cases e : j = k
              · rw [e]; exact hc.out
              · exact hall j (by omega) h2⟩
            case measure => simp [intOf]; omega
        · go_wp2
          go_ret
          exact ⟨fin _ (nm_good hpos hst fun j h1 h2 => hall j (by omega) h2), rfl⟩

theorem zzIsName_any (s : ByteArray) (hs : s.size ≤ maxLen) (w : World) :
    Calls Try.prog 7 #[.string s] w fun e w' => e = .returned (.bool (nmB s)) ∧ w' = w := by
  go_enter Try.func7, Try.ntmps7
  go_wp2_with (go_at_call 12; refine (isName_any s hs _).mono ?_; rintro e w' ⟨rfl, rfl⟩)
  go_ret
  exact ⟨rfl, rfl⟩
end Go.Proofs.Qxb6618088a

/-
  cutComment: what it computes (plain), its laws, and the walks of cutComment and ZZCutComment.
-/
import Derived.Test.Qxb6618088aLeaves
namespace Go.Proofs.Qxb6618088a
open Go.RowKit Go.PlainAid

theorem cbt_at (s : ByteArray) {j : Nat} (h : j < s.size) : bt s j = ((s[j]'h).toNat : Int) := by unfold bt; rw [dif_pos h]
theorem cbt_extract (s : ByteArray) (a b j : Nat) (hb : b ≤ s.size) (h : a + j < b) : bt (s.extract a b) j = bt s (a + j) := by
  rw [cbt_at _ (by rw [ByteArray.size_extract]; omega), cbt_at _ (by omega), ByteArray.getElem_extract]
theorem cbt_left (a b : ByteArray) {j : Nat} (h : j < a.size) : bt (a ++ b) j = bt a j := by
  rw [cbt_at _ (by rw [ByteArray.size_append]; omega), cbt_at _ h, ByteArray.getElem_append_left h]
theorem cbt_right (a b : ByteArray) {j : Nat} (h : a.size ≤ j) (h' : j < a.size + b.size) : bt (a ++ b) j = bt b (j - a.size) := by
  rw [cbt_at _ (by rw [ByteArray.size_append]; omega), cbt_at _ (by omega), ByteArray.getElem_append_right h]
/-- Two strings of one length with the same bytes are one. -/
theorem bt_ext {a b : ByteArray} (hs : a.size = b.size) (h : ∀ j, j < a.size → bt a j = bt b j) : a = b := by
  apply ByteArray.ext_getElem hs
  intro i hi hi'
  have := h i hi
  rw [cbt_at a hi, cbt_at b hi'] at this
  exact UInt8.toNat_inj.1 (by omega)

/-- a '#' at i with a blank right before it -/
def hit (s : ByteArray) (i : Nat) : Bool := decide (bt s i = 35) && blI (bt s (i - 1))
/-- where cutComment cuts -/
def cutN (s : ByteArray) : Nat := ((List.range s.size).find? fun i => decide (1 ≤ i) && hit s i).getD s.size
/-- n is the place where s is cut -/
def IsCut (s : ByteArray) (n : Nat) : Prop := n ≤ s.size ∧ (∀ j, 1 ≤ j → j < n → hit s j = false) ∧ (n < s.size → 1 ≤ n ∧ hit s n = true)

theorem isCut_cutN (s : ByteArray) : IsCut s (cutN s) := by
  unfold cutN
  cases h : (List.range s.size).find? (fun i => decide (1 ≤ i) && hit s i) with
  | none =>
    rw [List.find?_eq_none] at h
    refine ⟨Nat.le_refl _, fun j h1 h2 => ?_, fun h => absurd h (by simp)⟩
    have := h j (List.mem_range.2 (by simpa using h2))
    simpa [h1] using this
  | some n =>
    rw [List.find?_range_eq_some] at h
    obtain ⟨h1, h2, h3⟩ := h
    simp only [Bool.and_eq_true, decide_eq_true_eq] at h1
    have h2' : n < s.size := List.mem_range.1 h2
    refine ⟨Nat.le_of_lt h2', fun j hj hj' => ?_, fun _ => h1⟩
    have := h3 j hj'
    simpa [hj] using this
theorem isCut_uniq {s : ByteArray} {n m : Nat} (h : IsCut s n) (h' : IsCut s m) : n = m := by
  obtain ⟨a1, a2, a3⟩ := h
  obtain ⟨b1, b2, b3⟩ := h'
  rcases Nat.lt_trichotomy n m with hlt | heq | hgt
  · have := a3 (by omega); have := b2 n this.1 hlt; simp_all
  · exact heq
  · have := b3 (by omega); have := a2 m this.1 hgt; simp_all
theorem cutN_of {s : ByteArray} {n : Nat} (h : IsCut s n) : cutN s = n := isCut_uniq (isCut_cutN s) h
/-- what cutComment returns -/
def cutB (s : ByteArray) : ByteArray := s.extract 0 (cutN s)
theorem cutN_le (s : ByteArray) : cutN s ≤ s.size := (isCut_cutN s).1
theorem size_cutB (s : ByteArray) : (cutB s).size = cutN s := by unfold cutB; rw [ByteArray.size_extract]; have := cutN_le s; omega
theorem cutB_of {s : ByteArray} {n : Nat} (h : IsCut s n) : cutB s = s.extract 0 n := by unfold cutB; rw [cutN_of h]
theorem extract_all (s : ByteArray) : s.extract 0 s.size = s := by
  apply bt_ext
  · rw [ByteArray.size_extract]; omega
  · intro j hj
    rw [ByteArray.size_extract] at hj
    rw [cbt_extract s 0 s.size j (Nat.le_refl _) (by omega)]; simp

theorem hit_yes {s : ByteArray} {k : Nat} (h : bt s k = 35) (h' : blI (bt s (k - 1)) = true) : hit s k = true := by simp [hit, h, h']
theorem hit_no1 {s : ByteArray} {k : Nat} (h : ¬ bt s k = 35) : hit s k = false := by simp [hit, h]
theorem hit_no2 {s : ByteArray} {k : Nat} (h' : blI (bt s (k - 1)) = false) : hit s k = false := by simp [hit, h']

set_option maxHeartbeats 400000 in
theorem cut_any (s : ByteArray) (hs : s.size ≤ maxLen) (w : World) :
    Calls Try.prog 13 #[.string s] w fun e w' => e = .returned (.string (cutB s)) ∧ w' = w := by
  unfold maxLen at hs
  have fin (n : Nat) (h : IsCut s n) : Ending.returned (.string (s.extract 0 n)) = .returned (.string (cutB s)) := by rw [cutB_of h]
  have finE (h : IsCut s s.size) : Ending.returned (.string s) = .returned (.string (cutB s)) := by rw [cutB_of h, extract_all]
  have hb := get_bt s
  go_enter Try.func13, Try.ntmps13
  go_wp2_with fail
  go_loop [3] (fun i => ∃ k : Nat, 1 ≤ k ∧ (k ≤ s.size ∨ k = 1) ∧ i = .int .i64 k ∧ ∀ j, 1 ≤ j → j < k → hit s j = false) (fun i => s.size - (intOf i).toNat)
  case atStart => exact ⟨1, Nat.le_refl _, .inr rfl, rfl, fun j h1 h2 => by omega⟩
  case round =>
    obtain ⟨k, hk1, hk, rfl, hall⟩ := hrel
    by_cases hlt : k < s.size
    · have hlt1 : k - 1 < s.size := by omega
      by_cases h35 : bt s k = 35
      · cases hbl : blI (bt s (k - 1))
        · have H : Hid (hit s k = false) := hit_no2 hbl
          go_wp2_with (go_at_call 15; refine (blank_any _ _).mono ?_; rintro e w' ⟨rfl, rfl⟩)
          go_round
          case rel => exact ⟨k + 1, by omega, .inl (by omega), by go_num, fun j h1 h2 => by
            by_cases e : j = k
            · rw [e]; exact H.out
            · exact hall j h1 (by omega)⟩
          case measure => simp [intOf]; omega
        · have H : Hid (hit s k = true) := hit_yes h35 hbl
          go_wp2_with (go_at_call 15; refine (blank_any _ _).mono ?_; rintro e w' ⟨rfl, rfl⟩)
          go_ret
          exact ⟨fin k ⟨by omega, hall, fun _ => ⟨hk1, H.out⟩⟩, rfl⟩
      · have H : Hid (hit s k = false) := hit_no1 h35
        go_wp2
        go_round
        case rel => exact ⟨k + 1, by omega, .inl (by omega), by go_num, fun j h1 h2 => by
          by_cases e : j = k
          · rw [e]; exact H.out
          · exact hall j h1 (by omega)⟩
        case measure => simp [intOf]; omega
    · go_wp2
      go_ret
      exact ⟨finE ⟨Nat.le_refl _, fun j h1 h2 => hall j h1 (by omega), fun h => absurd h (by simp)⟩, rfl⟩

theorem zzCut_any (s : ByteArray) (hs : s.size ≤ maxLen) (w : World) :
    Calls Try.prog 9 #[.string s] w fun e w' => e = .returned (.string (cutB s)) ∧ w' = w := by
  go_enter Try.func9, Try.ntmps9
  go_wp2_with (go_at_call 13; refine (cut_any s hs _).mono ?_; rintro e w' ⟨rfl, rfl⟩)
  go_ret
  exact ⟨rfl, rfl⟩
theorem cut_is {s r : ByteArray} (h : Hid (cutB s = r)) (hs : s.size ≤ maxLen) (w : World) :
    Calls Try.prog 9 #[.string s] w fun e w' => e = .returned (.string r) ∧ w' = w := by
  have h' := zzCut_any s hs w
  rwa [h.out] at h'
end Go.Proofs.Qxb6618088a

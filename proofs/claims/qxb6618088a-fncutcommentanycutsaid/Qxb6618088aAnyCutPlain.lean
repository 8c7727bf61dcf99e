/-
  THE LAW FnCutCommentAnyCut: the plain laws; hasHashB1 and the bound on length, walked.
-/
import Derived.Test.Qxb6618088aTailLaw
namespace Go.Proofs.Qxb6618088a
open Go.RowKit Go.PlainAid

theorem size_take (s : ByteArray) {k : Nat} (hk : k ≤ s.size) : (s.extract 0 k).size = k := by rw [ByteArray.size_extract]; omega
theorem bt_take (s : ByteArray) {k j : Nat} (hk : k ≤ s.size) (hj : j < k) : bt (s.extract 0 k) j = bt s j := by
  rw [cbt_extract s 0 k j hk (by omega), Nat.zero_add]

/-- r is the beginning of s -/
theorem cut_take (s : ByteArray) : s.extract 0 (cutB s).size = cutB s := by rw [size_cutB]; rfl

/-- s holds a '#' -/
def hashB (s : ByteArray) : Bool := (List.range s.size).any fun j => decide (bt s j = 35)
theorem hash_yes {s : ByteArray} {j : Nat} (hj : j < s.size) (h : bt s j = 35) : hashB s = true := by
  unfold hashB; rw [List.any_eq_true]; exact ⟨j, List.mem_range.2 hj, by simpa using h⟩
theorem hash_no {s : ByteArray} (h : ∀ j, j < s.size → ¬ bt s j = 35) : hashB s = false := by
  unfold hashB; rw [List.any_eq_false]; intro j hj; simpa using h j (List.mem_range.1 hj)
theorem no_hash {s : ByteArray} (h : hashB s = false) {j : Nat} (hj : j < s.size) : ¬ bt s j = 35 := by
  unfold hashB at h; rw [List.any_eq_false] at h; simpa using h j (List.mem_range.2 hj)
theorem cut_whole {s : ByteArray} (h : cutN s = s.size) : cutB s = s := by unfold cutB; rw [h, extract_all]
theorem cut_no_hash {s : ByteArray} (h : hashB s = false) : cutB s = s := by
  apply cut_whole; apply cutN_of
  exact ⟨Nat.le_refl _, fun j _ hj => hit_no1 (no_hash h hj), fun h => absurd h (by simp)⟩

/-- a blank and a hash behind a string that has a comment -/
theorem hash_behind_cut {s : ByteArray} (h : cutN s < s.size) : cutB (withHash s) = cutB s := by
  obtain ⟨h1, h2, h3⟩ := isCut_cutN s
  have hz := size_withHash s
  have e : ∀ j, j < s.size → hit (withHash s) j = hit s j := fun j hj => hit_congr (withHash_lt s hj) (withHash_lt s (by omega))
  have hc : IsCut (withHash s) (cutN s) := ⟨by omega, fun j hj hj' => by rw [e j (by omega)]; exact h2 j hj hj', fun _ => ⟨(h3 h).1, by rw [e _ h]; exact (h3 h).2⟩⟩
  rw [cutB_of hc]
  unfold cutB
  apply bt_ext
  · rw [size_take _ (by omega), size_take _ (by omega)]
  · intro j hj
    rw [size_take _ (by omega)] at hj
    rw [bt_take _ (by omega) hj, bt_take _ (by omega) hj, withHash_lt s (by omega)]
/-- a blank and a hash behind a string that has none -/
theorem hash_behind_whole {s : ByteArray} (h : cutN s = s.size) : cutB (withHash s) = s ++ ByteArray.mk #[32] := by
  obtain ⟨h1, h2, h3⟩ := isCut_cutN s
  have hz := size_withHash s
  have hc : IsCut (withHash s) (s.size + 1) := by
    refine ⟨by omega, fun j hj hj' => ?_, fun _ => ⟨by omega, withHash_hit s⟩⟩
    by_cases hjs : j < s.size
    · rw [hit_congr (withHash_lt s hjs) (withHash_lt s (by omega))]; exact h2 j hj (by omega)
    · obtain rfl : j = s.size := by omega
      apply hit_no1; rw [withHash_at0]; decide
  rw [cutB_of hc]
  apply bt_ext
  · rw [size_take _ (by omega), ByteArray.size_append, size_one]
  · intro j hj
    rw [size_take _ (by omega)] at hj
    rw [bt_take _ (by omega) hj]
    by_cases hjs : j < s.size
    · rw [withHash_lt s hjs, cbt_left _ _ hjs]
    · obtain rfl : j = s.size := by omega
      rw [withHash_at0, cbt_right _ _ (Nat.le_refl _) (by rw [size_one]; omega), Nat.sub_self]; rfl

/-- the cut lies in the first k bytes -/
theorem cut_in_left {s : ByteArray} {k : Nat} (hk : k ≤ s.size) (h : cutN (s.extract 0 k) < k) : cutB s = cutB (s.extract 0 k) ∧ cutN s < k := by
  obtain ⟨h1, h2, h3⟩ := isCut_cutN (s.extract 0 k)
  have hz := size_take s hk
  have e : ∀ j, j < k → hit (s.extract 0 k) j = hit s j := fun j hj => hit_congr (bt_take s hk hj) (bt_take s hk (by omega))
  have hc : IsCut s (cutN (s.extract 0 k)) :=
    ⟨by omega, fun j hj hj' => by rw [← e j (by omega)]; exact h2 j hj hj', fun _ => ⟨(h3 (by omega)).1, by rw [← e _ h]; exact (h3 (by omega)).2⟩⟩
  refine ⟨?_, by rw [cutN_of hc]; exact h⟩
  rw [cutB_of hc]
  unfold cutB
  apply bt_ext
  · rw [size_take _ (by omega), size_take _ (by omega)]
  · intro j hj
    rw [size_take _ (by omega)] at hj
    rw [bt_take _ (by omega) hj, bt_take _ (by omega) hj, bt_take _ hk (by omega)]
/-- it does not: 'q' is what is left from byte k-1 on -/
theorem right_isCut {s q : ByteArray} {k m : Nat} (hk1 : 1 ≤ k) (hk : k ≤ s.size) (hno : ∀ j, 1 ≤ j → j < k → hit s j = false)
    (hq : q.size = s.size - (k - 1)) (b : ∀ i, i < s.size - (k - 1) → bt q i = bt s (k - 1 + i)) (g : IsCut q m) : 1 ≤ m ∧ IsCut s (k - 1 + m) := by
  obtain ⟨g1, g2, g3⟩ := g
  have f : ∀ i, 1 ≤ i → i < s.size - (k - 1) → hit q i = hit s (k - 1 + i) := fun i hi hi' => by
    have e1 := b i hi'
    have e2 := b (i - 1) (by omega)
    rw [show k - 1 + (i - 1) = k - 1 + i - 1 by omega] at e2
    unfold hit; rw [e1, e2]
  have hm : 1 ≤ m := by
    by_cases hlt : m < q.size
    · exact (g3 hlt).1
    · omega
  refine ⟨hm, by omega, fun j hj hj' => ?_, fun hlt => ⟨by omega, by rw [← f _ hm (by omega)]; exact (g3 (by omega)).2⟩⟩
  by_cases hjk : j < k
  · exact hno j hj hjk
  · have := f (j - (k - 1)) (by omega) (by omega)
    rw [show k - 1 + (j - (k - 1)) = j by omega] at this
    rw [← this]; exact g2 _ (by omega) (by omega)
theorem join_take {s q : ByteArray} {k m : Nat} (hk : k ≤ s.size) (hm : m ≤ q.size) (hs : k + m ≤ s.size)
    (b : ∀ i, i < m → bt q i = bt s (k + i)) : s.extract 0 k ++ q.extract 0 m = s.extract 0 (k + m) := by
  have hl : (s.extract 0 k).size = k := size_take s hk
  have hr : (q.extract 0 m).size = m := size_take q hm
  apply bt_ext
  · rw [ByteArray.size_append, hl, hr, size_take s hs]
  · intro j hj
    rw [ByteArray.size_append, hl, hr] at hj
    rw [bt_take s hs hj]
    by_cases hjk : j < k
    · rw [cbt_left _ _ (by omega), bt_take s hk hjk]
    · rw [cbt_right _ _ (by omega) (by omega), hl, bt_take _ hm (by omega), b _ (by omega), show k + (j - k) = j by omega]
theorem cut_in_right {s : ByteArray} {k : Nat} (hk1 : 1 ≤ k) (hk : k ≤ s.size) (h : cutN (s.extract 0 k) = k) :
    s.extract 0 (k - 1) ++ cutB (s.extract (k - 1) s.size) = cutB s := by
  obtain ⟨h1, h2, h3⟩ := isCut_cutN (s.extract 0 k)
  have hno : ∀ j, 1 ≤ j → j < k → hit s j = false := fun j hj hj' => by
    rw [← hit_congr (bt_take s hk hj') (bt_take s hk (show j - 1 < k by omega))]; exact h2 j hj (by omega)
  have hq : (s.extract (k - 1) s.size).size = s.size - (k - 1) := by rw [ByteArray.size_extract]; omega
  have b : ∀ i, i < s.size - (k - 1) → bt (s.extract (k - 1) s.size) i = bt s (k - 1 + i) := fun i hi => cbt_extract s _ _ i (Nat.le_refl _) (by omega)
  have g := isCut_cutN (s.extract (k - 1) s.size)
  clear h1 h2 h3 h
  generalize s.extract (k - 1) s.size = q at hq b g ⊢
  obtain ⟨hm, hc⟩ := right_isCut hk1 hk hno hq b g
  rw [cutB_of hc]
  have g1 := g.1
  unfold cutB
  exact join_take (by omega) g1 (by omega) fun i hi => b i (by omega)

set_option maxHeartbeats 400000 in
theorem hasHash_any (s : ByteArray) (hs : s.size ≤ maxLen) (w : World) :
    Calls Try.prog 10 #[.string s] w fun e w' => e = .returned (.bool (hashB s)) ∧ w' = w := by
  unfold maxLen at hs
  have fin (b : Bool) (h : hashB s = b) : Ending.returned (.bool b) = .returned (.bool (hashB s)) := by rw [h]
  have hb := get_bt s
  go_enter Try.func10, Try.ntmps10
  go_wp2_with fail
  go_loop [3] (fun i => ∃ k : Nat, k ≤ s.size ∧ i = .int .i64 k ∧ ∀ j, j < k → ¬ bt s j = 35) (fun i => s.size - (intOf i).toNat)
  case atStart => exact ⟨0, Nat.zero_le _, rfl, fun j h => by omega⟩
  case round =>
    obtain ⟨k, hk, rfl, hall⟩ := hrel
    by_cases hlt : k < s.size
    · by_cases h35 : bt s k = 35
      · have H : Hid (hashB s = true) := hash_yes hlt h35
        go_wp2
        go_ret
        exact ⟨fin _ H.out, rfl⟩
      · go_wp2
        go_round
        case rel => exact ⟨k + 1, by omega, by go_num, fun j h1 => by
          by_cases e : j = k
          · rw [e]; exact h35
          · exact hall j (by omega)⟩
        case measure => simp [intOf]; omega
    · go_wp2
      go_ret
      exact ⟨fin _ (hash_no fun j hj => hall j (by omega)), rfl⟩
theorem hash_is {s : ByteArray} {b : Bool} (h : Hid (hashB s = b)) (hs : s.size ≤ maxLen) (w : World) :
    Calls Try.prog 10 #[.string s] w fun e w' => e = .returned (.bool b) ∧ w' = w := by
  have h' := hasHash_any s hs w
  rwa [h.out] at h'

theorem cutBytes_any (s : ByteArray) (k : Int) (hs : s.size ≤ 1048576) (w : World) :
    Calls Try.prog 8 #[.string s, .int .i64 k] w fun e w' => e = .returned (.bool true) ∧ w' = w := by
  go_enter Try.func8, Try.ntmps8
  go_wp2
  go_ret
  exact ⟨rfl, rfl⟩
theorem cutBytes_long (s : ByteArray) (k : Int) (hs : 1048576 < s.size) (w : World) :
    Calls Try.prog 8 #[.string s, .int .i64 k] w fun e w' => e = .returned (.bool false) ∧ w' = w := by
  go_enter Try.func8, Try.ntmps8
  go_wp2
  go_ret
  exact ⟨rfl, rfl⟩
end Go.Proofs.Qxb6618088a

/-
  THE LAW FnCutCommentTailIgnored: the plain law, and the walk.
-/
import Derived.Test.Qxb6618088aCut
namespace Go.Proofs.Qxb6618088a
open Go.RowKit Go.PlainAid

theorem size_one (c : UInt8) : (ByteArray.mk #[c]).size = 1 := rfl
theorem size_two (c d : UInt8) : (ByteArray.mk #[c, d]).size = 2 := rfl

/-- the string with a blank and a '#' behind it -/
def withHash (s : ByteArray) : ByteArray := s ++ ByteArray.mk #[32, 35]
theorem size_withHash (s : ByteArray) : (withHash s).size = s.size + 2 := by unfold withHash; rw [ByteArray.size_append, size_two]
theorem withHash_lt (s : ByteArray) {j : Nat} (h : j < s.size) : bt (withHash s) j = bt s j := cbt_left _ _ h
theorem withHash_at0 (s : ByteArray) : bt (withHash s) s.size = 32 := by
  unfold withHash; rw [cbt_right _ _ (Nat.le_refl _) (by rw [size_two]; omega), Nat.sub_self]; rfl
theorem withHash_at1 (s : ByteArray) : bt (withHash s) (s.size + 1) = 35 := by
  unfold withHash; rw [cbt_right _ _ (by omega) (by rw [size_two]; omega), show s.size + 1 - s.size = 1 by omega]; rfl
theorem withHash_hit (s : ByteArray) : hit (withHash s) (s.size + 1) = true := by
  apply hit_yes (withHash_at1 s); rw [Nat.add_sub_cancel, withHash_at0]; rfl
theorem hit_congr {a b : ByteArray} {j : Nat} (h : bt a j = bt b j) (h' : bt a (j - 1) = bt b (j - 1)) : hit a j = hit b j := by unfold hit; rw [h, h']

theorem hash_place (s : ByteArray) : 1 ≤ cutN (withHash s) ∧ cutN (withHash s) ≤ s.size + 1 := by
  obtain ⟨h1, h2, h3⟩ := isCut_cutN (withHash s)
  have hh := withHash_hit s
  rw [size_withHash] at h1 h3
  by_cases h : s.size + 1 < cutN (withHash s)
  · have := h2 (s.size + 1) (by omega) h; rw [hh] at this; cases this
  · exact ⟨(h3 (by omega)).1, by omega⟩
theorem tail_isCut (s t : ByteArray) : IsCut (withHash s ++ t) (cutN (withHash s)) := by
  obtain ⟨h1, h2, h3⟩ := isCut_cutN (withHash s)
  have hp := hash_place s
  have hs := size_withHash s
  have e : ∀ j, j ≤ s.size + 1 → hit (withHash s ++ t) j = hit (withHash s) j := fun j hj => hit_congr (cbt_left _ _ (by omega)) (cbt_left _ _ (by omega))
  refine ⟨by rw [ByteArray.size_append]; omega, fun j hj hj' => by rw [e j (by omega)]; exact h2 j hj hj', fun _ => ⟨hp.1, by rw [e _ hp.2]; exact (h3 (by omega)).2⟩⟩
theorem tail_cut (s t : ByteArray) : cutB (withHash s ++ t) = cutB (withHash s) := by
  rw [cutB_of (tail_isCut s t)]
  unfold cutB
  have hp := hash_place s
  have hs := size_withHash s
  apply bt_ext
  · rw [ByteArray.size_extract, ByteArray.size_extract, ByteArray.size_append]; omega
  · intro j hj
    rw [ByteArray.size_extract, ByteArray.size_append] at hj
    rw [cbt_extract _ 0 _ j (by rw [ByteArray.size_append]; omega) (by omega), cbt_extract _ 0 _ j (by omega) (by omega), cbt_left _ _ (by omega)]
theorem size_hashCut (s : ByteArray) : 1 ≤ (cutB (withHash s)).size ∧ (cutB (withHash s)).size ≤ s.size + 1 := by
  rw [size_cutB]; exact hash_place s
theorem hash_blank (s : ByteArray) : (s ++ ByteArray.mk #[32]).extract 0 (cutB (withHash s)).size = cutB (withHash s) := by
  have hp := hash_place s
  have hs := size_withHash s
  rw [size_cutB]
  unfold cutB
  apply bt_ext
  · rw [ByteArray.size_extract, ByteArray.size_extract, ByteArray.size_append, size_one]; omega
  · intro j hj
    rw [ByteArray.size_extract, ByteArray.size_append, size_one] at hj
    rw [cbt_extract _ 0 _ j (by rw [ByteArray.size_append, size_one]; omega) (by omega), cbt_extract _ 0 _ j (by omega) (by omega), Nat.zero_add]
    by_cases h : j < s.size
    · rw [cbt_left _ _ h, withHash_lt s h]
    · obtain rfl : j = s.size := by omega
      rw [withHash_at0, cbt_right _ _ (Nat.le_refl _) (by rw [size_one]; omega), Nat.sub_self]; rfl
/-- cutting twice is cutting once -/
theorem cut_cut (s : ByteArray) : cutB (cutB s) = cutB s := by
  obtain ⟨h1, h2, h3⟩ := isCut_cutN s
  have hz := size_cutB s
  have e : ∀ j, j < cutN s → bt (cutB s) j = bt s j := fun j hj => by
    unfold cutB; rw [cbt_extract _ 0 _ j (by omega) (by omega), Nat.zero_add]
  have hc : IsCut (cutB s) (cutB s).size := by
    refine ⟨Nat.le_refl _, fun j hj hj' => ?_, fun h => absurd h (by simp)⟩
    rw [hit_congr (e j (by omega)) (e (j - 1) (by omega))]
    exact h2 j hj (by omega)
  rw [cutB_of hc, extract_all]

theorem tailBytes_any (s t : ByteArray) (hs : s.size ≤ 1048576) (ht : t.size ≤ 1048576) (h : s.size + t.size ≤ 1048576) (w : World) :
    Calls Try.prog 11 #[.string s, .string t] w fun e w' => e = .returned (.bool true) ∧ w' = w := by
  go_enter Try.func11, Try.ntmps11
  go_wp2
  go_ret
  exact ⟨rfl, rfl⟩
theorem tailBytes_long1 (s t : ByteArray) (hs : 1048576 < s.size) (w : World) :
    Calls Try.prog 11 #[.string s, .string t] w fun e w' => e = .returned (.bool false) ∧ w' = w := by
  go_enter Try.func11, Try.ntmps11
  go_wp2
  go_ret
  exact ⟨rfl, rfl⟩
theorem tailBytes_long2 (s t : ByteArray) (hs : s.size ≤ 1048576) (ht : 1048576 < t.size) (w : World) :
    Calls Try.prog 11 #[.string s, .string t] w fun e w' => e = .returned (.bool false) ∧ w' = w := by
  go_enter Try.func11, Try.ntmps11
  go_wp2
  go_ret
  exact ⟨rfl, rfl⟩
theorem tailBytes_long3 (s t : ByteArray) (hs : s.size ≤ 1048576) (ht : t.size ≤ 1048576) (h : 1048576 < s.size + t.size) (w : World) :
    Calls Try.prog 11 #[.string s, .string t] w fun e w' => e = .returned (.bool false) ∧ w' = w := by
  go_enter Try.func11, Try.ntmps11
  go_wp2
  go_ret
  exact ⟨rfl, rfl⟩

set_option maxRecDepth 100000 in
set_option maxHeartbeats 400000 in
theorem tail_walk (s t : ByteArray) (w : World) :
    Calls Try.prog 5 #[.string s, .string t] w fun e w' => e = .returned (.bool true) ∧ Grown w w' := by
  by_cases hs : 1048576 < s.size
  · go_enter Try.func5, Try.ntmps5
    go_wp2_with (go_at_call 11; refine (tailBytes_long1 s t hs _).mono ?_; rintro e w' ⟨rfl, rfl⟩)
    go_ret
    exact ⟨rfl, Grown.refl _⟩
  by_cases ht : 1048576 < t.size
  · go_enter Try.func5, Try.ntmps5
    go_wp2_with (go_at_call 11; refine (tailBytes_long2 s t (by omega) ht _).mono ?_; rintro e w' ⟨rfl, rfl⟩)
    go_ret
    exact ⟨rfl, Grown.refl _⟩
  by_cases hst : 1048576 < s.size + t.size
  · go_enter Try.func5, Try.ntmps5
    go_wp2_with (go_at_call 11; refine (tailBytes_long3 s t (by omega) (by omega) hst _).mono ?_; rintro e w' ⟨rfl, rfl⟩)
    go_ret
    exact ⟨rfl, Grown.refl _⟩
  by_cases hs2 : 65536 < s.size
  · go_enter Try.func5, Try.ntmps5
    go_wp2_with (go_at_call 11; refine (tailBytes_any s t (by omega) (by omega) (by omega) _).mono ?_; rintro e w' ⟨rfl, rfl⟩)
    go_ret
    exact ⟨rfl, Grown.refl _⟩
  by_cases ht2 : 65536 < t.size
  · go_enter Try.func5, Try.ntmps5
    go_wp2_with (go_at_call 11; refine (tailBytes_any s t (by omega) (by omega) (by omega) _).mono ?_; rintro e w' ⟨rfl, rfl⟩)
    go_ret
    exact ⟨rfl, Grown.refl _⟩
  obtain ⟨r, hr⟩ : ∃ r, cutB (withHash s) = r := ⟨_, rfl⟩
  have HA : Hid (cutB (s ++ ByteArray.mk #[32, 35] ++ t) = r) := (tail_cut s t).trans hr
  have HB : Hid (cutB (s ++ ByteArray.mk #[32, 35]) = r) := hr
  have HC : Hid (cutB r = r) := by rw [← hr]; exact cut_cut _
  obtain ⟨hz1, hz2⟩ : 1 ≤ r.size ∧ r.size ≤ s.size + 1 := by rw [← hr]; exact size_hashCut s
  have hE : (s ++ ByteArray.mk #[32]).extract 0 r.size = r := by rw [← hr]; exact hash_blank s
  have hl2 : (s ++ ByteArray.mk #[32, 35]).size ≤ maxLen := by rw [ByteArray.size_append, size_two]; unfold maxLen; omega
  have hl3 : (s ++ ByteArray.mk #[32, 35] ++ t).size ≤ maxLen := by rw [ByteArray.size_append, ByteArray.size_append, size_two]; unfold maxLen; omega
  have hl4 : r.size ≤ maxLen := by unfold maxLen; omega
  clear hr
  go_enter Try.func5, Try.ntmps5
  go_wp2_with fail
  refine (tailBytes_any s t (by omega) (by omega) (by omega) _).mono ?_
  rintro e w' ⟨rfl, rfl⟩
  go_wp2_with fail
  refine (cut_is HA hl3 _).mono ?_
  rintro e w' ⟨rfl, rfl⟩
  go_wp2_with fail
  refine (cut_is HB hl2 _).mono ?_
  rintro e w' ⟨rfl, rfl⟩
  go_wp2_with fail
  refine (cut_is HC hl4 _).mono ?_
  rintro e w' ⟨rfl, rfl⟩
  go_wp2_with fail
  go_ret
  exact ⟨by simp, Grown.refl _⟩
end Go.Proofs.Qxb6618088a

/-
  THE LAW FnCutCommentAnyCut: the walk.
-/
import Derived.Test.Qxb6618088aAnyCutPlain
import Derived.Deep.QuietTactic
import Derived.BigQuiet
namespace Go.Proofs.Qxb6618088a
open Go.RowKit Go.PlainAid

theorem take_len (s : ByteArray) (k : Nat) (w0 : s.size ≤ maxLen) : (s.extract 0 k).size ≤ maxLen := by rw [ByteArray.size_extract]; omega
theorem drop_len (s : ByteArray) (k : Nat) (w0 : s.size ≤ maxLen) : (s.extract k s.size).size ≤ maxLen := by rw [ByteArray.size_extract]; omega
theorem hash_len (s : ByteArray) (h : s.size ≤ 65536) : (s ++ ByteArray.mk #[32, 35]).size ≤ maxLen := by rw [ByteArray.size_append, size_two]; unfold maxLen; omega

theorem slice_to (s : ByteArray) (n : Nat) (h1 : 1 ≤ n) (hn : n ≤ s.size) (wx : World) :
    (Instr.slice 9 (.string s) none (some (.int .i64 ((n : Int) - 1))) none).run Try.prog wx = .ok (.string (s.extract 0 (n - 1))) wx := by
  rw [run_slice_string_to_if wx 9 s .i64 _ Try.underlying9, if_pos (by omega), show ((n : Int) - 1).toNat = n - 1 by omega]
theorem slice_from (s : ByteArray) (n : Nat) (h1 : 1 ≤ n) (hn : n ≤ s.size) (wx : World) :
    (Instr.slice 9 (.string s) (some (.int .i64 ((n : Int) - 1))) none none).run Try.prog wx = .ok (.string (s.extract (n - 1) s.size)) wx := by
  rw [run_slice_string_from_if wx 9 s .i64 _ Try.underlying9, if_pos (by omega), show ((n : Int) - 1).toNat = n - 1 by omega]

/-- there is a comment; k = 0 -/
theorem walkA0 (s r : ByteArray) (n : Nat) (hn : n ≤ s.size) (hs : s.size ≤ 65536) (w0 : s.size ≤ maxLen) (hn0 : n = 0) (hlt : r.size < s.size)
    (HR : Hid (cutB s = r)) (HT : s.extract 0 r.size = r) (HH : Hid (hashB s = true)) (H2 : Hid (cutB (s ++ ByteArray.mk #[32, 35]) = r)) (w : World) :
    Calls Try.prog 4 #[.string s, .int .i64 n] w fun e w' => e = .returned (.bool true) ∧ Grown w w' := by
  subst hn0
  have t1 : decide ((65536 : Int) < (s.size : Int)) = false := decide_eq_false (by omega)
  go_enter Try.func4, Try.ntmps4
  go_wp2_with fail
  refine (cutBytes_any s _ (by omega) _).mono ?_
  rintro e w' ⟨rfl, rfl⟩
  go_wp2_with fail
  refine (cut_is HR w0 _).mono ?_
  rintro e w' ⟨rfl, rfl⟩
  go_wp2_with fail
  refine (hash_is HH w0 _).mono ?_
  rintro e w' ⟨rfl, rfl⟩
  go_wp2_with fail
  refine (cut_is H2 (hash_len s hs) _).mono ?_
  rintro e w' ⟨rfl, rfl⟩
  go_wp2_with fail
  go_ret
  exact ⟨rfl, by repeat (first | exact Grown.refl _ | apply Grown.drew | apply Grown.alloc)⟩
/-- there is a comment, inside the first k bytes -/
theorem walkA1 (s r : ByteArray) (n : Nat) (hn : n ≤ s.size) (hs : s.size ≤ 65536) (w0 : s.size ≤ maxLen) (hn1 : 1 ≤ n) (hlt : r.size < s.size)
    (HR : Hid (cutB s = r)) (HT : s.extract 0 r.size = r) (HH : Hid (hashB s = true)) (H2 : Hid (cutB (s ++ ByteArray.mk #[32, 35]) = r))
    (HP : Hid (cutB (s.extract 0 n) = r)) (hp : r.size < n) (w : World) :
    Calls Try.prog 4 #[.string s, .int .i64 n] w fun e w' => e = .returned (.bool true) ∧ Grown w w' := by
  have t2 : decide ((n : Int) < 0) = false := decide_eq_false (by omega)
  have t3 : decide (s.size < n) = false := decide_eq_false (by omega)
  have t1 : decide ((65536 : Int) < (s.size : Int)) = false := decide_eq_false (by omega)
  go_enter Try.func4, Try.ntmps4
  go_wp2_with fail
  refine (cutBytes_any s _ (by omega) _).mono ?_
  rintro e w' ⟨rfl, rfl⟩
  go_wp2_with fail
  refine (cut_is HR w0 _).mono ?_
  rintro e w' ⟨rfl, rfl⟩
  go_wp2_with fail
  refine (hash_is HH w0 _).mono ?_
  rintro e w' ⟨rfl, rfl⟩
  go_wp2_with fail
  refine (cut_is H2 (hash_len s hs) _).mono ?_
  rintro e w' ⟨rfl, rfl⟩
  go_wp2_with fail
  refine (cut_is HP (take_len s n w0) _).mono ?_
  rintro e w' ⟨rfl, rfl⟩
  go_wp2_with fail
  go_ret
  exact ⟨rfl, by repeat (first | exact Grown.refl _ | apply Grown.drew | apply Grown.alloc)⟩
/-- there is a comment, not inside the first k bytes -/
theorem walkA2 (s r q p : ByteArray) (n : Nat) (hn : n ≤ s.size) (hs : s.size ≤ 65536) (w0 : s.size ≤ maxLen) (hn1 : 1 ≤ n) (hlt : r.size < s.size)
    (HR : Hid (cutB s = r)) (HT : s.extract 0 r.size = r) (HH : Hid (hashB s = true)) (H2 : Hid (cutB (s ++ ByteArray.mk #[32, 35]) = r))
    (HP : Hid (cutB (s.extract 0 n) = p)) (hp : p.size = n) (HQ : Hid (cutB (s.extract (n - 1) s.size) = q)) (HW : s.extract 0 (n - 1) ++ q = r) (w : World) :
    Calls Try.prog 4 #[.string s, .int .i64 n] w fun e w' => e = .returned (.bool true) ∧ Grown w w' := by
  have t2 : decide ((n : Int) < 0) = false := decide_eq_false (by omega)
  have t3 : decide (s.size < n) = false := decide_eq_false (by omega)
  have t1 : decide ((65536 : Int) < (s.size : Int)) = false := decide_eq_false (by omega)
  go_enter Try.func4, Try.ntmps4
  go_wp2_with fail
  refine (cutBytes_any s _ (by omega) _).mono ?_
  rintro e w' ⟨rfl, rfl⟩
  go_wp2_with fail
  refine (cut_is HR w0 _).mono ?_
  rintro e w' ⟨rfl, rfl⟩
  go_wp2_with fail
  refine (hash_is HH w0 _).mono ?_
  rintro e w' ⟨rfl, rfl⟩
  go_wp2_with fail
  refine (cut_is H2 (hash_len s hs) _).mono ?_
  rintro e w' ⟨rfl, rfl⟩
  go_wp2_with fail
  refine (cut_is HP (take_len s n w0) _).mono ?_
  rintro e w' ⟨rfl, rfl⟩
  go_wp2_with fail
  have hsl1 := slice_to s n hn1 hn
  have hsl2 := slice_from s n hn1 hn
  have hbig : ¬ 9223372036854775807 < min (n - 1) s.size + q.size := by
    have h1 := cutN_le (s.extract (n - 1) s.size)
    have h2 := size_cutB (s.extract (n - 1) s.size)
    rw [HQ.out] at h2
    rw [ByteArray.size_extract] at h1
    omega
  go_quiet ((go_at_call 9; exact Calls.quiet_of_same (cut_is HQ (drop_len s (n - 1) w0) _)))
  go_wp2_with fail
  go_ret
  exact ⟨rfl, by repeat (first | exact Grown.refl _ | apply Grown.drew | apply Grown.alloc)⟩
/-- there is no comment; k = 0; a '#' is there: true -/
theorem walkB0t (s : ByteArray) (n : Nat) (hn : n ≤ s.size) (hs : s.size ≤ 65536) (w0 : s.size ≤ maxLen) (hn0 : n = 0)
    (HR : Hid (cutB s = s)) (HT : s.extract 0 s.size = s) (HH : Hid (hashB s = true)) (H2 : Hid (cutB (s ++ ByteArray.mk #[32, 35]) = s ++ ByteArray.mk #[32])) (w : World) :
    Calls Try.prog 4 #[.string s, .int .i64 n] w fun e w' => e = .returned (.bool true) ∧ Grown w w' := by
  subst hn0
  have t1 : decide ((65536 : Int) < (s.size : Int)) = false := decide_eq_false (by omega)
  go_enter Try.func4, Try.ntmps4
  go_wp2_with fail
  refine (cutBytes_any s _ (by omega) _).mono ?_
  rintro e w' ⟨rfl, rfl⟩
  go_wp2_with fail
  refine (cut_is HR w0 _).mono ?_
  rintro e w' ⟨rfl, rfl⟩
  go_wp2_with fail
  refine (hash_is HH w0 _).mono ?_
  rintro e w' ⟨rfl, rfl⟩
  go_wp2_with fail
  refine (cut_is H2 (hash_len s hs) _).mono ?_
  rintro e w' ⟨rfl, rfl⟩
  go_wp2_with fail
  go_ret
  exact ⟨rfl, by repeat (first | exact Grown.refl _ | apply Grown.drew | apply Grown.alloc)⟩
/-- there is no comment; 1 <= k; a '#' is there: true -/
theorem walkB2t (s q p : ByteArray) (n : Nat) (hn : n ≤ s.size) (hs : s.size ≤ 65536) (w0 : s.size ≤ maxLen) (hn1 : 1 ≤ n)
    (HR : Hid (cutB s = s)) (HT : s.extract 0 s.size = s) (HH : Hid (hashB s = true)) (H2 : Hid (cutB (s ++ ByteArray.mk #[32, 35]) = s ++ ByteArray.mk #[32]))
    (HP : Hid (cutB (s.extract 0 n) = p)) (hp : p.size = n) (HQ : Hid (cutB (s.extract (n - 1) s.size) = q)) (HW : s.extract 0 (n - 1) ++ q = s) (w : World) :
    Calls Try.prog 4 #[.string s, .int .i64 n] w fun e w' => e = .returned (.bool true) ∧ Grown w w' := by
  have t2 : decide ((n : Int) < 0) = false := decide_eq_false (by omega)
  have t3 : decide (s.size < n) = false := decide_eq_false (by omega)
  have t1 : decide ((65536 : Int) < (s.size : Int)) = false := decide_eq_false (by omega)
  go_enter Try.func4, Try.ntmps4
  go_wp2_with fail
  refine (cutBytes_any s _ (by omega) _).mono ?_
  rintro e w' ⟨rfl, rfl⟩
  go_wp2_with fail
  refine (cut_is HR w0 _).mono ?_
  rintro e w' ⟨rfl, rfl⟩
  go_wp2_with fail
  refine (hash_is HH w0 _).mono ?_
  rintro e w' ⟨rfl, rfl⟩
  go_wp2_with fail
  refine (cut_is H2 (hash_len s hs) _).mono ?_
  rintro e w' ⟨rfl, rfl⟩
  go_wp2_with fail
  refine (cut_is HP (take_len s n w0) _).mono ?_
  rintro e w' ⟨rfl, rfl⟩
  go_wp2_with fail
  have hsl1 := slice_to s n hn1 hn
  have hsl2 := slice_from s n hn1 hn
  have hbig : ¬ 9223372036854775807 < min (n - 1) s.size + q.size := by
    have h1 := cutN_le (s.extract (n - 1) s.size)
    have h2 := size_cutB (s.extract (n - 1) s.size)
    rw [HQ.out] at h2
    rw [ByteArray.size_extract] at h1
    omega
  go_quiet ((go_at_call 9; exact Calls.quiet_of_same (cut_is HQ (drop_len s (n - 1) w0) _)))
  go_wp2_with fail
  go_ret
  exact ⟨rfl, by repeat (first | exact Grown.refl _ | apply Grown.drew | apply Grown.alloc)⟩
/-- there is no comment; k = 0; a '#' is there: false -/
theorem walkB0f (s : ByteArray) (n : Nat) (hn : n ≤ s.size) (hs : s.size ≤ 65536) (w0 : s.size ≤ maxLen) (hn0 : n = 0)
    (HR : Hid (cutB s = s)) (HT : s.extract 0 s.size = s) (HH : Hid (hashB s = false)) (H2 : Hid (cutB (s ++ ByteArray.mk #[32, 35]) = s ++ ByteArray.mk #[32])) (w : World) :
    Calls Try.prog 4 #[.string s, .int .i64 n] w fun e w' => e = .returned (.bool true) ∧ Grown w w' := by
  subst hn0
  have t1 : decide ((65536 : Int) < (s.size : Int)) = false := decide_eq_false (by omega)
  go_enter Try.func4, Try.ntmps4
  go_wp2_with fail
  refine (cutBytes_any s _ (by omega) _).mono ?_
  rintro e w' ⟨rfl, rfl⟩
  go_wp2_with fail
  refine (cut_is HR w0 _).mono ?_
  rintro e w' ⟨rfl, rfl⟩
  go_wp2_with fail
  refine (hash_is HH w0 _).mono ?_
  rintro e w' ⟨rfl, rfl⟩
  go_wp2_with fail
  refine (cut_is H2 (hash_len s hs) _).mono ?_
  rintro e w' ⟨rfl, rfl⟩
  go_wp2_with fail
  go_ret
  exact ⟨rfl, by repeat (first | exact Grown.refl _ | apply Grown.drew | apply Grown.alloc)⟩
/-- there is no comment; 1 <= k; a '#' is there: false -/
theorem walkB2f (s q p : ByteArray) (n : Nat) (hn : n ≤ s.size) (hs : s.size ≤ 65536) (w0 : s.size ≤ maxLen) (hn1 : 1 ≤ n)
    (HR : Hid (cutB s = s)) (HT : s.extract 0 s.size = s) (HH : Hid (hashB s = false)) (H2 : Hid (cutB (s ++ ByteArray.mk #[32, 35]) = s ++ ByteArray.mk #[32]))
    (HP : Hid (cutB (s.extract 0 n) = p)) (hp : p.size = n) (HQ : Hid (cutB (s.extract (n - 1) s.size) = q)) (HW : s.extract 0 (n - 1) ++ q = s) (w : World) :
    Calls Try.prog 4 #[.string s, .int .i64 n] w fun e w' => e = .returned (.bool true) ∧ Grown w w' := by
  have t2 : decide ((n : Int) < 0) = false := decide_eq_false (by omega)
  have t3 : decide (s.size < n) = false := decide_eq_false (by omega)
  have t1 : decide ((65536 : Int) < (s.size : Int)) = false := decide_eq_false (by omega)
  go_enter Try.func4, Try.ntmps4
  go_wp2_with fail
  refine (cutBytes_any s _ (by omega) _).mono ?_
  rintro e w' ⟨rfl, rfl⟩
  go_wp2_with fail
  refine (cut_is HR w0 _).mono ?_
  rintro e w' ⟨rfl, rfl⟩
  go_wp2_with fail
  refine (hash_is HH w0 _).mono ?_
  rintro e w' ⟨rfl, rfl⟩
  go_wp2_with fail
  refine (cut_is H2 (hash_len s hs) _).mono ?_
  rintro e w' ⟨rfl, rfl⟩
  go_wp2_with fail
  refine (cut_is HP (take_len s n w0) _).mono ?_
  rintro e w' ⟨rfl, rfl⟩
  go_wp2_with fail
  have hsl1 := slice_to s n hn1 hn
  have hsl2 := slice_from s n hn1 hn
  have hbig : ¬ 9223372036854775807 < min (n - 1) s.size + q.size := by
    have h1 := cutN_le (s.extract (n - 1) s.size)
    have h2 := size_cutB (s.extract (n - 1) s.size)
    rw [HQ.out] at h2
    rw [ByteArray.size_extract] at h1
    omega
  go_quiet ((go_at_call 9; exact Calls.quiet_of_same (cut_is HQ (drop_len s (n - 1) w0) _)))
  go_wp2_with fail
  go_ret
  exact ⟨rfl, by repeat (first | exact Grown.refl _ | apply Grown.drew | apply Grown.alloc)⟩

theorem anyCut_walk (s : ByteArray) (k : Int) (w0 : s.size ≤ maxLen) (w : World) :
    Calls Try.prog 4 #[.string s, .int .i64 k] w fun e w' => e = .returned (.bool true) ∧ Grown w w' := by
  by_cases hs : 65536 < s.size
  · by_cases hs2 : 1048576 < s.size
    · go_enter Try.func4, Try.ntmps4
      go_wp2_with (go_at_call 8; refine (cutBytes_long s k hs2 _).mono ?_; rintro e w' ⟨rfl, rfl⟩)
      go_ret
      exact ⟨rfl, Grown.refl _⟩
    · go_enter Try.func4, Try.ntmps4
      go_wp2_with (go_at_call 8; refine (cutBytes_any s k (by omega) _).mono ?_; rintro e w' ⟨rfl, rfl⟩)
      go_ret
      exact ⟨rfl, Grown.refl _⟩
  by_cases hk0 : k < 0
  · go_enter Try.func4, Try.ntmps4
    go_wp2_with (go_at_call 8; refine (cutBytes_any s k (by omega) _).mono ?_; rintro e w' ⟨rfl, rfl⟩)
    go_ret
    exact ⟨rfl, Grown.refl _⟩
  by_cases hk1 : (s.size : Int) < k
  · go_enter Try.func4, Try.ntmps4
    go_wp2_with (go_at_call 8; refine (cutBytes_any s k (by omega) _).mono ?_; rintro e w' ⟨rfl, rfl⟩)
    go_ret
    exact ⟨rfl, Grown.refl _⟩
  obtain ⟨n, rfl⟩ := Int.eq_ofNat_of_zero_le (by omega : 0 ≤ k)
  have hn : n ≤ s.size := by omega
  have hs' : s.size ≤ 65536 := by omega
  have hle := cutN_le s
  have hz := size_cutB s
  by_cases hc : cutN s < s.size
  · have hh : hashB s = true := by
      cases h : hashB s
      · have e := cut_no_hash h
        rw [e] at hz; omega
      · rfl
    have h2 := hash_behind_cut hc
    by_cases hn0 : n = 0
    · exact walkA0 s (cutB s) n hn hs' w0 hn0 (by omega) rfl (cut_take s) hh h2 w
    · by_cases hp : cutN (s.extract 0 n) < n
      · have hl := cut_in_left hn hp
        exact walkA1 s (cutB s) n hn hs' w0 (by omega) (by omega) rfl (cut_take s) hh h2 hl.1.symm (by omega) w
      · have hpn := cutN_le (s.extract 0 n)
        have hsz := size_take s hn
        exact walkA2 s (cutB s) _ _ n hn hs' w0 (by omega) (by omega) rfl (cut_take s) hh h2 rfl (by rw [size_cutB]; omega) rfl (cut_in_right (by omega) hn (by omega)) w
  · have hw : cutN s = s.size := by omega
    have hcw := cut_whole hw
    have h2 := hash_behind_whole hw
    by_cases hn0 : n = 0
    · cases hh : hashB s
      · exact walkB0f s n hn hs' w0 hn0 hcw (extract_all s) hh h2 w
      · exact walkB0t s n hn hs' w0 hn0 hcw (extract_all s) hh h2 w
    · have hpn := cutN_le (s.extract 0 n)
      have hsz := size_take s hn
      have hp : cutN (s.extract 0 n) = n := by
        by_cases hp : cutN (s.extract 0 n) < n
        · have := (cut_in_left hn hp).2; omega
        · omega
      have hr := (cut_in_right (by omega) hn hp).trans hcw
      cases hh : hashB s
      · exact walkB2f s _ _ n hn hs' w0 (by omega) hcw (extract_all s) hh h2 rfl (by rw [size_cutB]; omega) rfl hr w
      · exact walkB2t s _ _ n hn hs' w0 (by omega) hcw (extract_all s) hh h2 rfl (by rw [size_cutB]; omega) rfl hr w
end Go.Proofs.Qxb6618088a

/-
  THE LAW FnIsNameAnyCut: the plain law on NAMEs, and the walk.
-/
import Derived.Test.Qxb6618088aLeaves
namespace Go.Proofs.Qxb6618088a
open Go.RowKit Go.PlainAid

theorem bt_at (s : ByteArray) {j : Nat} (h : j < s.size) : bt s j = ((s[j]'h).toNat : Int) := by unfold bt; rw [dif_pos h]
theorem bt_extract (s : ByteArray) (a b j : Nat) (hb : b ≤ s.size) (h : a + j < b) : bt (s.extract a b) j = bt s (a + j) := by
  rw [bt_at _ (by rw [ByteArray.size_extract]; omega), bt_at _ (by omega), ByteArray.getElem_extract]
theorem bt_left (a b : ByteArray) {j : Nat} (h : j < a.size) : bt (a ++ b) j = bt a j := by
  rw [bt_at _ (by rw [ByteArray.size_append]; omega), bt_at _ h, ByteArray.getElem_append_left h]
theorem bt_right (a b : ByteArray) {j : Nat} (h : a.size ≤ j) (h' : j < a.size + b.size) : bt (a ++ b) j = bt b (j - a.size) := by
  rw [bt_at _ (by rw [ByteArray.size_append]; omega), bt_at _ (by omega), ByteArray.getElem_append_right h]

/-- A NAME at any cut. -/
theorem nm_cut (s : ByteArray) (k : Nat) (h1 : 1 ≤ k) (hk : k ≤ s.size) :
    nmB s = (nmB (s.extract 0 k) && nmB (ByteArray.mk #[95] ++ s.extract k s.size)) := by
  have sz1 : (s.extract 0 k).size = k := by rw [ByteArray.size_extract]; omega
  have sz2 : (ByteArray.mk #[95] ++ s.extract k s.size).size = 1 + (s.size - k) := by rw [ByteArray.size_append, ByteArray.size_extract, show (ByteArray.mk #[95]).size = 1 from rfl]; omega
  have b0 : bt (s.extract 0 k) 0 = bt s 0 := by rw [bt_extract s 0 k 0 hk (by omega)]
  have bj : ∀ j, j < k → bt (s.extract 0 k) j = bt s j := fun j hj => by rw [bt_extract s 0 k j hk (by omega)]; simp
  have c0 : bt (ByteArray.mk #[95] ++ s.extract k s.size) 0 = 95 := by rw [bt_left _ _ (by decide)]; decide
  have cj : ∀ j, 1 ≤ j → j < 1 + (s.size - k) → bt (ByteArray.mk #[95] ++ s.extract k s.size) j = bt s (k + (j - 1)) := fun j h h' => by
    have e1 : (ByteArray.mk #[95]).size = 1 := rfl
    rw [bt_right _ _ (by rw [e1]; omega) (by rw [e1, ByteArray.size_extract]; omega), e1, bt_extract s k s.size (j - 1) (Nat.le_refl _) (by omega)]
  rw [Bool.eq_iff_iff, Bool.and_eq_true]
  unfold nmB
  simp only [decide_eq_true_eq, sz1, sz2, b0, c0]
  constructor
  · rintro ⟨h2, h3, h4⟩
    refine ⟨⟨by omega, h3, fun j hj hj1 => by rw [bj j hj]; exact h4 j (by omega) hj1⟩, by omega, by decide, fun j hj hj1 => ?_⟩
    rw [cj j hj1 hj]; exact h4 _ (by omega) (by omega)
  · rintro ⟨⟨_, h3, h4⟩, _, _, h5⟩
    refine ⟨by omega, h3, fun j hj hj1 => ?_⟩
    by_cases hjk : j < k
    · rw [← bj j hjk]; exact h4 j hjk hj1
    · have := h5 (j - k + 1) (by omega) (by omega)
      rw [cj _ (by omega) (by omega)] at this
      rwa [show k + (j - k + 1 - 1) = j by omega] at this

theorem nm_one (c : UInt8) : nmB ⟨#[c]⟩ = stI c.toNat := by
  rw [Bool.eq_iff_iff]; unfold nmB
  have e : (ByteArray.mk #[c]).size = 1 := rfl
  have e0 : bt ⟨#[c]⟩ 0 = c.toNat := rfl
  simp only [decide_eq_true_eq, e, e0]
  exact ⟨fun h => h.2.1, fun h => ⟨by omega, h, fun j hj h1 => by omega⟩⟩
theorem nm_two (c : UInt8) : nmB ⟨#[95, c]⟩ = ctI c.toNat := by
  rw [Bool.eq_iff_iff]; unfold nmB
  have e : (ByteArray.mk #[95, c]).size = 2 := rfl
  have e0 : bt ⟨#[95, c]⟩ 0 = 95 := rfl
  have e1 : bt ⟨#[95, c]⟩ 1 = c.toNat := rfl
  simp only [decide_eq_true_eq, e, e0]
  refine ⟨fun h => by have := h.2.2 1 (by omega) (by omega); rwa [e1] at this, fun h => ⟨by omega, by decide, fun j hj h1 => ?_⟩⟩
  obtain rfl : j = 1 := by omega
  rw [e1]; exact h

/-- how many of the first k bytes may start a NAME; may stand in one -/
def cntS : Nat → Nat
  | 0 => 0
  | k + 1 => cntS k + (stI k).toNat
def cntC : Nat → Nat
  | 0 => 0
  | k + 1 => cntC k + (ctI k).toNat
theorem cntS_le (k : Nat) : cntS k ≤ k := by
  induction k with
  | zero => exact Nat.le_refl _
  | succ k ih => unfold cntS; have := Bool.toNat_le (stI k); omega
theorem cntC_le (k : Nat) : cntC k ≤ k := by
  induction k with
  | zero => exact Nat.le_refl _
  | succ k ih => unfold cntC; have := Bool.toNat_le (ctI k); omega
theorem cntS_all : cntS 256 = 53 := by decide +kernel
theorem cntC_all : cntC 256 = 63 := by decide +kernel

theorem zzBytes_any (s : ByteArray) (k : Int) (hs : s.size ≤ 1048576) (w : World) :
    Calls Try.prog 6 #[.string s, .int .i64 k] w fun e w' => e = .returned (.bool true) ∧ w' = w := by
  go_enter Try.func6, Try.ntmps6
  go_wp2
  go_ret
  exact ⟨rfl, rfl⟩
theorem zzBytes_long (s : ByteArray) (k : Int) (hs : 1048576 < s.size) (w : World) :
    Calls Try.prog 6 #[.string s, .int .i64 k] w fun e w' => e = .returned (.bool false) ∧ w' = w := by
  go_enter Try.func6, Try.ntmps6
  go_wp2
  go_ret
  exact ⟨rfl, rfl⟩

/-- 'string([]byte{byte(c)})': the one-byte string. -/
theorem conv_one (w : World) (c : Nat) :
    (convert 23 9 (.slice (some ⟨w.heap.size, 0, none⟩) 1 1)).run Try.prog (w.alloc (.cells #[.int .u8 (c : Int)] 5)) = .ok (.string ⟨#[UInt8.ofNat c]⟩) (w.alloc (.cells #[.int .u8 (c : Int)] 5)) := by
  rw [run_convert_bytes_string _ 23 9 5 _ _ _ Try.underlying23 Try.underlying5 Try.underlying9]
  rw [run_bytesToString _ _ 1 1 [(c : Int)] (run_loadCells_list _ _ [.int .u8 (c : Int)] ?_)]
  · rfl
  · intro j v hj
    match j, hj with
    | 0, hj => simp at hj; subst hj; simp [Addr.add]

theorem name_one (c : Nat) (hc : c < 256) (w : World) :
    Calls Try.prog 7 #[.string ⟨#[UInt8.ofNat c]⟩] w fun e w' => e = .returned (.bool (stI c)) ∧ w' = w := by
  have h := zzIsName_any ⟨#[UInt8.ofNat c]⟩ (by simp [ByteArray.size, maxLen]) w
  rwa [nm_one, show (UInt8.ofNat c).toNat = c by simp; omega] at h
theorem name_two (c : Nat) (hc : c < 256) (w : World) :
    Calls Try.prog 7 #[.string (⟨#[95]⟩ ++ ⟨#[UInt8.ofNat c]⟩)] w fun e w' => e = .returned (.bool (ctI c)) ∧ w' = w := by
  have h := zzIsName_any ⟨#[95, UInt8.ofNat c]⟩ (by simp [ByteArray.size, maxLen]) w
  rw [nm_two, show (UInt8.ofNat c).toNat = c by simp; omega] at h
  exact h
theorem name_is {s : ByteArray} {b : Bool} (h : Hid (nmB s = b)) (hs : s.size ≤ maxLen) (w : World) :
    Calls Try.prog 7 #[.string s] w fun e w' => e = .returned (.bool b) ∧ w' = w := by
  have h' := zzIsName_any s hs w
  rwa [h.out] at h'
theorem name_empty (w : World) :
    Calls Try.prog 7 #[.string ⟨#[]⟩] w fun e w' => e = .returned (.bool false) ∧ w' = w :=
  name_is (show Hid _ from nm_empty rfl) (by simp [ByteArray.size, maxLen]) w
theorem len_left (s : ByteArray) (k : Nat) (w0 : s.size ≤ maxLen) : (s.extract 0 k).size ≤ maxLen := by rw [ByteArray.size_extract]; omega
theorem len_right (s : ByteArray) (k : Nat) (h : s.size ≤ 65536) : (ByteArray.mk #[95] ++ s.extract k s.size).size ≤ maxLen := by
  rw [ByteArray.size_append, ByteArray.size_extract, show (ByteArray.mk #[95]).size = 1 from rfl]; unfold maxLen; omega
theorem cntS_yes {c : Nat} (h : stI c = true) : cntS (c + 1) = cntS c + 1 := by simp [cntS, h]
theorem cntS_no {c : Nat} (h : stI c = false) : cntS (c + 1) = cntS c := by simp [cntS, h]
theorem cntC_yes {c : Nat} (h : ctI c = true) : cntC (c + 1) = cntC c + 1 := by simp [cntC, h]
theorem cntC_no {c : Nat} (h : ctI c = false) : cntC (c + 1) = cntC c := by simp [cntC, h]

set_option maxRecDepth 100000 in
set_option maxHeartbeats 400000 in
theorem name_walk (s : ByteArray) (k : Int) (w0 : s.size ≤ maxLen) (w1 : (Lit.int .i64 k).wf = true) (w : World) :
    Calls Try.prog 3 #[.string s, .int .i64 k] w fun e w' => e = .returned (.bool true) ∧ Grown w w' := by
  by_cases hs : 65536 < s.size
  · by_cases hs2 : 1048576 < s.size
    · go_enter Try.func3, Try.ntmps3
      go_wp2_with (go_at_call 6; refine (zzBytes_long s k hs2 _).mono ?_; rintro e w' ⟨rfl, rfl⟩)
      go_ret
      exact ⟨rfl, Grown.refl _⟩
    · go_enter Try.func3, Try.ntmps3
      go_wp2_with (go_at_call 6; refine (zzBytes_any s k (by omega) _).mono ?_; rintro e w' ⟨rfl, rfl⟩)
      go_ret
      exact ⟨rfl, Grown.refl _⟩
  by_cases hk0 : k < 0
  · go_enter Try.func3, Try.ntmps3
    go_wp2_with (go_at_call 6; refine (zzBytes_any s k (by omega) _).mono ?_; rintro e w' ⟨rfl, rfl⟩)
    go_ret
    exact ⟨rfl, Grown.refl _⟩
  by_cases hk1 : (s.size : Int) < k
  · go_enter Try.func3, Try.ntmps3
    go_wp2_with (go_at_call 6; refine (zzBytes_any s k (by omega) _).mono ?_; rintro e w' ⟨rfl, rfl⟩)
    go_ret
    exact ⟨rfl, Grown.refl _⟩
  obtain ⟨n, rfl⟩ := Int.eq_ofNat_of_zero_le (by omega : 0 ≤ k)
  have hn : n ≤ s.size := by omega
  have t1 : decide ((65536 : Int) < (s.size : Int)) = false := decide_eq_false (by omega)
  have t2 : decide ((n : Int) < 0) = false := decide_eq_false (by omega)
  have t3 : decide (s.size < n) = false := decide_eq_false (by omega)
  go_enter Try.func3, Try.ntmps3
  go_wp2_with (go_at_call 6; refine (zzBytes_any s _ (by omega) _).mono ?_; rintro e w' ⟨rfl, rfl⟩)
  go_loopw [5, 6, 7] (fun a b i wr => ∃ c : Nat, c ≤ 256 ∧ i = .int .i64 c ∧ a = .int .i64 (cntS c) ∧ b = .int .i64 (cntC c) ∧ Grown w' wr) (fun _ _ i _ => 256 - (intOf i).toNat)
  case atStart => exact ⟨0, by omega, rfl, rfl, rfl, Grown.refl _⟩
  case round =>
    obtain ⟨c, hc, rfl, rfl, rfl, hg⟩ := hrel
    have b1 := cntS_le c
    have b2 := cntC_le c
    by_cases hlt : c < 256
    · have hcv := conv_one wr c
      cases hst : stI c
      · have e1 : Hid (cntS (c + 1) = cntS c) := cntS_no hst
        cases hct : ctI c
        · have e2 : Hid (cntC (c + 1) = cntC c) := cntC_no hct
          go_wp2_with fail
          refine (name_one c hlt _).mono ?_
          rintro e w1 ⟨rfl, rfl⟩
          go_wp2_with fail
          refine (name_two c hlt _).mono ?_
          rintro e w1 ⟨rfl, rfl⟩
          go_wp2_with fail
          go_roundw
          case rel => exact ⟨c + 1, by omega, by go_num, by rw [e1.out], by rw [e2.out], hg.alloc _ _⟩
          case measure => simp [intOf]; omega
        · have e2 : Hid (cntC (c + 1) = cntC c + 1) := cntC_yes hct
          go_wp2_with fail
          refine (name_one c hlt _).mono ?_
          rintro e w1 ⟨rfl, rfl⟩
          go_wp2_with fail
          refine (name_two c hlt _).mono ?_
          rintro e w1 ⟨rfl, rfl⟩
          go_wp2_with fail
          go_roundw
          case rel => exact ⟨c + 1, by omega, by go_num, by rw [e1.out], by rw [e2.out]; go_num, hg.alloc _ _⟩
          case measure => simp [intOf]; omega
      · have hct : ctI c = true := ct_of_st hst
        have e1 : Hid (cntS (c + 1) = cntS c + 1) := cntS_yes hst
        have e2 : Hid (cntC (c + 1) = cntC c + 1) := cntC_yes hct
        go_wp2_with fail
        refine (name_one c hlt _).mono ?_
        rintro e w1 ⟨rfl, rfl⟩
        go_wp2_with fail
        refine (name_two c hlt _).mono ?_
        rintro e w1 ⟨rfl, rfl⟩
        go_wp2_with fail
        go_roundw
        case rel => exact ⟨c + 1, by omega, by go_num, by rw [e1.out]; go_num, by rw [e2.out]; go_num, hg.alloc _ _⟩
        case measure => simp [intOf]; omega
    · obtain rfl : c = 256 := by omega
      rw [cntS_all, cntC_all]
      clear b1 b2
      by_cases hn0 : n = 0
      · subst hn0
        by_cases hz : s.size = 0
        · have he := empty_true hz
          have H0 : Hid (nmB s = false) := nm_empty hz
          go_wp2_with fail
          refine (name_empty _).mono ?_
          rintro e w1 ⟨rfl, rfl⟩
          go_wp2_with fail
          refine (name_is H0 w0 _).mono ?_
          rintro e w1 ⟨rfl, rfl⟩
          go_wp2_with fail
          go_ret
          exact ⟨rfl, hg⟩
        · have he := empty_false hz
          have hcut := nm_cut s 1 (by omega) (by omega)
          have hpos : 0 < s.size := by omega
          cases hA : nmB (s.extract 0 1)
          · have H0 : Hid (nmB s = false) := by rw [hA] at hcut; exact hcut
            have HA : Hid (nmB (s.extract 0 1) = false) := hA
            clear hcut hA
            go_wp2_with fail
            refine (name_empty _).mono ?_
            rintro e w1 ⟨rfl, rfl⟩
            go_wp2_with fail
            refine (name_is H0 w0 _).mono ?_
            rintro e w1 ⟨rfl, rfl⟩
            go_wp2_with fail
            refine (name_is HA (len_left s 1 w0) _).mono ?_
            rintro e w1 ⟨rfl, rfl⟩
            go_wp2_with fail
            go_ret
            exact ⟨rfl, hg⟩
          · have HA : Hid (nmB (s.extract 0 1) = true) := hA
            cases hB : nmB (ByteArray.mk #[95] ++ s.extract 1 s.size)
            · have H0 : Hid (nmB s = false) := by rw [hA, hB] at hcut; exact hcut
              have HB : Hid (nmB (ByteArray.mk #[95] ++ s.extract 1 s.size) = false) := hB
              clear hcut hA hB
              go_wp2_with fail
              refine (name_empty _).mono ?_
              rintro e w1 ⟨rfl, rfl⟩
              go_wp2_with fail
              refine (name_is H0 w0 _).mono ?_
              rintro e w1 ⟨rfl, rfl⟩
              go_wp2_with fail
              refine (name_is HA (len_left s 1 w0) _).mono ?_
              rintro e w1 ⟨rfl, rfl⟩
              go_wp2_with fail
              refine (name_is HB (len_right s 1 (by omega)) _).mono ?_
              rintro e w1 ⟨rfl, rfl⟩
              go_wp2_with fail
              go_ret
              exact ⟨rfl, hg⟩
            · have H0 : Hid (nmB s = true) := by rw [hA, hB] at hcut; exact hcut
              have HB : Hid (nmB (ByteArray.mk #[95] ++ s.extract 1 s.size) = true) := hB
              clear hcut hA hB
              go_wp2_with fail
              refine (name_empty _).mono ?_
              rintro e w1 ⟨rfl, rfl⟩
              go_wp2_with fail
              refine (name_is H0 w0 _).mono ?_
              rintro e w1 ⟨rfl, rfl⟩
              go_wp2_with fail
              refine (name_is HA (len_left s 1 w0) _).mono ?_
              rintro e w1 ⟨rfl, rfl⟩
              go_wp2_with fail
              refine (name_is HB (len_right s 1 (by omega)) _).mono ?_
              rintro e w1 ⟨rfl, rfl⟩
              go_wp2_with fail
              go_ret
              exact ⟨rfl, hg⟩
      · have hcut := nm_cut s n (by omega) hn
        cases hA : nmB (s.extract 0 n)
        · have H0 : Hid (nmB s = false) := by rw [hA] at hcut; exact hcut
          have HA : Hid (nmB (s.extract 0 n) = false) := hA
          clear hcut hA
          go_wp2_with fail
          refine (name_empty _).mono ?_
          rintro e w1 ⟨rfl, rfl⟩
          go_wp2_with fail
          refine (name_is H0 w0 _).mono ?_
          rintro e w1 ⟨rfl, rfl⟩
          go_wp2_with fail
          refine (name_is HA (len_left s n w0) _).mono ?_
          rintro e w1 ⟨rfl, rfl⟩
          go_wp2_with fail
          go_ret
          exact ⟨rfl, hg⟩
        · have HA : Hid (nmB (s.extract 0 n) = true) := hA
          cases hB : nmB (ByteArray.mk #[95] ++ s.extract n s.size)
          · have H0 : Hid (nmB s = false) := by rw [hA, hB] at hcut; exact hcut
            have HB : Hid (nmB (ByteArray.mk #[95] ++ s.extract n s.size) = false) := hB
            clear hcut hA hB
            go_wp2_with fail
            refine (name_empty _).mono ?_
            rintro e w1 ⟨rfl, rfl⟩
            go_wp2_with fail
            refine (name_is H0 w0 _).mono ?_
            rintro e w1 ⟨rfl, rfl⟩
            go_wp2_with fail
            refine (name_is HA (len_left s n w0) _).mono ?_
            rintro e w1 ⟨rfl, rfl⟩
            go_wp2_with fail
            refine (name_is HB (len_right s n (by omega)) _).mono ?_
            rintro e w1 ⟨rfl, rfl⟩
            go_wp2_with fail
            go_ret
            exact ⟨rfl, hg⟩
          · have H0 : Hid (nmB s = true) := by rw [hA, hB] at hcut; exact hcut
            have HB : Hid (nmB (ByteArray.mk #[95] ++ s.extract n s.size) = true) := hB
            clear hcut hA hB
            go_wp2_with fail
            refine (name_empty _).mono ?_
            rintro e w1 ⟨rfl, rfl⟩
            go_wp2_with fail
            refine (name_is H0 w0 _).mono ?_
            rintro e w1 ⟨rfl, rfl⟩
            go_wp2_with fail
            refine (name_is HA (len_left s n w0) _).mono ?_
            rintro e w1 ⟨rfl, rfl⟩
            go_wp2_with fail
            refine (name_is HB (len_right s n (by omega)) _).mono ?_
            rintro e w1 ⟨rfl, rfl⟩
            go_wp2_with fail
            go_ret
            exact ⟨rfl, hg⟩
end Go.Proofs.Qxb6618088a

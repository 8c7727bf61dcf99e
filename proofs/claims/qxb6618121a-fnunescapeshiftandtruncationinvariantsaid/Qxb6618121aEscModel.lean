/-
  zzCEscape and zzEscapeModel, walked: the model computes what unescape computes. The plain laws of a shift and of a cut.
-/
import Derived.Test.Qxb6618121aPairLaw
namespace Go.Proofs.Qxb6618121a
open Go.RowKit

/-- a named one-letter escape -/
def named (c : Int) : Prop := c = 110 ∨ c = 114 ∨ c = 116 ∨ c = 98 ∨ c = 97
theorem esc_other {c : Int} (h : ¬ named c) : esc c = c := by
  unfold named at h
  unfold esc; rw [if_neg (by omega), if_neg (by omega), if_neg (by omega), if_neg (by omega), if_neg (by omega)]

theorem ce_yes {c : Int} (h : named c) (w : World) :
    Calls Try.prog 21 #[.int .u8 c] w fun e w' => e = .returned (.tuple #[.int .u8 (esc c), .bool true]) ∧ w' = w := by
  rcases h with rfl | rfl | rfl | rfl | rfl
  all_goals
    go_enter Try.func21, Try.ntmps21
    go_wp2
    go_ret2
    exact ⟨rfl, rfl⟩
theorem ce_no {c : Int} (h : ¬ named c) (w : World) :
    Calls Try.prog 21 #[.int .u8 c] w fun e w' => e = .returned (.tuple #[.int .u8 0, .bool false]) ∧ w' = w := by
  unfold named at h
  have t1 : (c == 110) = false := beq_eq_false_iff_ne.2 (by omega)
  have t2 : (c == 114) = false := beq_eq_false_iff_ne.2 (by omega)
  have t3 : (c == 116) = false := beq_eq_false_iff_ne.2 (by omega)
  have t4 : (c == 98) = false := beq_eq_false_iff_ne.2 (by omega)
  have t5 : (c == 97) = false := beq_eq_false_iff_ne.2 (by omega)
  clear h
  go_enter Try.func21, Try.ntmps21
  go_wp2
  go_ret2
  exact ⟨rfl, rfl⟩

set_option maxHeartbeats 400000 in
theorem escModel_any (g off n c i : Nat) (z : Nat → Int) (v : Int) (j : Nat) (w : World) (hi : i < n) (hn : n ≤ 1048576) (hr : Hid (RowAt w g off n z)) (hU : UE z n i v j) :
    Calls Try.prog 16 #[.slice (some ⟨g, off, none⟩) n c, .int .i64 i] w fun e w' => e = .returned (.tuple #[.int .u8 v, .int .i64 j]) ∧ w' = w := by
  obtain ⟨gc, g1, g2⟩ := hr.out i hi
  by_cases a6 : z i = 120
  · have t6 : (z i == 120) = true := beq_iff_eq.2 a6
    have hnm : ¬ named (z i) := by unfold named; omega
    have he : esc (z i) = z i := esc_other hnm
    by_cases hl : i + 2 < n
    · obtain ⟨gc1, g11, g12⟩ := hr.out (i + 1) (by omega)
      obtain ⟨gc2, g21, g22⟩ := hr.out (i + 2) (by omega)
      cases o1 : hxOk (z (i + 1))
      · have hp := ue_ret hU (UE_plain (fun hh => by have := hh.2.2.1; rw [o1] at this; cases this) he)
        clear a6 he
        go_enter Try.func16, Try.ntmps16
        go_wp2_with fail
        refine (hexClosed_any _ g11 g12 _).mono ?_
        rintro e w' ⟨rfl, rfl⟩
        go_wp2_with fail
        refine (hexClosed_any _ g21 g22 _).mono ?_
        rintro e w' ⟨rfl, rfl⟩
        go_wp2_with fail
        refine (ce_no hnm _).mono ?_
        rintro e w' ⟨rfl, rfl⟩
        go_wp2_with fail
        go_ret2
        exact ⟨hp, rfl⟩
      · cases o2 : hxOk (z (i + 2))
        · have hp := ue_ret hU (UE_plain (fun hh => by have := hh.2.2.2; rw [o2] at this; cases this) he)
          clear a6 he
          go_enter Try.func16, Try.ntmps16
          go_wp2_with fail
          refine (hexClosed_any _ g11 g12 _).mono ?_
          rintro e w' ⟨rfl, rfl⟩
          go_wp2_with fail
          refine (hexClosed_any _ g21 g22 _).mono ?_
          rintro e w' ⟨rfl, rfl⟩
          go_wp2_with fail
          refine (ce_no hnm _).mono ?_
          rintro e w' ⟨rfl, rfl⟩
          go_wp2_with fail
          go_ret2
          exact ⟨hp, rfl⟩
        · have hp := ue_ret hU (.inl ⟨⟨a6, hl, o1, o2⟩, rfl, rfl⟩)
          obtain ⟨u1, u2⟩ := hxV_bd (z (i + 1))
          obtain ⟨u3, u4⟩ := hxV_bd (z (i + 2))
          rw [show ((i + 2 : Nat) : Int) = (i : Int) + 2 from by omega] at hp
          clear a6 he
          go_enter Try.func16, Try.ntmps16
          go_wp2_with fail
          refine (hexClosed_any _ g11 g12 _).mono ?_
          rintro e w' ⟨rfl, rfl⟩
          go_wp2_with fail
          refine (hexClosed_any _ g21 g22 _).mono ?_
          rintro e w' ⟨rfl, rfl⟩
          go_wp2_with fail
          go_ret2
          exact ⟨hp, rfl⟩
    · have hp := ue_ret hU (UE_plain (fun hh => hl hh.2.1) he)
      have tl : decide ((3 : Int) ≤ (n : Int) - (i : Int)) = false := decide_eq_false (by omega)
      clear a6 he
      go_enter Try.func16, Try.ntmps16
      go_wp2_with fail
      refine (ce_no hnm _).mono ?_
      rintro e w' ⟨rfl, rfl⟩
      go_wp2_with fail
      go_ret2
      exact ⟨hp, rfl⟩
  · have t6 : (z i == 120) = false := beq_eq_false_iff_ne.2 a6
    by_cases hnm : named (z i)
    · have hp := ue_ret hU (UE_letter a6 rfl)
      go_enter Try.func16, Try.ntmps16
      go_wp2_with fail
      refine (ce_yes hnm _).mono ?_
      rintro e w' ⟨rfl, rfl⟩
      go_wp2_with fail
      go_ret2
      exact ⟨hp, rfl⟩
    · have hp := ue_ret hU (UE_plain (fun hh => a6 hh.1) (esc_other hnm))
      go_enter Try.func16, Try.ntmps16
      go_wp2_with fail
      refine (ce_no hnm _).mono ?_
      rintro e w' ⟨rfl, rfl⟩
      go_wp2_with fail
      go_ret2
      exact ⟨hp, rfl⟩

/-- ZZunescape, its index and its last index spelt as the walk spells them -/
theorem zzUnesc_at (g off n c i : Nat) (I : Int) (hI : ((i : Nat) : Int) = I) (z : Nat → Int) (v : Int) (j : Nat) (J : Int) (hJ : ((j : Nat) : Int) = J) (w : World) (hi : i < n) (hn : n ≤ 1048576) (hr : Hid (RowAt w g off n z)) (hU : UE z n i v j) :
    Calls Try.prog 15 #[.slice (some ⟨g, off, none⟩) n c, .int .i64 I] w fun e w' => e = .returned (.tuple #[.int .u8 v, .int .i64 J]) ∧ w' = w := by
  have h := zzUnesc_any g off n c i z v j w hi hn hr hU
  rw [hJ, hI] at h
  exact h

/-! ### The plain laws -/
theorem UE_range {z : Nat → Int} {n i : Nat} {v : Int} {j : Nat} (hi : i < n) (h : UE z n i v j) : i ≤ j ∧ j < n := by
  rcases h with ⟨h1, _, rfl⟩ | ⟨_, _, rfl⟩
  · exact ⟨by omega, h1.2.1⟩
  · exact ⟨Nat.le_refl _, hi⟩
/-- cutting just behind the escape's last byte changes nothing -/
theorem UE_trunc {z : Nat → Int} {n i : Nat} {v : Int} {j : Nat} (h : UE z n i v j) : UE z (j + 1) i v j := by
  rcases h with ⟨h1, rfl, rfl⟩ | ⟨h1, rfl, rfl⟩
  · exact .inl ⟨⟨h1.1, by omega, h1.2.2⟩, rfl, rfl⟩
  · exact .inr ⟨fun hh => absurd hh.2.1 (by omega), rfl, rfl⟩
/-- p bytes ahead shift the index -/
theorem UE_shift {z z' : Nat → Int} {n i p : Nat} {v : Int} {j : Nat} (hz : ∀ k, z' (p + k) = z k) (h : UE z n i v j) : UE z' (p + n) (p + i) v (p + j) := by
  have e : hexAt z' (p + n) (p + i) ↔ hexAt z n i := by
    unfold hexAt
    rw [hz i, show p + i + 1 = p + (i + 1) by omega, show p + i + 2 = p + (i + 2) by omega, hz (i + 1), hz (i + 2)]
    constructor
    · rintro ⟨h1, h2, h3⟩; exact ⟨h1, by omega, h3⟩
    · rintro ⟨h1, h2, h3⟩; exact ⟨h1, by omega, h3⟩
  rcases h with ⟨h1, rfl, rfl⟩ | ⟨h1, rfl, rfl⟩
  · refine .inl ⟨e.2 h1, ?_, by omega⟩
    rw [show p + i + 1 = p + (i + 1) by omega, show p + i + 2 = p + (i + 2) by omega, hz (i + 1), hz (i + 2)]
  · exact .inr ⟨fun hh => h1 (e.1 hh), by rw [hz], rfl⟩
theorem byt_append (zp zl : List Int) {p : Nat} (hp : p ≤ zp.length) (k : Nat) : byt (zp.take p ++ zl) (p + k) = byt zl k := by
  unfold byt
  rw [List.getD_eq_getElem?_getD, List.getD_eq_getElem?_getD, List.getElem?_append_right (by simp; omega)]
  have : (zp.take p).length = p := by simp; omega
  rw [this, Nat.add_sub_cancel_left]
theorem cells8_append (zp zl : List Int) {p : Nat} (hp : p ≤ zp.length) (n : Nat) : cellsOf8 (zp.take p ++ zl) (p + n) = cellsOf8 zp p ++ cellsOf8 zl n := by
  unfold cellsOf8
  have : (zp.take p).length = p := by simp; omega
  rw [List.take_append, this, Nat.add_sub_cancel_left, List.take_of_length_le (by omega), List.map_append]
/-- two splices that fill a row -/
theorem splice_two {α : Type} (Z X Y : List α) {p n : Nat} (hX : X.length = p) (hY : Y.length = n) (hZ : Z.length = p + n) : splice (splice Z 0 X) p Y = X ++ Y := by
  unfold splice
  rw [List.take_zero, List.nil_append, Nat.zero_add, List.take_append_of_le_length (by omega), List.take_of_length_le (by omega), hY, List.drop_of_length_le (by simp; omega), List.append_nil]

theorem shiftBytes_any (a0 a1 : Option Addr) (p c0 n c1 : Nat) (i : Int) (h : p + n ≤ 1048576) (w : World) :
    Calls Try.prog 14 #[.slice a0 p c0, .slice a1 n c1, .int .i64 i] w fun e w' => e = .returned (.bool true) ∧ w' = w := by
  go_enter Try.func14, Try.ntmps14
  go_wp2
  go_ret
  exact ⟨rfl, rfl⟩
theorem shiftBytes_long (a0 a1 : Option Addr) (p c0 n c1 : Nat) (i : Int) (h : 1048576 < p + n) (w : World) :
    Calls Try.prog 14 #[.slice a0 p c0, .slice a1 n c1, .int .i64 i] w fun e w' => e = .returned (.bool false) ∧ w' = w := by
  by_cases h1 : 1048576 < p
  · go_enter Try.func14, Try.ntmps14
    go_wp2
    go_ret
    exact ⟨rfl, rfl⟩
  · by_cases h2 : 1048576 < n
    · go_enter Try.func14, Try.ntmps14
      go_wp2
      go_ret
      exact ⟨rfl, rfl⟩
    · go_enter Try.func14, Try.ntmps14
      go_wp2
      go_ret
      exact ⟨rfl, rfl⟩
end Go.Proofs.Qxb6618121a

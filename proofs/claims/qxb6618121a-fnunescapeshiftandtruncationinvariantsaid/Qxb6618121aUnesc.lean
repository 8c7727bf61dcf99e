/-
  unescape and ZZunescape: what they compute (plain), walked.
-/
import Derived.Test.Qxb6618121aHexClosed
import Derived.Test.Qxb6618121aRow
namespace Go.Proofs.Qxb6618121a
open Go.RowKit

/-- the byte that a one-letter escape stands for -/
def esc (c : Int) : Int := if c = 110 then 10 else if c = 114 then 13 else if c = 116 then 9 else if c = 98 then 8 else if c = 97 then 7 else c
/-- 'x' and two hexadecimal digits lie at i -/
def hexAt (z : Nat → Int) (n i : Nat) : Prop := z i = 120 ∧ i + 2 < n ∧ hxOk (z (i + 1)) = true ∧ hxOk (z (i + 2)) = true
/-- what unescape gives at i -/
def UE (z : Nat → Int) (n i : Nat) (v : Int) (j : Nat) : Prop :=
  (hexAt z n i ∧ v = hxV (z (i + 1)) * 16 + hxV (z (i + 2)) ∧ j = i + 2) ∨ (¬ hexAt z n i ∧ v = esc (z i) ∧ j = i)
theorem UE_ex (z : Nat → Int) (n i : Nat) : ∃ v j, UE z n i v j := by
  by_cases h : hexAt z n i
  · exact ⟨_, _, .inl ⟨h, rfl, rfl⟩⟩
  · exact ⟨_, _, .inr ⟨h, rfl, rfl⟩⟩
theorem UE_uniq {z : Nat → Int} {n i : Nat} {v v' : Int} {j j' : Nat} (h : UE z n i v j) (h' : UE z n i v' j') : v = v' ∧ j = j' := by
  rcases h with ⟨h1, rfl, rfl⟩ | ⟨h1, rfl, rfl⟩
  · rcases h' with ⟨h2, rfl, rfl⟩ | ⟨h2, rfl, rfl⟩
    · exact ⟨rfl, rfl⟩
    · exact absurd h1 h2
  · rcases h' with ⟨h2, rfl, rfl⟩ | ⟨h2, rfl, rfl⟩
    · exact absurd h2 h1
    · exact ⟨rfl, rfl⟩
theorem ue_ret {z : Nat → Int} {n i : Nat} {v v' : Int} {j j' : Nat} (h : UE z n i v j) (h' : UE z n i v' j') :
    Ending.returned (.tuple #[.int .u8 v', .int .i64 j']) = .returned (.tuple #[.int .u8 v, .int .i64 j]) := by
  obtain ⟨rfl, rfl⟩ := UE_uniq h h'; rfl
theorem UE_letter {z : Nat → Int} {n i : Nat} {v : Int} (hc : ¬ z i = 120) (h : esc (z i) = v) : UE z n i v i := .inr ⟨fun hh => hc hh.1, h.symm, rfl⟩
theorem esc_x {c : Int} (h : c = 120) : esc c = c := by rw [h]; rfl
theorem UE_plain {z : Nat → Int} {n i : Nat} (h : ¬ hexAt z n i) (he : esc (z i) = z i) : UE z n i (z i) i := .inr ⟨h, he.symm, rfl⟩

theorem hxV_bd (c : Int) : 0 ≤ hxV c ∧ hxV c ≤ 15 := by
  unfold hxV
  by_cases h1 : 48 ≤ c ∧ c ≤ 57
  · rw [if_pos h1]; omega
  · rw [if_neg h1]
    by_cases h2 : 97 ≤ c ∧ c ≤ 102
    · rw [if_pos h2]; omega
    · rw [if_neg h2]
      by_cases h3 : 65 ≤ c ∧ c ≤ 70
      · rw [if_pos h3]; omega
      · rw [if_neg h3]; omega
theorem or_all : ∀ p q : Fin 16, bits BinOp.or IntKind.u8 (((p.val : Nat) : Int) * 16) ((q.val : Nat) : Int) = ((p.val : Nat) : Int) * 16 + ((q.val : Nat) : Int) := by decide +kernel
theorem or_hex {a b : Int} (h0 : 0 ≤ a) (h1 : a ≤ 15) (h2 : 0 ≤ b) (h3 : b ≤ 15) : bits BinOp.or IntKind.u8 (a * 16) b = a * 16 + b := by
  obtain ⟨p, rfl⟩ := Int.eq_ofNat_of_zero_le h0
  obtain ⟨q, rfl⟩ := Int.eq_ofNat_of_zero_le h2
  exact or_all ⟨p, by omega⟩ ⟨q, by omega⟩

set_option maxHeartbeats 400000 in
theorem unesc_any (g off n c i : Nat) (z : Nat → Int) (v : Int) (j : Nat) (w : World) (hi : i < n) (hn : n ≤ 1048576) (hr : Hid (RowAt w g off n z)) (hU : UE z n i v j) :
    Calls Try.prog 20 #[.slice (some ⟨g, off, none⟩) n c, .int .i64 i] w fun e w' => e = .returned (.tuple #[.int .u8 v, .int .i64 j]) ∧ w' = w := by
  obtain ⟨gc, g1, g2⟩ := hr.out i hi
  by_cases a1 : z i = 110
  · have hp := ue_ret hU (UE_letter (by omega) (show esc (z i) = 10 by rw [a1]; rfl))
    have t1 : (z i == 110) = true := beq_iff_eq.2 a1
    clear a1
    go_enter Try.func20, Try.ntmps20
    go_wp2_with fail
    go_ret2
    exact ⟨hp, rfl⟩
  have t1 : (z i == 110) = false := beq_eq_false_iff_ne.2 a1
  by_cases a2 : z i = 114
  · have hp := ue_ret hU (UE_letter (by omega) (show esc (z i) = 13 by rw [a2]; rfl))
    have t2 : (z i == 114) = true := beq_iff_eq.2 a2
    clear a2
    go_enter Try.func20, Try.ntmps20
    go_wp2_with fail
    go_ret2
    exact ⟨hp, rfl⟩
  have t2 : (z i == 114) = false := beq_eq_false_iff_ne.2 a2
  by_cases a3 : z i = 116
  · have hp := ue_ret hU (UE_letter (by omega) (show esc (z i) = 9 by rw [a3]; rfl))
    have t3 : (z i == 116) = true := beq_iff_eq.2 a3
    clear a3
    go_enter Try.func20, Try.ntmps20
    go_wp2_with fail
    go_ret2
    exact ⟨hp, rfl⟩
  have t3 : (z i == 116) = false := beq_eq_false_iff_ne.2 a3
  by_cases a4 : z i = 98
  · have hp := ue_ret hU (UE_letter (by omega) (show esc (z i) = 8 by rw [a4]; rfl))
    have t4 : (z i == 98) = true := beq_iff_eq.2 a4
    clear a4
    go_enter Try.func20, Try.ntmps20
    go_wp2_with fail
    go_ret2
    exact ⟨hp, rfl⟩
  have t4 : (z i == 98) = false := beq_eq_false_iff_ne.2 a4
  by_cases a5 : z i = 97
  · have hp := ue_ret hU (UE_letter (by omega) (show esc (z i) = 7 by rw [a5]; rfl))
    have t5 : (z i == 97) = true := beq_iff_eq.2 a5
    clear a5
    go_enter Try.func20, Try.ntmps20
    go_wp2_with fail
    go_ret2
    exact ⟨hp, rfl⟩
  have t5 : (z i == 97) = false := beq_eq_false_iff_ne.2 a5
  have he : esc (z i) = z i := by unfold esc; rw [if_neg a1, if_neg a2, if_neg a3, if_neg a4, if_neg a5]
  by_cases a6 : z i = 120
  · have t6 : (z i == 120) = true := beq_iff_eq.2 a6
    by_cases hl : i + 2 < n
    · obtain ⟨gc1, g11, g12⟩ := hr.out (i + 1) (by omega)
      obtain ⟨gc2, g21, g22⟩ := hr.out (i + 2) (by omega)
      cases o1 : hxOk (z (i + 1))
      · have hp := ue_ret hU (UE_plain (fun hh => by have := hh.2.2.1; rw [o1] at this; cases this) he)
        clear a6 he
        go_enter Try.func20, Try.ntmps20
        go_wp2_with fail
        refine (hexDigit_any _ g11 g12 _).mono ?_
        rintro e w' ⟨rfl, rfl⟩
        go_wp2_with fail
        refine (hexDigit_any _ g21 g22 _).mono ?_
        rintro e w' ⟨rfl, rfl⟩
        go_wp2_with fail
        go_ret2
        exact ⟨hp, rfl⟩
      · cases o2 : hxOk (z (i + 2))
        · have hp := ue_ret hU (UE_plain (fun hh => by have := hh.2.2.2; rw [o2] at this; cases this) he)
          clear a6 he
          go_enter Try.func20, Try.ntmps20
          go_wp2_with fail
          refine (hexDigit_any _ g11 g12 _).mono ?_
          rintro e w' ⟨rfl, rfl⟩
          go_wp2_with fail
          refine (hexDigit_any _ g21 g22 _).mono ?_
          rintro e w' ⟨rfl, rfl⟩
          go_wp2_with fail
          go_ret2
          exact ⟨hp, rfl⟩
        · have hp := ue_ret hU (.inl ⟨⟨a6, hl, o1, o2⟩, rfl, rfl⟩)
          obtain ⟨u1, u2⟩ := hxV_bd (z (i + 1))
          obtain ⟨u3, u4⟩ := hxV_bd (z (i + 2))
          rw [← or_hex u1 u2 u3 u4, show ((i + 2 : Nat) : Int) = (i : Int) + 2 from by omega] at hp
          clear a6 he
          go_enter Try.func20, Try.ntmps20
          go_wp2_with fail
          refine (hexDigit_any _ g11 g12 _).mono ?_
          rintro e w' ⟨rfl, rfl⟩
          go_wp2_with fail
          refine (hexDigit_any _ g21 g22 _).mono ?_
          rintro e w' ⟨rfl, rfl⟩
          go_wp2_with fail
          go_ret2
          exact ⟨hp, rfl⟩
    · have hp := ue_ret hU (UE_plain (fun hh => hl hh.2.1) he)
      clear a6 he
      go_enter Try.func20, Try.ntmps20
      go_wp2_with fail
      go_ret2
      exact ⟨hp, rfl⟩
  · have t6 : (z i == 120) = false := beq_eq_false_iff_ne.2 a6
    have hp := ue_ret hU (UE_plain (fun hh => a6 hh.1) he)
    clear he
    go_enter Try.func20, Try.ntmps20
    go_wp2_with fail
    go_ret2
    exact ⟨hp, rfl⟩
theorem zzUnesc_any (g off n c i : Nat) (z : Nat → Int) (v : Int) (j : Nat) (w : World) (hi : i < n) (hn : n ≤ 1048576) (hr : Hid (RowAt w g off n z)) (hU : UE z n i v j) :
    Calls Try.prog 15 #[.slice (some ⟨g, off, none⟩) n c, .int .i64 i] w fun e w' => e = .returned (.tuple #[.int .u8 v, .int .i64 j]) ∧ w' = w := by
  go_enter Try.func15, Try.ntmps15
  go_wp2_with (go_at_call 20; refine (unesc_any g off n c i z v j _ hi hn hr hU).mono ?_; rintro e w' ⟨rfl, rfl⟩)
  go_ret2
  exact ⟨rfl, rfl⟩
end Go.Proofs.Qxb6618121a

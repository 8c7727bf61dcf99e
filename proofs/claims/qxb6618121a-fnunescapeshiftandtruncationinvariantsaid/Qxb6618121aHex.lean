/-
  hexDigit, ZZhexDigit, zzHexClosed: each computes the plain functions hxV, hxOk.
-/
import Derived.Test.Qxb6618121aRows
import Derived.WalkKit
import Derived.WalkSpells
import Derived.WalkLawsBesides
namespace Go.Proofs.Qxb6618121a
open Go.RowKit

/-- the hexadecimal value of a byte; 0 where it is no digit -/
def hxV (c : Int) : Int := if 48 ≤ c ∧ c ≤ 57 then c - 48 else if 97 ≤ c ∧ c ≤ 102 then c - 87 else if 65 ≤ c ∧ c ≤ 70 then c - 55 else 0
/-- is it a hexadecimal digit? -/
def hxOk (c : Int) : Bool := decide ((48 ≤ c ∧ c ≤ 57) ∨ (97 ≤ c ∧ c ≤ 102) ∨ (65 ≤ c ∧ c ≤ 70))

theorem hx_dig {c : Int} (h : 48 ≤ c) (h' : c ≤ 57) : hxV c = c - 48 ∧ hxOk c = true := ⟨by unfold hxV; rw [if_pos ⟨h, h'⟩], by unfold hxOk; exact decide_eq_true (by omega)⟩
theorem hx_low {c : Int} (h : 97 ≤ c) (h' : c ≤ 102) : hxV c = c - 87 ∧ hxOk c = true := ⟨by unfold hxV; rw [if_neg (by omega), if_pos ⟨h, h'⟩], by unfold hxOk; exact decide_eq_true (by omega)⟩
theorem hx_up {c : Int} (h : 65 ≤ c) (h' : c ≤ 70) : hxV c = c - 55 ∧ hxOk c = true := ⟨by unfold hxV; rw [if_neg (by omega), if_neg (by omega), if_pos ⟨h, h'⟩], by unfold hxOk; exact decide_eq_true (by omega)⟩
theorem hx_no {c : Int} (h : ¬ (48 ≤ c ∧ c ≤ 57)) (h' : ¬ (97 ≤ c ∧ c ≤ 102)) (h'' : ¬ (65 ≤ c ∧ c ≤ 70)) : hxV c = 0 ∧ hxOk c = false :=
  ⟨by unfold hxV; rw [if_neg h, if_neg h', if_neg h''], by unfold hxOk; exact decide_eq_false (by omega)⟩
theorem hx_ret {c v : Int} {b : Bool} (h : hxV c = v ∧ hxOk c = b) : Ending.returned (.tuple #[.int .u8 v, .bool b]) = .returned (.tuple #[.int .u8 (hxV c), .bool (hxOk c)]) := by rw [h.1, h.2]

set_option maxHeartbeats 400000 in
theorem hexDigit_any (c : Int) (h0 : 0 ≤ c) (h1 : c ≤ 255) (w : World) :
    Calls Try.prog 22 #[.int .u8 c] w fun e w' => e = .returned (.tuple #[.int .u8 (hxV c), .bool (hxOk c)]) ∧ w' = w := by
  by_cases a1 : 48 ≤ c
  · by_cases a2 : c ≤ 57
    · go_enter Try.func22, Try.ntmps22
      go_wp2
      go_ret2
      exact ⟨hx_ret (hx_dig a1 a2), rfl⟩
    · by_cases b1 : 97 ≤ c
      · by_cases b2 : c ≤ 102
        · go_enter Try.func22, Try.ntmps22
          go_wp2
          go_ret2
          exact ⟨hx_ret (by have := hx_low b1 b2; rwa [show c - 87 = c - 97 + 10 by omega] at this), rfl⟩
        · have c1 : 65 ≤ c := by omega
          have c2 : ¬ c ≤ 70 := by omega
          go_enter Try.func22, Try.ntmps22
          go_wp2
          go_ret2
          exact ⟨hx_ret (hx_no (by omega) (by omega) (by omega)), rfl⟩
      · by_cases c1 : 65 ≤ c
        · by_cases c2 : c ≤ 70
          · go_enter Try.func22, Try.ntmps22
            go_wp2
            go_ret2
            exact ⟨hx_ret (by have := hx_up c1 c2; rwa [show c - 55 = c - 65 + 10 by omega] at this), rfl⟩
          · go_enter Try.func22, Try.ntmps22
            go_wp2
            go_ret2
            exact ⟨hx_ret (hx_no (by omega) (by omega) (by omega)), rfl⟩
        · go_enter Try.func22, Try.ntmps22
          go_wp2
          go_ret2
          exact ⟨hx_ret (hx_no (by omega) (by omega) (by omega)), rfl⟩
  · have b1 : ¬ 97 ≤ c := by omega
    have c1 : ¬ 65 ≤ c := by omega
    go_enter Try.func22, Try.ntmps22
    go_wp2
    go_ret2
    exact ⟨hx_ret (hx_no (by omega) (by omega) (by omega)), rfl⟩

theorem zzHexDigit_any (c : Int) (h0 : 0 ≤ c) (h1 : c ≤ 255) (w : World) :
    Calls Try.prog 17 #[.int .u8 c] w fun e w' => e = .returned (.tuple #[.int .u8 (hxV c), .bool (hxOk c)]) ∧ w' = w := by
  go_enter Try.func17, Try.ntmps17
  go_wp2_with (go_at_call 22; refine (hexDigit_any c h0 h1 _).mono ?_; rintro e w' ⟨rfl, rfl⟩)
  go_ret2
  exact ⟨rfl, rfl⟩
end Go.Proofs.Qxb6618121a

/-
  zzHexClosed computes hxV, hxOk.
-/
import Derived.Test.Qxb6618121aHex
namespace Go.Proofs.Qxb6618121a
open Go.RowKit

theorem closed_all : ∀ n : Fin 256, (¬ (48 ≤ ((n.val : Nat) : Int) ∧ ((n.val : Nat) : Int) ≤ 57)) →
    (((bits BinOp.or IntKind.u8 ((n.val : Nat) : Int) 32 - 97) % 256 < 6 → hxV ((n.val : Nat) : Int) = (bits BinOp.or IntKind.u8 ((n.val : Nat) : Int) 32 - 97) % 256 + 10 ∧ hxOk ((n.val : Nat) : Int) = true) ∧
     (6 ≤ (bits BinOp.or IntKind.u8 ((n.val : Nat) : Int) 32 - 97) % 256 → hxV ((n.val : Nat) : Int) = 0 ∧ hxOk ((n.val : Nat) : Int) = false)) := by decide +kernel
theorem closed_yes {c : Int} (h0 : 0 ≤ c) (h1 : c ≤ 255) (hd : ¬ (48 ≤ c ∧ c ≤ 57)) (h : (bits BinOp.or IntKind.u8 c 32 - 97) % 256 < 6) :
    hxV c = (bits BinOp.or IntKind.u8 c 32 - 97) % 256 + 10 ∧ hxOk c = true := by
  obtain ⟨n, rfl⟩ := Int.eq_ofNat_of_zero_le h0
  exact (closed_all ⟨n, by omega⟩ hd).1 h
theorem closed_no {c : Int} (h0 : 0 ≤ c) (h1 : c ≤ 255) (hd : ¬ (48 ≤ c ∧ c ≤ 57)) (h : 6 ≤ (bits BinOp.or IntKind.u8 c 32 - 97) % 256) :
    hxV c = 0 ∧ hxOk c = false := by
  obtain ⟨n, rfl⟩ := Int.eq_ofNat_of_zero_le h0
  exact (closed_all ⟨n, by omega⟩ hd).2 h

set_option maxHeartbeats 400000 in
theorem hexClosed_any (c : Int) (h0 : 0 ≤ c) (h1 : c ≤ 255) (w : World) :
    Calls Try.prog 18 #[.int .u8 c] w fun e w' => e = .returned (.tuple #[.int .u8 (hxV c), .bool (hxOk c)]) ∧ w' = w := by
  by_cases a1 : 48 ≤ c
  · by_cases a2 : c ≤ 57
    · go_enter Try.func18, Try.ntmps18
      go_wp2
      go_ret2
      exact ⟨hx_ret (hx_dig a1 a2), rfl⟩
    · go_enter Try.func18, Try.ntmps18
      go_wp2
      · go_ret2
        exact ⟨hx_ret (closed_yes h0 h1 (by omega) (by assumption)), rfl⟩
      · go_ret2
        exact ⟨hx_ret (closed_no h0 h1 (by omega) (by assumption)), rfl⟩
  · go_enter Try.func18, Try.ntmps18
    go_wp2
    · go_ret2
      exact ⟨hx_ret (closed_yes h0 h1 (by omega) (by assumption)), rfl⟩
    · go_ret2
      exact ⟨hx_ret (closed_no h0 h1 (by omega) (by assumption)), rfl⟩
end Go.Proofs.Qxb6618121a

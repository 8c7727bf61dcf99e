/-
  THE LAW FnHexDigitValueIsRankAmongDigits: the plain facts, and the walk.
-/
import Derived.Test.Qxb6618121aHex
namespace Go.Proofs.Qxb6618121a
open Go.RowKit

/-- how many of the first k bytes are hexadecimal digits -/
def cntH : Nat → Nat
  | 0 => 0
  | k + 1 => cntH k + (hxOk k).toNat
theorem cntH_le (k : Nat) : cntH k ≤ k := by
  induction k with
  | zero => exact Nat.le_refl _
  | succ k ih => unfold cntH; have := Bool.toNat_le (hxOk k); omega
theorem cntH_all : cntH 256 = 22 := by decide +kernel
theorem cntH_yes {c : Nat} (h : hxOk c = true) : cntH (c + 1) = cntH c + 1 := by simp [cntH, h]
theorem cntH_no {c : Nat} (h : hxOk c = false) : cntH (c + 1) = cntH c := by simp [cntH, h]
/-- its rank so far: how many digits lie below both n and k -/
def rnk (n k : Nat) : Nat := cntH (min n k)
theorem rnk_le (n k : Nat) : rnk n k ≤ k := by have := cntH_le (min n k); unfold rnk; omega
theorem rnk_in {n k : Nat} (h : k < n) (hk : hxOk k = true) : rnk n (k + 1) = rnk n k + 1 := by
  unfold rnk; rw [show min n (k + 1) = k + 1 by omega, show min n k = k by omega, cntH_yes hk]
theorem rnk_no {n k : Nat} (hk : hxOk k = false) : rnk n (k + 1) = rnk n k := by
  unfold rnk
  by_cases h : k < n
  · rw [show min n (k + 1) = k + 1 by omega, show min n k = k by omega, cntH_no hk]
  · rw [show min n (k + 1) = n by omega, show min n k = n by omega]
theorem rnk_out {n k : Nat} (h : ¬ k < n) : rnk n (k + 1) = rnk n k := by
  unfold rnk; rw [show min n (k + 1) = n by omega, show min n k = n by omega]

theorem rank_facts : ∀ n : Fin 256, 0 ≤ hxV ((n.val : Nat) : Int) ∧ hxV ((n.val : Nat) : Int) ≤ 15 ∧ (hxOk ((n.val : Nat) : Int) = false → hxV ((n.val : Nat) : Int) = 0) ∧
    (hxOk ((n.val : Nat) : Int) = true → rnk n.val 256 < 16 → hxV ((n.val : Nat) : Int) = ((rnk n.val 256 : Nat) : Int)) ∧
    (hxOk ((n.val : Nat) : Int) = true → ¬ rnk n.val 256 < 16 → hxV ((n.val : Nat) : Int) = ((rnk n.val 256 : Nat) : Int) - 6) := by decide +kernel
theorem fold_facts : ∀ n : Fin 256, 97 ≤ bits BinOp.or IntKind.u8 ((n.val : Nat) : Int) 32 → bits BinOp.or IntKind.u8 ((n.val : Nat) : Int) 32 ≤ 122 →
    0 ≤ bits BinOp.xor IntKind.u8 ((n.val : Nat) : Int) 32 ∧ bits BinOp.xor IntKind.u8 ((n.val : Nat) : Int) 32 ≤ 255 ∧
    hxV (bits BinOp.xor IntKind.u8 ((n.val : Nat) : Int) 32) = hxV ((n.val : Nat) : Int) ∧ hxOk (bits BinOp.xor IntKind.u8 ((n.val : Nat) : Int) 32) = hxOk ((n.val : Nat) : Int) := by decide +kernel
theorem zzHexDigit_is {x v : Int} {b : Bool} (h0 : 0 ≤ x) (h1 : x ≤ 255) (h : Hid (hxV x = v ∧ hxOk x = b)) (w : World) :
    Calls Try.prog 17 #[.int .u8 x] w fun e w' => e = .returned (.tuple #[.int .u8 v, .bool b]) ∧ w' = w := by
  have h' := zzHexDigit_any x h0 h1 w
  rwa [h.out.1, h.out.2] at h'

set_option maxRecDepth 100000 in
set_option maxHeartbeats 400000 in
theorem rank_walk (c : Int) (w0 : (Lit.int .u8 c).wf = true) (w : World) :
    Calls Try.prog 7 #[.int .u8 c] w fun e w' => e = .returned (.bool true) ∧ Grown w w' := by
  obtain ⟨h0, h1⟩ : 0 ≤ c ∧ c ≤ 255 := by
    simp only [Lit.wf, Bool.and_eq_true, decide_eq_true_eq] at w0; exact w0
  obtain ⟨n, rfl⟩ := Int.eq_ofNat_of_zero_le h0
  go_enter Try.func7, Try.ntmps7
  go_wp2_with (go_at_call 17; refine (zzHexDigit_any _ h0 h1 _).mono ?_; rintro e w' ⟨rfl, rfl⟩)
  go_loop [5, 6, 7] (fun a b i => ∃ d : Nat, d ≤ 256 ∧ i = .int .i64 d ∧ a = .int .i64 (cntH d) ∧ b = .int .i64 (rnk n d)) (fun _ _ i => 256 - (intOf i).toNat)
  case atStart => exact ⟨0, by omega, rfl, rfl, by simp [rnk, cntH]⟩
  case round =>
    obtain ⟨d, hd, rfl, rfl, rfl⟩ := hrel
    have b1 := cntH_le d
    have b2 := rnk_le n d
    by_cases hlt : d < 256
    · have g0 : (0 : Int) ≤ d := by omega
      have g1 : (d : Int) ≤ 255 := by omega
      cases hok : hxOk d
      · have e1 : Hid (cntH (d + 1) = cntH d) := cntH_no hok
        have e2 : Hid (rnk n (d + 1) = rnk n d) := rnk_no hok
        go_wp2_with (go_at_call 17; refine (zzHexDigit_any _ g0 g1 _).mono ?_; rintro e w' ⟨rfl, rfl⟩)
        go_round
        case rel => exact ⟨d + 1, by omega, by go_num, by rw [e1.out], by rw [e2.out]⟩
        case measure => simp [intOf]; omega
      · have e1 : Hid (cntH (d + 1) = cntH d + 1) := cntH_yes hok
        by_cases hdn : d < n
        · have e2 : Hid (rnk n (d + 1) = rnk n d + 1) := rnk_in hdn hok
          go_wp2_with (go_at_call 17; refine (zzHexDigit_any _ g0 g1 _).mono ?_; rintro e w' ⟨rfl, rfl⟩)
          go_round
          case rel => exact ⟨d + 1, by omega, by go_num, by rw [e1.out]; go_num, by rw [e2.out]; go_num⟩
          case measure => simp [intOf]; omega
        · have e2 : Hid (rnk n (d + 1) = rnk n d) := rnk_out hdn
          go_wp2_with (go_at_call 17; refine (zzHexDigit_any _ g0 g1 _).mono ?_; rintro e w' ⟨rfl, rfl⟩)
          go_round
          case rel => exact ⟨d + 1, by omega, by go_num, by rw [e1.out]; go_num, by rw [e2.out]⟩
          case measure => simp [intOf]; omega
    · obtain rfl : d = 256 := by omega
      rw [cntH_all]
      clear b1 b2
      obtain ⟨v0, v1, f1, f2, f3⟩ := rank_facts ⟨n, by omega⟩
      have ff := fold_facts ⟨n, by omega⟩
      simp only [] at v0 v1 f1 f2 f3 ff
      by_cases l1 : 97 ≤ bits BinOp.or IntKind.u8 (n : Int) 32
      · by_cases l2 : bits BinOp.or IntKind.u8 (n : Int) 32 ≤ 122
        · obtain ⟨x1, x2, x3, x4⟩ := ff l1 l2
          clear ff
          cases hok : hxOk (n : Int)
          · have hb : (hxV (n : Int) == 0) = true := beq_iff_eq.2 (f1 hok)
            clear f1 f2 f3
            have HX : Hid (hxV (bits BinOp.xor IntKind.u8 (n : Int) 32) = hxV (n : Int) ∧ hxOk (bits BinOp.xor IntKind.u8 (n : Int) 32) = false) := ⟨x3, x4.trans hok⟩
            clear x3 x4
            go_wp2_with fail
            refine (zzHexDigit_is x1 x2 HX _).mono ?_
            rintro e w' ⟨rfl, rfl⟩
            go_wp2_with fail
            go_ret
            exact ⟨rfl, Grown.refl _⟩
          · by_cases hr : rnk n 256 < 16
            · have hb : (hxV (n : Int) == ((rnk n 256 : Nat) : Int)) = true := beq_iff_eq.2 (f2 hok hr)
              clear f1 f2 f3
              have HX : Hid (hxV (bits BinOp.xor IntKind.u8 (n : Int) 32) = hxV (n : Int) ∧ hxOk (bits BinOp.xor IntKind.u8 (n : Int) 32) = true) := ⟨x3, x4.trans hok⟩
              clear x3 x4
              go_wp2_with fail
              refine (zzHexDigit_is x1 x2 HX _).mono ?_
              rintro e w' ⟨rfl, rfl⟩
              go_wp2_with fail
              go_ret
              exact ⟨rfl, Grown.refl _⟩
            · have hb : (hxV (n : Int) == ((rnk n 256 : Nat) : Int) - 6) = true := beq_iff_eq.2 (f3 hok hr)
              have hrb := rnk_le n 256
              clear f1 f2 f3
              have HX : Hid (hxV (bits BinOp.xor IntKind.u8 (n : Int) 32) = hxV (n : Int) ∧ hxOk (bits BinOp.xor IntKind.u8 (n : Int) 32) = true) := ⟨x3, x4.trans hok⟩
              clear x3 x4
              go_wp2_with fail
              refine (zzHexDigit_is x1 x2 HX _).mono ?_
              rintro e w' ⟨rfl, rfl⟩
              go_wp2_with fail
              go_ret
              exact ⟨rfl, Grown.refl _⟩
        · have l3 : decide (bits BinOp.or IntKind.u8 (n : Int) 32 ≤ 122) = false := decide_eq_false l2
          clear ff
          cases hok : hxOk (n : Int)
          · have hb : (hxV (n : Int) == 0) = true := beq_iff_eq.2 (f1 hok)
            clear f1 f2 f3
            go_wp2_with fail
            go_ret
            exact ⟨rfl, Grown.refl _⟩
          · by_cases hr : rnk n 256 < 16
            · have hb : (hxV (n : Int) == ((rnk n 256 : Nat) : Int)) = true := beq_iff_eq.2 (f2 hok hr)
              clear f1 f2 f3
              go_wp2_with fail
              go_ret
              exact ⟨rfl, Grown.refl _⟩
            · have hb : (hxV (n : Int) == ((rnk n 256 : Nat) : Int) - 6) = true := beq_iff_eq.2 (f3 hok hr)
              have hrb := rnk_le n 256
              clear f1 f2 f3
              go_wp2_with fail
              go_ret
              exact ⟨rfl, Grown.refl _⟩
      · clear ff
        cases hok : hxOk (n : Int)
        · have hb : (hxV (n : Int) == 0) = true := beq_iff_eq.2 (f1 hok)
          clear f1 f2 f3
          go_wp2_with fail
          go_ret
          exact ⟨rfl, Grown.refl _⟩
        · by_cases hr : rnk n 256 < 16
          · have hb : (hxV (n : Int) == ((rnk n 256 : Nat) : Int)) = true := beq_iff_eq.2 (f2 hok hr)
            clear f1 f2 f3
            go_wp2_with fail
            go_ret
            exact ⟨rfl, Grown.refl _⟩
          · have hb : (hxV (n : Int) == ((rnk n 256 : Nat) : Int) - 6) = true := beq_iff_eq.2 (f3 hok hr)
            have hrb := rnk_le n 256
            clear f1 f2 f3
            go_wp2_with fail
            go_ret
            exact ⟨rfl, Grown.refl _⟩
end Go.Proofs.Qxb6618121a

/-
  THE LAW FnUnescapeHexPairAgreesWithHexDigit: the walk.
-/
import Derived.Test.Qxb6618121aUnesc
namespace Go.Proofs.Qxb6618121a
open Go.RowKit

theorem hexDigit_is {x v : Int} {b : Bool} (h0 : 0 ≤ x) (h1 : x ≤ 255) (hv : hxV x = v) (hb : hxOk x = b) (w : World) :
    Calls Try.prog 17 #[.int .u8 x] w fun e w' => e = .returned (.tuple #[.int .u8 v, .bool b]) ∧ w' = w := by
  have h' := zzHexDigit_any x h0 h1 w
  rwa [hv, hb] at h'
theorem hexClosed_is {x v : Int} {b : Bool} (h0 : 0 ≤ x) (h1 : x ≤ 255) (hv : hxV x = v) (hb : hxOk x = b) (w : World) :
    Calls Try.prog 18 #[.int .u8 x] w fun e w' => e = .returned (.tuple #[.int .u8 v, .bool b]) ∧ w' = w := by
  have h' := hexClosed_any x h0 h1 w
  rwa [hv, hb] at h'
theorem zzUnesc_zero (g off n c : Nat) (z : Nat → Int) (v : Int) (j : Nat) (J : Int) (hJ : ((j : Nat) : Int) = J) (w : World) (hi : 0 < n) (hn : n ≤ 1048576) (hr : Hid (RowAt w g off n z)) (hU : UE z n 0 v j) :
    Calls Try.prog 15 #[.slice (some ⟨g, off, none⟩) n c, .int .i64 0] w fun e w' => e = .returned (.tuple #[.int .u8 v, .int .i64 J]) ∧ w' = w := by
  have h := zzUnesc_any g off n c 0 z v j w hi hn hr hU
  rw [hJ, show ((0 : Nat) : Int) = 0 from rfl] at h
  exact h
theorem pair_row (w : World) {hi lo : Int} (h0 : 0 ≤ hi) (h1 : hi ≤ 255) (l0 : 0 ≤ lo) (l1 : lo ≤ 255) :
    RowAt (w.alloc (.cells #[.int .u8 120, .int .u8 hi, .int .u8 lo] 5)) w.heap.size 0 3 (byt [120, hi, lo]) := by
  have hg := heap_new w (.cells #[.int .u8 120, .int .u8 hi, .int .u8 lo] 5)
  intro j hj
  match j, hj with
  | 0, _ => exact ⟨row_cell (L := [.int .u8 120, .int .u8 hi, .int .u8 lo]) hg rfl, (show (0 : Int) ≤ 120 by decide), (show (120 : Int) ≤ 255 by decide)⟩
  | 1, _ => exact ⟨row_cell (L := [.int .u8 120, .int .u8 hi, .int .u8 lo]) hg rfl, h0, h1⟩
  | 2, _ => exact ⟨row_cell (L := [.int .u8 120, .int .u8 hi, .int .u8 lo]) hg rfl, l0, l1⟩
theorem UE_pair {hi lo : Int} (o1 : hxOk hi = true) (o2 : hxOk lo = true) : UE (byt [120, hi, lo]) 3 0 (hxV hi * 16 + hxV lo) 2 :=
  .inl ⟨⟨rfl, by omega, o1, o2⟩, rfl, rfl⟩
theorem UE_single {hi lo : Int} (o : ¬ (hxOk hi = true ∧ hxOk lo = true)) : UE (byt [120, hi, lo]) 3 0 120 0 :=
  .inr ⟨fun hh => o hh.2.2, rfl, rfl⟩

set_option maxHeartbeats 400000 in
theorem pair_walk (hi lo : Int) (w0 : (Lit.int .u8 hi).wf = true) (w1 : (Lit.int .u8 lo).wf = true) (w : World) :
    Calls Try.prog 6 #[.int .u8 hi, .int .u8 lo] w fun e w' => e = .returned (.bool true) ∧ Grown w w' := by
  obtain ⟨h0, h1⟩ : 0 ≤ hi ∧ hi ≤ 255 := by
    simp only [Lit.wf, Bool.and_eq_true, decide_eq_true_eq] at w0; exact w0
  obtain ⟨l0, l1⟩ : 0 ≤ lo ∧ lo ≤ 255 := by
    simp only [Lit.wf, Bool.and_eq_true, decide_eq_true_eq] at w1; exact w1
  have HR : Hid (RowAt (w.alloc (.cells #[.int .u8 120, .int .u8 hi, .int .u8 lo] 5)) w.heap.size 0 3 (byt [120, hi, lo])) := pair_row w h0 h1 l0 l1
  have HG : Hid (Grown w (w.alloc (.cells #[.int .u8 120, .int .u8 hi, .int .u8 lo] 5))) := (Grown.refl _).alloc _ _
  obtain ⟨u1, u2⟩ := hxV_bd hi
  obtain ⟨u3, u4⟩ := hxV_bd lo
  cases o1 : hxOk hi
  · have O1 : Hid (hxOk hi = false) := o1
    have hU := UE_single (hi := hi) (lo := lo) (fun hh => by rw [o1] at hh; cases hh.1)
    clear o1
    obtain ⟨b, hb⟩ : ∃ b, hxOk lo = b := ⟨_, rfl⟩
    have O2 : Hid (hxOk lo = b) := hb
    clear hb
    go_enter Try.func6, Try.ntmps6
    go_wp2_with fail
    refine (hexDigit_is h0 h1 rfl O1.out _).mono ?_
    rintro e w' ⟨rfl, rfl⟩
    go_wp2_with fail
    refine (hexDigit_is l0 l1 rfl O2.out _).mono ?_
    rintro e w' ⟨rfl, rfl⟩
    go_wp2_with fail
    refine (hexClosed_is h0 h1 rfl O1.out _).mono ?_
    rintro e w' ⟨rfl, rfl⟩
    go_wp2_with fail
    refine (hexClosed_is l0 l1 rfl O2.out _).mono ?_
    rintro e w' ⟨rfl, rfl⟩
    go_wp2_with fail
    refine (zzUnesc_zero _ 0 3 3 (byt [120, hi, lo]) 120 0 0 rfl _ (by omega) (by omega) HR hU).mono ?_
    rintro e w' ⟨rfl, hw⟩
    subst hw
    go_wp2_with fail
    go_ret
    exact ⟨rfl, HG.out⟩
  · have O1 : Hid (hxOk hi = true) := o1
    cases o2 : hxOk lo
    · have O2 : Hid (hxOk lo = false) := o2
      have hU := UE_single (hi := hi) (lo := lo) (fun hh => by rw [o2] at hh; cases hh.2)
      clear o1 o2
      go_enter Try.func6, Try.ntmps6
      go_wp2_with fail
      refine (hexDigit_is h0 h1 rfl O1.out _).mono ?_
      rintro e w' ⟨rfl, rfl⟩
      go_wp2_with fail
      refine (hexDigit_is l0 l1 rfl O2.out _).mono ?_
      rintro e w' ⟨rfl, rfl⟩
      go_wp2_with fail
      refine (hexClosed_is h0 h1 rfl O1.out _).mono ?_
      rintro e w' ⟨rfl, rfl⟩
      go_wp2_with fail
      refine (hexClosed_is l0 l1 rfl O2.out _).mono ?_
      rintro e w' ⟨rfl, rfl⟩
      go_wp2_with fail
      refine (zzUnesc_zero _ 0 3 3 (byt [120, hi, lo]) 120 0 0 rfl _ (by omega) (by omega) HR hU).mono ?_
      rintro e w' ⟨rfl, hw⟩
      subst hw
      go_wp2_with fail
      go_ret
      exact ⟨rfl, HG.out⟩
    · have O2 : Hid (hxOk lo = true) := o2
      have hU := UE_pair o1 o2
      clear o1 o2
      go_enter Try.func6, Try.ntmps6
      go_wp2_with fail
      refine (hexDigit_is h0 h1 rfl O1.out _).mono ?_
      rintro e w' ⟨rfl, rfl⟩
      go_wp2_with fail
      refine (hexDigit_is l0 l1 rfl O2.out _).mono ?_
      rintro e w' ⟨rfl, rfl⟩
      go_wp2_with fail
      refine (hexClosed_is h0 h1 rfl O1.out _).mono ?_
      rintro e w' ⟨rfl, rfl⟩
      go_wp2_with fail
      refine (hexClosed_is l0 l1 rfl O2.out _).mono ?_
      rintro e w' ⟨rfl, rfl⟩
      go_wp2_with fail
      refine (zzUnesc_zero _ 0 3 3 (byt [120, hi, lo]) (hxV hi * 16 + hxV lo) 2 2 rfl _ (by omega) (by omega) HR hU).mono ?_
      rintro e w' ⟨rfl, hw⟩
      subst hw
      go_wp2_with fail
      go_ret
      exact ⟨rfl, HG.out⟩
end Go.Proofs.Qxb6618121a

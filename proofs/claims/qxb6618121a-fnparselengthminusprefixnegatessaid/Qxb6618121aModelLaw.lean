/-
  THE LAW FnParseLengthMatchesPlaceValueModel: the walk.
-/
import Derived.Test.Qxb6618121aPlace
import Derived.Test.Qxb6618121aRow
namespace Go.Proofs.Qxb6618121a
open Go.RowKit

theorem PL_zero {z : Nat → Int} {v : Int} {b : Bool} (h : PL z 0 v b) : v = 0 ∧ b = false :=
  PL_uniq h (PL_pos_len (fun hn => absurd hn.1 (by omega)) (by omega))
/-- both, on a row of whatever length -/
theorem zzParse_all (g off n c : Nat) (z : Nat → Int) (v : Int) (b : Bool) (w : World) (hc : n ≤ c) (hm : c ≤ maxLen) (hr : Hid (RowAt w g off n z)) (hPL : PL z n v b) :
    Calls Try.prog 9 #[.slice (some ⟨g, off, none⟩) n c] w fun e w' => e = .returned (.tuple #[.int .i64 v, .bool b]) ∧ w' = w := by
  by_cases h0 : n = 0
  · subst h0
    obtain ⟨rfl, rfl⟩ := PL_zero hPL
    exact zzParse_none _ _ w
  · exact zzParse_any g off n c z v b w (by omega) hc hm hr hPL
theorem place_all (g off n c : Nat) (z : Nat → Int) (v : Int) (b : Bool) (w : World) (hc : n ≤ c) (hm : c ≤ maxLen) (hr : Hid (RowAt w g off n z)) (hPL : PL z n v b) :
    Calls Try.prog 10 #[.slice (some ⟨g, off, none⟩) n c] w fun e w' => e = .returned (.tuple #[.int .i64 v, .bool b]) ∧ w' = w := by
  by_cases h0 : n = 0
  · subst h0
    obtain ⟨rfl, rfl⟩ := PL_zero hPL
    exact place_none _ _ w
  · exact place_any g off n c z v b w (by omega) hc hm hr hPL

theorem modelBytes_any (a : Option Addr) (n c : Nat) (hn : n ≤ 1048576) (w : World) :
    Calls Try.prog 8 #[.slice a n c] w fun e w' => e = .returned (.bool true) ∧ w' = w := by
  go_enter Try.func8, Try.ntmps8
  go_wp2
  go_ret
  exact ⟨rfl, rfl⟩
theorem modelBytes_long (a : Option Addr) (n c : Nat) (hn : 1048576 < n) (w : World) :
    Calls Try.prog 8 #[.slice a n c] w fun e w' => e = .returned (.bool false) ∧ w' = w := by
  go_enter Try.func8, Try.ntmps8
  go_wp2
  go_ret
  exact ⟨rfl, rfl⟩

theorem model_nil (w : World) :
    Calls Try.prog 3 #[.slice none 0 0] w fun e w' => e = .returned (.bool true) ∧ Below w.heap.size w w' := by
  have q22 := fun (w : World) (a : Option Addr) (n c n' c' : Nat) => run_neq_slice_nil_any (P := Try.prog) w 22 5 a n c n' c' Try.underlying22
  go_enter Try.func3, Try.ntmps3
  go_wp2_with fail
  refine (modelBytes_any _ _ _ (by omega) _).mono ?_
  rintro e w' ⟨rfl, rfl⟩
  go_wp2_with fail
  refine (zzParse_none _ _ _).mono ?_
  rintro e w' ⟨rfl, rfl⟩
  go_wp2_with fail
  refine (place_none _ _ _).mono ?_
  rintro e w' ⟨rfl, rfl⟩
  go_wp2_with fail
  go_ret
  exact ⟨rfl, Below.refl _ _⟩

theorem model_long (a : Option Addr) (n c : Nat) (hn : 65536 < n) (w : World) :
    Calls Try.prog 3 #[.slice a n c] w fun e w' => e = .returned (.bool true) ∧ Below w.heap.size w w' := by
  by_cases h : 1048576 < n
  · go_enter Try.func3, Try.ntmps3
    go_wp2_with (go_at_call 8; refine (modelBytes_long _ _ _ h _).mono ?_; rintro e w' ⟨rfl, rfl⟩)
    go_ret
    exact ⟨rfl, Below.refl _ _⟩
  · go_enter Try.func3, Try.ntmps3
    go_wp2_with (go_at_call 8; refine (modelBytes_any _ _ _ (by omega) _).mono ?_; rintro e w' ⟨rfl, rfl⟩)
    go_ret
    exact ⟨rfl, Below.refl _ _⟩

set_option maxHeartbeats 400000 in
theorem model_row (x : Addr) (n c : Nat) (zs : List Int) (w : World) (hn : n ≤ 65536) (hc : n ≤ zs.length)
    (hcell : Hid (∀ i, i < zs.length → w.cell? (x.add i) = some (.int .u8 (zs.getD i 0)))) (hwf : Hid (∀ n ∈ zs, (Lit.int .u8 n).wf = true)) :
    Calls Try.prog 3 #[.slice (some x) n c] w fun e w' => e = .returned (.bool true) ∧ Below w.heap.size w w' := by
  have q22 := fun (w : World) (a : Option Addr) (n c n' c' : Nat) => run_neq_slice_nil_any (P := Try.prog) w 22 5 a n c n' c' Try.underlying22
  obtain ⟨Z, hZ, hmk0⟩ := make_row n (by omega)
  have HZ : Hid (Z.length = n) := hZ
  clear hZ
  have hmk := hmk0 w
  clear hmk0
  obtain ⟨w2, hcp, hg2, hb2⟩ := copy_into (w.alloc (.cells Z.toArray 5)) 3 w.heap.size 0 Z (some ⟨w.heap.size, 0, none⟩) n n (some x) n c zs w.heap.size w
    (heap_new w _) (Nat.le_refl _) hc (fun _ => ⟨rfl, x, rfl, fun j hj => cell_old (hcell.out j (by omega))⟩) (by rw [HZ.out]; omega) ((Below.refl _ _).alloc (Nat.le_refl _) _) (Nat.le_refl _)
  rw [splice_all _ _ (by rw [HZ.out, cells8_length hc])] at hg2
  have HR : Hid (RowAt w2 w.heap.size 0 n (byt zs)) := rowAt_of hg2 (fun j hj => cells8_get hc hj) hwf.out
  have HB : Hid (Below w.heap.size w w2) := hb2
  obtain ⟨v, b, hPL⟩ := PL_ex (byt zs) n
  have hml : n ≤ maxLen := by unfold maxLen; omega
  have t1 : decide ((65536 : Int) < (n : Int)) = false := decide_eq_false (by omega)
  clear hg2 hb2 hcell
  unfold goInt at hcp
  go_enter Try.func3, Try.ntmps3
  go_wp2_with fail
  refine (modelBytes_any _ _ _ (by omega) _).mono ?_
  rintro e w' ⟨rfl, rfl⟩
  go_wp2_with fail
  refine (zzParse_all _ 0 n n (byt zs) v b _ (Nat.le_refl _) hml HR hPL).mono ?_
  rintro e w' ⟨rfl, rfl⟩
  go_wp2_with fail
  refine (place_all _ 0 n n (byt zs) v b _ (Nat.le_refl _) hml HR hPL).mono ?_
  rintro e w' ⟨rfl, rfl⟩
  go_wp2_with fail
  go_ret
  exact ⟨by simp, HB.out⟩
end Go.Proofs.Qxb6618121a

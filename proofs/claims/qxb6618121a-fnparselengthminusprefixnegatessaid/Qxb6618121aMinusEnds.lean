/-
  THE LAW FnParseLengthMinusPrefixNegates: nil, empty and very long slices.
-/
import Derived.Test.Qxb6618121aMinusLaw
namespace Go.Proofs.Qxb6618121a
open Go.RowKit

theorem make_zero (w : World) : (Instr.makeSlice 22 (.int .i64 0) (.int .i64 0)).run Try.prog w = .ok (.slice (some ⟨w.heap.size, 0, none⟩) 0 0) (w.alloc (.cells #[] 5)) := by kernel_rfl
theorem make_one (w : World) : (Instr.makeSlice 22 (.int .i64 1) (.int .i64 1)).run Try.prog w = .ok (.slice (some ⟨w.heap.size, 0, none⟩) 1 1) (w.alloc (.cells #[.int .u8 0] 5)) := by kernel_rfl
theorem copy_zero (w : World) (ty : TypeId) (d a : Option Addr) (c1 c2 : Nat) : (Builtin.copy_ #[22, 22] ty #[.slice d 0 c1, .slice a 0 c2]).run Try.prog w = .ok (.int .i64 0) w :=
  run_copy_none (P := Try.prog) w 22 22 ty 5 d a 0 c1 0 c2 Try.underlying22 size5 (by simp)
/-- the row of '-' alone -/
theorem minus_alone (w : World) : RowAt (w.alloc (.cells #[.int .u8 45] 5)) w.heap.size 0 1 (byt [45]) :=
  rowAt_of (L := [.int .u8 45]) (heap_new w _) (fun j hj => by obtain rfl : j = 0 := by omega
                                                               rfl) (by intro n hn; rcases List.mem_cons.1 hn with rfl | h
                                                                        · decide
                                                                        · cases h)
theorem PL_alone : PL (byt [45]) 1 0 false := PL_neg_len (by omega) rfl (by omega)

theorem minus_nil (w : World) :
    Calls Try.prog 4 #[.slice none 0 0] w fun e w' => e = .returned (.bool true) ∧ Below w.heap.size w w' := by
  have q22 := fun (w : World) (a : Option Addr) (n c n' c' : Nat) => run_neq_slice_nil_any (P := Try.prog) w 22 5 a n c n' c' Try.underlying22
  have hmk := make_one
  have hcp := copy_zero
  have HR : Hid (RowAt (w.alloc (.cells #[.int .u8 45] 5)) w.heap.size 0 1 (byt [45])) := minus_alone w
  have HB : Hid (Below w.heap.size w (w.alloc (.cells #[.int .u8 45] 5))) := (Below.refl _ _).alloc (Nat.le_refl _) _
  go_enter Try.func4, Try.ntmps4
  go_wp2_with fail
  refine (minusBytes_any _ _ _ (by omega) _).mono ?_
  rintro e w' ⟨rfl, rfl⟩
  go_wp2_with fail
  refine (zzParse_none _ _ _).mono ?_
  rintro e w' ⟨rfl, rfl⟩
  go_wp2_with fail
  refine (zzParse_all _ 0 1 1 (byt [45]) 0 false _ (Nat.le_refl _) (by unfold maxLen; omega) HR PL_alone).mono ?_
  rintro e w' ⟨rfl, rfl⟩
  go_wp2_with fail
  refine (dec_none _ _ _).mono ?_
  rintro e w' ⟨rfl, rfl⟩
  go_wp2_with fail
  go_ret
  exact ⟨rfl, HB.out⟩

theorem minus_empty (x : Addr) (c : Nat) (w : World) :
    Calls Try.prog 4 #[.slice (some x) 0 c] w fun e w' => e = .returned (.bool true) ∧ Below w.heap.size w w' := by
  have q22 := fun (w : World) (a : Option Addr) (n c n' c' : Nat) => run_neq_slice_nil_any (P := Try.prog) w 22 5 a n c n' c' Try.underlying22
  have hmk := make_one
  have hmk0 := make_zero
  have hcp := copy_zero
  have HR : Hid (RowAt ((w.alloc (.cells #[] 5)).alloc (.cells #[.int .u8 45] 5)) (w.heap.size + 1) 0 1 (byt [45])) := by
    have := minus_alone (w.alloc (.cells #[] 5)); rwa [World.size_alloc] at this
  have HB : Hid (Below w.heap.size w ((w.alloc (.cells #[] 5)).alloc (.cells #[.int .u8 45] 5))) := ((Below.refl _ _).alloc (Nat.le_refl _) _).alloc (by simp) _
  go_enter Try.func4, Try.ntmps4
  go_wp2_with fail
  refine (minusBytes_any _ _ _ (by omega) _).mono ?_
  rintro e w' ⟨rfl, rfl⟩
  go_wp2_with fail
  refine (zzParse_none _ _ _).mono ?_
  rintro e w1 ⟨rfl, hw1⟩
  subst hw1
  go_wp2_with fail
  refine (zzParse_all _ 0 1 1 (byt [45]) 0 false _ (Nat.le_refl _) (by unfold maxLen; omega) HR PL_alone).mono ?_
  rintro e w2 ⟨rfl, hw2⟩
  subst hw2
  go_wp2_with fail
  refine (dec_none _ _ _).mono ?_
  rintro e w3 ⟨rfl, hw3⟩
  subst hw3
  go_wp2_with fail
  go_ret
  exact ⟨rfl, HB.out⟩

theorem minus_long (a : Option Addr) (n c : Nat) (hn : 65536 < n) (w : World) :
    Calls Try.prog 4 #[.slice a n c] w fun e w' => e = .returned (.bool true) ∧ Below w.heap.size w w' := by
  by_cases h : 1048576 < n
  · go_enter Try.func4, Try.ntmps4
    go_wp2_with (go_at_call 11; refine (minusBytes_long _ _ _ h _).mono ?_; rintro e w' ⟨rfl, rfl⟩)
    go_ret
    exact ⟨rfl, Below.refl _ _⟩
  · go_enter Try.func4, Try.ntmps4
    go_wp2_with (go_at_call 11; refine (minusBytes_any _ _ _ (by omega) _).mono ?_; rintro e w' ⟨rfl, rfl⟩)
    go_ret
    exact ⟨rfl, Below.refl _ _⟩
end Go.Proofs.Qxb6618121a

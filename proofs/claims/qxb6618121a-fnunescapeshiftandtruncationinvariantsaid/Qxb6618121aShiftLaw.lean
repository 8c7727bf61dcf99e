/-
  THE LAW FnUnescapeShiftAndTruncationInvariant: the walk.
-/
import Derived.Test.Qxb6618121aEscModel
namespace Go.Proofs.Qxb6618121a
open Go.RowKit

/-- 'make([]byte, p+n)' -/
theorem make_sum (p n : Nat) (h : p + n ≤ 1048576) : ∃ Z : List Value, Z.length = p + n ∧ ∀ w : World,
    (Instr.makeSlice 22 (.int .i64 ((p : Int) + (n : Int))) (.int .i64 ((p : Int) + (n : Int)))).run Try.prog w = .ok (.slice (some ⟨w.heap.size, 0, none⟩) (p + n) (p + n)) (w.alloc (.cells Z.toArray 5)) := by
  obtain ⟨Z, hZ, hm⟩ := make_row (p + n) h
  refine ⟨Z, hZ, fun w => ?_⟩
  have := hm w
  rwa [Int.natCast_add] at this

/-- THE ROWS: what the makes and copies leave, ahead of the walk -/
theorem shift_rows (a0 : Option Addr) (p c0 : Nat) (zp : List Int) (x : Addr) (n c1 : Nat) (zl : List Int) (w : World) (hp : p ≤ zp.length) (hn : n ≤ zl.length)
    (h0 : 0 < p → ∃ y, a0 = some y ∧ ∀ i, i < zp.length → w.cell? (y.add i) = some (.int .u8 (zp.getD i 0))) (h1 : ∀ i, i < zl.length → w.cell? (x.add i) = some (.int .u8 (zl.getD i 0)))
    (wp : ∀ n ∈ zp, (Lit.int .u8 n).wf = true) (wl : ∀ n ∈ zl, (Lit.int .u8 n).wf = true) (Z : List Value) (hZ : Z.length = n) (Z2 : List Value) (hZ2 : Z2.length = p + n) :
    ∃ w2 w3 w4, (Builtin.copy_ #[22, 22] 3 #[.slice (some ⟨w.heap.size, 0, none⟩) n n, .slice (some x) n c1]).run Try.prog (w.alloc (.cells Z.toArray 5)) = .ok (.int .i64 n) w2 ∧
      RowAt w2 w.heap.size 0 n (byt zl) ∧
      (Builtin.copy_ #[22, 22] 3 #[.slice (some ⟨w2.heap.size, 0, none⟩) (p + n) (p + n), .slice a0 p c0]).run Try.prog (w2.alloc (.cells Z2.toArray 5)) = .ok (.int .i64 p) w3 ∧
      (Builtin.copy_ #[22, 22] 3 #[.slice (some ⟨w2.heap.size, p, none⟩) n n, .slice (some ⟨w.heap.size, 0, none⟩) n n]).run Try.prog w3 = .ok (.int .i64 n) w4 ∧
      RowAt w4 w.heap.size 0 n (byt zl) ∧ RowAt w4 w2.heap.size 0 (p + n) (byt (zp.take p ++ zl)) ∧ Below w.heap.size w w4 := by
  obtain ⟨w2, hcp, hg2, hb2⟩ := copy_into (w.alloc (.cells Z.toArray 5)) 3 w.heap.size 0 Z (some ⟨w.heap.size, 0, none⟩) n n (some x) n c1 zl w.heap.size w
    (heap_new w _) (Nat.le_refl _) hn (fun _ => ⟨rfl, x, rfl, fun j hj => cell_old (h1 j (by omega))⟩) (by rw [hZ]; omega) ((Below.refl _ _).alloc (Nat.le_refl _) _) (Nat.le_refl _)
  rw [splice_all _ _ (by rw [hZ, cells8_length hn])] at hg2
  have HR : RowAt w2 w.heap.size 0 n (byt zl) := rowAt_of hg2 (fun j hj => cells8_get hn hj) wl
  have hlt : w.heap.size < w2.heap.size := (Array.getElem?_eq_some_iff.1 hg2).1
  obtain ⟨w3, hcp3, hg3, hb3⟩ := copy_into (w2.alloc (.cells Z2.toArray 5)) 3 w2.heap.size 0 Z2 (some ⟨w2.heap.size, 0, none⟩) (p + n) (p + n) a0 p c0 zp w2.heap.size w2
    (heap_new w2 _) (by omega) hp (fun hpos => by
      obtain ⟨y, rfl, hy⟩ := h0 hpos
      refine ⟨rfl, y, rfl, fun j hj => cell_old ?_⟩
      have hc := hy j (by omega)
      have hlt' : (y.add j).block < w.heap.size := by
        by_cases hb : (y.add j).block < w.heap.size
        · exact hb
        · rw [World.cell?] at hc
          simp [Array.getElem?_eq_none (Nat.le_of_not_lt hb)] at hc
      rw [hb2.cell hlt']; exact hc) (by rw [hZ2]; omega) ((Below.refl _ _).alloc (Nat.le_refl _) _) (Nat.le_refl _)
  obtain ⟨w4, hcp4, hg4, hb4⟩ := copy_into w3 3 w2.heap.size p (splice Z2 0 (cellsOf8 zp p)) (some ⟨w2.heap.size, p, none⟩) n n (some ⟨w.heap.size, 0, none⟩) n n zl w2.heap.size w2
    hg3 (Nat.le_refl _) hn (fun _ => ⟨rfl, _, rfl, fun j hj => by rw [WideShapes.add_plain, hb3.cell (p := ⟨w.heap.size, 0 + j, none⟩) hlt]; exact (HR j hj).1⟩)
    (by rw [length_splice _ _ _ (by rw [cells8_length hp, hZ2]; omega), hZ2]; omega) hb3 (Nat.le_refl _)
  rw [splice_two Z2 _ _ (cells8_length hp) (cells8_length hn) hZ2, ← cells8_append zp zl hp n] at hg4
  refine ⟨w2, w3, w4, hcp, HR, hcp3, hcp4, fun j hj => ⟨?_, (HR j hj).2⟩, rowAt_of hg4 (fun j hj => cells8_get (by simp; omega) hj) ?_, hb2.trans (hb4.mono (by omega))⟩
  · rw [hb4.cell (p := ⟨w.heap.size, 0 + j, none⟩) hlt]; exact (HR j hj).1
  · intro m hm
    rcases List.mem_append.1 hm with h | h
    · exact wp m (List.mem_of_mem_take h)
    · exact wl m h

set_option maxHeartbeats 400000 in
theorem shift_row (a0 : Option Addr) (p c0 : Nat) (zp : List Int) (x : Addr) (n c1 : Nat) (zl : List Int) (i : Nat) (w : World) (hp : p ≤ zp.length) (hn : n ≤ zl.length)
    (bp : p ≤ 65536) (bn : n ≤ 65536) (hi : i < n)
    (h0 : 0 < p → ∃ y, a0 = some y ∧ ∀ i, i < zp.length → w.cell? (y.add i) = some (.int .u8 (zp.getD i 0))) (h1 : ∀ i, i < zl.length → w.cell? (x.add i) = some (.int .u8 (zl.getD i 0)))
    (wp : ∀ n ∈ zp, (Lit.int .u8 n).wf = true) (wl : ∀ n ∈ zl, (Lit.int .u8 n).wf = true) :
    Calls Try.prog 5 #[.slice a0 p c0, .slice (some x) n c1, .int .i64 i] w fun e w' => e = .returned (.bool true) ∧ Below w.heap.size w w' := by
  have q22 := fun (w : World) (a : Option Addr) (n c n' c' : Nat) => run_neq_slice_nil_any (P := Try.prog) w 22 5 a n c n' c' Try.underlying22
  obtain ⟨Z, hZ, hmk0⟩ := make_row n (by omega)
  obtain ⟨Z2, hZ2, hmk20⟩ := make_sum p n (by omega)
  obtain ⟨w2, w3, w4, hcp, HR0, hcp3, hcp4, HR40, HR50, HB0⟩ := shift_rows a0 p c0 zp x n c1 zl w hp hn h0 h1 wp wl Z hZ Z2 hZ2
  have hmk := hmk0 w
  have hmk2 := hmk20 w2
  obtain ⟨v, j, hU⟩ := UE_ex (byt zl) n i
  obtain ⟨hij, hjn⟩ := UE_range hi hU
  have hU2 := UE_shift (p := p) (fun k => byt_append zp zl hp k) hU
  have hU3 := UE_trunc hU
  have HR : Hid (RowAt w2 w.heap.size 0 n (byt zl)) := HR0
  have HR4 : Hid (RowAt w4 w.heap.size 0 n (byt zl)) := HR40
  have HR5 : Hid (RowAt w4 w2.heap.size 0 (p + n) (byt (zp.take p ++ zl))) := HR50
  have HR6 : Hid (RowAt w4 w.heap.size 0 (j + 1) (byt zl)) := fun k hk => HR40 k (by omega)
  have HB : Hid (Below w.heap.size w w4) := HB0
  have t1 : decide ((65536 : Int) < (p : Int)) = false := decide_eq_false (by omega)
  have t2 : decide ((65536 : Int) < (n : Int)) = false := decide_eq_false (by omega)
  clear hmk0 hmk20 HR0 HR40 HR50 HB0 h0 h1 wp wl hZ hZ2
  generalize byt (zp.take p ++ zl) = zj at hU2 HR5
  generalize byt zl = z at hU hU2 hU3 HR HR4 HR6
  clear hp hn
  go_enter Try.func5, Try.ntmps5
  go_wp2_with fail
  refine (shiftBytes_any _ _ _ _ _ _ _ (by omega) _).mono ?_
  rintro e w' ⟨rfl, rfl⟩
  go_wp2_with fail
  refine (zzUnesc_any _ 0 n n i z v j _ hi (by omega) HR hU).mono ?_
  rintro e w' ⟨rfl, rfl⟩
  go_wp2_with fail
  refine (zzUnesc_at _ 0 (p + n) (p + n) (p + i) ((p : Int) + (i : Int)) (by omega) zj v (p + j) ((j : Int) + (p : Int)) (by omega) _ (by omega) (by omega) HR5 hU2).mono ?_
  rintro e w' ⟨rfl, rfl⟩
  go_wp2_with fail
  refine (zzUnesc_any _ 0 (j + 1) n i z v j _ (by omega) (by omega) HR6 hU3).mono ?_
  rintro e w' ⟨rfl, rfl⟩
  go_wp2_with fail
  refine (escModel_any _ 0 n n i z v j _ hi (by omega) HR4 hU).mono ?_
  rintro e w' ⟨rfl, rfl⟩
  go_wp2_with fail
  go_ret
  exact ⟨rfl, HB.out⟩

theorem shift_early (a0 a1 : Option Addr) (p c0 n c1 : Nat) (i : Int) (w : World) (h : 1048576 < p + n ∨ 65536 < p ∨ 65536 < n ∨ i < 0 ∨ (n : Int) ≤ i) :
    Calls Try.prog 5 #[.slice a0 p c0, .slice a1 n c1, .int .i64 i] w fun e w' => e = .returned (.bool true) ∧ Below w.heap.size w w' := by
  by_cases b1 : 1048576 < p + n
  · go_enter Try.func5, Try.ntmps5
    go_wp2_with (go_at_call 14; refine (shiftBytes_long _ _ _ _ _ _ _ b1 _).mono ?_; rintro e w' ⟨rfl, rfl⟩)
    go_ret
    exact ⟨rfl, Below.refl _ _⟩
  by_cases b2 : 65536 < p
  · clear h
    go_enter Try.func5, Try.ntmps5
    go_wp2_with (go_at_call 14; refine (shiftBytes_any _ _ _ _ _ _ _ (by omega) _).mono ?_; rintro e w' ⟨rfl, rfl⟩)
    go_ret
    exact ⟨rfl, Below.refl _ _⟩
  by_cases b3 : 65536 < n
  · clear h
    go_enter Try.func5, Try.ntmps5
    go_wp2_with (go_at_call 14; refine (shiftBytes_any _ _ _ _ _ _ _ (by omega) _).mono ?_; rintro e w' ⟨rfl, rfl⟩)
    go_ret
    exact ⟨rfl, Below.refl _ _⟩
  by_cases b4 : i < 0
  · clear h
    go_enter Try.func5, Try.ntmps5
    go_wp2_with (go_at_call 14; refine (shiftBytes_any _ _ _ _ _ _ _ (by omega) _).mono ?_; rintro e w' ⟨rfl, rfl⟩)
    go_ret
    exact ⟨rfl, Below.refl _ _⟩
  have b5 : (n : Int) ≤ i := by omega
  clear h
  go_enter Try.func5, Try.ntmps5
  go_wp2_with (go_at_call 14; refine (shiftBytes_any _ _ _ _ _ _ _ (by omega) _).mono ?_; rintro e w' ⟨rfl, rfl⟩)
  go_ret
  exact ⟨rfl, Below.refl _ _⟩
end Go.Proofs.Qxb6618121a

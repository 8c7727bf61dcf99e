/-
  THE LAW FnParseLengthMinusPrefixNegates: the walk.
-/
import Derived.Test.Qxb6618121aModelLaw
import Derived.Test.Qxb6618121aDecimal
namespace Go.Proofs.Qxb6618121a
open Go.RowKit

/-- 'make([]byte, n+1)', its first cell by name -/
theorem make_row1 (n : Nat) (hn : n ≤ 1048575) : ∃ (v0 : Value) (Z : List Value), Z.length = n ∧ v0.oneCell' = true ∧ ∀ w : World,
    (Instr.makeSlice 22 (.int .i64 ((n : Int) + 1)) (.int .i64 ((n : Int) + 1))).run Try.prog w = .ok (.slice (some ⟨w.heap.size, 0, none⟩) (n + 1) (n + 1)) (w.alloc (.cells (v0 :: Z).toArray 5)) := by
  obtain ⟨i, hi, hz0, hz1, hz2⟩ := info_parts info5
  refine ⟨.int .u8 0, List.replicate n (.int .u8 0), by simp, rfl, fun w => ?_⟩
  have h := run_make (P := Try.prog) w 22 5 i (.int .u8 0) Try.underlying22 hi hz0 .i64 .i64 ((n : Int) + 1) ((n : Int) + 1) (by omega) (by omega) (by rw [hz2]; omega) (by omega)
  rw [hz1, show ((n : Int) + 1).toNat = n + 1 by omega] at h
  have e : madeCells (Value.int .u8 0).cells ((n + 1) * 1) = (Value.int .u8 0 :: List.replicate n (.int .u8 0)).toArray := by
    have := toList_madeCells_one (Value.int .u8 0) (n + 1)
    rw [List.replicate_succ] at this
    rw [Nat.mul_one, ← this]
    rfl
  rw [e] at h
  exact h

/-- zzDecimal18's verdict -/
def Dec (z : Nat → Int) (n : Nat) (b : Bool) : Prop := b = true ↔ 1 ≤ n ∧ n ≤ 18 ∧ digs z 0 n
theorem dec_is (g off n c : Nat) (z : Nat → Int) (b : Bool) (w : World) (h1 : 1 ≤ n) (hc : n ≤ c) (hm : c ≤ maxLen) (hr : Hid (RowAt w g off n z)) (hb : Dec z n b) :
    Calls Try.prog 12 #[.slice (some ⟨g, off, none⟩) n c] w fun e w' => e = .returned (.bool b) ∧ w' = w := dec_any g off n c z b w h1 hc hm hr hb

/-- THE TWO ROWS: what the two makes and copies leave, ahead of the walk -/
theorem two_rows (x : Addr) (n c : Nat) (zs : List Int) (w : World) (hc : n ≤ zs.length)
    (hcell : ∀ i, i < zs.length → w.cell? (x.add i) = some (.int .u8 (zs.getD i 0))) (hwf : ∀ n ∈ zs, (Lit.int .u8 n).wf = true) (Z : List Value) (hZ : Z.length = n) (Z2 : List Value) (hZ2 : Z2.length = n) :
    ∃ w2 w4, (Builtin.copy_ #[22, 22] 3 #[.slice (some ⟨w.heap.size, 0, none⟩) n n, .slice (some x) n c]).run Try.prog (w.alloc (.cells Z.toArray 5)) = .ok (.int .i64 n) w2 ∧
      RowAt w2 w.heap.size 0 n (byt zs) ∧
      (Builtin.copy_ #[22, 22] 3 #[.slice (some ⟨w2.heap.size, 1, none⟩) n n, .slice (some ⟨w.heap.size, 0, none⟩) n n]).run Try.prog (w2.alloc (.cells (.int .u8 45 :: Z2).toArray 5)) = .ok (.int .i64 n) w4 ∧
      RowAt w4 w.heap.size 0 n (byt zs) ∧ RowAt w4 w2.heap.size 0 (n + 1) (byt (45 :: zs)) ∧ Below w.heap.size w w4 := by
  obtain ⟨w2, hcp, hg2, hb2⟩ := copy_into (w.alloc (.cells Z.toArray 5)) 3 w.heap.size 0 Z (some ⟨w.heap.size, 0, none⟩) n n (some x) n c zs w.heap.size w
    (heap_new w _) (Nat.le_refl _) hc (fun _ => ⟨rfl, x, rfl, fun j hj => cell_old (hcell j (by omega))⟩) (by rw [hZ]; omega) ((Below.refl _ _).alloc (Nat.le_refl _) _) (Nat.le_refl _)
  rw [splice_all _ _ (by rw [hZ, cells8_length hc])] at hg2
  have HR : RowAt w2 w.heap.size 0 n (byt zs) := rowAt_of hg2 (fun j hj => cells8_get hc hj) hwf
  have hlt : w.heap.size < w2.heap.size := (Array.getElem?_eq_some_iff.1 hg2).1
  obtain ⟨w4, hcp4, hg4, hb4⟩ := copy_into (w2.alloc (.cells (.int .u8 45 :: Z2).toArray 5)) 3 w2.heap.size 1 (.int .u8 45 :: Z2) (some ⟨w2.heap.size, 1, none⟩) n n (some ⟨w.heap.size, 0, none⟩) n n zs w2.heap.size w2
    (heap_new w2 _) (Nat.le_refl _) hc (fun _ => ⟨rfl, _, rfl, fun j hj => cell_old (by have := (HR j hj).1; rw [WideShapes.add_plain]; exact this)⟩) (by simp [hZ2]; omega) ((Below.refl _ _).alloc (Nat.le_refl _) _) (Nat.le_refl _)
  have e4 : splice (.int .u8 45 :: Z2) 1 (cellsOf8 zs n) = cellsOf8 (45 :: zs) (n + 1) := by
    have hl := cells8_length hc
    unfold splice
    rw [hl, List.take_succ_cons, List.take_zero, List.drop_of_length_le (by simp [hZ2]; omega), List.append_nil]
    rfl
  rw [e4] at hg4
  refine ⟨w2, w4, hcp, HR, hcp4, fun j hj => ⟨?_, (HR j hj).2⟩, rowAt_of hg4 (fun j hj => cells8_get (by simp; omega) hj) ?_, hb2.trans (hb4.mono (by omega))⟩
  · rw [hb4.cell (p := ⟨w.heap.size, 0 + j, none⟩) hlt]; exact (HR j hj).1
  · intro m hm
    rcases List.mem_cons.1 hm with rfl | h
    · decide
    · exact hwf m h

set_option maxHeartbeats 400000 in
theorem minus_row (x : Addr) (n c : Nat) (zs : List Int) (w : World) (h1 : 1 ≤ n) (hn : n ≤ 65536) (hc : n ≤ zs.length)
    (hcell : ∀ i, i < zs.length → w.cell? (x.add i) = some (.int .u8 (zs.getD i 0))) (hwf : ∀ n ∈ zs, (Lit.int .u8 n).wf = true) :
    Calls Try.prog 4 #[.slice (some x) n c] w fun e w' => e = .returned (.bool true) ∧ Below w.heap.size w w' := by
  have q22 := fun (w : World) (a : Option Addr) (n c n' c' : Nat) => run_neq_slice_nil_any (P := Try.prog) w 22 5 a n c n' c' Try.underlying22
  obtain ⟨Z, hZ, hmk0⟩ := make_row n (by omega)
  obtain ⟨v0, Z2, hZ2, hv0, hmk20⟩ := make_row1 n (by omega)
  obtain ⟨w2, w4, hcp, HR0, hcp4, HR40, HR50, HB0⟩ := two_rows x n c zs w hc hcell hwf Z hZ Z2 hZ2
  have hmk := hmk0 w
  have hmk2 := hmk20 w2
  have HR : Hid (RowAt w2 w.heap.size 0 n (byt zs)) := HR0
  have HR4 : Hid (RowAt w4 w.heap.size 0 n (byt zs)) := HR40
  have HR5 : Hid (RowAt w4 w2.heap.size 0 (n + 1) (byt (45 :: zs))) := HR50
  have HB : Hid (Below w.heap.size w w4) := HB0
  have g0 : w4.cell? ⟨w.heap.size, 0, none⟩ = some (.int .u8 (byt zs 0)) := (HR40 0 (by omega)).1
  obtain ⟨v1, b1, p1⟩ := PL_ex (byt zs) n
  obtain ⟨v2, b2, p2⟩ := PL_ex (byt (45 :: zs)) (n + 1)
  have hml : n ≤ maxLen := by unfold maxLen; omega
  have hml2 : n + 1 ≤ maxLen := by unfold maxLen; omega
  have t1 : decide ((65536 : Int) < (n : Int)) = false := decide_eq_false (by omega)
  have t2 : decide (0 < n) = true := decide_eq_true (by omega)
  clear hmk0 hmk20 HR0 HR40 HR50 HB0 hcell hwf hZ hZ2 hc
  by_cases hz : byt zs 0 = 45
  · have tz : (byt zs 0 == 45) = true := beq_iff_eq.2 hz
    obtain ⟨rfl, rfl, hd, hf, hle⟩ := minus_neg (n := n) (h0 := show byt (45 :: zs) 0 = 45 from rfl) (h := fun j => by rw [Nat.add_comm]; rfl) (by omega) hz p1 p2
    clear hz
    cases b1
    · obtain rfl : v1 = 0 := hf rfl
      have HD : Dec (fun j => byt zs (1 + j)) (n - 1) false := hd
      clear hd hf hle
      by_cases hn1 : n ≤ 1
      · go_enter Try.func4, Try.ntmps4
        go_wp2_with fail
        refine (minusBytes_any _ _ _ (by omega) _).mono ?_
        rintro e w' ⟨rfl, rfl⟩
        go_wp2_with fail
        refine (zzParse_all _ 0 n n (byt zs) 0 false _ (Nat.le_refl _) hml HR p1).mono ?_
        rintro e w' ⟨rfl, rfl⟩
        go_wp2_with fail
        refine (zzParse_all _ 0 (n + 1) (n + 1) (byt (45 :: zs)) 0 false _ (Nat.le_refl _) hml2 HR5 p2).mono ?_
        rintro e w' ⟨rfl, rfl⟩
        go_wp2_with fail
        refine (dec_none _ _ _).mono ?_
        rintro e w' ⟨rfl, rfl⟩
        go_wp2_with fail
        go_ret
        exact ⟨rfl, HB.out⟩
      · have HR6 : Hid (RowAt w4 w.heap.size 1 (n - 1) (fun j => byt zs (1 + j))) := fun j hj => by have := HR4.out (1 + j) (by omega); rwa [Nat.zero_add] at this
        have hml3 : n - 1 ≤ maxLen := by unfold maxLen; omega
        go_enter Try.func4, Try.ntmps4
        go_wp2_with fail
        refine (minusBytes_any _ _ _ (by omega) _).mono ?_
        rintro e w' ⟨rfl, rfl⟩
        go_wp2_with fail
        refine (zzParse_all _ 0 n n (byt zs) 0 false _ (Nat.le_refl _) hml HR p1).mono ?_
        rintro e w' ⟨rfl, rfl⟩
        go_wp2_with fail
        refine (zzParse_all _ 0 (n + 1) (n + 1) (byt (45 :: zs)) 0 false _ (Nat.le_refl _) hml2 HR5 p2).mono ?_
        rintro e w' ⟨rfl, rfl⟩
        go_wp2_with fail
        refine (dec_is _ 1 (n - 1) (n - 1) (fun j => byt zs (1 + j)) false _ (by omega) (Nat.le_refl _) hml3 HR6 HD).mono ?_
        rintro e w' ⟨rfl, rfl⟩
        go_wp2_with fail
        go_ret
        exact ⟨rfl, HB.out⟩
    · have HD : Dec (fun j => byt zs (1 + j)) (n - 1) true := hd
      have hn2 : 2 ≤ n := by have := hd.1 rfl; omega
      have tle : decide (v1 ≤ 0) = true := decide_eq_true hle
      clear hd hf
      have HR6 : Hid (RowAt w4 w.heap.size 1 (n - 1) (fun j => byt zs (1 + j))) := fun j hj => by have := HR4.out (1 + j) (by omega); rwa [Nat.zero_add] at this
      have hml3 : n - 1 ≤ maxLen := by unfold maxLen; omega
      go_enter Try.func4, Try.ntmps4
      go_wp2_with fail
      refine (minusBytes_any _ _ _ (by omega) _).mono ?_
      rintro e w' ⟨rfl, rfl⟩
      go_wp2_with fail
      refine (zzParse_all _ 0 n n (byt zs) v1 true _ (Nat.le_refl _) hml HR p1).mono ?_
      rintro e w' ⟨rfl, rfl⟩
      go_wp2_with fail
      refine (zzParse_all _ 0 (n + 1) (n + 1) (byt (45 :: zs)) 0 false _ (Nat.le_refl _) hml2 HR5 p2).mono ?_
      rintro e w' ⟨rfl, rfl⟩
      go_wp2_with fail
      refine (dec_is _ 1 (n - 1) (n - 1) (fun j => byt zs (1 + j)) true _ (by omega) (Nat.le_refl _) hml3 HR6 HD).mono ?_
      rintro e w' ⟨rfl, rfl⟩
      go_wp2_with fail
      go_ret
      exact ⟨rfl, HB.out⟩
  · have tz : (byt zs 0 == 45) = false := beq_eq_false_iff_ne.2 hz
    obtain ⟨hd, rfl, rfl, hf, ht⟩ := minus_pos (n := n) (h0 := show byt (45 :: zs) 0 = 45 from rfl) (h := fun j => by rw [Nat.add_comm]; rfl) (fun h => hz h.2) p1 p2
    clear hz
    cases b2
    · obtain rfl : v1 = 0 := hf rfl
      have HD : Dec (byt zs) n false := hd
      rw [Int.neg_zero] at p2
      clear hd hf ht
      go_enter Try.func4, Try.ntmps4
      go_wp2_with fail
      refine (minusBytes_any _ _ _ (by omega) _).mono ?_
      rintro e w' ⟨rfl, rfl⟩
      go_wp2_with fail
      refine (zzParse_all _ 0 n n (byt zs) 0 false _ (Nat.le_refl _) hml HR p1).mono ?_
      rintro e w' ⟨rfl, rfl⟩
      go_wp2_with fail
      refine (zzParse_all _ 0 (n + 1) (n + 1) (byt (45 :: zs)) 0 false _ (Nat.le_refl _) hml2 HR5 p2).mono ?_
      rintro e w' ⟨rfl, rfl⟩
      go_wp2_with fail
      refine (dec_is _ 0 n n (byt zs) false _ (by omega) (Nat.le_refl _) hml HR4 HD).mono ?_
      rintro e w' ⟨rfl, rfl⟩
      go_wp2_with fail
      go_ret
      exact ⟨rfl, HB.out⟩
    · have HD : Dec (byt zs) n true := hd
      obtain ⟨_, h18, hv0, hv1, hl0, hl1, hmod⟩ := ht rfl
      have hp := p10_le h18
      rw [p10_18] at hp
      have g1 : w4.cell? ⟨w.heap.size, n - 1, none⟩ = some (.int .u8 (byt zs (n - 1))) := by have := (HR4.out (n - 1) (by omega)).1; rwa [Nat.zero_add] at this
      have tm : (v1 % 10 == byt zs (n - 1) - 48) = true := beq_iff_eq.2 hmod
      have tl : decide (v1 < p10 n) = true := decide_eq_true hv1
      have tg : decide (0 ≤ v1) = true := decide_eq_true hv0
      clear hd hf ht hmod
      go_enter Try.func4, Try.ntmps4
      go_wp2_with fail
      refine (minusBytes_any _ _ _ (by omega) _).mono ?_
      rintro e w' ⟨rfl, rfl⟩
      go_wp2_with fail
      refine (zzParse_all _ 0 n n (byt zs) v1 true _ (Nat.le_refl _) hml HR p1).mono ?_
      rintro e w' ⟨rfl, rfl⟩
      go_wp2_with fail
      refine (zzParse_all _ 0 (n + 1) (n + 1) (byt (45 :: zs)) (-v1) true _ (Nat.le_refl _) hml2 HR5 p2).mono ?_
      rintro e w' ⟨rfl, rfl⟩
      go_wp2_with fail
      refine (dec_is _ 0 n n (byt zs) true _ (by omega) (Nat.le_refl _) hml HR4 HD).mono ?_
      rintro e w' ⟨rfl, rfl⟩
      go_wp2_with fail
      refine (pow_any n h18 _).mono ?_
      rintro e w' ⟨rfl, rfl⟩
      go_wp2_with fail
      go_ret
      exact ⟨rfl, HB.out⟩
end Go.Proofs.Qxb6618121a

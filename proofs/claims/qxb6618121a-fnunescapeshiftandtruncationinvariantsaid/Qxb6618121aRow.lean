/-
  SHARED: 'make([]byte, n)', the row behind a copy, the slice that came in.
-/
import Derived.Test.Qxb6618121aParse
import Derived.Laws.CopyOwn
namespace Go.Proofs.Qxb6618121a
open Go.RowKit

theorem info5 : (Try.prog.info? 5).map (fun i => (i.zero, i.size, i.bytes)) = some (some (.int .u8 0), 1, 1) := by kernel_rfl
theorem size5 : (Try.prog.info? 5).map (fun i => i.size) = some 1 := by kernel_rfl

/-- 'make([]byte, n)': a new row of n cells. -/
theorem make_row (n : Nat) (hn : n ≤ 1048576) : ∃ Z : List Value, Z.length = n ∧ ∀ w : World,
    (Instr.makeSlice 22 (.int .i64 (n : Int)) (.int .i64 (n : Int))).run Try.prog w = .ok (.slice (some ⟨w.heap.size, 0, none⟩) n n) (w.alloc (.cells Z.toArray 5)) := by
  obtain ⟨i, hi, hz0, hz1, hz2⟩ := info_parts info5
  refine ⟨(madeCells (Value.int .u8 0).cells (n * 1)).toList, by simp [size_madeCells], fun w => ?_⟩
  have h := run_make (P := Try.prog) w 22 5 i (.int .u8 0) Try.underlying22 hi hz0 .i64 .i64 (n : Int) (n : Int) (by omega) (by omega) (by rw [hz2]; omega) (by omega)
  rw [hz1] at h
  simpa using h

/-- the cells of a row that is known whole -/
theorem row_cell {w : World} {g : Nat} {L : List Value} {t : TypeId} {fr : Nat × Nat} (h : w.heap[g]? = some (.cells L.toArray t fr)) {j : Nat} {v : Value} (hj : L[j]? = some v) : w.cell? ⟨g, j, none⟩ = some v := by
  simp [World.cell?, h, hj]
theorem splice_all {α : Type} (Z cs : List α) (h : Z.length = cs.length) : splice Z 0 cs = cs := by
  unfold splice; rw [List.take_zero, List.nil_append, Nat.zero_add, List.drop_of_length_le (by omega), List.append_nil]

/-- byte j of the numbers zs -/
def byt (zs : List Int) (j : Nat) : Int := zs.getD j 0
/-- the first n numbers, as cells -/
def cellsOf8 (zs : List Int) (n : Nat) : List Value := (zs.take n).map (Value.int .u8)
theorem cells8_length {zs : List Int} {n : Nat} (h : n ≤ zs.length) : (cellsOf8 zs n).length = n := by unfold cellsOf8; simp; omega
theorem cells8_get {zs : List Int} {n j : Nat} (h : n ≤ zs.length) (hj : j < n) : (cellsOf8 zs n)[j]? = some (.int .u8 (byt zs j)) := by
  unfold cellsOf8 byt
  have : j < zs.length := by omega
  simp [hj, this]
theorem cells8_inv {zs : List Int} {n j : Nat} {v : Value} (h : (cellsOf8 zs n)[j]? = some v) : j < n ∧ j < zs.length ∧ v = .int .u8 (byt zs j) := by
  unfold cellsOf8 at h
  rw [List.getElem?_map, Option.map_eq_some_iff] at h
  obtain ⟨x, hx, rfl⟩ := h
  rw [List.getElem?_take] at hx
  split at hx
  · rename_i hj
    obtain ⟨hl, e⟩ := List.getElem?_eq_some_iff.1 hx
    exact ⟨hj, hl, by unfold byt; simp [hl, e]⟩
  · cases hx
theorem cells8_one (zs : List Int) (n : Nat) : ∀ v ∈ cellsOf8 zs n, v.oneCell' = true := by
  intro v hv
  unfold cellsOf8 at hv
  obtain ⟨x, _, rfl⟩ := List.mem_map.1 hv
  rfl
theorem byt_bd {zs : List Int} (h : ∀ n ∈ zs, (Lit.int .u8 n).wf = true) (j : Nat) : 0 ≤ byt zs j ∧ byt zs j ≤ 255 := by
  unfold byt
  by_cases hj : j < zs.length
  · have h2 := h zs[j] (List.getElem_mem hj)
    rw [List.getD_eq_getElem?_getD, List.getElem?_eq_getElem hj, Option.getD_some]
    simp only [Lit.wf, Bool.and_eq_true, decide_eq_true_eq] at h2
    exact h2
  · rw [List.getD_eq_getElem?_getD, List.getElem?_eq_none (by omega)]; decide
/-- a row whose cells are the first n numbers -/
theorem rowAt_of {w : World} {g : Nat} {L : List Value} {zs : List Int} {n : Nat} (hg : w.heap[g]? = some (.cells L.toArray 5 (0, 0))) (hL : ∀ j, j < n → L[j]? = some (.int .u8 (byt zs j)))
    (h : ∀ n ∈ zs, (Lit.int .u8 n).wf = true) : RowAt w g 0 n (byt zs) := fun j hj => ⟨by rw [Nat.zero_add]; exact row_cell hg (hL j hj), byt_bd h j⟩

/-- 'copy(row[off:], src)' where the whole of src goes over: the row behind it, and nothing that was there before has turned. -/
theorem copy_into (w : World) (ty : TypeId) (g off : Nat) (L : List Value) (dp : Option Addr) (dLen dCap : Nat) (sp : Option Addr) (m sCap : Nat) (zs : List Int) (B : Nat) (w0 : World)
    (hg : w.heap[g]? = some (.cells L.toArray 5 (0, 0))) (hlen : m ≤ dLen) (hz : m ≤ zs.length)
    (hpos : 0 < m → dp = some ⟨g, off, none⟩ ∧ ∃ ad, sp = some ad ∧ ∀ j, j < m → w.cell? (ad.add j) = some (.int .u8 (byt zs j)))
    (hfit : off + m ≤ L.length) (hb : Below B w0 w) (hBg : B ≤ g) :
    ∃ w2, (Builtin.copy_ #[22, 22] ty #[.slice dp dLen dCap, .slice sp m sCap]).run Try.prog w = .ok (goInt m) w2 ∧
      w2.heap[g]? = some (.cells (splice L off (cellsOf8 zs m)).toArray 5 (0, 0)) ∧ Below B w0 w2 := by
  have hl := cells8_length hz
  by_cases h0 : m = 0
  · subst h0
    refine ⟨w, ?_, ?_, hb⟩
    · exact run_copy_none (P := Try.prog) w 22 22 ty 5 dp sp dLen dCap 0 sCap Try.underlying22 size5 (by simp)
    · simpa [splice, cellsOf8] using hg
  · obtain ⟨rfl, ad, rfl, hsrc⟩ := hpos (by omega)
    refine ⟨w.setRow g (splice L off (cellsOf8 zs m)).toArray, ?_, setRow_heap w g _ _ 5 _ hg, below_setRow hb hBg _⟩
    have h := run_copy_row Try.prog w 22 22 ty 5 g off dLen dCap ad m sCap L.toArray 5 (cellsOf8 zs m) Try.underlying22 size5 hg (by rw [hl]; exact (Nat.min_eq_left hlen).symm)
      (fun j v hj => by obtain ⟨h1, _, rfl⟩ := cells8_inv hj; exact hsrc j h1) (by rw [hl]; simpa using hfit) (cells8_one zs m)
    rw [hl] at h
    rw [h]
    simp [splice, hl]
/-- a new block at its own number -/
theorem heap_new (w : World) (o : Obj) : (w.alloc o).heap[w.heap.size]? = some o := by
  show (w.heap.push o)[w.heap.size]? = some o; simp
/-- what was there is there behind a new block -/
theorem cell_old {w : World} {o : Obj} {a : Addr} {v : Value} (h : w.cell? a = some v) : (w.alloc o).cell? a = some v := by
  have hb : a.block < w.heap.size := by
    by_cases hlt : a.block < w.heap.size
    · exact hlt
    · rw [World.cell?] at h
      simp [Array.getElem?_eq_none (Nat.le_of_not_lt hlt)] at h
  rw [((Below.refl w.heap.size w).alloc (Nat.le_refl _) o).cell hb]; exact h
end Go.Proofs.Qxb6618121a

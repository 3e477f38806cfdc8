/-
  The contract of tableOf (22): own work on this program.
-/
import Derived.Test.Qxb6001838aModsClone
namespace Go.Proofs.Qxb6001838aMods
open Go.RowKit

/-- A column's cells: her name, all else zero. -/
def colCells (s : ByteArray) : Array Value :=
  #[.string s, .int .i64 0, .string ⟨#[]⟩, .int .i64 0, .int .i64 0, .int .i64 0, .bool false, .bool false, .int .i64 0, .string ⟨#[]⟩, .string ⟨#[]⟩, .int .i64 0, .int .i64 0]

/-- The world w with a row of pointers laid behind it, and behind that one column for each of the first k names. -/
structure TB (w : World) (ss : List ByteArray) (n k : Nat) (wr : World) : Prop where
  below : Below w.heap.size w wr
  size : wr.heap.size = w.heap.size + 1 + k
  row : ∃ C : Array Value, wr.heap[w.heap.size]? = some (.cells C 41 (0, 0)) ∧ C.size = n ∧ (∀ i, i < k → C[i]? = some (.pointer (some ⟨w.heap.size + 1 + i, 0, none⟩)))
  cols : ∀ i, i < k → wr.heap[w.heap.size + 1 + i]? = some (.cells (colCells (ss.getD i ByteArray.empty)) 45 (0, 0))

theorem info41 : (Trym.prog.info? 41).map (fun i => (i.zero, i.size, i.bytes)) = some (some (.pointer none), 1, 8) := by kernel_rfl

def Np (n : Nat) : Array Value := madeCells (Value.pointer none).cells n

theorem make27 (n : Nat) (hn : n ≤ 4097) (w : World) :
    (Instr.makeSlice 27 (.int .i64 n) (.int .i64 n)).run Trym.prog w = .ok (.slice (some ⟨w.heap.size, 0, none⟩) n n) (w.alloc (.cells (Np n) 41)) := by
  obtain ⟨i, hi, hz0, hz1, hz2⟩ := info_parts info41
  have := run_make (P := Trym.prog) w 27 41 i _ Trym.underlying27 hi hz0 .i64 .i64 n n (by omega) (by omega) (by rw [hz2]; omega) (by omega)
  rw [this, hz1, Int.toNat_natCast, Nat.mul_one]
  rfl

/-- The row of pointers at 'row' leads to n columns, the i-th in the block f i, named as the i-th of the names. -/
structure HasCols (w : World) (row : Nat) (ss : List ByteArray) (n : Nat) (f : Nat → Nat) : Prop where
  ptr : ∀ i, i < n → w.cell? ⟨row, i, none⟩ = some (.pointer (some ⟨f i, 0, none⟩))
  col : ∀ i, i < n → ∃ C : Array Value, w.heap[f i]? = some (.cells C 45 (0, 0)) ∧ C[0]? = some (.string (ss.getD i ByteArray.empty))

/-- What tableOf hands back. -/
def TableOut (ss : List ByteArray) (n : Nat) (w : World) (e : Ending) (w' : World) : Prop :=
  ∃ (tb row : Nat) (ca : Option Addr), e = .returned (.tuple #[.pointer (some ⟨tb, 0, none⟩), .slice ca n n]) ∧ Below w.heap.size w w' ∧ w'.cell? ⟨tb, 1, none⟩ = some (.slice ca n n) ∧
    (0 < n → ca = some ⟨row, 0, none⟩) ∧ HasCols w' row ss n (fun i => w.heap.size + 1 + i)

theorem Np_size (n : Nat) : (Np n).size = n := size_madeCells _ _

theorem tb_start (w : World) (ss : List ByteArray) (n : Nat) : TB w ss n 0 (w.alloc (.cells (Np n) 41)) :=
  ⟨(Below.refl _ _).alloc (Nat.le_refl _) _, by simp, ⟨Np n, heap_alloc_new _ _, Np_size n, fun i hi => by omega⟩, fun i hi => by omega⟩

theorem tb_free {w wr : World} {ss : List ByteArray} {n k : Nat} (h : TB w ss n k wr) : wr.frozen? ⟨w.heap.size, k, none⟩ = false := by
  obtain ⟨C, hC, _⟩ := h.row
  simp [World.frozen?, hC]

theorem tb_cell {w wr : World} {ss : List ByteArray} {n k : Nat} (h : TB w ss n k wr) (hk : k < n) : ∃ v, wr.cell? ⟨w.heap.size, k, none⟩ = some v := by
  obtain ⟨C, hC, hs, _⟩ := h.row
  exact ⟨C[k]'(by omega), by simp [World.cell?, hC, show k < C.size by omega]⟩

theorem setCell_heap {w : World} {b i : Nat} {C : Array Value} {t : TypeId} {fz : Nat × Nat} {v : Value} (h : w.heap[b]? = some (.cells C t fz)) :
    (w.setCell ⟨b, i, none⟩ v).heap[b]? = some (.cells (C.setIfInBounds i v) t fz) := by
  simp only [World.setCell, Array.getElem?_modify, h]
  simp

theorem tb_step {w wr : World} {ss : List ByteArray} {n k : Nat} (h : TB w ss n k wr) (hk : k < n) {s : ByteArray} (hs : s = ss.getD k ByteArray.empty) :
    TB w ss n (k + 1) ((wr.setCell ⟨w.heap.size, k, none⟩ (.pointer (some ⟨wr.heap.size, 0, none⟩))).alloc (.cells (colCells s) 45)) := by
  have hsz : (wr.setCell ⟨w.heap.size, k, none⟩ (.pointer (some ⟨wr.heap.size, 0, none⟩))).heap.size = w.heap.size + 1 + k := by rw [← h.size]; simp [World.setCell]
  obtain ⟨C, hC, hCs, hCp⟩ := h.row
  refine ⟨(h.below.setCell (Nat.le_refl _) _).alloc (by omega) _, ?_, ⟨_, (Below.heap_alloc _ _ _ (by omega)).trans (setCell_heap hC), by simpa using hCs, ?_⟩, ?_⟩
  · simp [hsz]; omega
  · intro i hi
    by_cases e : i = k
    · subst e
      rw [Array.getElem?_setIfInBounds_self_of_lt (by omega), h.size]
    · rw [Array.getElem?_setIfInBounds_ne (Ne.symm e)]
      exact hCp i (by omega)
  · intro i hi
    by_cases e : i = k
    · subst e
      rw [← hsz, heap_alloc_new, hs]
    · rw [Below.heap_alloc _ _ _ (by omega), Below.heap_setCell _ _ _ _ (by show w.heap.size + 1 + i ≠ w.heap.size; omega)]
      exact h.cols i (by omega)

theorem tb_end {w wr : World} {ss : List ByteArray} {n : Nat} (h : TB w ss n n wr) (C0 : Array Value) (hC0 : C0[1]? = some (.slice (some ⟨w.heap.size, 0, none⟩) n n)) {e : Ending}
    (he : e = .returned (.tuple #[.pointer (some ⟨wr.heap.size, 0, none⟩), .slice (some ⟨w.heap.size, 0, none⟩) n n])) : TableOut ss n w e (wr.alloc (.cells C0 49)) := by
  have hsz := h.size
  obtain ⟨C, hC, hCs, hCp⟩ := h.row
  refine ⟨_, w.heap.size, _, he, h.below.alloc (by omega) _, ?_, fun _ => rfl, ⟨fun i hi => ?_, fun i hi => ?_⟩⟩
  · rw [World.cell?_alloc_at _ _ _ _ rfl]; exact hC0
  · rw [World.cell?_alloc_past _ _ _ (by omega)]
    simp only [World.cell?, hC]
    exact hCp i hi
  · refine ⟨_, (Below.heap_alloc _ _ _ (by omega)).trans (h.cols i hi), rfl⟩

set_option maxHeartbeats 400000 in
theorem table22 (a : Addr) (n cap : Nat) (ss : List ByteArray) (w : World) (h : IsNames w (some a) ss) (hn : ss.length = n) (hs : n ≤ 4096) :
    Calls Trym.prog 22 #[.slice (some a) n cap] w (TableOut ss n w) := by
  have hmk := make27 n (by omega)
  have hnil := fun w => run_neq_slice_nil_any (P := Trym.prog) w 34 9 (some a) n cap 0 0 Trym.underlying34
  have HN : Hid (ss.length = n) := hn
  clear hn
  go_enter Trym.func22, Trym.ntmps22
  go_wp2
  clear hmk hnil
  go_loopw [5] (fun i wr => ∃ k : Nat, k ≤ n ∧ i = .int .i64 k ∧ TB w ss n k wr) (fun i _ => n - (intOf i).toNat)
  case atStart => exact ⟨0, Nat.zero_le _, rfl, tb_start w ss n⟩
  case round =>
    obtain ⟨k, hk, rfl, htb⟩ := hrel
    by_cases hlt : k < n
    · obtain ⟨b, off, s, ha, hs, hc, _⟩ := h.at k (by rw [HN.out]; exact hlt)
      obtain rfl : a = ⟨b, off, none⟩ := Option.some.inj ha
      have hb := World.block_lt_of_cell? _ _ hc
      have hcw : wr.cell? ⟨b, off + k, none⟩ = some (.string s) := by rw [htb.below.cell hb]; exact hc
      have hbw : b < wr.heap.size := World.block_lt_of_cell? _ _ hcw
      have hB : w.heap.size < wr.heap.size := by have := htb.size; omega
      have hfz := tb_free htb
      obtain ⟨v, hcx⟩ := tb_cell htb hlt
      have HS : Hid (s = ss.getD k ByteArray.empty) := hs
      have HT : Hid (TB w ss n k wr) := htb
      clear hs htb hc ha
      go_wp2
      go_roundw
      case rel => exact ⟨k + 1, by omega, by go_num, tb_step HT.out hlt HS.out⟩
      case measure => simp [intOf]; omega
    · have e : k = n := by omega
      subst e
      have HT : Hid (TB w ss k k wr) := htb
      clear htb
      go_wp2
      go_ret2
      exact tb_end HT.out _ rfl rfl

theorem tableNil22 (w : World) : Calls Trym.prog 22 #[.slice none 0 0] w (TableOut [] 0 w) := by
  have hnil := fun w => run_neq_slice_nil_any (P := Trym.prog) w 34 9 none 0 0 0 0 Trym.underlying34
  go_enter Trym.func22, Trym.ntmps22
  go_wp2
  go_ret2
  exact ⟨w.heap.size, 0, none, rfl, (Below.refl _ _).alloc (Nat.le_refl _) _, by rw [World.cell?_alloc_at _ _ _ _ rfl]; rfl, fun h => by omega, ⟨fun i hi => by omega, fun i hi => by omega⟩⟩

theorem table_any (a : Option Addr) (n : Nat) (ss : List ByteArray) (w : World) (h : IsNames w a ss) (hn : ss.length = n) (hs : n ≤ 4096) :
    Calls Trym.prog 22 #[.slice a n n] w (TableOut ss n w) := by
  cases a with
  | none =>
    have e0 := h.nil rfl
    subst e0
    have e1 : n = 0 := by rw [← hn]; rfl
    subst e1
    exact tableNil22 w
  | some a => exact table22 a n n ss w h hn hs

end Go.Proofs.Qxb6001838aMods

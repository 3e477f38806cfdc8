/-
  The contract of cloneNames (21): own work on this program.
-/
import Derived.Test.Qxb6001838aModsNames
import Derived.WalkSpells
namespace Go.Proofs.Qxb6001838aMods
open Go.RowKit

/-- Strings as cells. -/
def Ss (ss : List ByteArray) : Array Value := (ss.map Value.string).toArray
theorem Ss_at (ss : List ByteArray) (j : Nat) (h : j < ss.length) : (Ss ss)[j]? = some (.string (ss.getD j ByteArray.empty)) := by
  simp [Ss, List.getElem?_eq_getElem h]
theorem Ss_set (ss : List ByteArray) (j : Nat) (s : ByteArray) : (Ss ss).setIfInBounds j (.string s) = Ss (ss.set j s) := by
  simp [Ss, List.map_set]

/-- The first k names, and room for the rest. -/
def Cp (ss : List ByteArray) (k : Nat) : List ByteArray := ss.take k ++ List.replicate (ss.length - k) ByteArray.empty
theorem Cp_len (ss : List ByteArray) (k : Nat) (h : k ≤ ss.length) : (Cp ss k).length = ss.length := by
  simp [Cp]; omega
theorem Cp_end (ss : List ByteArray) : Cp ss ss.length = ss := by simp [Cp]
theorem Cp_step (ss : List ByteArray) (k : Nat) (h : k < ss.length) : (Cp ss k).set k (ss.getD k ByteArray.empty) = Cp ss (k + 1) := by
  apply List.ext_getElem?
  intro i
  unfold Cp
  simp only [List.getElem?_set, List.getElem?_append, List.length_append, List.length_take, List.length_replicate, List.getElem?_take, List.getElem?_replicate]
  by_cases e : k = i
  · subst e
    simp [show min k ss.length = k by omega, show min (k + 1) ss.length = k + 1 by omega, List.getD, List.getElem?_eq_getElem h]
    omega
  · simp only [e, if_false]
    rw [show min k ss.length = k by omega, show min (k + 1) ss.length = k + 1 by omega]
    by_cases h1 : i < k
    · simp [h1, show i < k + 1 by omega]
    · have h2 : ¬ i < k + 1 := by omega
      simp only [h1, h2, if_false]
      by_cases h3 : i < ss.length
      · rw [if_pos (by omega), if_pos (by omega)]
      · rw [if_neg (by omega), if_neg (by omega)]
theorem Cp_at (ss : List ByteArray) (k : Nat) (h : k < ss.length) : ∃ s, (Ss (Cp ss k))[k]? = some (.string s) :=
  ⟨_, Ss_at _ _ (by rw [Cp_len ss k (by omega)]; exact h)⟩

theorem info9 : (Trym.prog.info? 9).map (fun i => (i.zero, i.size, i.bytes)) = some (some (.string ByteArray.empty), 1, 16) := by kernel_rfl

theorem made_strings (n : Nat) : madeCells (Value.string ByteArray.empty).cells n = Ss (List.replicate n ByteArray.empty) := by
  apply Array.ext
  · simp [size_madeCells, Ss]
  · intro i h1 h2
    simp [madeCells, Ss, Value.cells, Nat.mod_one]

theorem make34 (n : Nat) (hn : n ≤ 4096) (w : World) :
    (Instr.makeSlice 34 (.int .i64 n) (.int .i64 n)).run Trym.prog w = .ok (.slice (some ⟨w.heap.size, 0, none⟩) n n) (w.alloc (.cells (Ss (List.replicate n ByteArray.empty)) 9)) := by
  obtain ⟨i, hi, hz0, hz1, hz2⟩ := info_parts info9
  have := run_make (P := Trym.prog) w 34 9 i _ Trym.underlying34 hi hz0 .i64 .i64 n n (by omega) (by omega) (by rw [hz2]; omega) (by omega)
  rw [this, hz1, Int.toNat_natCast, Nat.mul_one, made_strings]

set_option maxHeartbeats 400000 in
theorem clone21 (a : Addr) (n cap : Nat) (ss : List ByteArray) (w : World) (h : IsNames w (some a) ss) (hn : ss.length = n) (hs : n ≤ 4096) :
    Calls Trym.prog 21 #[.slice (some a) n cap] w fun e w' => e = .returned (.slice (some ⟨w.heap.size, 0, none⟩) n n) ∧ w' = w.alloc (.cells (Ss ss) 9) := by
  have hmk := make34 n hs
  have hnil := fun w => Lib.run_eql_slice_nil (P := Trym.prog) w 34 9 (some a) n cap 0 0 Trym.underlying34
  have HN : Hid (ss.length = n) := hn
  clear hn
  go_enter Trym.func21, Trym.ntmps21
  go_wp2
  clear hmk hnil
  go_loopw [4] (fun i wr => ∃ k : Nat, k ≤ n ∧ i = .int .i64 k ∧ wr = w.alloc (.cells (Ss (Cp ss k)) 9)) (fun i _ => n - (intOf i).toNat)
  case atStart => exact ⟨0, Nat.zero_le _, rfl, by rw [← HN.out]; rfl⟩
  case round =>
    obtain ⟨k, hk, rfl, rfl⟩ := hrel
    by_cases hlt : k < n
    · have hkl : k < ss.length := by rw [HN.out]; exact hlt
      obtain ⟨b, off, s, ha, hs, hc, hsz⟩ := h.at k hkl
      obtain rfl : a = ⟨b, off, none⟩ := Option.some.inj ha
      have hb := World.block_lt_of_cell? _ _ hc
      obtain ⟨s0, hs0⟩ := Cp_at ss k hkl
      have HS : Hid (s = ss.getD k ByteArray.empty) := hs
      clear hs ha hkl
      go_wp2
      go_roundw
      case rel => exact ⟨k + 1, by omega, by go_num, by rw [Ss_set, HS.out, Cp_step ss k (by rw [HN.out]; exact hlt)]⟩
      case measure => simp [intOf]; omega
    · have e : k = n := by omega
      go_wp2
      go_ret
      exact ⟨rfl, by rw [← HN.out, Cp_end]⟩

/-- What cloneNames hands back: a slice of the same names, and what was there before stands. -/
def CloneOut (ss : List ByteArray) (n : Nat) (w : World) (e : Ending) (w' : World) : Prop :=
  ∃ ca : Option Addr, e = .returned (.slice ca n n) ∧ Below w.heap.size w w' ∧ IsNames w' ca ss

theorem cloneNil21 (w : World) : Calls Trym.prog 21 #[.slice none 0 0] w fun e w' => e = .returned (.slice none 0 0) ∧ w' = w := by
  have hnil := fun w => Lib.run_eql_slice_nil (P := Trym.prog) w 34 9 none 0 0 0 0 Trym.underlying34
  go_enter Trym.func21, Trym.ntmps21
  go_wp2
  go_ret
  exact ⟨rfl, rfl⟩

theorem names_made {w : World} {ss : List ByteArray} (hl : ss.length ≤ maxLen) (he : ∀ s ∈ ss, s.size ≤ maxLen) : IsNames (w.alloc (.cells (Ss ss) 9)) (some ⟨w.heap.size, 0, none⟩) ss :=
  ⟨hl, he, (fun e => by cases e), fun _ => ⟨w.heap.size, 0, rfl, fun i hi => by rw [World.cell?_alloc_at _ _ _ _ rfl, Nat.zero_add]; exact Ss_at ss i hi⟩⟩

theorem clone_any (a : Option Addr) (n cap : Nat) (ss : List ByteArray) (w : World) (h : IsNames w a ss) (hn : ss.length = n) (hs : n ≤ 4096) (hnil : a = none → cap = 0) :
    Calls Trym.prog 21 #[.slice a n cap] w (CloneOut ss n w) := by
  cases a with
  | none =>
    have e0 := h.nil rfl
    subst e0
    have e1 : n = 0 := by rw [← hn]; rfl
    have e2 := hnil rfl
    subst e1 e2
    refine (cloneNil21 w).mono fun e w' ⟨h1, h2⟩ => ?_
    subst h2
    exact ⟨none, h1, Below.refl _ _, h⟩
  | some a =>
    refine (clone21 a n cap ss w h hn hs).mono fun e w' ⟨h1, h2⟩ => ?_
    subst h2
    exact ⟨_, h1, (Below.refl _ _).alloc (Nat.le_refl _) _, names_made h.len h.each⟩

end Go.Proofs.Qxb6001838aMods

/-
  The contract of (*Table).Column (23): own work on this program.
-/
import Derived.Test.Qxb6001838aModsTable
namespace Go.Proofs.Qxb6001838aMods
open Go.RowKit

/-- The i-th name. -/
def nm (ss : List ByteArray) (i : Nat) : List UInt8 := (ss.getD i ByteArray.empty).toList

/-- Among the first k names none is q. -/
def NotIn (ss : List ByteArray) (q : ByteArray) (k : Nat) : Prop := ∀ i, i < k → nm ss i ≠ q.toList
theorem NotIn.zero (ss : List ByteArray) (q : ByteArray) : NotIn ss q 0 := fun i hi => by omega
theorem NotIn.succ {ss : List ByteArray} {q : ByteArray} {k : Nat} (h : NotIn ss q k) {s : ByteArray} (hs : s = ss.getD k ByteArray.empty) (h1 : s.toList ≠ q.toList) : NotIn ss q (k + 1) := by
  intro i hi
  by_cases e : i = k
  · subst e; unfold nm; rw [← hs]; exact h1
  · exact h i (by omega)
/-- The first place of q among the first n names, or none. -/
theorem first_or (ss : List ByteArray) (q : ByteArray) : ∀ n, NotIn ss q n ∨ ∃ p, p < n ∧ nm ss p = q.toList ∧ NotIn ss q p
  | 0 => .inl (NotIn.zero ss q)
  | n + 1 => by
    rcases first_or ss q n with h | ⟨p, hp, h1, h2⟩
    · by_cases e : nm ss n = q.toList
      · exact .inr ⟨n, by omega, e, h⟩
      · exact .inl (h.succ rfl e)
    · exact .inr ⟨p, by omega, h1, h2⟩

theorem HasCols.at {w : World} {row : Nat} {ss : List ByteArray} {n : Nat} {f : Nat → Nat} (h : HasCols w row ss n f) (k : Nat) (hk : k < n) :
    ∃ s, s = ss.getD k ByteArray.empty ∧ w.cell? ⟨row, k, none⟩ = some (.pointer (some ⟨f k, 0, none⟩)) ∧ w.cell? ⟨f k, 0, none⟩ = some (.string s) := by
  obtain ⟨C, hC, h0⟩ := h.col k hk
  exact ⟨_, rfl, h.ptr k hk, by simp only [World.cell?, hC]; exact h0⟩

set_option maxHeartbeats 400000 in
theorem column_none (tb row n : Nat) (ca : Option Addr) (ss : List ByteArray) (f : Nat → Nat) (q : ByteArray) (w : World) (ht : w.cell? ⟨tb, 1, none⟩ = some (.slice ca n n)) (hca : 0 < n → ca = some ⟨row, 0, none⟩)
    (h : HasCols w row ss n f) (hn : n ≤ 4097) (hq : NotIn ss q n) :
    Calls Trym.prog 23 #[.pointer (some ⟨tb, 0, none⟩), .string q] w fun e w' => e = .returned (.pointer none) ∧ w' = w := by
  go_enter Trym.func23, Trym.ntmps23
  go_wp2
  go_loop [12] (fun i => ∃ k : Nat, k ≤ n ∧ i = .int .i64 k) (fun i => n - (intOf i).toNat)
  case atStart => exact ⟨0, Nat.zero_le _, rfl⟩
  case round =>
    obtain ⟨k, hk, rfl⟩ := hrel
    by_cases hlt : k < n
    · obtain ⟨s, hs, hp, hc⟩ := h.at k hlt
      have hne : (s.toList == q.toList) = false := by have := hq k hlt; unfold nm at this; rw [← hs] at this; simpa using this
      obtain rfl := hca (by omega)
      clear hs
      go_wp2
      go_round
      case rel => exact ⟨k + 1, by omega, by go_num⟩
      case measure => simp [intOf]; omega
    · go_wp2
      go_ret
      exact ⟨rfl, rfl⟩

set_option maxHeartbeats 400000 in
theorem column_some (tb row n : Nat) (ca : Option Addr) (ss : List ByteArray) (f : Nat → Nat) (q : ByteArray) (p : Nat) (w : World) (ht : w.cell? ⟨tb, 1, none⟩ = some (.slice ca n n)) (hca : 0 < n → ca = some ⟨row, 0, none⟩)
    (h : HasCols w row ss n f) (hn : n ≤ 4097) (hp : p < n) (hpq : nm ss p = q.toList) (hq : NotIn ss q p) :
    Calls Trym.prog 23 #[.pointer (some ⟨tb, 0, none⟩), .string q] w fun e w' => e = .returned (.pointer (some ⟨f p, 0, none⟩)) ∧ w' = w := by
  have HPQ : Hid (nm ss p = q.toList) := hpq
  clear hpq
  go_enter Trym.func23, Trym.ntmps23
  go_wp2
  go_loop [12] (fun i => ∃ k : Nat, k ≤ p ∧ i = .int .i64 k) (fun i => n - (intOf i).toNat)
  case atStart => exact ⟨0, Nat.zero_le _, rfl⟩
  case round =>
    obtain ⟨k, hk, rfl⟩ := hrel
    obtain ⟨s, hs, hpt, hc⟩ := h.at k (by omega)
    obtain rfl := hca (by omega)
    by_cases e : k = p
    · subst e
      have heq : (s.toList == q.toList) = true := by have := HPQ.out; unfold nm at this; rw [← hs] at this; simpa using this
      clear hs
      go_wp2
      go_ret
      exact ⟨rfl, rfl⟩
    · have hne : (s.toList == q.toList) = false := by have := hq k (by omega); unfold nm at this; rw [← hs] at this; simpa using this
      clear hs
      go_wp2
      go_round
      case rel => exact ⟨k + 1, by omega, by go_num⟩
      case measure => simp [intOf]; omega

end Go.Proofs.Qxb6001838aMods

/-
  A slice of strings that came in, read: the contracts of zzBytes_FnTableColumnFindsFirstOfEachName (19) and namesBytes (20): own work on this program.
-/
import Derived.Test.Qxb6001838aModsRows
import Derived.WalkKit
import Derived.ProofKit
namespace Go.Proofs.Qxb6001838aMods
open Go.RowKit

/-- What a walk is told of a slice of strings that came in, by its address: nil: no element; else the elements lie there, one a cell. -/
structure IsNames (w : World) (a : Option Addr) (ss : List ByteArray) : Prop where
  len : ss.length ≤ maxLen
  each : ∀ s ∈ ss, s.size ≤ maxLen
  nil : a = none → ss = []
  cells : 0 < ss.length → ∃ b off, a = some ⟨b, off, none⟩ ∧ ∀ i, i < ss.length → w.cell? ⟨b, off + i, none⟩ = some (.string (ss.getD i ByteArray.empty))

theorem getD_mem (ss : List ByteArray) (k : Nat) (h : k < ss.length) : ss.getD k ByteArray.empty ∈ ss := by
  rw [List.getD, List.getElem?_eq_getElem h]
  exact List.getElem_mem h

theorem IsNames.size {w : World} {a : Option Addr} {ss : List ByteArray} (h : IsNames w a ss) (k : Nat) (hk : k < ss.length) : (ss.getD k ByteArray.empty).size ≤ maxLen := h.each _ (getD_mem ss k hk)

theorem IsNames.at {w : World} {a : Option Addr} {ss : List ByteArray} (h : IsNames w a ss) (k : Nat) (hk : k < ss.length) :
    ∃ b off s, a = some ⟨b, off, none⟩ ∧ s = ss.getD k ByteArray.empty ∧ w.cell? ⟨b, off + k, none⟩ = some (.string s) ∧ s.size ≤ maxLen := by
  obtain ⟨b, off, rfl, hc⟩ := h.cells (by omega)
  exact ⟨b, off, _, rfl, rfl, hc k hk, h.size k hk⟩

def Small (ss : List ByteArray) (k : Nat) : Prop := ∀ i, i < k → (ss.getD i ByteArray.empty).size ≤ 1048576
theorem Small.zero (ss : List ByteArray) : Small ss 0 := fun i hi => by omega
theorem Small.succ {ss : List ByteArray} {k : Nat} (h : Small ss k) {s : ByteArray} (hs : s = ss.getD k ByteArray.empty) (h1 : s.size ≤ 1048576) : Small ss (k + 1) := by
  intro i hi
  by_cases e : i = k
  · subst e; rw [← hs]; exact h1
  · exact h i (by omega)

/-- A guard's answer: a bool, and the world as it was; where it says yes, P holds. -/
def Guard (P : Prop) (w : World) (e : Ending) (w' : World) : Prop := ∃ b : Bool, e = .returned (.bool b) ∧ w' = w ∧ (b = true → P)
theorem Guard.no {P : Prop} {w : World} {e : Ending} (h : e = .returned (.bool false)) : Guard P w e w := ⟨false, h, rfl, fun e => by cases e⟩
theorem Guard.yes {P : Prop} {w : World} {e : Ending} (h : e = .returned (.bool true)) (hp : P) : Guard P w e w := ⟨true, h, rfl, fun _ => hp⟩

set_option maxHeartbeats 400000 in
theorem bytes19 (a : Option Addr) (n cap : Nat) (ss : List ByteArray) (w : World) (h : IsNames w a ss) (hn : ss.length = n) :
    Calls Trym.prog 19 #[.slice a n cap] w (Guard (Small ss n) w) := by
  have hlen := h.len
  unfold maxLen at hlen
  rw [hn] at hlen
  have HN : Hid (ss.length = n) := hn
  clear hn
  by_cases hz : (n : Int) ≤ 1048576
  · go_enter Trym.func19, Trym.ntmps19
    go_wp2
    go_loop [3, 4] (fun t i => ∃ (k : Nat) (z : Int), k ≤ n ∧ i = .int .i64 k ∧ t = .int .i64 z ∧ 0 ≤ z ∧ z ≤ 1048576 ∧ Small ss k) (fun _ i => n - (intOf i).toNat)
    case atStart => exact ⟨0, n, Nat.zero_le _, rfl, rfl, by omega, by omega, Small.zero _⟩
    case round =>
      obtain ⟨k, z, hk, rfl, rfl, hz0, hz1, hsm⟩ := hrel
      have HM : Hid (Small ss k) := hsm
      clear hsm
      by_cases hlt : k < n
      · obtain ⟨b, off, s, rfl, hs, hc, hsz⟩ := h.at k (by rw [HN.out]; exact hlt)
        have HS : Hid (s = ss.getD k ByteArray.empty) := hs
        clear hs
        unfold maxLen at hsz
        by_cases h1 : (1048576 : Int) < (s.size : Int)
        · go_wp2
          go_ret
          exact Guard.no rfl
        · by_cases h2 : (1048576 : Int) < z + (s.size : Int)
          · go_wp2
            go_ret
            exact Guard.no rfl
          · go_wp2
            go_round
            case rel => exact ⟨k + 1, _, by omega, by go_num, rfl, by omega, by omega, HM.out.succ HS.out (by omega)⟩
            case measure => simp [intOf]; omega
      · have e : k = n := by omega
        subst e
        go_wp2
        go_ret
        exact Guard.yes rfl HM.out
  · go_enter Trym.func19, Trym.ntmps19
    go_wp2
    go_ret
    exact Guard.no rfl

/-- namesBytes' answer: a number from 0 to 1<<20 + 1, and the world as it was; where it is at most 1<<20 there are at most 4096 names. -/
def Weighs (n : Nat) (w : World) (e : Ending) (w' : World) : Prop := ∃ r : Int, e = .returned (.int .i64 r) ∧ w' = w ∧ 0 ≤ r ∧ r ≤ 1048577 ∧ (r ≤ 1048576 → n ≤ 4096)
theorem Weighs.mk {n : Nat} {w : World} {e : Ending} {r : Int} (h : e = .returned (.int .i64 r)) (h0 : 0 ≤ r) (h1 : r ≤ 1048577) (hp : r ≤ 1048576 → n ≤ 4096) : Weighs n w e w := ⟨r, h, rfl, h0, h1, hp⟩

set_option maxHeartbeats 400000 in
theorem weigh20 (a : Option Addr) (n cap : Nat) (ss : List ByteArray) (w : World) (h : IsNames w a ss) (hn : ss.length = n) (hs0 : Small ss n) :
    Calls Trym.prog 20 #[.slice a n cap] w (Weighs n w) := by
  have hlen := h.len
  unfold maxLen at hlen
  rw [hn] at hlen
  have HN : Hid (ss.length = n) := hn
  have HS0 : Hid (Small ss n) := hs0
  clear hn hs0
  by_cases hz : (n : Int) ≤ 4096
  · go_enter Trym.func20, Trym.ntmps20
    go_wp2
    go_loop [3, 4] (fun t i => ∃ (k : Nat) (z : Int), k ≤ n ∧ i = .int .i64 k ∧ t = .int .i64 z ∧ 0 ≤ z ∧ z ≤ 1048576) (fun _ i => n - (intOf i).toNat)
    case atStart => exact ⟨0, _, Nat.zero_le _, rfl, rfl, by omega, by omega⟩
    case round =>
      obtain ⟨k, z, hk, rfl, rfl, hz0, hz1⟩ := hrel
      by_cases hlt : k < n
      · obtain ⟨b, off, s, rfl, hs, hc, _⟩ := h.at k (by rw [HN.out]; exact hlt)
        have hsz : (s.size : Int) ≤ 1048576 := by have := HS0.out k hlt; rw [← hs] at this; omega
        clear hs
        by_cases h2 : (1048576 : Int) < z + (s.size : Int)
        · go_wp2
          go_ret
          exact Weighs.mk rfl (by omega) (by omega) (by omega)
        · go_wp2
          go_round
          case rel => exact ⟨k + 1, _, by omega, by go_num, rfl, by omega, by omega⟩
          case measure => simp [intOf]; omega
      · have e : k = n := by omega
        subst e
        go_wp2
        go_ret
        exact Weighs.mk rfl (by omega) (by omega) (by omega)
  · go_enter Trym.func20, Trym.ntmps20
    go_wp2
    go_ret
    exact Weighs.mk rfl (by omega) (by omega) (by omega)

end Go.Proofs.Qxb6001838aMods

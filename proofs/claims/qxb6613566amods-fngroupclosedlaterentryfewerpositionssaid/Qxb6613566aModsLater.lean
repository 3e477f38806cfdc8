/-
  The walk of zzlaws_internal_journal_b1.FnGroupClosedLaterEntryFewerPositions (4): own work on this program.
-/
import Derived.Test.Qxb6613566aModsGroup
namespace Go.Proofs.Qxb6613566aMods
open Go.RowKit

theorem later_zero1 (f1 f2 c1 c2 p : Int) (w : World) (hc : (c1 == 0) = true) : Calls Trym.prog 4 #[.int .u64 f1, .int .u64 f2, .int .u64 c1, .int .u64 c2, .int .u64 p] w fun e w' => e = .returned (.bool true) ∧ Grown w w' := by
  go_enter Trym.func4, Trym.ntmps4
  go_wp2
  go_ret
  exact ⟨rfl, Grown.refl _⟩

theorem later_zero2 (f1 f2 c1 c2 p : Int) (w : World) (hc : (c1 == 0) = false) (hd : (c2 == 0) = true) : Calls Trym.prog 4 #[.int .u64 f1, .int .u64 f2, .int .u64 c1, .int .u64 c2, .int .u64 p] w fun e w' => e = .returned (.bool true) ∧ Grown w w' := by
  go_enter Trym.func4, Trym.ntmps4
  go_wp2
  go_ret
  exact ⟨rfl, Grown.refl _⟩

set_option maxHeartbeats 2000000 in
theorem later_some (f1 f2 c1 c2 p : Int) (w : World) (z1 : c1 ≠ 0) (z2 : c2 ≠ 0) :
    Calls Trym.prog 4 #[.int .u64 f1, .int .u64 f2, .int .u64 c1, .int .u64 c2, .int .u64 p] w fun e w' => e = .returned (.bool true) ∧ Grown w w' := by
  have hc : (c1 == 0) = false := by simpa using z1
  have hd : (c2 == 0) = false := by simpa using z2
  by_cases hs : c2 < c1
  · -- they change places: the earlier entry is c2
    have k1 : cl c2 c1 = true := cl_yes z2 (by omega)
    have k2 : cl c1 c2 = false := cl_no (.inr hs)
    have k3 : (c2 == c1) = false := by simp; omega
    by_cases hp : c1 ≤ p
    · have h1 : cl c1 p = true := cl_yes z1 hp
      have h2 : cl c2 p = true := cl_yes z2 (by omega)
      clear z1 z2
      go_enter Trym.func4, Trym.ntmps4
      go_wp2_with (first | (go_at_call 9; refine (new9 _ _ _).mono ?_; rintro e w' ⟨rfl, rfl⟩) | (go_at_call 10; refine (closed10 _ _ _ _).mono ?_; rintro e w' ⟨rfl, rfl⟩))
      go_ret
      exact ⟨rfl, by repeat (first | exact Grown.refl _ | apply Grown.alloc)⟩
    · have h1 : cl c1 p = false := cl_no (.inr (by omega))
      clear z1 z2
      go_enter Trym.func4, Trym.ntmps4
      go_wp2_with (first | (go_at_call 9; refine (new9 _ _ _).mono ?_; rintro e w' ⟨rfl, rfl⟩) | (go_at_call 10; refine (closed10 _ _ _ _).mono ?_; rintro e w' ⟨rfl, rfl⟩))
      go_ret
      exact ⟨rfl, by repeat (first | exact Grown.refl _ | apply Grown.alloc)⟩
  · have k1 : cl c1 c2 = true := cl_yes z1 (by omega)
    have hpp : (cl c2 p = true ∧ cl c1 p = true) ∨ cl c2 p = false := by
      by_cases hp : c2 ≤ p
      · exact .inl ⟨cl_yes z2 hp, cl_yes z1 (by omega)⟩
      · exact .inr (cl_no (.inr (by omega)))
    have hee : (cl c2 c1 = true ∧ (c1 == c2) = true) ∨ (cl c2 c1 = false ∧ (c1 == c2) = false) := by
      by_cases e : c1 = c2
      · exact .inl ⟨cl_yes z2 (by omega), by simpa using e⟩
      · exact .inr ⟨cl_no (.inr (by omega)), by simpa using e⟩
    clear z1 z2
    rcases hpp with ⟨h1, h2⟩ | h1
    all_goals
      rcases hee with ⟨k2, k3⟩ | ⟨k2, k3⟩
      all_goals
        go_enter Trym.func4, Trym.ntmps4
        go_wp2_with (first | (go_at_call 9; refine (new9 _ _ _).mono ?_; rintro e w' ⟨rfl, rfl⟩) | (go_at_call 10; refine (closed10 _ _ _ _).mono ?_; rintro e w' ⟨rfl, rfl⟩))
        go_ret
        exact ⟨rfl, by repeat (first | exact Grown.refl _ | apply Grown.alloc)⟩

theorem later_any (f1 f2 c1 c2 p : Int) (w : World) : Calls Trym.prog 4 #[.int .u64 f1, .int .u64 f2, .int .u64 c1, .int .u64 c2, .int .u64 p] w fun e w' => e = .returned (.bool true) ∧ Grown w w' := by
  by_cases z1 : c1 = 0
  · exact later_zero1 f1 f2 c1 c2 p w (by simpa using z1)
  · by_cases z2 : c2 = 0
    · exact later_zero2 f1 f2 c1 c2 p w (by simpa using z1) (by simpa using z2)
    · exact later_some f1 f2 c1 c2 p w z1 z2

end Go.Proofs.Qxb6613566aMods

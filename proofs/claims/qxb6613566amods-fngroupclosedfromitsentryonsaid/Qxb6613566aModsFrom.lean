/-
  The walk of zzlaws_internal_journal_b1.FnGroupClosedFromItsEntryOn (3): own work on this program.
-/
import Derived.Test.Qxb6613566aModsGroup
namespace Go.Proofs.Qxb6613566aMods
open Go.RowKit

set_option maxHeartbeats 1000000 in
theorem from_zero (f c p q : Int) (w : World) (hc : (c == 0) = true) : Calls Trym.prog 3 #[.int .u64 f, .int .u64 c, .int .u64 p, .int .u64 q] w fun e w' => e = .returned (.bool true) ∧ Grown w w' := by
  have e0 : c = 0 := by simpa using hc
  have h1 : cl c p = false := cl_no (.inl e0)
  have h2 : cl c q = false := cl_no (.inl e0)
  have h3 : cl c 18446744073709551615 = false := cl_no (.inl e0)
  clear e0
  by_cases hs : q < p
  all_goals
    go_enter Trym.func3, Trym.ntmps3
    go_wp2_with (first | (go_at_call 9; refine (new9 _ _ _).mono ?_; rintro e w' ⟨rfl, rfl⟩) | (go_at_call 10; refine (closed10 _ _ _ _).mono ?_; rintro e w' ⟨rfl, rfl⟩))
    go_ret
    exact ⟨rfl, by repeat (first | exact Grown.refl _ | apply Grown.alloc)⟩

set_option maxHeartbeats 1000000 in
theorem from_some (f c p q : Int) (w : World) (hc0 : 0 < c) (hc1 : c ≤ 18446744073709551615) : Calls Trym.prog 3 #[.int .u64 f, .int .u64 c, .int .u64 p, .int .u64 q] w fun e w' => e = .returned (.bool true) ∧ Grown w w' := by
  have hc : (c == 0) = false := by simp; omega
  have h3 : cl c c = true := cl_yes (by omega) (by omega)
  have h4 : cl c (c - 1) = false := cl_no (.inr (by omega))
  by_cases hs : q < p
  · by_cases hp : c ≤ q
    · have h1 : cl c q = true := cl_yes (by omega) hp
      have h2 : cl c p = true := cl_yes (by omega) (by omega)
      go_enter Trym.func3, Trym.ntmps3
      go_wp2_with (first | (go_at_call 9; refine (new9 _ _ _).mono ?_; rintro e w' ⟨rfl, rfl⟩) | (go_at_call 10; refine (closed10 _ _ _ _).mono ?_; rintro e w' ⟨rfl, rfl⟩))
      go_ret
      exact ⟨rfl, by repeat (first | exact Grown.refl _ | apply Grown.alloc)⟩
    · have h1 : cl c q = false := cl_no (.inr (by omega))
      go_enter Trym.func3, Trym.ntmps3
      go_wp2_with (first | (go_at_call 9; refine (new9 _ _ _).mono ?_; rintro e w' ⟨rfl, rfl⟩) | (go_at_call 10; refine (closed10 _ _ _ _).mono ?_; rintro e w' ⟨rfl, rfl⟩))
      go_ret
      exact ⟨rfl, by repeat (first | exact Grown.refl _ | apply Grown.alloc)⟩
  · by_cases hp : c ≤ p
    · have h1 : cl c p = true := cl_yes (by omega) hp
      have h2 : cl c q = true := cl_yes (by omega) (by omega)
      go_enter Trym.func3, Trym.ntmps3
      go_wp2_with (first | (go_at_call 9; refine (new9 _ _ _).mono ?_; rintro e w' ⟨rfl, rfl⟩) | (go_at_call 10; refine (closed10 _ _ _ _).mono ?_; rintro e w' ⟨rfl, rfl⟩))
      go_ret
      exact ⟨rfl, by repeat (first | exact Grown.refl _ | apply Grown.alloc)⟩
    · have h1 : cl c p = false := cl_no (.inr (by omega))
      go_enter Trym.func3, Trym.ntmps3
      go_wp2_with (first | (go_at_call 9; refine (new9 _ _ _).mono ?_; rintro e w' ⟨rfl, rfl⟩) | (go_at_call 10; refine (closed10 _ _ _ _).mono ?_; rintro e w' ⟨rfl, rfl⟩))
      go_ret
      exact ⟨rfl, by repeat (first | exact Grown.refl _ | apply Grown.alloc)⟩

theorem from_any (f c p q : Int) (w : World) (h0 : 0 ≤ c) (h1 : c ≤ 18446744073709551615) : Calls Trym.prog 3 #[.int .u64 f, .int .u64 c, .int .u64 p, .int .u64 q] w fun e w' => e = .returned (.bool true) ∧ Grown w w' := by
  by_cases hz : c = 0
  · exact from_zero f c p q w (by simpa using hz)
  · exact from_some f c p q w (by omega) h1

end Go.Proofs.Qxb6613566aMods

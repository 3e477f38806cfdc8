/-
  The contracts of journal.ZZnewGroup (9), (journal.group).closed (35), journal.ZZgroupClosed (10): own work on this program.
-/
import Derived.Test.Qxb6613566aModsRows
import Derived.WalkKit
import Derived.ProofKit
namespace Go.Proofs.Qxb6613566aMods
open Go.RowKit

/-- A group with its entry at c is closed at p. -/
def cl (c p : Int) : Bool := decide (c ≠ 0 ∧ c ≤ p)
theorem cl_yes {c p : Int} (h0 : c ≠ 0) (h : c ≤ p) : cl c p = true := decide_eq_true ⟨h0, h⟩
theorem cl_no {c p : Int} (h : c = 0 ∨ p < c) : cl c p = false := decide_eq_false (by omega)

theorem ret_bool {a b : Bool} (h : b = a) : Ending.returned (.bool a) = .returned (.bool b) := by rw [h]

/-- A group's two cells. -/
def gb (f c : Int) : Obj := .cells #[.int .u64 f, .int .u64 c] 24

theorem closed35 (f c p : Int) (w : World) :
    Calls Trym.prog 35 #[.agg #[.int .u64 f, .int .u64 c], .int .u64 p] w fun e w' => e = .returned (.bool (cl c p)) ∧ w' = w.alloc (gb f c) := by
  by_cases h0 : (c == 0) = true
  · have h1 : (c != 0) = false := by simpa using h0
    have H : Hid (cl c p = false) := cl_no (Or.inl (by simpa using h0))
    go_enter Trym.func35, Trym.ntmps35
    go_wp2
    go_ret
    exact ⟨ret_bool H.out, rfl⟩
  · have h0' : (c == 0) = false := by simpa using h0
    have h1 : (c != 0) = true := by simpa using h0
    by_cases h2 : c ≤ p
    · have H : Hid (cl c p = true) := cl_yes (by simpa using h0) h2
      clear h0
      go_enter Trym.func35, Trym.ntmps35
      go_wp2
      go_ret
      exact ⟨ret_bool H.out, rfl⟩
    · have H : Hid (cl c p = false) := cl_no (Or.inr (by omega))
      clear h0
      go_enter Trym.func35, Trym.ntmps35
      go_wp2
      go_ret
      exact ⟨ret_bool H.out, rfl⟩

theorem closed10 (f c p : Int) (w : World) :
    Calls Trym.prog 10 #[.agg #[.int .u64 f, .int .u64 c], .int .u64 p] w fun e w' => e = .returned (.bool (cl c p)) ∧ w' = (w.alloc (gb f c)).alloc (gb f c) := by
  go_enter Trym.func10, Trym.ntmps10
  go_wp2_with (go_at_call 35; refine (closed35 _ _ _ _).mono ?_; rintro e w' ⟨rfl, rfl⟩)
  go_ret
  exact ⟨rfl, rfl⟩

theorem new9 (f c : Int) (w : World) :
    Calls Trym.prog 9 #[.int .u64 f, .int .u64 c] w fun e w' => e = .returned (.agg #[.int .u64 f, .int .u64 c]) ∧ w' = w.alloc (gb f c) := by
  go_enter Trym.func9, Trym.ntmps9
  go_wp2
  exact bodyPost_ret (v := .agg #[.int .u64 f, .int .u64 c]) (by simp [results, Trym.results9, go_sem]) rfl ⟨rfl, rfl⟩

end Go.Proofs.Qxb6613566aMods

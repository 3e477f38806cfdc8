/-
  The walk of zzlaws_sqldb_b1.FnAllDigitsAcceptsDecimalRefusesSignAndPoint (6): own work on this program.
-/
import Derived.Test.Qxb6001838aModsDecimal
namespace Go.Proofs.Qxb6001838aMods
open Go.RowKit

set_option maxHeartbeats 400000 in
theorem decimal_law (a0 : Int) (b0 : 0 ≤ a0) (b1 : a0 ≤ 18446744073709551615) (w : World) :
    Calls Trym.prog 6 #[.int .u64 a0] w fun e w' => e = .returned (.bool true) ∧ Grown w w' := by
  go_enter Trym.func6, Trym.ntmps6
  go_wp2_with fail
  refine (decimal_any _ b0 (by omega) _).mono ?_
  rintro e w1 ⟨t, rfl, ht, hts, hg1⟩
  have hm := ad_ahead 45 t (by decide)
  have hp := ad_ahead 43 t (by decide)
  have hd := ad_point t
  go_wp2_with fail
  refine (zzAllDigits_any _ _).mono ?_
  rintro e w2 ⟨rfl, hg2⟩
  go_wp2_with fail
  refine (zzAllDigits_any _ _).mono ?_
  rintro e w3 ⟨rfl, hg3⟩
  go_wp2_with fail
  refine (zzAllDigits_any _ _).mono ?_
  rintro e w4 ⟨rfl, hg4⟩
  go_wp2_with fail
  refine (zzAllDigits_any _ _).mono ?_
  rintro e w5 ⟨rfl, hg5⟩
  go_wp2
  go_ret
  exact ⟨rfl, grown_trans (grown_trans (grown_trans (grown_trans hg1 hg2) hg3) hg4) hg5⟩

end Go.Proofs.Qxb6001838aMods

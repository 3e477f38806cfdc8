/-
  The proof of 'Rows.FnAllDigitsMatchesByteModelSaid': the row's step as proof-skeleton.mjs writes it for this function, the walk filled in.
-/
import Derived.Test.Qxb6001838aModsRows
import Derived.WalkKit
import Derived.ProofKit
import Derived.OpenShut
import Derived.ShutString
import Derived.Test.Qxb6001838aModsDigits
namespace Go.Proofs.Qxb6001838aMods.fnAllDigitsMatchesByteModel
open Go.ChangeShapes Go.WideShapes Go.ChangeAt Go.RowKit
open Go.ChangeMaps (open_string shut_string)
set_option linter.unusedVariables false      -- a walk need not use every 'w<i>' (that an integer argument fits its kind)

theorem own : ownKnob Trym.prog.godebug = none := by kernel_rfl

theorem bytes_yes (s : ByteArray) (w : World) (h : (s.size : Int) ≤ 1048576) :
    Calls Trym.prog 15 #[.string s] w fun e w' => e = .returned (.bool true) ∧ w' = w := by
  have h' : ¬ 1048576 < (s.size : Int) := by omega
  go_enter Trym.func15, Trym.ntmps15
  go_wp2
  go_ret
  exact ⟨rfl, rfl⟩
theorem bytes_no (s : ByteArray) (w : World) (h : 1048576 < (s.size : Int)) :
    Calls Trym.prog 15 #[.string s] w fun e w' => e = .returned (.bool false) ∧ w' = w := by
  go_enter Trym.func15, Trym.ntmps15
  go_wp2
  go_ret
  exact ⟨rfl, rfl⟩

/-! ### STEP 1: THE WALK: the Go text returns true. 'Grown w w'': the world has at most new blocks (Derived/RowKit3.lean). Part the cases AHEAD of 'go_enter' where a test parts the walk; take each callee by a contract of your own. -/
theorem walk (a0 : ByteArray) (w0 : a0.size ≤ maxLen) (w : World) :
    Calls Trym.prog 4 #[.string a0] w fun e w' => e = .returned (.bool true) ∧ Grown w w' := by
  unfold maxLen at w0
  by_cases hz : (a0.size : Int) ≤ 1048576
  · have hz' : ¬ 1048576 < (a0.size : Int) := by omega
    go_enter Trym.func4, Trym.ntmps4
    go_wp2_with (first | (go_at_call 15; refine (bytes_yes _ _ hz).mono ?_; rintro e w' ⟨rfl, rfl⟩))
    go_loop [3, 4] (fun t i => ∃ k : Nat, k ≤ a0.size ∧ i = .int .i64 k ∧ t = .bool true ∧ adL (a0.data.toList.take k) = true) (fun _ i => a0.size - (intOf i).toNat)
    case atStart => exact ⟨0, Nat.zero_le _, rfl, rfl, rfl⟩
    case round =>
      obtain ⟨k, hk, rfl, rfl, hc⟩ := hrel
      have HC : Hid (adL (a0.data.toList.take k) = true) := hc
      clear hc
      by_cases hlt : k < a0.size
      · by_cases h1 : ((a0[k]'hlt).toNat : Int) < 48
        · have H := ad_bad a0 k hlt (.inl h1)
          go_wp2_with (go_at_call 16; refine (zzAllDigits_any _ _).mono ?_; rintro e w' ⟨rfl, hg⟩)
          go_ret
          exact ⟨ret_bool (by simp), hg⟩
        · by_cases h2 : 57 < ((a0[k]'hlt).toNat : Int)
          · have H := ad_bad a0 k hlt (.inr h2)
            go_wp2_with (go_at_call 16; refine (zzAllDigits_any _ _).mono ?_; rintro e w' ⟨rfl, hg⟩)
            go_ret
            exact ⟨ret_bool (by simp), hg⟩
          · go_wp2
            go_round
            case rel => exact ⟨k + 1, by omega, by go_num, rfl, adL_step a0 k hlt HC.out (by omega) (by omega)⟩
            case measure => simp [intOf]; omega
      · have H := ad_end a0 k hlt HC.out
        go_wp2_with (go_at_call 16; refine (zzAllDigits_any _ _).mono ?_; rintro e w' ⟨rfl, hg⟩)
        go_ret
        exact ⟨ret_bool (by simp), hg⟩
  · go_enter Trym.func4, Trym.ntmps4
    go_wp2_with (first | (go_at_call 15; refine (bytes_no _ _ (by omega)).mono ?_; rintro e w' ⟨rfl, rfl⟩))
    go_ret
    exact ⟨rfl, Grown.refl _⟩

/-! ### THE ROW's STEP: WRITTEN OUT: LEAVE IT -/
set_option maxRecDepth 100000 in
theorem lifted (os : Os) (started : os.Started) (H : Type) (enc : TypeId × Value → H) :
    ReturnsInHanded {} Trym.checked os 4 .any (Rows.fnAllDigitsMatchesByteModelSpec.pre6 enc Trym.prog Trym.f4 Rows.fnAllDigitsMatchesByteModelRow.domain false) (Rows.fnAllDigitsMatchesByteModelSpec.post enc Trym.prog Trym.f4 false true false false) := by
  refine returnsInHanded_of_change (C := Trym.checked) own started (by kernel_rfl) Trym.func4
    (ChangeSpec.witness6 (enc := enc) (C := Trym.checked) false ⟨#[], #[.string ByteArray.empty], []⟩ 8 (by kernel_rfl) (by kernel_rfl) (by kernel_rfl) (by kernel_rfl)) ?_
  intro W base args ds gs before hval0 hW hcnd _
  have hval : ∀ (j : Nat) t v, Trym.f4.params[j]? = some t → args[j]? = some v → Value.okWide Trym.prog W .any base t v := hval0
  have hW' := hW
  obtain ⟨p, q, hA0, hV, rfl, hfz, hnd⟩ := hW
  have hA : DataW.TrodAll enc Trym.prog W 0 (fun _ => true) true Trym.f4.params.toList args.toList ds p := hA0
  rw [Trym.params4] at hA hval
  obtain ⟨v0, vs0, d0, ds0, p0, q0, hargs, rfl, rfl, h0, r0⟩ := trodAll_cons hA
  obtain ⟨rfl, rfl, rfl⟩ := trodAll_nil r0
  obtain rfl : args = #[v0] := by cases args; simp_all
  obtain ⟨rfl, rfl⟩ := trodVars_none hV
  obtain ⟨a0, rfl, rfl, rfl, w0⟩ := open_string Trym.underlying9 (hval 0 9 v0 rfl rfl) h0
  clear hA0 hval0
  simp only [List.append_nil] at hW'
  refine (walk a0 w0 W).mono fun e W' ⟨he, hg⟩ => ?_
  subst he
  exact ⟨_, rfl, post_of_same (pa := []) (pv := []) hW' (fun _ _ _ => (trodAll_cons_mk (shut_bool Trym.underlying4 _) trodAll_mk0)) (fun sp _ => (trodAll_cons_mk (shut_string Trym.underlying9 w0) trodAll_mk0)) (fun _ _ => rfl) rfl
    (hg.frame _) hg.2.1 (ok_one (by kernel_rfl) rfl (okWide_bool_mk Trym.underlying4 _))⟩

theorem over : Rows.fnAllDigitsMatchesByteModelRow.holds Trym.pinned (OpenSpec.ofChange Rows.fnAllDigitsMatchesByteModelSpec) :=
  OpenClaim.holds_of_wide 4 Trym.f4 rfl rfl rfl rfl rfl rfl rfl ⟨rfl, rfl, rfl, rfl, rfl⟩ rfl rfl rfl rfl rfl (by kernel_rfl) Trym.func4 (by kernel_rfl)
    (of_decide_eq_true (by kernel_rfl)) (by unfold Func.isWrapper; first | (rw [if_pos (by decide +kernel)]; kernel_rfl) | (rw [if_neg (by decide +kernel)]; exact ⟨rfl, rfl⟩))
    (fun os started H enc _ => lifted os started H enc)

/-- ████ THE STATEMENT ████ -/
theorem proved : Rows.FnAllDigitsMatchesByteModelSaid :=
  over
end Go.Proofs.Qxb6001838aMods.fnAllDigitsMatchesByteModel

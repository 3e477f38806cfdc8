/-
  The walk of zzlaws_sqldb_b1.FnTableColumnFindsFirstOfEachName (7): own work on this program.
-/
import Derived.Test.Qxb6001838aModsColumn
import Derived.Deep.QuietTactic
import Derived.BigQuiet
import Derived.LaidEqlPtr
import Derived.WalkSmall
namespace Go.Proofs.Qxb6001838aMods
open Go.RowKit

theorem IsNames.below {w w' : World} {a : Option Addr} {ss : List ByteArray} (h : IsNames w a ss) (hb : Below w.heap.size w w') : IsNames w' a ss :=
  ⟨h.len, h.each, h.nil, fun hl => by
    obtain ⟨b, off, ha, hc⟩ := h.cells hl
    refine ⟨b, off, ha, fun i hi => ?_⟩
    have h1 := hc i hi
    rw [hb.cell (World.block_lt_of_cell? _ _ h1)]
    exact h1⟩

theorem IsNames.cell_at {w : World} {b off : Nat} {ss : List ByteArray} (h : IsNames w (some ⟨b, off, none⟩) ss) (k : Nat) (hk : k < ss.length) : w.cell? ⟨b, off + k, none⟩ = some (.string (ss.getD k ByteArray.empty)) := by
  obtain ⟨b', off', ha, hc⟩ := h.cells (by omega)
  cases ha
  exact hc k hk

theorem IsNames.draws {w : World} {a : Option Addr} {ss : List ByteArray} (h : IsNames w a ss) (m : Nat) : IsNames (w.drewN m) a ss := ⟨h.len, h.each, h.nil, h.cells⟩
theorem HasCols.draws {w : World} {row : Nat} {ss : List ByteArray} {n : Nat} {f : Nat → Nat} (h : HasCols w row ss n f) (m : Nat) : HasCols (w.drewN m) row ss n f := ⟨h.ptr, h.col⟩

theorem TableOut.parts {ss : List ByteArray} {n : Nat} {w : World} {e : Ending} {w' : World} (h : TableOut ss n w e w') :
    ∃ (tb row : Nat) (ca : Option Addr) (f : Nat → Nat), e = .returned (.tuple #[.pointer (some ⟨tb, 0, none⟩), .slice ca n n]) ∧ Below w.heap.size w w' ∧ w'.cell? ⟨tb, 1, none⟩ = some (.slice ca n n) ∧
    (0 < n → ca = some ⟨row, 0, none⟩) ∧ HasCols w' row ss n f ∧ (∀ i j, f i = f j → i = j) ∧ ∀ i, w.heap.size ≤ f i := by
  obtain ⟨tb, row, ca, h1, h2, h3, h4, h5⟩ := h
  exact ⟨tb, row, ca, _, h1, h2, h3, h4, h5, fun i j e => by omega, fun i => by omega⟩

theorem info45 : ∃ j, Trym.prog.info? 45 = some j ∧ j.size ≠ 0 := by
  obtain ⟨i, hi, h⟩ := Option.map_eq_some_iff.1 (show (Trym.prog.info? 45).map (fun i => i.size) = some 13 by kernel_rfl)
  exact ⟨i, hi, by omega⟩

theorem ptr_same (a : Addr) (w : World) : (binOp .eql 41 (.pointer (some a)) (.pointer (some a))).run Trym.prog w = .ok (.bool true) w := by
  obtain ⟨j, hj, _⟩ := info45
  exact run_eql_ptr_same w a Trym.underlying41 hj

theorem ptr_other {w : World} {row : Nat} {ss : List ByteArray} {n : Nat} {f : Nat → Nat} (h : HasCols w row ss n f) (hf : ∀ i j, f i = f j → i = j) {i j : Nat} (hi : i < n) (hj : j < n) (hne : i ≠ j) :
    (binOp .eql 41 (.pointer (some ⟨f i, 0, none⟩)) (.pointer (some ⟨f j, 0, none⟩))).run Trym.prog w = .ok (.bool false) w := by
  obtain ⟨t, ht, hz⟩ := info45
  obtain ⟨C, hC, _⟩ := h.col i hi
  obtain ⟨D, hD, _⟩ := h.col j hj
  exact run_eql_ptr_other w Trym.underlying41 ht hz (by intro e; exact hne (hf i j (by simpa using e))) hC hD

/-- The first place of the k-th name: at or before k. -/
theorem first_at (ss : List ByteArray) (s : ByteArray) (k : Nat) (hs : s = ss.getD k ByteArray.empty) : ∃ p, p ≤ k ∧ nm ss p = s.toList ∧ NotIn ss s p := by
  rcases first_or ss s (k + 1) with h | ⟨p, hp, h1, h2⟩
  · exact absurd (by rw [hs]; rfl) (h k (by omega))
  · exact ⟨p, by omega, h1, h2⟩

set_option maxRecDepth 100000 in
set_option maxHeartbeats 1000000 in
theorem finds7 (a : Option Addr) (n cap : Nat) (ss : List ByteArray) (w : World) (h : IsNames w a ss) (hn : ss.length = n) (hcap : a = none → cap = 0) :
    Calls Trym.prog 7 #[.slice a n cap] w fun e w' => e = .returned (.bool true) ∧ Below w.heap.size w w' := by
  go_enter Trym.func7, Trym.ntmps7
  go_wp2_with fail
  refine (bytes19 a n cap ss _ h hn).mono ?_
  rintro e w' ⟨b, rfl, rfl, hb⟩
  cases b with
  | false =>
    go_wp2
    go_ret
    exact ⟨rfl, Below.refl _ _⟩
  | true =>
    have HSm : Hid (Small ss n) := hb rfl
    clear hb
    go_wp2_with fail
    refine (weigh20 a n cap ss _ h hn HSm.out).mono ?_
    rintro e w' ⟨r, rfl, rfl, hr0, hr1, hr⟩
    by_cases hr2 : (1048576 : Int) < r
    · go_wp2
      go_ret
      exact ⟨rfl, Below.refl _ _⟩
    · have hn4 : n ≤ 4096 := hr (by omega)
      clear hr
      have HN : Hid (ss.length = n) := hn
      clear hn
      go_wp2_with fail
      refine (clone_any a n cap ss _ h HN.out hn4 hcap).mono ?_
      rintro e w1 ⟨ca, rfl, hb1, hn1⟩
      go_wp2_with fail
      refine (table_any ca n ss _ hn1 HN.out hn4).mono ?_
      intro e w2 hto
      obtain ⟨tb, row, cc, f, rfl, hb2, ht, hcc, hcols, hinj, _⟩ := hto.parts
      have hn2 := hn1.below hb2
      have HB : Hid (Below w'.heap.size w' w2) := hb1.trans (hb2.mono hb1.size)
      clear hto hb1 hb2 hn1 h HSm hcap
      go_wp2
      go_loopw [5] (fun i wr => ∃ k m : Nat, k ≤ n ∧ i = .int .i64 k ∧ wr = w2.drewN m) (fun i _ => n - (intOf i).toNat)
      case atStart => exact ⟨0, 0, Nat.zero_le _, rfl, rfl⟩
      case round =>
        obtain ⟨k, m, hk, rfl, rfl⟩ := hrel
        by_cases hlt : k < n
        · obtain ⟨b, off, s, rfl, hs, hc, _⟩ := hn2.at k (by rw [HN.out]; exact hlt)
          obtain rfl := hcc (by omega)
          obtain ⟨p, hpk, hpq, hq⟩ := first_at ss s k hs
          have HPQ : Hid (nm ss p = s.toList) := hpq
          have HS : Hid (s = ss.getD k ByteArray.empty) := hs
          clear hs hpq
          go_wp2_with fail
          refine (column_some tb row n _ ss f s p (w2.drewN m) ht (fun _ => rfl) (hcols.draws m) (by omega) (by omega) HPQ.out hq).mono ?_
          rintro e w' ⟨rfl, rfl⟩
          go_wp2
          go_loop [7, 8] (fun p' k' => ∃ j : Nat, j ≤ p ∧ k' = .int .i64 j ∧ p' = .int .i64 (-1)) (fun _ k' => n - (intOf k').toNat)
          case atStart => exact ⟨0, Nat.zero_le _, rfl, rfl⟩
          case round =>
            obtain ⟨j, hj, rfl, rfl⟩ := hrel
            have hpt := hcols.ptr j (by omega)
            by_cases e : j = p
            · subst e
              have heq := ptr_same ⟨f j, 0, none⟩
              obtain ⟨sp, hsp, _, hcn⟩ := hcols.at j (by omega)
              have hcp : w2.cell? ⟨b, off + j, none⟩ = some (.string sp) := by rw [hsp]; exact hn2.cell_at j (by rw [HN.out]; omega)
              have hse : (sp.toList == s.toList) = true := by have := HPQ.out; unfold nm at this; rw [← hsp] at this; simpa using this
              have hse2 : (sp.toList != s.toList) = false := by simpa using hse
              have hd0 : decide ((j : Int) < 0) = false := by simp
              have hd1 : decide (k < j) = false := by simp; omega
              have hj0 : (0 : Int) ≤ (j : Int) := by omega
              have hjn : (j : Int) < (n : Int) := by omega
              have hk0 : (0 : Int) ≤ (k : Int) := by omega
              have hkn : (k : Int) < (n : Int) := by omega
              clear hsp
              go_wp2
              go_quiet (fail)
              go_wp2
              go_loopw [9] (fun t' wr => ∃ t m' : Nat, t ≤ j ∧ t' = .int .i64 t ∧ wr = w2.drewN m') (fun t' _ => j - (intOf t').toNat)
              case atStart => exact ⟨0, m + nq, Nat.zero_le _, rfl, by rw [World.drewN_drewN]⟩
              case round =>
                obtain ⟨t, m', htj, rfl, rfl⟩ := hrel
                by_cases e : t < j
                · obtain ⟨st, hst⟩ : ∃ st, st = ss.getD t ByteArray.empty := ⟨_, rfl⟩
                  have hct : w2.cell? ⟨b, off + t, none⟩ = some (.string st) := by rw [hst]; exact hn2.cell_at t (by rw [HN.out]; omega)
                  have hsn : (st.toList == s.toList) = false := by have := hq t e; unfold nm at this; rw [← hst] at this; simpa using this
                  have ht0 : (0 : Int) ≤ (t : Int) := by omega
                  have htn : (t : Int) < (n : Int) := by omega
                  clear hst
                  go_wp2
                  go_quiet (fail)
                  go_wp2
                  go_roundw
                  case rel => exact ⟨t + 1, _, by omega, by go_num, rfl⟩
                  case measure => simp [intOf]; omega
                · go_wp2
                  go_roundw
                  case rel => exact ⟨k + 1, _, by omega, by go_num, rfl⟩
                  case measure => simp [intOf]; omega
            · have hne := fun m => ptr_other (hcols.draws m) hinj (show j < n by omega) (show p < n by omega) e
              go_wp2
              go_round
              case rel => exact ⟨j + 1, by omega, by go_num, rfl⟩
              case measure => simp [intOf]; omega
        · go_wp2
          go_ret
          exact ⟨rfl, below_drewN HB.out _⟩

end Go.Proofs.Qxb6001838aMods

/-
  The contract of zzBytes_FnTableColumnNilExactlyWhenAbsent (24), and the walk of zzlaws_sqldb_b1.FnTableColumnNilExactlyWhenAbsent (8): own work on this program.
-/
import Derived.Test.Qxb6001838aModsFinds
namespace Go.Proofs.Qxb6001838aMods
open Go.RowKit

def SmallQ (ss : List ByteArray) (n : Nat) (q : ByteArray) : Prop := Small ss n ∧ (q.size : Int) ≤ 1048576

set_option maxHeartbeats 400000 in
theorem bytes24 (a : Option Addr) (n cap : Nat) (ss : List ByteArray) (q : ByteArray) (w : World) (h : IsNames w a ss) (hn : ss.length = n) (hq : q.size ≤ maxLen) :
    Calls Trym.prog 24 #[.slice a n cap, .string q] w (Guard (SmallQ ss n q) w) := by
  have hlen := h.len
  unfold maxLen at hlen hq
  rw [hn] at hlen
  have HN : Hid (ss.length = n) := hn
  clear hn
  by_cases hz : (n : Int) ≤ 1048576
  · go_enter Trym.func24, Trym.ntmps24
    go_wp2
    go_loop [5, 6] (fun t i => ∃ (k : Nat) (z : Int), k ≤ n ∧ i = .int .i64 k ∧ t = .int .i64 z ∧ 0 ≤ z ∧ z ≤ 1048576 ∧ Small ss k) (fun _ i => n - (intOf i).toNat)
    case atStart => exact ⟨0, n, Nat.zero_le _, rfl, rfl, by omega, by omega, Small.zero _⟩
    case round =>
      obtain ⟨k, z, hk, rfl, rfl, hz0, hz1, hsm⟩ := hrel
      have HM : Hid (Small ss k) := hsm
      clear hsm
      by_cases hlt : k < n
      · obtain ⟨b, off, s, rfl, hs, hc, hsz⟩ := h.at k (by rw [HN.out]; exact hlt)
        have HS : Hid (s = ss.getD k ByteArray.empty) := hs
        clear hs
        unfold maxLen at hsz
        by_cases h1 : (1048576 : Int) < (s.size : Int)
        · go_wp2
          go_ret
          exact Guard.no rfl
        · by_cases h2 : (1048576 : Int) < z + (s.size : Int)
          · go_wp2
            go_ret
            exact Guard.no rfl
          · go_wp2
            go_round
            case rel => exact ⟨k + 1, _, by omega, by go_num, rfl, by omega, by omega, HM.out.succ HS.out (by omega)⟩
            case measure => simp [intOf]; omega
      · have e : k = n := by omega
        subst e
        by_cases g1 : (1048576 : Int) < (q.size : Int)
        · go_wp2
          go_ret
          exact Guard.no rfl
        · by_cases g2 : (1048576 : Int) < z + (q.size : Int)
          · go_wp2
            go_ret
            exact Guard.no rfl
          · go_wp2
            go_ret
            exact Guard.yes rfl (And.intro HM.out (by omega))
  · go_enter Trym.func24, Trym.ntmps24
    go_wp2
    go_ret
    exact Guard.no rfl

/-- What 'present' says behind k rounds. -/
def Pres (ss : List ByteArray) (q : ByteArray) (k : Nat) (b : Bool) : Prop := (b = true → ∃ p, p < k ∧ nm ss p = q.toList) ∧ (b = false → NotIn ss q k)
theorem Pres.zero (ss : List ByteArray) (q : ByteArray) : Pres ss q 0 false := ⟨fun h => (by cases h), fun _ => NotIn.zero ss q⟩
theorem Pres.hit {ss : List ByteArray} {q : ByteArray} {k : Nat} {s : ByteArray} (hs : s = ss.getD k ByteArray.empty) (h : (s.toList == q.toList) = true) : Pres ss q (k + 1) true :=
  ⟨fun _ => ⟨k, by omega, by unfold nm; rw [← hs]; simpa using h⟩, fun h => (by cases h)⟩
theorem Pres.miss {ss : List ByteArray} {q : ByteArray} {k : Nat} {s : ByteArray} {b : Bool} (hp : Pres ss q k b) (hs : s = ss.getD k ByteArray.empty) (h : (s.toList == q.toList) = false) : Pres ss q (k + 1) b :=
  ⟨fun e => by obtain ⟨p, h1, h2⟩ := hp.1 e; exact ⟨p, by omega, h2⟩, fun e => (hp.2 e).succ hs (by simpa using h)⟩

set_option maxRecDepth 100000 in
set_option maxHeartbeats 1000000 in
theorem nil8 (a : Option Addr) (n cap : Nat) (ss : List ByteArray) (q : ByteArray) (w : World) (h : IsNames w a ss) (hn : ss.length = n) (hcap : a = none → cap = 0) (hq : q.size ≤ maxLen) :
    Calls Trym.prog 8 #[.slice a n cap, .string q] w fun e w' => e = .returned (.bool true) ∧ Below w.heap.size w w' := by
  go_enter Trym.func8, Trym.ntmps8
  go_wp2_with fail
  refine (bytes24 a n cap ss q _ h hn hq).mono ?_
  rintro e w' ⟨b, rfl, rfl, hb⟩
  cases b with
  | false =>
    go_wp2
    go_ret
    exact ⟨rfl, Below.refl _ _⟩
  | true =>
    obtain ⟨hsm, hq1⟩ := hb rfl
    have HSm : Hid (Small ss n) := hsm
    clear hb hsm hq
    have hq0 : (0 : Int) ≤ (q.size : Int) := by omega
    go_wp2_with fail
    refine (weigh20 a n cap ss _ h hn HSm.out).mono ?_
    rintro e w' ⟨r, rfl, rfl, hr0, hr1, hr⟩
    by_cases hr2 : (1048576 : Int) < r + (q.size : Int)
    · go_wp2
      go_ret
      exact ⟨rfl, Below.refl _ _⟩
    · have hn4 : n ≤ 4096 := hr (by omega)
      clear hr
      have HN : Hid (ss.length = n) := hn
      clear hn
      go_wp2_with fail
      refine (clone_any a n cap ss _ h HN.out hn4 hcap).mono ?_
      rintro e w1 ⟨ca, rfl, hb1, hn1⟩
      go_wp2_with fail
      refine (table_any ca n ss _ hn1 HN.out hn4).mono ?_
      intro e w2 hto
      obtain ⟨tb, row, cc, f, rfl, hb2, ht, hcc, hcols, hinj, _⟩ := hto.parts
      have hn2 := hn1.below hb2
      have HB : Hid (Below w'.heap.size w' w2) := hb1.trans (hb2.mono hb1.size)
      clear hto hb1 hb2 hn1 h HSm hcap
      go_wp2
      go_loop [7, 8] (fun pr i => ∃ (k : Nat) (b : Bool), k ≤ n ∧ i = .int .i64 k ∧ pr = .bool b ∧ Pres ss q k b) (fun _ i => n - (intOf i).toNat)
      case atStart => exact ⟨0, false, Nat.zero_le _, rfl, rfl, Pres.zero _ _⟩
      case round =>
        obtain ⟨k, b, hk, rfl, rfl, hpr⟩ := hrel
        have HP : Hid (Pres ss q k b) := hpr
        clear hpr
        by_cases hlt : k < n
        · obtain ⟨b1, off, s, rfl, hs, hc, _⟩ := hn2.at k (by rw [HN.out]; exact hlt)
          have HS : Hid (s = ss.getD k ByteArray.empty) := hs
          clear hs
          by_cases hsq : (s.toList == q.toList) = true
          · go_wp2
            go_round
            case rel => exact ⟨k + 1, true, by omega, by go_num, rfl, Pres.hit HS.out hsq⟩
            case measure => simp [intOf]; omega
          · have hsq' : (s.toList == q.toList) = false := by simpa using hsq
            clear hsq
            go_wp2
            go_round
            case rel => exact ⟨k + 1, b, by omega, by go_num, rfl, HP.out.miss HS.out hsq'⟩
            case measure => simp [intOf]; omega
        · have e : k = n := by omega
          subst e
          cases b with
          | false =>
            have hno := HP.out.2 rfl
            go_wp2_with fail
            refine (column_none tb row k cc ss f q w2 ht hcc hcols (by omega) hno).mono ?_
            rintro e w' ⟨rfl, rfl⟩
            go_wp2
            go_ret
            exact ⟨rfl, HB.out⟩
          | true =>
            obtain ⟨p, hp, hpq, hno⟩ : ∃ p, p < k ∧ nm ss p = q.toList ∧ NotIn ss q p := by
              obtain ⟨p0, h1, h2⟩ := HP.out.1 rfl
              rcases first_or ss q k with h3 | h3
              · exact absurd h2 (h3 p0 h1)
              · exact h3
            obtain ⟨sp, hsp, _, hcn⟩ := hcols.at p hp
            have hse : (sp.toList == q.toList) = true := by have := hpq; unfold nm at this; rw [← hsp] at this; simpa using this
            have HPQ : Hid (nm ss p = q.toList) := hpq
            clear hsp hpq
            go_wp2_with fail
            refine (column_some tb row k cc ss f q p w2 ht hcc hcols (by omega) hp HPQ.out hno).mono ?_
            rintro e w' ⟨rfl, rfl⟩
            go_wp2
            go_ret
            exact ⟨rfl, HB.out⟩

end Go.Proofs.Qxb6001838aMods

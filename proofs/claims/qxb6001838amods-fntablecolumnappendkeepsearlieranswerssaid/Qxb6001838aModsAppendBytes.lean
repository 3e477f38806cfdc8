/-
  The contract of zzBytes_FnTableColumnAppendKeepsEarlierAnswers (25): own work on this program.
-/
import Derived.Test.Qxb6001838aModsNames
namespace Go.Proofs.Qxb6001838aMods
open Go.RowKit

def SmallXQ (ss : List ByteArray) (n : Nat) (x q : ByteArray) : Prop := Small ss n ∧ (x.size : Int) ≤ 1048576 ∧ (q.size : Int) ≤ 1048576

set_option maxHeartbeats 400000 in
theorem bytes25 (a : Option Addr) (n cap : Nat) (ss : List ByteArray) (x q : ByteArray) (w : World) (h : IsNames w a ss) (hn : ss.length = n) (hx : x.size ≤ maxLen) (hq : q.size ≤ maxLen) :
    Calls Trym.prog 25 #[.slice a n cap, .string x, .string q] w (Guard (SmallXQ ss n x q) w) := by
  have hlen := h.len
  unfold maxLen at hlen hx hq
  rw [hn] at hlen
  have HN : Hid (ss.length = n) := hn
  clear hn
  by_cases hz : (n : Int) ≤ 1048576
  · go_enter Trym.func25, Trym.ntmps25
    go_wp2
    go_loop [7, 8] (fun t i => ∃ (k : Nat) (z : Int), k ≤ n ∧ i = .int .i64 k ∧ t = .int .i64 z ∧ 0 ≤ z ∧ z ≤ 1048576 ∧ Small ss k) (fun _ i => n - (intOf i).toNat)
    case atStart => exact ⟨0, n, Nat.zero_le _, rfl, rfl, by omega, by omega, Small.zero _⟩
    case round =>
      obtain ⟨k, z, hk, rfl, rfl, hz0, hz1, hsm⟩ := hrel
      have HM : Hid (Small ss k) := hsm
      clear hsm
      by_cases hlt : k < n
      · obtain ⟨b, off, s, rfl, hs, hc, hsz⟩ := h.at k (by rw [HN.out]; exact hlt)
        have HS : Hid (s = ss.getD k ByteArray.empty) := hs
        clear hs
        unfold maxLen at hsz
        by_cases h1 : (1048576 : Int) < (s.size : Int)
        · go_wp2
          go_ret
          exact Guard.no rfl
        · by_cases h2 : (1048576 : Int) < z + (s.size : Int)
          · go_wp2
            go_ret
            exact Guard.no rfl
          · go_wp2
            go_round
            case rel => exact ⟨k + 1, _, by omega, by go_num, rfl, by omega, by omega, HM.out.succ HS.out (by omega)⟩
            case measure => simp [intOf]; omega
      · have e : k = n := by omega
        subst e
        by_cases g1 : (1048576 : Int) < (x.size : Int)
        · go_wp2
          go_ret
          exact Guard.no rfl
        · by_cases g2 : (1048576 : Int) < z + (x.size : Int)
          · go_wp2
            go_ret
            exact Guard.no rfl
          · by_cases g3 : (1048576 : Int) < (q.size : Int)
            · go_wp2
              go_ret
              exact Guard.no rfl
            · by_cases g4 : (1048576 : Int) < z + (x.size : Int) + (q.size : Int)
              · go_wp2
                go_ret
                exact Guard.no rfl
              · go_wp2
                go_ret
                exact Guard.yes rfl (And.intro HM.out (And.intro (by omega) (by omega)))
  · go_enter Trym.func25, Trym.ntmps25
    go_wp2
    go_ret
    exact Guard.no rfl

end Go.Proofs.Qxb6001838aMods

/-
  The contracts of sqldb.allDigits (28), sqldb.ZZAllDigits (16), zzBytes_FnAllDigitsMatchesByteModel (15): own work on this program.
-/
import Derived.Test.Qxb6001838aModsRows
import Derived.WalkKit
import Derived.ProofKit
namespace Go.Proofs.Qxb6001838aMods
open Go.RowKit

/-- Every byte is an ASCII digit. -/
def adL (l : List UInt8) : Bool := l.all fun c => decide (48 ≤ (c.toNat : Int)) && decide ((c.toNat : Int) ≤ 57)
def ad (s : ByteArray) : Bool := adL s.data.toList

theorem take_snoc (s : ByteArray) (k : Nat) (h : k < s.size) : s.data.toList.take (k + 1) = s.data.toList.take k ++ [s[k]] := by
  rw [List.take_succ_eq_append_getElem (by simpa using h)]; rfl

theorem adL_append (a b : List UInt8) : adL (a ++ b) = (adL a && adL b) := by
  unfold adL; rw [List.all_append]

theorem adL_step (s : ByteArray) (k : Nat) (h : k < s.size) (hp : adL (s.data.toList.take k) = true) (h1 : 48 ≤ (s[k].toNat : Int)) (h2 : (s[k].toNat : Int) ≤ 57) :
    adL (s.data.toList.take (k + 1)) = true := by
  rw [take_snoc s k h, adL_append, hp]
  simp [adL]
  omega

theorem ad_bad (s : ByteArray) (k : Nat) (h : k < s.size) (hb : (s[k].toNat : Int) < 48 ∨ 57 < (s[k].toNat : Int)) : ad s = false := by
  have e : s.data.toList = s.data.toList.take (k + 1) ++ s.data.toList.drop (k + 1) := (List.take_append_drop _ _).symm
  unfold ad
  rw [e, adL_append, take_snoc s k h, adL_append]
  have : adL [s[k]] = false := by
    simp [adL]
    omega
  simp [this]

theorem ad_end (s : ByteArray) (k : Nat) (h : ¬ k < s.size) (hp : adL (s.data.toList.take k) = true) : ad s = true := by
  rw [List.take_of_length_le (by simp; omega)] at hp
  exact hp

/-! ### worlds -/
theorem grown_trans {a b c : World} (h : Grown a b) (k : Grown b c) : Grown a c :=
  ⟨World.keptBut_trans h.1 (by
    obtain ⟨k1, k2, k3⟩ := k.1
    exact ⟨k1, k2, fun i hi => k3 i hi⟩), fun x => (k.2.1 x).trans (h.2.1 x), Nat.le_trans h.2.2 k.2.2⟩

theorem grown_iter (w : World) (s : ByteArray) (pos : Nat) : Grown w (w.iter s pos) := by
  refine ⟨World.keptBut_alloc _ _ _, fun a => ?_, by simp [World.iter]⟩
  by_cases h : a.block = w.heap.size
  · have e1 : (w.iter s pos).heap[a.block]? = some (.stringIter s pos) := by rw [h]; exact World.iter_heap w s pos
    have e2 : w.heap[a.block]? = none := by rw [h]; simp
    simp [World.frozen?, e1, e2]
  · exact World.frozen?_alloc_old _ _ _ h

theorem ret_bool {a b : Bool} (h : b = a) : Ending.returned (.bool a) = .returned (.bool b) := by rw [h]

set_option maxHeartbeats 400000 in
theorem allDigits_any (s : ByteArray) (w : World) :
    Calls Trym.prog 28 #[.string s] w fun e w' => e = .returned (.bool (ad s)) ∧ Grown w w' := by
  go_enter Trym.func28, Trym.ntmps28
  go_wp2
  go_loopw [4] (fun _ w' => ∃ pos : Nat, w' = w.iter s pos ∧ pos ≤ s.size ∧ adL (s.data.toList.take pos) = true) (fun _ w' => s.size - w'.iterPos w.heap.size)
  case atStart => exact ⟨0, rfl, Nat.zero_le _, rfl⟩
  case round =>
    obtain ⟨pos, rfl, hle, hc⟩ := hrel
    have HC : Hid (adL (s.data.toList.take pos) = true) := hc
    clear hc
    by_cases hp : pos < s.size
    · by_cases ha : (s[pos]'hp).toNat < 128
      · have hnx : ∀ ty, (Instr.next (.pointer (some ⟨w.heap.size, 0, none⟩)) true ty).run Trym.prog (w.iter s pos) = _ := fun ty => run_next_ascii w s pos ty hp ha
        by_cases h1 : ((s[pos]'hp).toNat : Int) < 48
        · go_wp2
          go_ret
          exact ⟨ret_bool (ad_bad s pos hp (.inl h1)), grown_iter _ _ _⟩
        · by_cases h2 : 57 < ((s[pos]'hp).toNat : Int)
          · go_wp2
            go_ret
            exact ⟨ret_bool (ad_bad s pos hp (.inr h2)), grown_iter _ _ _⟩
          · go_wp2
            go_roundw
            case rel => exact ⟨pos + 1, rfl, by omega, adL_step s pos hp HC.out (by omega) (by omega)⟩
            case measure => simp; omega
      · have hnx : ∀ ty, (Instr.next (.pointer (some ⟨w.heap.size, 0, none⟩)) true ty).run Trym.prog (w.iter s pos) = _ := fun ty => run_next_any w s pos ty hp
        have hd := (decode_high s pos hp (by omega)).1
        have h1 : ¬ ((Utf8.decode s pos).1 : Int) < 48 := by omega
        have h2 : 57 < ((Utf8.decode s pos).1 : Int) := by omega
        go_wp2
        go_ret
        exact ⟨ret_bool (ad_bad s pos hp (.inr (by omega))), grown_iter _ _ _⟩
    · have hnx : ∀ ty, (Instr.next (.pointer (some ⟨w.heap.size, 0, none⟩)) true ty).run Trym.prog (w.iter s pos) = _ := fun ty => run_next_end w s pos ty hp
      go_wp2
      go_ret
      exact ⟨ret_bool (ad_end s pos hp HC.out), grown_iter _ _ _⟩

theorem zzAllDigits_any (s : ByteArray) (w : World) :
    Calls Trym.prog 16 #[.string s] w fun e w' => e = .returned (.bool (ad s)) ∧ Grown w w' := by
  go_enter Trym.func16, Trym.ntmps16
  go_wp2_with (go_at_call 28; refine (allDigits_any _ _).mono ?_; rintro e w' ⟨rfl, hg⟩)
  go_ret
  exact ⟨rfl, hg⟩

end Go.Proofs.Qxb6001838aMods

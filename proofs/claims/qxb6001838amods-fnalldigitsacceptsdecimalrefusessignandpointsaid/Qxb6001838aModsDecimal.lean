/-
  The contract of zzlaws_sqldb_b1.decimalText (18): own work on this program.
-/
import Derived.Test.Qxb6001838aModsDigits
import Derived.Outline
namespace Go.Proofs.Qxb6001838aMods
open Go.RowKit

def Cs (xs : List Int) : Array Value := (xs.map (Value.int .u8)).toArray
theorem Cs_at (xs : List Int) (j : Nat) (h : j < xs.length) : (Cs xs)[j]? = some (.int .u8 (xs.getD j 0)) := by
  simp [Cs, List.getElem?_eq_getElem h]
theorem Cs_set (xs : List Int) (j : Nat) (d : Int) : (Cs xs).setIfInBounds j (.int .u8 d) = Cs (xs.set j d) := by
  simp [Cs, List.map_set]

def p10 (k : Nat) : Int := 10 ^ k
theorem p10_zero : p10 0 = 1 := rfl
theorem p10_succ (k : Nat) : p10 (k + 1) = 10 * p10 k := by unfold p10; rw [Int.pow_succ]; omega
theorem p10_20 : p10 20 = 100000000000000000000 := by decide

theorem p10_step (m : Int) (k : Nat) (hk : 1 ≤ k) (h : m < p10 k) : m / 10 < p10 (k - 1) := by
  obtain ⟨q, rfl⟩ : ∃ q, k = q + 1 := ⟨k - 1, by omega⟩
  rw [p10_succ] at h
  show m / 10 < p10 q
  omega

theorem dig_step (xs : List Int) (k : Nat) (m : Int) (hk : 1 ≤ k) (hl : k ≤ xs.length) (h : ∀ j, k ≤ j → j < 20 → 48 ≤ xs.getD j 0 ∧ xs.getD j 0 ≤ 57) :
    ∀ j, k - 1 ≤ j → j < 20 → 48 ≤ (xs.set (k - 1) (48 + m % 10)).getD j 0 ∧ (xs.set (k - 1) (48 + m % 10)).getD j 0 ≤ 57 := by
  intro j h1 h2
  by_cases e : j = k - 1
  · subst e
    have : (xs.set (k - 1) (48 + m % 10)).getD (k - 1) 0 = 48 + m % 10 := by
      simp [List.getD, show k - 1 < xs.length from by omega]
    rw [this]
    omega
  · have : (xs.set (k - 1) (48 + m % 10)).getD j 0 = xs.getD j 0 := by
      simp [List.getD, Ne.symm e]
    rw [this]
    exact h j (by omega) h2

theorem slice_at (k : Nat) (hk : k < 20) (B : Nat) (w : World) :
    (Instr.sliceAt 55 (.pointer (some ⟨B, 0, none⟩)) (some (.int .i64 k)) none none).run Trym.prog w = .ok (.slice (some ⟨B, k, none⟩) (20 - k) (20 - k)) w := by
  have hl : Trym.prog.arrayLen 55 = 20 := by kernel_rfl
  have he : Trym.prog.elem 55 = 5 := by kernel_rfl
  have hs : (sizeOf 5).run Trym.prog w = .ok 1 w := by kernel_rfl
  rw [run_sliceAt_array_l (P := Trym.prog) w 55 ⟨B, 0, none⟩ (by rw [hl, he]; exact Trym.underlying55) .i64 k (by omega) (by rw [hl]; omega), he, hs, hl]
  simp only [Result.andThen, slicedAt, Int.toNat_natCast, Nat.mul_one]
  rw [if_neg (by omega)]
  simp [Addr.add]
  omega

theorem conv_at (k : Nat) (hk : k < 20) (w : World) (xs : List Int) (hl : xs.length = 20) :
    (convert 56 9 (.slice (some ⟨w.heap.size, k, none⟩) (20 - k) (20 - k))).run Trym.prog (w.alloc (.cells (Cs xs) 55)) = .ok (.string (strOfNums (xs.drop k))) (w.alloc (.cells (Cs xs) 55)) := by
  refine run_convert_bytes_arg (P := Trym.prog) (w.alloc (.cells (Cs xs) 55)) 56 5 Trym.underlying56 Trym.underlying5 w.heap.size k (20 - k) (20 - k) (xs.drop k) (by simp [hl]) ?_ 9 Trym.underlying9
  intro i hi
  rw [World.cell?_alloc_at _ _ _ _ rfl, Cs_at xs _ (by omega)]
  simp [List.getD]

theorem ad_nums (ns : List Int) (h : ∀ d ∈ ns, 48 ≤ d ∧ d ≤ 57) : ad (strOfNums ns) = true := by
  unfold ad adL
  rw [strOfNums_data, List.all_map, List.all_eq_true]
  intro d hd
  have := h d hd
  have e : (UInt8.ofNat d.toNat).toNat = d.toNat := by
    rw [UInt8.toNat_ofNat']; omega
  simp only [Function.comp, e]
  simp
  omega

theorem drop_dig (xs : List Int) (k : Nat) (hl : xs.length = 20) (h : ∀ j, k ≤ j → j < 20 → 48 ≤ xs.getD j 0 ∧ xs.getD j 0 ≤ 57) : ∀ d ∈ xs.drop k, 48 ≤ d ∧ d ≤ 57 := by
  intro d hd
  obtain ⟨i, hi, rfl⟩ := List.mem_iff_getElem.1 hd
  rw [List.length_drop] at hi
  have := h (k + i) (by omega) (by omega)
  rw [List.getElem_drop]
  simpa [List.getD, List.getElem?_eq_getElem (show k + i < xs.length by omega)] using this

set_option maxHeartbeats 400000 in
theorem decimal_pos (n : Int) (h0 : 0 < n) (h1 : n < 18446744073709551616) (w : World) :
    Calls Trym.prog 18 #[.int .u64 n] w fun e w' => ∃ t : ByteArray, e = .returned (.string t) ∧ ad t = true ∧ t.size ≤ 20 ∧ Grown w w' := by
  have hn0 : (n == 0) = false := by simp; omega
  go_enter Trym.func18, Trym.ntmps18
  go_wp2
  go_loopw [0, 4] (fun vn vi wr => ∃ (m : Int) (k : Nat) (xs : List Int), vn = .int .u64 m ∧ vi = .int .i64 k ∧ wr = w.alloc (.cells (Cs xs) 55) ∧ xs.length = 20 ∧ k ≤ 20 ∧ (0 < m ∨ k < 20) ∧ 0 ≤ m ∧ m < 18446744073709551616 ∧ m < p10 k ∧
      ∀ j, k ≤ j → j < 20 → 48 ≤ xs.getD j 0 ∧ xs.getD j 0 ≤ 57) (fun vn _ _ => (intOf vn).toNat)
  case atStart => exact ⟨n, 20, List.replicate 20 0, rfl, rfl, rfl, rfl, by omega, by omega, by omega, by omega, by rw [p10_20]; omega, fun j a b => by omega⟩
  case round =>
    obtain ⟨m, k, xs, rfl, rfl, rfl, hxl, hk, hor, hm0, hmb, hmk, hxs⟩ := hrel
    have HK : Hid (m < p10 k) := hmk
    have HX : Hid (∀ j, k ≤ j → j < 20 → 48 ≤ xs.getD j 0 ∧ xs.getD j 0 ≤ 57) := hxs
    clear hmk hxs
    by_cases hm : 0 < m
    · have hk1 : 1 ≤ k := by
        have := HK.out
        rcases Nat.eq_zero_or_pos k with e | e
        · subst e; rw [p10_zero] at this; omega
        · exact e
      have hc : (Cs xs)[k - 1]? = some (.int .u8 (xs.getD (k - 1) 0)) := Cs_at xs _ (by omega)
      go_wp2
      go_roundw
      case rel =>
        refine ⟨m / 10, k - 1, xs.set (k - 1) (48 + m % 10), rfl, by go_num, by rw [Cs_set], by simp [hxl], by omega, by omega, by omega, by omega, p10_step m k hk1 HK.out, ?_⟩
        exact dig_step xs k m hk1 (by omega) HX.out
      case measure => simp [intOf]; omega
    · have hk2 : k < 20 := by omega
      have hsl := slice_at k hk2 w.heap.size
      have hcv := conv_at k hk2 w xs hxl
      clear hor
      go_wp2
      go_ret
      exact ⟨_, rfl, ad_nums (xs.drop k) (fun d hd => drop_dig xs k hxl HX.out d hd), by rw [strOfNums_size]; simp [hxl], Grown.alloc (Grown.refl _) _ _⟩
theorem decimal_any (n : Int) (h0 : 0 ≤ n) (h1 : n < 18446744073709551616) (w : World) :
    Calls Trym.prog 18 #[.int .u64 n] w fun e w' => ∃ t : ByteArray, e = .returned (.string t) ∧ ad t = true ∧ t.size ≤ 20 ∧ Grown w w' := by
  by_cases hz : n = 0
  · subst hz
    go_enter Trym.func18, Trym.ntmps18
    go_wp2
    go_ret
    exact ⟨_, rfl, rfl, by decide, Grown.refl _⟩
  · exact decimal_pos n (by omega) h1 w

/-- With a byte that is no digit ahead of it. -/
theorem ad_ahead (c : UInt8) (t : ByteArray) (h : c.toNat < 48 ∨ 57 < c.toNat) : ad (ByteArray.mk #[c] ++ t) = false := by
  unfold ad
  rw [ByteArray.data_append, Array.toList_append, adL_append]
  have : adL (ByteArray.mk #[c]).data.toList = false := by
    simp [adL]; omega
  rw [this]; rfl

theorem ad_point (t : ByteArray) : ad (t ++ ByteArray.mk #[46, 53]) = false := by
  unfold ad
  rw [ByteArray.data_append, Array.toList_append, adL_append]
  have : adL (ByteArray.mk #[46, 53]).data.toList = false := by decide
  rw [this, Bool.and_false]

end Go.Proofs.Qxb6001838aMods

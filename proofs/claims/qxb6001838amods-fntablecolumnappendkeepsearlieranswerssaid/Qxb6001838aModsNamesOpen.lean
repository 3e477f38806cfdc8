/-
  A slice of strings among the arguments, opened into what the walks are told: own work on this program.
-/
import Derived.Test.Qxb6001838aModsNames
import Derived.SliceStrings
namespace Go.Proofs.Qxb6001838aMods
open Go.ChangeShapes Go.WideShapes Go.RowKit

theorem cells9 : Trym.prog.cellsOf 9 = 1 := by kernel_rfl

theorem take_getD (ss : List ByteArray) (n i : Nat) (h : i < n) : (ss.take n).getD i ByteArray.empty = ss.getD i ByteArray.empty := by
  simp [List.getD, h]

theorem names_open {H : Type} {enc : TypeId × Value → H} {W : World} {base : Nat} {spare : Nat → Bool} {held : Bool} {fuel : Nat} {a : Option Addr} {n cap : Nat} {x : DataW H × List MemPlace}
    (h : DataW.trod enc Trym.prog W base spare held fuel 34 (Value.slice a n cap).cells.toList = some x) : ∃ ss, IsNames W a ss ∧ (a = none → cap = 0) ∧ ss.length = n := by
  rcases open_strings Trym.underlying34 Trym.underlying9 cells9 h with ⟨hcs, _⟩ | ⟨ad, l, c, ss, hcs, _, hl, hm, hz, _, hcell, hws⟩
  · simp [Value.cells] at hcs
    obtain ⟨rfl, rfl, rfl⟩ := hcs
    exact ⟨[], ⟨Nat.zero_le _, (fun s hs => by cases hs), fun _ => rfl, (fun h => by cases h)⟩, fun _ => rfl, rfl⟩
  · simp [Value.cells] at hcs
    obtain ⟨rfl, rfl, rfl⟩ := hcs
    have hln : n ≤ ss.length := by rw [hz]; split <;> omega
    have hlt : (ss.take n).length = n := by simp; omega
    refine ⟨ss.take n, ⟨by omega, fun s hs => hws s (List.mem_of_mem_take hs), (fun e => by cases e), fun h0 => ?_⟩, (fun e => by cases e), hlt⟩
    obtain ⟨b, off, spot⟩ := ad
    have hspot : spot = none := by simpa [Addr.add] using World.cell?_spot (hcell 0 (by omega))
    subst hspot
    refine ⟨b, off, rfl, fun i hi => ?_⟩
    rw [take_getD ss n i (by omega), ← add_plain]
    exact hcell i (by omega)

end Go.Proofs.Qxb6001838aMods

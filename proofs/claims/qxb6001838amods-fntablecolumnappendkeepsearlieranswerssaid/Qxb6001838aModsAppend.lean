/-
  The walk of zzlaws_sqldb_b1.FnTableColumnAppendKeepsEarlierAnswers (9): own work on this program.
-/
import Derived.Test.Qxb6001838aModsFinds
import Derived.Test.Qxb6001838aModsAppendBytes
namespace Go.Proofs.Qxb6001838aMods
open Go.RowKit

/-- A row of n cells, told by their places. -/
def Pt (g : Nat → Value) (n : Nat) : Array Value := ((List.range n).map g).toArray
theorem Pt_at (g : Nat → Value) (n k : Nat) (h : k < n) : (Pt g n)[k]? = some (g k) := by
  simp [Pt, h]
theorem Pt_set (g : Nat → Value) (n k : Nat) (v : Value) : (Pt g n).setIfInBounds k v = Pt (fun i => if i = k then v else g i) n := by
  apply Array.ext
  · simp [Pt]
  · intro i h1 h2
    simp only [Pt, List.size_toArray, List.length_map, List.length_range] at h2
    by_cases e : k = i
    · subst e; simp [Pt]
    · simp [Pt, e, Ne.symm e]
theorem Np_Pt (n : Nat) : Np n = Pt (fun _ => .pointer none) n := by
  apply Array.ext
  · simp [Np, size_madeCells, Pt]
  · intro i h1 h2
    simp [Np, madeCells, Pt, Value.cells, Nat.mod_one]

theorem make27' (n : Nat) (hn : n ≤ 4096) (w : World) :
    (Instr.makeSlice 27 (.int .i64 ((n : Int) + 1)) (.int .i64 ((n : Int) + 1))).run Trym.prog w = .ok (.slice (some ⟨w.heap.size, 0, none⟩) (n + 1) (n + 1)) (w.alloc (.cells (Pt (fun _ => .pointer none) (n + 1)) 41)) := by
  have := make27 (n + 1) (by omega) w
  rw [Np_Pt] at this
  exact this

/-- The table with one column more, laid behind the world w2. -/
theorem cols_more {w2 : World} {row : Nat} {ss : List ByteArray} {n : Nat} {f : Nat → Nat} (h : HasCols w2 row ss n f) (hn : ss.length = n) (x : ByteArray) (g : Nat → Value)
    (hg : ∀ i, i < n → g i = .pointer (some ⟨f i, 0, none⟩)) (hgn : g n = .pointer (some ⟨w2.heap.size, 0, none⟩)) (C : Array Value) (hC : C[0]? = some (.string x)) (T : Obj) :
    HasCols (((w2.alloc (.cells C 45)).alloc (.cells (Pt g (n + 1)) 41)).alloc T) (w2.heap.size + 1) (ss ++ [x]) (n + 1) (fun i => if i < n then f i else w2.heap.size) := by
  have s1 : (w2.alloc (.cells C 45)).heap.size = w2.heap.size + 1 := by simp
  have s2 : ((w2.alloc (.cells C 45)).alloc (.cells (Pt g (n + 1)) 41)).heap.size = w2.heap.size + 2 := by simp
  refine ⟨fun i hi => ?_, fun i hi => ?_⟩
  · rw [World.cell?_alloc_past _ _ _ (by omega), World.cell?_alloc_at _ _ _ _ s1.symm, Pt_at _ _ _ hi]
    by_cases e : i < n
    · simp only [e, if_true]; rw [hg i e]
    · obtain rfl : i = n := by omega
      simp only [e, if_false]; rw [hgn]
  · by_cases e : i < n
    · obtain ⟨D, hD, h0⟩ := h.col i e
      have hlt := lt_of_block hD
      refine ⟨D, ?_, ?_⟩
      · simp only [e, if_true]
        rw [Below.heap_alloc _ _ _ (by omega), Below.heap_alloc _ _ _ (by omega), Below.heap_alloc _ _ _ (by omega)]
        exact hD
      · rw [h0]
        simp [List.getD, List.getElem?_append_left (show i < ss.length by omega)]
    · obtain rfl : i = n := by omega
      refine ⟨C, ?_, ?_⟩
      · simp only [e, if_false]
        rw [Below.heap_alloc _ _ _ (by omega), Below.heap_alloc _ _ _ (by omega), heap_alloc_new]
      · rw [hC, ← hn]; simp [List.getD]

theorem cols_kept {w w' : World} {row : Nat} {ss : List ByteArray} {n : Nat} {f : Nat → Nat} (h : HasCols w row ss n f) (hb : Below w.heap.size w w') : HasCols w' row ss n f := by
  refine ⟨fun i hi => ?_, fun i hi => ?_⟩
  · have h1 := h.ptr i hi
    rw [hb.cell (World.block_lt_of_cell? _ _ h1)]
    exact h1
  · obtain ⟨C, hC, h0⟩ := h.col i hi
    exact ⟨C, by rw [hb.block _ (lt_of_block hC)]; exact hC, h0⟩

theorem nm_left (ss : List ByteArray) (x : ByteArray) (i : Nat) (h : i < ss.length) : nm (ss ++ [x]) i = nm ss i := by
  simp [nm, List.getD, List.getElem?_append_left h]
theorem nm_last (ss : List ByteArray) (x : ByteArray) : nm (ss ++ [x]) ss.length = x.toList := by
  simp [nm, List.getD]
theorem NotIn.left {ss : List ByteArray} {q : ByteArray} {k : Nat} (h : NotIn ss q k) (hk : k ≤ ss.length) (x : ByteArray) : NotIn (ss ++ [x]) q k := by
  intro i hi
  rw [nm_left ss x i (by omega)]
  exact h i hi

theorem notin_more {ss : List ByteArray} {q x : ByteArray} {n : Nat} (hn : ss.length = n) (hqx : (q.toList == x.toList) = false) (h : NotIn ss q n) : NotIn (ss ++ [x]) q (n + 1) := by
  intro i hi
  by_cases e : i < n
  · exact h.left (by omega) x i e
  · obtain rfl : i = ss.length := by omega
    rw [nm_last]
    intro h2
    rw [h2] at hqx
    simp at hqx

theorem more_facts {w2 : World} {row : Nat} {ss : List ByteArray} {n : Nat} {f : Nat → Nat} (h : HasCols w2 row ss n f) (hn : ss.length = n) (x : ByteArray) (g : Nat → Value)
    (hg : ∀ i, i < n → g i = .pointer (some ⟨f i, 0, none⟩)) (W4 : World) {C0 : Array Value} (hC0 : C0[1]? = some (.slice (some ⟨w2.heap.size + 1, 0, none⟩) (n + 1) (n + 1)))
    (hW : W4 = ((w2.alloc (Obj.cells (colCells x) 45)).alloc (Obj.cells ((Pt g (n + 1)).setIfInBounds n (Value.pointer (some { block := w2.heap.size, off := 0 }))) 41)).alloc (Obj.cells C0 49)) :
    Below w2.heap.size w2 W4 ∧ W4.cell? ⟨w2.heap.size + 1 + 1, 1, none⟩ = some (.slice (some ⟨w2.heap.size + 1, 0, none⟩) (n + 1) (n + 1)) ∧ HasCols W4 row ss n f ∧
      HasCols W4 (w2.heap.size + 1) (ss ++ [x]) (n + 1) (fun i => if i < n then f i else w2.heap.size) := by
  subst hW
  have hb : Below w2.heap.size w2 (((w2.alloc (Obj.cells (colCells x) 45)).alloc (Obj.cells ((Pt g (n + 1)).setIfInBounds n (Value.pointer (some { block := w2.heap.size, off := 0 }))) 41)).alloc (Obj.cells C0 49)) :=
    (((Below.refl _ _).alloc (Nat.le_refl _) _).alloc (by simp) _).alloc (by simp; omega) _
  refine ⟨hb, ?_, cols_kept h hb, ?_⟩
  · rw [World.cell?_alloc_at _ _ _ _ (by simp)]; exact hC0
  · rw [Pt_set]
    exact cols_more h hn x _ (fun i hi => by rw [if_neg (by omega)]; exact hg i hi) (by rw [if_pos rfl]) _ rfl _

theorem column_last (tb row n : Nat) (ss : List ByteArray) (f : Nat → Nat) (q x : ByteArray) (w : World) (X : Nat) (ht : w.cell? ⟨tb, 1, none⟩ = some (.slice (some ⟨row, 0, none⟩) (n + 1) (n + 1)))
    (h : HasCols w row (ss ++ [x]) (n + 1) (fun i => if i < n then f i else X)) (hn4 : n ≤ 4096) (hn : ss.length = n) (hqx : (q.toList == x.toList) = true) (hno : NotIn ss q n) :
    Calls Trym.prog 23 #[.pointer (some ⟨tb, 0, none⟩), .string q] w fun e w' => e = .returned (.pointer (some ⟨X, 0, none⟩)) ∧ w' = w := by
  have := column_some tb row (n + 1) _ (ss ++ [x]) _ q n w ht (fun _ => rfl) h (by omega) (by omega) (by rw [← hn, nm_last]; exact (by simpa using hqx : q.toList = x.toList).symm) (hno.left (by omega) x)
  simpa using this

theorem column_early (tb row n : Nat) (ss : List ByteArray) (f : Nat → Nat) (q x : ByteArray) (w : World) (X p : Nat) (ht : w.cell? ⟨tb, 1, none⟩ = some (.slice (some ⟨row, 0, none⟩) (n + 1) (n + 1)))
    (h : HasCols w row (ss ++ [x]) (n + 1) (fun i => if i < n then f i else X)) (hn4 : n ≤ 4096) (hn : ss.length = n) (hp : p < n) (hpq : nm ss p = q.toList) (hno : NotIn ss q p) :
    Calls Trym.prog 23 #[.pointer (some ⟨tb, 0, none⟩), .string q] w fun e w' => e = .returned (.pointer (some ⟨f p, 0, none⟩)) ∧ w' = w := by
  have := column_some tb row (n + 1) _ (ss ++ [x]) _ q p w ht (fun _ => rfl) h (by omega) (by omega) (by rw [nm_left ss x p (by omega)]; exact hpq) (hno.left (by omega) x)
  simp only [hp, if_true] at this
  exact this

set_option maxRecDepth 100000 in
set_option maxHeartbeats 1000000 in
theorem append9 (a : Option Addr) (n cap : Nat) (ss : List ByteArray) (x q : ByteArray) (w : World) (h : IsNames w a ss) (hn : ss.length = n) (hcap : a = none → cap = 0) (hx : x.size ≤ maxLen) (hq : q.size ≤ maxLen) :
    Calls Trym.prog 9 #[.slice a n cap, .string x, .string q] w fun e w' => e = .returned (.bool true) ∧ Below w.heap.size w w' := by
  go_enter Trym.func9, Trym.ntmps9
  go_wp2_with fail
  refine (bytes25 a n cap ss x q _ h hn hx hq).mono ?_
  rintro e w' ⟨b, rfl, rfl, hb⟩
  cases b with
  | false =>
    go_wp2
    go_ret
    exact ⟨rfl, Below.refl _ _⟩
  | true =>
    obtain ⟨hsm, hx1, hq1⟩ := hb rfl
    have HSm : Hid (Small ss n) := hsm
    clear hb hsm hq hx
    have hx0 : (0 : Int) ≤ (x.size : Int) := by omega
    have hq0 : (0 : Int) ≤ (q.size : Int) := by omega
    go_wp2_with fail
    refine (weigh20 a n cap ss _ h hn HSm.out).mono ?_
    rintro e w' ⟨r, rfl, rfl, hr0, hr1, hr⟩
    by_cases hr2 : (1048576 : Int) < r + (x.size : Int) + (q.size : Int)
    · go_wp2
      go_ret
      exact ⟨rfl, Below.refl _ _⟩
    · have hn4 : n ≤ 4096 := hr (by omega)
      clear hr
      have HN : Hid (ss.length = n) := hn
      clear hn
      go_wp2_with fail
      refine (clone_any a n cap ss _ h HN.out hn4 hcap).mono ?_
      rintro e w1 ⟨ca, rfl, hb1, hn1⟩
      go_wp2_with fail
      refine (table_any ca n ss _ hn1 HN.out hn4).mono ?_
      intro e w2 hto
      obtain ⟨tb, row, cc, f, rfl, hb2, ht, hcc, hcols, hinj, _⟩ := hto.parts
      have HB : Hid (Below w'.heap.size w' w2) := hb1.trans (hb2.mono hb1.size)
      have hmk := make27' n hn4
      clear hto hb1 hb2 hn1 h HSm hcap
      go_wp2
      clear hmk
      go_loopw [11] (fun i wr => ∃ (k : Nat) (g : Nat → Value), k ≤ n ∧ i = .int .i64 k ∧ wr = (w2.alloc (.cells (colCells x) 45)).alloc (.cells (Pt g (n + 1)) 41) ∧ ∀ i, i < k → g i = .pointer (some ⟨f i, 0, none⟩)) (fun i _ => n - (intOf i).toNat)
      case atStart => exact ⟨0, fun _ => .pointer none, Nat.zero_le _, rfl, rfl, fun i hi => by omega⟩
      case round =>
        obtain ⟨k, g, hk, rfl, rfl, hg⟩ := hrel
        have HG : Hid (∀ i, i < k → g i = .pointer (some ⟨f i, 0, none⟩)) := hg
        clear hg
        have hgk := Pt_at g (n + 1) k (by omega)
        by_cases hlt : k < n
        · obtain rfl := hcc (by omega)
          have hpt := hcols.ptr k hlt
          have hrow := World.block_lt_of_cell? _ _ hpt
          go_wp2
          go_roundw
          case rel =>
            refine ⟨k + 1, _, by omega, by go_num, by rw [Pt_set], fun i hi => ?_⟩
            by_cases e : i = k
            · subst e; simp
            · rw [if_neg e]; exact HG.out i (by omega)
          case measure => simp [intOf]; omega
        · have e : k = n := by omega
          subst e
          go_wp2_with fail
          generalize hW : ((w2.alloc (Obj.cells (colCells x) 45)).alloc (Obj.cells ((Pt g (k + 1)).setIfInBounds k (Value.pointer (some { block := w2.heap.size, off := 0 }))) 41)).alloc (Obj.cells #[Value.string { data := #[116] }, Value.slice (some { block := w2.heap.size + 1, off := 0 }) (k + 1) (k + 1), Value.slice none 0 0, Value.bool false, Value.string { data := #[] }] 49) = W4
          obtain ⟨hb4, ht4, hold, hnew⟩ := more_facts hcols HN.out x g HG.out _ (C0 := #[Value.string { data := #[116] }, Value.slice (some { block := w2.heap.size + 1, off := 0 }) (k + 1) (k + 1), Value.slice none 0 0, Value.bool false, Value.string { data := #[] }]) rfl hW.symm
          have ht0 : W4.cell? ⟨tb, 1, none⟩ = some (.slice cc k k) := by rw [hb4.cell (World.block_lt_of_cell? _ _ ht)]; exact ht
          have HB4 : Hid (Below w'.heap.size w' W4) := HB.out.trans (hb4.mono HB.out.size)
          clear hW hb4
          have hsame := ptr_same
          rcases first_or ss q k with hno | ⟨p, hp, hpq, hno⟩
          · refine (column_none tb row k cc ss f q W4 ht0 hcc hold (by omega) hno).mono ?_
            rintro e w5 ⟨rfl, rfl⟩
            by_cases hqx : (q.toList == x.toList) = true
            · go_wp2_with fail
              refine (column_last _ (w2.heap.size + 1) k ss f q x w5 w2.heap.size ht4 hnew (by omega) HN.out hqx hno).mono ?_
              rintro e w6 ⟨rfl, rfl⟩
              go_wp2
              go_ret
              exact ⟨rfl, HB4.out⟩
            · have hqx' : (q.toList == x.toList) = false := by simpa using hqx
              clear hqx
              go_wp2_with fail
              refine (column_none _ (w2.heap.size + 1) (k + 1) _ (ss ++ [x]) _ q w5 ht4 (fun _ => rfl) hnew (by omega) (notin_more HN.out hqx' hno)).mono ?_
              rintro e w6 ⟨rfl, rfl⟩
              go_wp2
              go_ret
              exact ⟨rfl, HB4.out⟩
          · have HPQ : Hid (nm ss p = q.toList) := hpq
            clear hpq
            refine (column_some tb row k cc ss f q p W4 ht0 hcc hold (by omega) hp HPQ.out hno).mono ?_
            rintro e w5 ⟨rfl, rfl⟩
            go_wp2_with fail
            refine (column_early _ (w2.heap.size + 1) k ss f q x w5 w2.heap.size p ht4 hnew (by omega) HN.out hp HPQ.out hno).mono ?_
            rintro e w6 ⟨rfl, rfl⟩
            go_wp2
            go_ret
            exact ⟨rfl, HB4.out⟩

end Go.Proofs.Qxb6001838aMods

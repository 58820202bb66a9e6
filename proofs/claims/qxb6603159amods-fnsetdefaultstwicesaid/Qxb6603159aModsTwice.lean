/-
  SEAT b6603159aM: the walk of FnSetDefaultsTwice.
-/
import Derived.Test.Qxb6603159aModsSet
namespace Go.Proofs.Qxb6603159aMods
open Go.RowKit
set_option linter.unusedVariables false

/-- The bound on lengths: it answers some bool. -/
theorem bytes_any (a0 a1 a2 a3 a4 a5 a6 a7 : ByteArray) (b : Bool) (w : World) :
    Calls Trym.prog 4 #[.string a0, .string a1, .string a2, .string a3, .string a4, .string a5, .string a6, .string a7, .bool b] w fun e w' => (∃ b, e = .returned (.bool b)) ∧ w' = w := by
  go_enter Trym.func4, Trym.ntmps4
  go_wp2
  all_goals (go_ret; exact ⟨⟨_, rfl⟩, rfl⟩)

/-- The eight names as a function of the place. -/
def names (a0 a1 a2 a3 a4 a5 a6 a7 : ByteArray) : Nat → ByteArray
  | 0 => a0
  | 1 => a1
  | 2 => a2
  | 3 => a3
  | 4 => a4
  | 5 => a5
  | 6 => a6
  | _ => a7
theorem names_row (a0 a1 a2 a3 a4 a5 a6 a7 : ByteArray) (b : Bool) (i : Nat) (h : i < 9) :
    (#[Value.string a0, .string a1, .string a2, .string a3, .string a4, .string a5, .string a6, .string a7, .bool b] : Array Value)[i]? = some (rowF (names a0 a1 a2 a3 a4 a5 a6 a7) b i) := by
  match i, h with
  | 0, _ => rfl
  | 1, _ => rfl
  | 2, _ => rfl
  | 3, _ => rfl
  | 4, _ => rfl
  | 5, _ => rfl
  | 6, _ => rfl
  | 7, _ => rfl
  | 8, _ => rfl
  | n + 9, h => exact absurd h (by omega)

set_option maxHeartbeats 4000000 in
set_option maxRecDepth 100000 in
theorem twice_main (a0 a1 a2 a3 a4 a5 a6 a7 : ByteArray) (b : Bool) (w : World) (h : a0.size + a1.size + a2.size + a3.size + a4.size + a5.size + a6.size + a7.size ≤ 1048576) :
    Calls Trym.prog 3 #[.string a0, .string a1, .string a2, .string a3, .string a4, .string a5, .string a6, .string a7, .bool b] w fun e w' => e = .returned (.bool true) ∧ Grown w w' := by
  go_enter Trym.func3, Trym.ntmps3
  go_wp2_with fail
  refine (bytes_any a0 a1 a2 a3 a4 a5 a6 a7 b w).mono ?_
  rintro e w' ⟨⟨r, rfl⟩, rfl⟩
  cases r
  · go_wp2
    go_ret
    exact ⟨rfl, Grown.refl _⟩
  go_wp2_with fail
  obtain ⟨f, hf⟩ : ∃ f, f = names a0 a1 a2 a3 a4 a5 a6 a7 := ⟨_, rfl⟩
  have hr0 : (w'.alloc (.cells #[.string a0, .string a1, .string a2, .string a3, .string a4, .string a5, .string a6, .string a7, .bool b] 24)).rowIs w'.heap.size 24 9 (rowF f b) := by
    rw [hf]
    exact World.rowIs_alloc w' _ 24 _ (fun i hi => names_row a0 a1 a2 a3 a4 a5 a6 a7 b i hi)
  have H1 := set_any w'.heap.size f b _ hr0
  clear hr0 hf
  refine H1.mono ?_
  rintro e w1 ⟨rfl, hr1, hs1⟩
  have g1 : Grown w' w1 := hs1.1 w' ((Grown.refl w').alloc _ _) (Nat.le_refl _)
  obtain ⟨bb, hbb⟩ : ∃ bb, bb = (f 5).toList.isEmpty := ⟨_, rfl⟩
  rw [← hbb] at hr1
  obtain ⟨d0, hd0⟩ : ∃ d, d = dflt f 8 0 := ⟨_, rfl⟩
  obtain ⟨d1, hd1⟩ : ∃ d, d = dflt f 8 1 := ⟨_, rfl⟩
  obtain ⟨d2, hd2⟩ : ∃ d, d = dflt f 8 2 := ⟨_, rfl⟩
  obtain ⟨d3, hd3⟩ : ∃ d, d = dflt f 8 3 := ⟨_, rfl⟩
  obtain ⟨d4, hd4⟩ : ∃ d, d = dflt f 8 4 := ⟨_, rfl⟩
  obtain ⟨d5, hd5⟩ : ∃ d, d = dflt f 8 5 := ⟨_, rfl⟩
  obtain ⟨d6, hd6⟩ : ∃ d, d = dflt f 8 6 := ⟨_, rfl⟩
  obtain ⟨d7, hd7⟩ : ∃ d, d = dflt f 8 7 := ⟨_, rfl⟩
  have k0 : w1.cell? ⟨w'.heap.size, 0, none⟩ = some (.string d0) := by rw [hd0]; exact hr1.cell (by omega)
  have k1 : w1.cell? ⟨w'.heap.size, 1, none⟩ = some (.string d1) := by rw [hd1]; exact hr1.cell (by omega)
  have k2 : w1.cell? ⟨w'.heap.size, 2, none⟩ = some (.string d2) := by rw [hd2]; exact hr1.cell (by omega)
  have k3 : w1.cell? ⟨w'.heap.size, 3, none⟩ = some (.string d3) := by rw [hd3]; exact hr1.cell (by omega)
  have k4 : w1.cell? ⟨w'.heap.size, 4, none⟩ = some (.string d4) := by rw [hd4]; exact hr1.cell (by omega)
  have k5 : w1.cell? ⟨w'.heap.size, 5, none⟩ = some (.string d5) := by rw [hd5]; exact hr1.cell (by omega)
  have k6 : w1.cell? ⟨w'.heap.size, 6, none⟩ = some (.string d6) := by rw [hd6]; exact hr1.cell (by omega)
  have k7 : w1.cell? ⟨w'.heap.size, 7, none⟩ = some (.string d7) := by rw [hd7]; exact hr1.cell (by omega)
  have k8 : w1.cell? ⟨w'.heap.size, 8, none⟩ = some (.bool bb) := hr1.cell (by omega)
  have e0 : d0.toList.isEmpty = false := by rw [hd0]; exact dflt_full f 0 (by omega)
  have e1 : d1.toList.isEmpty = false := by rw [hd1]; exact dflt_full f 1 (by omega)
  have e2 : d2.toList.isEmpty = false := by rw [hd2]; exact dflt_full f 2 (by omega)
  have e3 : d3.toList.isEmpty = false := by rw [hd3]; exact dflt_full f 3 (by omega)
  have e4 : d4.toList.isEmpty = false := by rw [hd4]; exact dflt_full f 4 (by omega)
  have e5 : d5.toList.isEmpty = false := by rw [hd5]; exact dflt_full f 5 (by omega)
  have e6 : d6.toList.isEmpty = false := by rw [hd6]; exact dflt_full f 6 (by omega)
  have e7 : d7.toList.isEmpty = false := by rw [hd7]; exact dflt_full f 7 (by omega)
  have D0 : Hid (d0 = dflt f 8 0) := hd0
  have D1 : Hid (d1 = dflt f 8 1) := hd1
  have D2 : Hid (d2 = dflt f 8 2) := hd2
  have D3 : Hid (d3 = dflt f 8 3) := hd3
  have D4 : Hid (d4 = dflt f 8 4) := hd4
  have D5 : Hid (d5 = dflt f 8 5) := hd5
  have D6 : Hid (d6 = dflt f 8 6) := hd6
  have D7 : Hid (d7 = dflt f 8 7) := hd7
  clear hd0 hd1 hd2 hd3 hd4 hd5 hd6 hd7
  have l1 : w'.heap.size < w1.heap.size := hr1.lt
  clear H1 hs1 hbb
  go_wp2_with fail
  have H2 := set_any w'.heap.size (dflt f 8) bb (w1.alloc (.cells #[.string d0, .string d1, .string d2, .string d3, .string d4, .string d5, .string d6, .string d7, .bool bb] 24)) (hr1.alloc _)
  clear hr1
  refine H2.mono ?_
  rintro e w2 ⟨rfl, hr2, hs2⟩
  have g2 : Grown w' w2 := hs2.1 w' (g1.alloc _ _) (Nat.le_refl _)
  have hfb : w2.heap[w1.heap.size]? = (w1.alloc (.cells #[.string d0, .string d1, .string d2, .string d3, .string d4, .string d5, .string d6, .string d7, .bool bb] 24)).heap[w1.heap.size]? := hs2.2.1 w1.heap.size (by simp) (by omega)
  have m0 : w2.cell? ⟨w'.heap.size, 0, none⟩ = some (.string d0) := by rw [D0.out, ← dflt_twice f 0 (by omega)]; exact hr2.cell (by omega)
  have m1 : w2.cell? ⟨w'.heap.size, 1, none⟩ = some (.string d1) := by rw [D1.out, ← dflt_twice f 1 (by omega)]; exact hr2.cell (by omega)
  have m2 : w2.cell? ⟨w'.heap.size, 2, none⟩ = some (.string d2) := by rw [D2.out, ← dflt_twice f 2 (by omega)]; exact hr2.cell (by omega)
  have m3 : w2.cell? ⟨w'.heap.size, 3, none⟩ = some (.string d3) := by rw [D3.out, ← dflt_twice f 3 (by omega)]; exact hr2.cell (by omega)
  have m4 : w2.cell? ⟨w'.heap.size, 4, none⟩ = some (.string d4) := by rw [D4.out, ← dflt_twice f 4 (by omega)]; exact hr2.cell (by omega)
  have m5 : w2.cell? ⟨w'.heap.size, 5, none⟩ = some (.string d5) := by rw [D5.out, ← dflt_twice f 5 (by omega)]; exact hr2.cell (by omega)
  have m6 : w2.cell? ⟨w'.heap.size, 6, none⟩ = some (.string d6) := by rw [D6.out, ← dflt_twice f 6 (by omega)]; exact hr2.cell (by omega)
  have m7 : w2.cell? ⟨w'.heap.size, 7, none⟩ = some (.string d7) := by rw [D7.out, ← dflt_twice f 7 (by omega)]; exact hr2.cell (by omega)
  have m8 : w2.cell? ⟨w'.heap.size, 8, none⟩ = some (.bool false) := by
    have := hr2.cell (i := 8) (by omega)
    rw [this]
    show some (Value.bool (dflt f 8 5).toList.isEmpty) = _
    rw [← D5.out, e5]
  have f0 : w2.cell? ⟨w1.heap.size, 0, none⟩ = some (.string d0) := by rw [World.cell?_of_block (w := w1.alloc (.cells #[.string d0, .string d1, .string d2, .string d3, .string d4, .string d5, .string d6, .string d7, .bool bb] 24)) hfb]; simp
  have f1 : w2.cell? ⟨w1.heap.size, 1, none⟩ = some (.string d1) := by rw [World.cell?_of_block (w := w1.alloc (.cells #[.string d0, .string d1, .string d2, .string d3, .string d4, .string d5, .string d6, .string d7, .bool bb] 24)) hfb]; simp
  have f2 : w2.cell? ⟨w1.heap.size, 2, none⟩ = some (.string d2) := by rw [World.cell?_of_block (w := w1.alloc (.cells #[.string d0, .string d1, .string d2, .string d3, .string d4, .string d5, .string d6, .string d7, .bool bb] 24)) hfb]; simp
  have f3 : w2.cell? ⟨w1.heap.size, 3, none⟩ = some (.string d3) := by rw [World.cell?_of_block (w := w1.alloc (.cells #[.string d0, .string d1, .string d2, .string d3, .string d4, .string d5, .string d6, .string d7, .bool bb] 24)) hfb]; simp
  have f4 : w2.cell? ⟨w1.heap.size, 4, none⟩ = some (.string d4) := by rw [World.cell?_of_block (w := w1.alloc (.cells #[.string d0, .string d1, .string d2, .string d3, .string d4, .string d5, .string d6, .string d7, .bool bb] 24)) hfb]; simp
  have f5 : w2.cell? ⟨w1.heap.size, 5, none⟩ = some (.string d5) := by rw [World.cell?_of_block (w := w1.alloc (.cells #[.string d0, .string d1, .string d2, .string d3, .string d4, .string d5, .string d6, .string d7, .bool bb] 24)) hfb]; simp
  have f6 : w2.cell? ⟨w1.heap.size, 6, none⟩ = some (.string d6) := by rw [World.cell?_of_block (w := w1.alloc (.cells #[.string d0, .string d1, .string d2, .string d3, .string d4, .string d5, .string d6, .string d7, .bool bb] 24)) hfb]; simp
  have f7 : w2.cell? ⟨w1.heap.size, 7, none⟩ = some (.string d7) := by rw [World.cell?_of_block (w := w1.alloc (.cells #[.string d0, .string d1, .string d2, .string d3, .string d4, .string d5, .string d6, .string d7, .bool bb] 24)) hfb]; simp
  clear H2 hr2 hs2 hfb k0 k1 k2 k3 k4 k5 k6 k7 k8 g1
  go_wp2
  go_ret
  exact ⟨rfl, g2⟩

set_option maxHeartbeats 4000000 in
set_option maxRecDepth 100000 in
/-- Too many bytes: the law says nothing. -/
theorem twice_early (a0 a1 a2 a3 a4 a5 a6 a7 : ByteArray) (b : Bool) (w : World) (h : 1048576 < a0.size + a1.size + a2.size + a3.size + a4.size + a5.size + a6.size + a7.size) :
    Calls Trym.prog 3 #[.string a0, .string a1, .string a2, .string a3, .string a4, .string a5, .string a6, .string a7, .bool b] w fun e w' => e = .returned (.bool true) ∧ Grown w w' := by
  go_enter Trym.func3, Trym.ntmps3
  go_wp2_with fail
  refine (bytes_any a0 a1 a2 a3 a4 a5 a6 a7 b w).mono ?_
  rintro e w' ⟨⟨r, rfl⟩, rfl⟩
  cases r
  · go_wp2
    go_ret
    exact ⟨rfl, Grown.refl _⟩
  go_wp2_with fail
  all_goals first | (exfalso; omega) | (go_ret; exact ⟨rfl, Grown.refl _⟩)
end Go.Proofs.Qxb6603159aMods

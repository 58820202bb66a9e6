/-
  SEAT b6603159aM: the contract of SetDefaults.
-/
import Derived.Test.Qxb6603159aModsRows
import Derived.WalkKit
import Derived.WalkSpells
import Derived.Deep.OwnRows
import Derived.Deep.RegionHeld3
namespace Go.Proofs.Qxb6603159aMods
open Go.RowKit
set_option linter.unusedVariables false

/-- The eight keys. -/
def keyB : Nat → ByteArray
  | 0 => ⟨#[105, 100]⟩
  | 1 => ⟨#[97, 103, 103, 114, 101, 103, 97, 116, 101, 95, 116, 121, 112, 101]⟩
  | 2 => ⟨#[97, 103, 103, 114, 101, 103, 97, 116, 101, 95, 105, 100]⟩
  | 3 => ⟨#[101, 118, 101, 110, 116, 95, 116, 121, 112, 101]⟩
  | 4 => ⟨#[112, 97, 121, 108, 111, 97, 100]⟩
  | 5 => ⟨#[99, 114, 101, 97, 116, 101, 100, 95, 97, 116]⟩
  | 6 => ⟨#[115, 101, 113]⟩
  | _ => ⟨#[112, 117, 98, 108, 105, 115, 104, 101, 100, 95, 97, 116]⟩

/-- A name that is empty takes its key; of the first k names. -/
def dflt (f : Nat → ByteArray) (k j : Nat) : ByteArray := if j < k ∧ (f j).toList.isEmpty = true then keyB j else f j
theorem dflt_zero (f : Nat → ByteArray) (j : Nat) : dflt f 0 j = f j := by simp [dflt]
theorem dflt_at (f : Nat → ByteArray) (k : Nat) : dflt f k k = f k := by simp [dflt]
theorem dflt_hit {f : Nat → ByteArray} {k : Nat} (h : (f k).toList.isEmpty = true) (j : Nat) : dflt f (k + 1) j = if j = k then keyB k else dflt f k j := by
  unfold dflt
  by_cases e : j = k
  · subst e; rw [if_pos ⟨by omega, h⟩, if_pos rfl]
  · rw [if_neg e]
    by_cases e2 : j < k
    · have e3 : j < k + 1 := by omega
      simp [e2, e3]
    · have e3 : ¬ j < k + 1 := by omega
      simp [e2, e3]
theorem dflt_miss {f : Nat → ByteArray} {k : Nat} (h : (f k).toList.isEmpty = false) (j : Nat) : dflt f (k + 1) j = dflt f k j := by
  unfold dflt
  by_cases e : j = k
  · subst e; rw [if_neg (by simp [h]), if_neg (by simp)]
  · by_cases e2 : j < k
    · have e3 : j < k + 1 := by omega
      simp [e2, e3]
    · have e3 : ¬ j < k + 1 := by omega
      simp [e2, e3]
theorem keyB_full (j : Nat) : (keyB j).toList.isEmpty = false := by
  unfold keyB
  split <;> (rw [ByteArray.toList_eq]; rfl)
theorem dflt_full (f : Nat → ByteArray) (j : Nat) (h : j < 8) : (dflt f 8 j).toList.isEmpty = false := by
  unfold dflt
  split
  · exact keyB_full j
  · rename_i hn
    simpa [h] using hn
theorem dflt_twice (f : Nat → ByteArray) (j : Nat) (h : j < 8) : dflt (dflt f 8) 8 j = dflt f 8 j := by
  show (if j < 8 ∧ (dflt f 8 j).toList.isEmpty = true then keyB j else dflt f 8 j) = dflt f 8 j
  rw [if_neg]
  rw [dflt_full f j h]
  simp

/-- The struct's nine cells. -/
def rowF (f : Nat → ByteArray) (b : Bool) : Nat → Value := fun j => if j < 8 then .string (f j) else .bool b
/-- The table's sixteen cells. -/
def tabF (g : Nat) : Nat → Value := fun j => if j % 2 = 0 then .pointer (some ⟨g, j / 2, none⟩) else .string (keyB (j / 2))

/-- What a call does that writes the struct at block g and new blocks alone. -/
def Step (g : Nat) (w w' : World) : Prop :=
  (∀ W, Grown W w → W.heap.size ≤ g → Grown W w') ∧ (∀ k, k < w.heap.size → k ≠ g → w'.heap[k]? = w.heap[k]?) ∧ w.heap.size ≤ w'.heap.size
theorem Step.refl (g : Nat) (w : World) : Step g w w := ⟨fun _ h _ => h, fun _ _ _ => rfl, Nat.le_refl _⟩
theorem Step.alloc {g : Nat} {w w' : World} (h : Step g w w') (c : Array Value) (t : TypeId) : Step g w (w'.alloc (.cells c t)) :=
  ⟨fun W hW hg => (h.1 W hW hg).alloc c t, fun k hk hne => (Below.heap_alloc _ _ _ (by have := h.2.2; omega)).trans (h.2.1 k hk hne), by have := h.2.2; simp; omega⟩
theorem Step.setCell {g : Nat} {w w' : World} (h : Step g w w') (o : Nat) (v : Value) : Step g w (w'.setCell ⟨g, o, none⟩ v) :=
  ⟨fun W hW hg => (h.1 W hW hg).setCell hg v, fun k hk hne => (Below.heap_setCell _ _ _ _ hne).trans (h.2.1 k hk hne), by simpa [World.setCell] using h.2.2⟩
theorem Step.drew {g : Nat} {w w' : World} (h : Step g w w') : Step g w w'.drew := h

theorem tab_laid (g : Nat) (i : Nat) (h : i < 16) :
    (#[Value.pointer (some ⟨g, 0, none⟩), Value.string ⟨#[105, 100]⟩, Value.pointer (some ⟨g, 1, none⟩), Value.string ⟨#[97, 103, 103, 114, 101, 103, 97, 116, 101, 95, 116, 121, 112, 101]⟩, Value.pointer (some ⟨g, 2, none⟩), Value.string ⟨#[97, 103, 103, 114, 101, 103, 97, 116, 101, 95, 105, 100]⟩, Value.pointer (some ⟨g, 3, none⟩), Value.string ⟨#[101, 118, 101, 110, 116, 95, 116, 121, 112, 101]⟩, Value.pointer (some ⟨g, 4, none⟩), Value.string ⟨#[112, 97, 121, 108, 111, 97, 100]⟩, Value.pointer (some ⟨g, 5, none⟩), Value.string ⟨#[99, 114, 101, 97, 116, 101, 100, 95, 97, 116]⟩, Value.pointer (some ⟨g, 6, none⟩), Value.string ⟨#[115, 101, 113]⟩, Value.pointer (some ⟨g, 7, none⟩), Value.string ⟨#[112, 117, 98, 108, 105, 115, 104, 101, 100, 95, 97, 116]⟩] : Array Value)[i]? = some (tabF g i) := by
  match i, h with
  | 0, _ => rfl
  | 1, _ => rfl
  | 2, _ => rfl
  | 3, _ => rfl
  | 4, _ => rfl
  | 5, _ => rfl
  | 6, _ => rfl
  | 7, _ => rfl
  | 8, _ => rfl
  | 9, _ => rfl
  | 10, _ => rfl
  | 11, _ => rfl
  | 12, _ => rfl
  | 13, _ => rfl
  | 14, _ => rfl
  | 15, _ => rfl
  | n + 16, h => exact absurd h (by omega)

set_option maxHeartbeats 1000000 in
set_option maxRecDepth 100000 in
theorem set_any (g : Nat) (f : Nat → ByteArray) (b : Bool) (w : World) (hrow : w.rowIs g 24 9 (rowF f b)) :
    Calls Trym.prog 5 #[.pointer (some ⟨g, 0, none⟩)] w fun e w' => e = .returned (.tuple #[]) ∧ w'.rowIs g 24 9 (rowF (dflt f 8) (f 5).toList.isEmpty) ∧ Step g w w' := by
  have h5 : w.cell? ⟨g, 5, none⟩ = some (.string (f 5)) := hrow.cell (by omega)
  have h8 : w.cell? ⟨g, 8, none⟩ = some (.bool b) := hrow.cell (by omega)
  have z8 := hrow.frozen 8
  go_enter Trym.func5, Trym.ntmps5
  go_wp2
  go_region_held3 (fun w' => True) (go_keep) (fail)
  go_wp2
  clear h5 h8 z8
  go_loopw [46] (fun i wr => ∃ k : Nat, k ≤ 8 ∧ i = .int .i64 k ∧ wr.rowIs g 24 9 (rowF (dflt f k) (f 5).toList.isEmpty) ∧ wr.rowIs w.heap.size 27 16 (tabF g) ∧ Step g w wr) (fun i _ => 8 - (intOf i).toNat)
  case atStart =>
    refine ⟨0, Nat.zero_le _, rfl, ?_, ?_, (((Step.refl g w).setCell _ _).alloc _ _).drew⟩
    · refine ((((hrow.set 8 _).alloc _).drew).congr fun j hj => ?_)
      unfold rowF
      by_cases e : j = 8
      · subst e; rfl
      · rw [if_neg e, if_pos (by omega), if_pos (by omega), dflt_zero]
    · have e : w.heap.size = (w.setCell ⟨g, 8, none⟩ (.bool (f 5).toList.isEmpty)).heap.size := by simp [World.setCell]
      rw [e]
      exact (World.rowIs_alloc _ _ 27 (tabF g) (fun i hi => tab_laid g i hi)).drew
  case round =>
    obtain ⟨k, hk, rfl, hr, ht, hst⟩ := hrel
    by_cases hlt : k < 8
    · obtain ⟨sv, hsv⟩ : ∃ sv, sv = f k := ⟨_, rfl⟩
      have hgl : g < wr.heap.size := hr.lt
      have c0 : wr.cell? ⟨g, k, none⟩ = some (.string sv) := by
        rw [hr.cell (by omega)]
        unfold rowF
        rw [if_pos hlt, dflt_at, hsv]
      have z0 := hr.frozen k
      have t0 : wr.cell? ⟨w.heap.size, k * 2, none⟩ = some (.pointer (some ⟨g, k, none⟩)) := by
        rw [ht.cell (by omega)]
        simp [tabF]
      have t1 : wr.cell? ⟨w.heap.size, k * 2 + 1, none⟩ = some (.string (keyB k)) := by
        rw [ht.cell (by omega)]
        have e2 : (k * 2 + 1) / 2 = k := by omega
        simp [tabF, e2]
      obtain ⟨kv, hkv⟩ : ∃ kv, kv = keyB k := ⟨_, rfl⟩
      rw [← hkv] at t1
      have HK : Hid (kv = keyB k) := hkv
      have HS : Hid (sv = f k) := hsv
      clear hkv hsv
      have hne : w.heap.size ≠ g := by have := hrow.lt; omega
      have HR : Hid (wr.rowIs g 24 9 (rowF (dflt f k) (f 5).toList.isEmpty)) := hr
      have HT : Hid (wr.rowIs w.heap.size 27 16 (tabF g)) := ht
      have HST : Hid (Step g w wr) := hst
      clear hr ht hst
      by_cases he : sv.toList.isEmpty = true
      · go_wp2
        go_roundw
        case rel =>
          refine ⟨k + 1, by omega, by go_num, ?_, (HT.out.setOther hne _).alloc _, (HST.out.setCell _ _).alloc _ _⟩
          refine ((HR.out.set k _).alloc _).congr fun j hj => ?_
          have hh := dflt_hit (f := f) (k := k) (by rw [← HS.out]; exact he) j
          unfold rowF
          rw [hh]
          by_cases e : j = k
          · subst e; rw [if_pos rfl, if_pos hlt, if_pos rfl, HK.out]
          · rw [if_neg e, if_neg e]
        case measure => simp [intOf]; omega
      · have he' : sv.toList.isEmpty = false := by simpa using he
        clear he
        go_wp2
        go_roundw
        case rel =>
          refine ⟨k + 1, by omega, by go_num, ?_, HT.out.alloc _, HST.out.alloc _ _⟩
          refine (HR.out.alloc _).congr fun j hj => ?_
          unfold rowF
          rw [dflt_miss (by rw [← HS.out]; exact he')]
        case measure => simp [intOf]; omega
    · have e8 : k = 8 := by omega
      subst e8
      go_wp2
      go_end0
      exact ⟨rfl, hr, hst⟩
end Go.Proofs.Qxb6603159aMods

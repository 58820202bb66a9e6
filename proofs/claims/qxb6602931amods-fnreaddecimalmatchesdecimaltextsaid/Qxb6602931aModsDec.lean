/-
  SEAT b6602931aM: zzDec: the decimal text of a number, in new memory.
-/
import Derived.Test.Qxb6602931aModsRead
namespace Go.Proofs.Qxb6602931aMods
open Go.RowKit
set_option linter.unusedVariables false

/-- The buffer of twenty, its tail the digits S that are laid so far, from place k on. -/
def bufF (k : Nat) (S : List Int) : Nat → Value := fun j => .int .u8 (if j < k then 0 else S.getD (j - k) 0)
theorem bufF_step (k : Nat) (S : List Int) (c : Int) (j : Nat) : (if j = k then Value.int .u8 c else bufF (k + 1) S j) = bufF k (c :: S) j := by
  unfold bufF
  by_cases e : j = k
  · subst e; simp
  · rw [if_neg e]
    by_cases e2 : j < k
    · rw [if_pos (by omega), if_pos e2]
    · rw [if_neg (by omega), if_neg e2]
      obtain ⟨d, rfl⟩ : ∃ d, j = k + 1 + d := ⟨j - (k + 1), by omega⟩
      have e3 : k + 1 + d - k = d + 1 := by omega
      rw [e3, List.getD_cons_succ]
      simp
theorem bufF_start (j : Nat) : bufF 20 [] j = .int .u8 0 := by
  unfold bufF; split <;> simp

theorem zeros20 (i : Nat) (h : i < 20) : (#[Value.int .u8 0, .int .u8 0, .int .u8 0, .int .u8 0, .int .u8 0, .int .u8 0, .int .u8 0, .int .u8 0, .int .u8 0, .int .u8 0, .int .u8 0, .int .u8 0, .int .u8 0, .int .u8 0, .int .u8 0, .int .u8 0, .int .u8 0, .int .u8 0, .int .u8 0, .int .u8 0] : Array Value)[i]? = some (.int .u8 0) := by
  have e : (#[Value.int .u8 0, .int .u8 0, .int .u8 0, .int .u8 0, .int .u8 0, .int .u8 0, .int .u8 0, .int .u8 0, .int .u8 0, .int .u8 0, .int .u8 0, .int .u8 0, .int .u8 0, .int .u8 0, .int .u8 0, .int .u8 0, .int .u8 0, .int .u8 0, .int .u8 0, .int .u8 0] : Array Value) = Array.replicate 20 (Value.int .u8 0) := rfl
  rw [e]
  simp [h]

set_option maxHeartbeats 400000 in
theorem dec_any (U : Int) (w : World) (h0 : 0 ≤ U) (h1 : U ≤ 18446744073709551615) :
    Calls Trym.prog 19 #[.int .u64 U] w fun e w' => ∃ S : List Int, e = .returned (.slice (some ⟨w.heap.size + 1, 0, none⟩) S.length S.length) ∧ Plain.AllDig S ∧ Plain.Canon S ∧ Plain.val S = U ∧ S.length ≤ 20 ∧
      w'.rowIs (w.heap.size + 1) 5 S.length (fun i => .int .u8 (S.getD i 0)) ∧ Below w.heap.size w w' := by
  go_enter Trym.func19, Trym.ntmps19
  go_wp2
  go_loopw [0, 4] (fun v i wr => ∃ (k : Nat) (u : Int) (S : List Int), v = .int .u64 u ∧ i = .int .i64 ((k + 1 : Nat) : Int) ∧ 0 ≤ u ∧ u ≤ U ∧ Hid (k + 1 + S.length = 20) ∧ k < 20 ∧ Plain.DecAt U u S ∧ wr.rowIs w.heap.size 34 20 (bufF (k + 1) S) ∧ wr.heap.size = w.heap.size + 1 ∧ Below w.heap.size w wr) (fun _ i _ => (intOf i).toNat)
  case atStart =>
    refine ⟨19, U, [], rfl, rfl, h0, Int.le_refl _, rfl, by omega, Plain.decAt_start h0, (World.rowIs_alloc w _ 34 _ ?_), by simp, (Below.refl _ _).alloc (Nat.le_refl _) _⟩
    intro i hi
    rw [bufF_start]
    exact zeros20 i hi
  case round =>
    obtain ⟨k, u, S, rfl, rfl, hu0, hu1, HK, hk, hD, hrow, hsz, hb⟩ := hrel
    have ht : wr.cell? ⟨w.heap.size, k, none⟩ = some (.int .u8 0) := by rw [hrow.cell (by omega)]; simp [bufF]
    have hf := hrow.frozen k
    by_cases hq : u / 10 = 0
    · have hq' : (u / 10 == 0) = true := by simpa using hq
      have HL : Hid (Plain.AllDig ((48 + u % 10) :: S) ∧ Plain.Canon ((48 + u % 10) :: S) ∧ Plain.val ((48 + u % 10) :: S) = U) := Plain.decAt_last hD hq
      have hrow' : (wr.setCell ⟨w.heap.size, k, none⟩ (.int .u8 (48 + u % 10))).rowIs w.heap.size 34 20 (bufF k ((48 + u % 10) :: S)) := (hrow.set k _).congr (fun j hj => bufF_step k S _ j)
      have hb' : Below w.heap.size w (wr.setCell ⟨w.heap.size, k, none⟩ (.int .u8 (48 + u % 10))) := hb.setCell (Nat.le_refl _) _
      obtain ⟨m, hm⟩ : ∃ m, m = S.length + 1 := ⟨_, rfl⟩
      have hmk20 : k + m = 20 := by have := HK.out; omega
      have ek : (20 - (k : Int)) = ((m : Nat) : Int) := by omega
      have hmk : ∀ w, (Instr.makeSlice 22 (.int .i64 (20 - (k : Int))) (.int .i64 (20 - (k : Int)))).run Trym.prog w = .ok (.slice (some ⟨w.heap.size, 0, none⟩) m m) (w.alloc (.cells (madeCells #[.int .u8 0] m) 5)) := by
        rw [ek]
        exact run_make_row' (P := Trym.prog) 22 5 (.int .u8 0) 1 Trym.underlying22 Trym.info5 rfl .i64 .i64 m (by omega) (by omega)
      have HM : Hid (m = S.length + 1) := hm
      have HK2 : Hid (k + m = 20) := hmk20
      have hkm : k + m ≤ 20 := by omega
      have hkm' : 20 ≤ k + m := by omega
      clear hq hm hmk20 ek hD
      obtain ⟨T, hT⟩ : ∃ T, T = (48 + u % 10) :: S := ⟨_, rfl⟩
      have HT : Hid (Plain.AllDig T ∧ Plain.Canon T ∧ Plain.val T = U ∧ T.length = m) := by
        rw [hT]
        exact ⟨HL.out.1, HL.out.2.1, HL.out.2.2, by simp; exact HM.out.symm⟩
      rw [← hT] at hrow'
      clear HL HM hT hrow hb
      obtain ⟨wo, hwo⟩ : ∃ wo, wo = wr := ⟨_, rfl⟩
      subst hwo
      go_wp2
      go_loopw [6] (fun i wr => ∃ j : Nat, j ≤ m ∧ i = .int .i64 j ∧ wr.rowIs w.heap.size 34 20 (bufF k T) ∧ wr.rowIs (w.heap.size + 1) 5 m (fun i => .int .u8 (if i < j then T.getD i 0 else 0)) ∧ Below w.heap.size w wr) (fun i _ => m - (intOf i).toNat)
      case atStart =>
        refine ⟨0, Nat.zero_le _, rfl, hrow'.alloc _, ?_, hb'.alloc (by simp [hsz]) _⟩
        have := World.rowIs_made (wo.setCell ⟨w.heap.size, k, none⟩ (.int .u8 (48 + u % 10))) (.int .u8 0) m 5
        rw [show (wo.setCell ⟨w.heap.size, k, none⟩ (.int .u8 (48 + u % 10))).heap.size = w.heap.size + 1 by simpa using hsz] at this
        exact this.congr (fun i hi => by simp)
      case round =>
        obtain ⟨j, hj, rfl, hr1, hr2, hb2⟩ := hrel
        by_cases hlt : j < m
        · have hc1 : wr.cell? ⟨w.heap.size, k + j, none⟩ = some (.int .u8 (T.getD j 0)) := by
            rw [hr1.cell (by omega)]
            simp [bufF]
            omega
          have hc2 : wr.cell? ⟨w.heap.size + 1, j, none⟩ = some (.int .u8 0) := by rw [hr2.cell hlt]; simp
          have hf2 := hr2.frozen j
          go_wp2
          go_roundw
          case rel => exact ⟨j + 1, by omega, by go_num, hr1.setOther (by simp) _, (hr2.set j _).congr (fun i hi => fill_step T j i _ (by simp)), hb2.setCell (by simp) _⟩
          case measure => simp [intOf]; omega
        · go_wp2
          go_ret
          refine ⟨T, ?_, HT.out.1, HT.out.2.1, HT.out.2.2.1, ?_, ?_, hb2⟩
          · rw [HT.out.2.2.2]; rfl
          · rw [HT.out.2.2.2]; omega
          · rw [HT.out.2.2.2]
            exact hr2.congr (fun i hi => by rw [if_pos (by omega)])
    · have hq' : (u / 10 == 0) = false := by simpa using hq
      have HL := Plain.decAt_more hD hq
      have hlen := Plain.decAt_len HL h1
      clear hq hD
      go_wp2
      go_roundw
      case rel =>
        have hlen' : S.length + 1 ≤ 19 := by simpa using hlen
        have e : k - 1 + 1 = k := by have := HK.out; omega
        refine ⟨k - 1, u / 10, (48 + u % 10) :: S, rfl, by rw [e], by omega, by omega, ?_, by omega, HL, ?_, by simpa using hsz, hb.setCell (Nat.le_refl _) _⟩
        · have := HK.out
          show k - 1 + 1 + ((48 + u % 10) :: S).length = 20
          simp; omega
        · rw [e]
          exact (hrow.set k _).congr (fun j hj => bufF_step k S _ j)
      case measure => simp [intOf]
end Go.Proofs.Qxb6602931aMods

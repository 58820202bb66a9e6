/-
  SEAT b6602931aM: THE WALK OF THE LAW, out of the contracts.
-/
import Derived.Test.Qxb6602931aModsDec
namespace Go.Proofs.Qxb6602931aMods
open Go.RowKit
set_option linter.unusedVariables false

/-- A cell of a row of the call's own, at the address as a contract has it. -/
theorem row_cell {w : World} {g n : Nat} {f : Nat → Int} (h : w.rowIs g 5 n (fun i => .int .u8 (f i))) {j : Nat} (i : Nat) (hi : j + i < n) : w.cell? ((⟨g, j, none⟩ : Addr).add i) = some (.int .u8 (f (j + i))) := by
  have e : (⟨g, j, none⟩ : Addr).add i = ⟨g, j + i, none⟩ := by
    simp only [Addr.add]
    by_cases h0 : i = 0
    · subst h0; simp
    · simp [h0]
  rw [e]
  exact h.cell hi

theorem drop_getD (zs : List Int) (j i : Nat) : (zs.drop j).getD i 0 = zs.getD (j + i) 0 := by
  simp [List.getD_eq_getElem?_getD]

set_option maxHeartbeats 1000000 in
/-- Some digits: the law's road to its end. -/
theorem law_some (x : Addr) (n cap : Nat) (zs : List Int) (L : Int) (w : World) (hL : 9 ≤ L) (hL2 : L ≤ 18446744073709551615) (hn0 : 0 < n) (hn : n ≤ 65536) (hz : zs.length = n)
    (hw : ∀ i, 0 ≤ zs.getD i 0 ∧ zs.getD i 0 ≤ 255) (hc : ∀ i, i < n → w.cell? (x.add i) = some (.int .u8 (zs.getD i 0))) :
    Calls Trym.prog 6 #[.slice (some x) n cap, .int .u64 L] w fun e w' => e = .returned (.bool true) ∧ Below w.heap.size w w' := by
  have HZ : Hid (zs.length = n) := hz
  have HC : Hid (∀ i, i < n → w.cell? (x.add i) = some (.int .u8 (zs.getD i 0))) := hc
  have HW : Hid (∀ i, 0 ≤ zs.getD i 0 ∧ zs.getD i 0 ≤ 255) := hw
  clear hz hw hc
  go_enter Trym.func6, Trym.ntmps6
  go_wp2_with fail
  refine (bytes_any (some x) n cap L w).mono ?_
  rintro e w' ⟨⟨b, rfl⟩, rfl⟩
  cases b
  · go_wp2
    go_ret
    exact ⟨rfl, Below.refl _ _⟩
  go_wp2_with fail
  refine (clone_any x n cap zs w' (by omega) HC.out).mono ?_
  rintro e w1 ⟨rfl, hrow, hb⟩
  go_wp2_with fail
  refine (zzread_any ⟨w'.heap.size, 0, none⟩ n n zs L w1 hL hL2 hn0 hn HZ.out HW.out (fun i hi => by simpa using row_cell hrow (j := 0) i (by omega))).mono ?_
  obtain ⟨r, hr⟩ : ∃ r, r = Plain.rdV zs L := ⟨_, rfl⟩
  obtain ⟨ok, hok⟩ : ∃ ok, ok = Plain.rdB zs L := ⟨_, rfl⟩
  rw [← hr, ← hok]
  have HR : Hid (r = Plain.rdV zs L) := hr
  have HO : Hid (ok = Plain.rdB zs L) := hok
  clear hr hok
  rintro e w2 ⟨rfl, rfl⟩
  go_wp2
  go_loop [7, 8] (fun v i => ∃ (k : Nat) (vb : Bool), k ≤ n ∧ i = .int .i64 k ∧ v = .bool vb ∧ Hid (vb = Plain.okB zs k)) (fun _ i => n - (intOf i).toNat)
  case atStart => exact ⟨0, true, Nat.zero_le _, rfl, rfl, (Plain.okB_zero zs).symm⟩
  case round =>
    obtain ⟨k, vb, hk, rfl, rfl, HV⟩ := hrel
    by_cases hlt : k < n
    · obtain ⟨c, hcc⟩ : ∃ c, c = zs.getD k 0 := ⟨_, rfl⟩
      have hck : w2.cell? ⟨w'.heap.size, k, none⟩ = some (.int .u8 c) := by rw [hcc]; exact hrow.cell hlt
      have HCC : Hid (c = zs.getD k 0) := hcc
      clear hcc
      by_cases hd : 48 ≤ c ∧ c ≤ 57
      · obtain ⟨hd1, hd2⟩ := hd
        have HN : Hid (vb = Plain.okB zs (k + 1)) := by
          show vb = _
          rw [Plain.okB_good (by rw [HZ.out]; exact hlt) ⟨by rw [← HCC.out]; exact hd1, by rw [← HCC.out]; exact hd2⟩]
          exact HV.out
        go_wp2
        go_round
        case rel => exact ⟨k + 1, vb, by omega, by go_num, rfl, HN⟩
        case measure => simp [intOf]; omega
      · have HN : Hid (false = Plain.okB zs (k + 1)) := by
          show false = _
          rw [Plain.okB_bad (by rw [HZ.out]; exact hlt) (by rw [← HCC.out]; exact hd)]
        by_cases hd1 : c < 48
        · go_wp2
          go_round
          case rel => exact ⟨k + 1, false, by omega, by go_num, rfl, HN⟩
          case measure => simp [intOf]; omega
        · have hd2 : 57 < c := by omega
          go_wp2
          go_round
          case rel => exact ⟨k + 1, false, by omega, by go_num, rfl, HN⟩
          case measure => simp [intOf]; omega
    · rcases Plain.ways HR.out HO.out HV.out (by rw [HZ.out]; omega) (by rw [HZ.out]; exact hn0) with ⟨h1, h2, h3⟩ | ⟨h1, h2, h3, hD, hV⟩ | ⟨h1, h2, h3, hD, hV⟩
      · subst h1 h2 h3
        go_wp2
        go_ret
        exact ⟨rfl, hb⟩
      · subst h1 h2 h3
        clear HR HO HV
        go_wp2_with fail
        refine (strip_any w'.heap.size n zs w2 hn0 hn (fun i hi => hrow.cell hi)).mono ?_
        rintro e w3 ⟨⟨j, HS, rfl⟩, hw3⟩
        subst hw3
        go_wp2_with fail
        refine (dec_any L w3 (by omega) hL2).mono ?_
        rintro e w4 ⟨S, rfl, sD, sC, sV, sL, srow, sb⟩
        obtain ⟨cD, cC, cV⟩ := Plain.strip hD (by rw [HZ.out]; exact HS.1) HS.2.1 (by rw [HZ.out]; exact HS.2.2)
        have hrow4 := hrow.of_block (sb.block _ hrow.lt)
        have H := decLE_any ⟨w'.heap.size, j, none⟩ ⟨w3.heap.size + 1, 0, none⟩ (n - j) S.length (n - j) S.length (zs.drop j) S w4 (by rw [List.length_drop, HZ.out]) rfl (by omega) (by omega)
          (fun i hi => by rw [row_cell hrow4 i (by omega), drop_getD]) (fun i hi => by simpa using row_cell srow (j := 0) i (by omega))
        have hle : Plain.decLE (zs.drop j) S = false := by
          rw [Plain.decLE_val cD sD cC sC, cV, sV]
          exact decide_eq_false (by omega)
        rw [hle] at H
        have hB : Below w'.heap.size w' w4 := hb.trans (sb.mono (Nat.le_of_lt hrow.lt))
        have hlt4 : w'.heap.size ≤ w4.heap.size := hB.size
        clear hle sD sC sV srow cD cC cV hrow4 HS hD hV hrow sb hb
        go_wp2_with fail
        refine H.mono ?_
        rintro e w5 ⟨rfl, hb5⟩
        have hB5 : Below w'.heap.size w' w5 := hB.trans (hb5.mono hlt4)
        clear H hB hb5 hlt4
        go_wp2
        go_ret
        exact ⟨rfl, hB5⟩
      · subst h1 h2
        have H3 : Hid (r = Plain.val zs) := h3
        have hr0 : 0 ≤ r := by rw [h3]; exact (Plain.val_bd hD).1
        have hr1 : r ≤ 18446744073709551615 := by omega
        clear HR HO HV h3
        go_wp2_with fail
        refine (strip_any w'.heap.size n zs w2 hn0 hn (fun i hi => hrow.cell hi)).mono ?_
        rintro e w3 ⟨⟨j, HS, rfl⟩, hw3⟩
        subst hw3
        go_wp2_with fail
        refine (dec_any L w3 (by omega) hL2).mono ?_
        rintro e w4 ⟨S, rfl, sD, sC, sV, sL, srow, sb⟩
        obtain ⟨cD, cC, cV⟩ := Plain.strip hD (by rw [HZ.out]; exact HS.1) HS.2.1 (by rw [HZ.out]; exact HS.2.2)
        have hj : j < n := HS.1
        have hrow4 := hrow.of_block (sb.block _ hrow.lt)
        have H := decLE_any ⟨w'.heap.size, j, none⟩ ⟨w3.heap.size + 1, 0, none⟩ (n - j) S.length (n - j) S.length (zs.drop j) S w4 (by rw [List.length_drop, HZ.out]) rfl (by omega) (by omega)
          (fun i hi => by rw [row_cell hrow4 i (by omega), drop_getD]) (fun i hi => by simpa using row_cell srow (j := 0) i (by omega))
        have hle : Plain.decLE (zs.drop j) S = true := by
          rw [Plain.decLE_val cD sD cC sC, cV, sV]
          exact decide_eq_true hV
        rw [hle] at H
        have hB : Below w'.heap.size w' w4 := hb.trans (sb.mono (Nat.le_of_lt hrow.lt))
        have hlt4 : w'.heap.size < w4.heap.size := hrow4.lt
        have HV3 : Hid (Plain.AllDig (zs.drop j) ∧ Plain.Canon (zs.drop j) ∧ Plain.val (zs.drop j) = r) := ⟨cD, cC, by rw [cV, H3.out]⟩
        have HL5 : Hid ((zs.drop j).length = n - j) := by
          show _ = _
          rw [List.length_drop, HZ.out]
        clear hle sD sC sV srow cD cC cV HS hD hV hrow sb hb H3
        go_wp2_with fail
        refine H.mono ?_
        rintro e w5 ⟨rfl, hb5⟩
        have hB5 : Below w'.heap.size w' w5 := hB.trans (hb5.mono (Nat.le_of_lt hlt4))
        have hrow5 := hrow4.of_block (hb5.block _ hlt4)
        clear H hB hb5 hrow4
        go_wp2_with fail
        refine (dec_any r w5 hr0 hr1).mono ?_
        rintro e w6 ⟨T, rfl, tD, tC, tV, tL, trow, tb⟩
        have hB6 : Below w'.heap.size w' w6 := hB5.trans (tb.mono (Nat.le_of_lt hrow5.lt))
        have hrow6 := hrow5.of_block (tb.block _ hrow5.lt)
        have hTC : T = zs.drop j := Plain.canon_inj tD HV3.out.1 tC HV3.out.2.1 (by rw [tV, HV3.out.2.2])
        have H := bytesEq_any ⟨w5.heap.size + 1, 0, none⟩ ⟨w'.heap.size, j, none⟩ T.length (n - j) T.length (n - j) T (zs.drop j) w6 rfl HL5.out (by omega) (by omega)
          (fun i hi => by simpa using row_cell trow (j := 0) i (by omega)) (fun i hi => by rw [row_cell hrow6 i (by omega), drop_getD])
        have HT : Hid (T = zs.drop j) := hTC
        have hlt6 : w'.heap.size ≤ w6.heap.size := hB6.size
        clear hTC tD tC tV trow tb hrow6 hrow5 hB5
        go_wp2_with fail
        refine H.mono ?_
        rintro e w7 ⟨⟨b, rfl, hbb⟩, hb7⟩
        have hbt : b = true := hbb.2 HT.out
        subst hbt
        have hB7 : Below w'.heap.size w' w7 := hB6.trans (hb7.mono hlt6)
        clear H hB6 hb7 hbb
        go_wp2
        go_ret
        exact ⟨rfl, hB7⟩

/-- No digits, the slice not nil. -/
theorem law_empty (x : Addr) (cap : Nat) (L : Int) (w : World) (hL : 9 ≤ L) :
    Calls Trym.prog 6 #[.slice (some x) 0 cap, .int .u64 L] w fun e w' => e = .returned (.bool true) ∧ Below w.heap.size w w' := by
  go_enter Trym.func6, Trym.ntmps6
  go_wp2_with fail
  refine (bytes_any (some x) 0 cap L w).mono ?_
  rintro e w' ⟨⟨b, rfl⟩, rfl⟩
  cases b
  · go_wp2
    go_ret
    exact ⟨rfl, Below.refl _ _⟩
  go_wp2_with fail
  refine (clone_any x 0 cap [] w' (by omega) (fun i hi => absurd hi (by omega))).mono ?_
  rintro e w1 ⟨rfl, hrow, hb⟩
  go_wp2_with fail
  refine (read_none _ _ L w1).mono ?_
  rintro e w2 ⟨rfl, rfl⟩
  go_wp2
  refine wp_loop_rounds 1 ?_
  rw [rounds_succ]
  go_wp2
  go_ret
  exact ⟨rfl, hb⟩

/-- No digits, the slice nil. -/
theorem law_nil (L : Int) (w : World) (hL : 9 ≤ L) :
    Calls Trym.prog 6 #[.slice none 0 0, .int .u64 L] w fun e w' => e = .returned (.bool true) ∧ Below w.heap.size w w' := by
  go_enter Trym.func6, Trym.ntmps6
  go_wp2_with fail
  refine (bytes_any none 0 0 L w).mono ?_
  rintro e w' ⟨⟨b, rfl⟩, rfl⟩
  cases b
  · go_wp2
    go_ret
    exact ⟨rfl, Below.refl _ _⟩
  go_wp2_with fail
  refine (clone_nil w').mono ?_
  rintro e w1 ⟨rfl, rfl⟩
  go_wp2_with fail
  refine (read_none _ _ L w1).mono ?_
  rintro e w2 ⟨rfl, rfl⟩
  go_wp2
  refine wp_loop_rounds 1 ?_
  rw [rounds_succ]
  go_wp2
  go_ret
  exact ⟨rfl, Below.refl _ _⟩

/-- A limit below nine, or too many digits: the law says nothing. -/
theorem law_early (a : Option Addr) (n cap : Nat) (L : Int) (w : World) (h : L < 9 ∨ 65536 < n) :
    Calls Trym.prog 6 #[.slice a n cap, .int .u64 L] w fun e w' => e = .returned (.bool true) ∧ Below w.heap.size w w' := by
  go_enter Trym.func6, Trym.ntmps6
  go_wp2_with fail
  refine (bytes_any a n cap L w).mono ?_
  rintro e w' ⟨⟨b, rfl⟩, rfl⟩
  cases b
  · go_wp2
    go_ret
    exact ⟨rfl, Below.refl _ _⟩
  by_cases hn : 65536 < n
  · go_wp2
    go_ret
    exact ⟨rfl, Below.refl _ _⟩
  · have hL : L < 9 := by omega
    clear h
    go_wp2
    go_ret
    exact ⟨rfl, Below.refl _ _⟩
end Go.Proofs.Qxb6602931aMods

/-
  SEAT b6602979aM: the walk of FnQuotedRoundTrip, out of the contracts.
-/
import Derived.Test.Qxb6602979aModsQuoted
namespace Go.Proofs.Qxb6602979aMods
open Go.RowKit
set_option linter.unusedVariables false

/-- zzb1Clone, nil or not: what comes back reads as what went in. -/
theorem clone_opt (a : Option Addr) (n cap : Nat) (l : List Int) (w : World) (h : Reads w a n l) (hnil : a = none → n = 0 ∧ cap = 0) (hn : n ≤ 1048576) :
    Calls Trym.prog 6 #[.slice a n cap] w fun e w' => ∃ a', e = .returned (.slice a' n n) ∧ Reads w' a' n l ∧ Below w.heap.size w w' := by
  cases a with
  | none =>
    obtain ⟨rfl, rfl⟩ := hnil rfl
    exact (clone_nil w).mono fun e w' ⟨he, hw⟩ => ⟨none, he, by rw [hw]; exact h, by rw [hw]; exact Below.refl _ _⟩
  | some x =>
    refine (clone_any x n cap l w hn h.cells).mono ?_
    rintro e w' ⟨rfl, hrow, hb⟩
    exact ⟨_, rfl, ⟨h.1, fun i hi => ⟨_, rfl, by rw [addr_plain, Nat.zero_add, hrow.cell hi]⟩⟩, hb⟩

/-- The length bound: it answers some bool. -/
theorem bytes2_any (a0 a1 : Option Addr) (n0 c0 n1 c1 : Nat) (b : Bool) (w : World) :
    Calls Trym.prog 10 #[.slice a0 n0 c0, .slice a1 n1 c1, .bool b] w fun e w' => (∃ b, e = .returned (.bool b)) ∧ w' = w := by
  go_enter Trym.func10, Trym.ntmps10
  go_wp2
  all_goals (go_ret; exact ⟨⟨_, rfl⟩, rfl⟩)

/-- 'make([]byte, 0, C)': a new row that owns nothing, with room for C. -/
theorem run_make0 (C : Nat) (c : Int) (hc : c = (C : Int)) (hC : C ≤ 2097152) (w : World) :
    (Instr.makeSlice 22 (.int .i64 0) (.int .i64 c)).run Trym.prog w = .ok (.slice (some ⟨w.heap.size, 0, none⟩) 0 C) (w.alloc (.cells (madeCells #[.int .u8 0] C) 5)) := by
  obtain ⟨i0, hi, hz0, hz1, hz2⟩ := info_parts Trym.info5
  subst hc
  have hr := run_make (P := Trym.prog) w 22 5 i0 (.int .u8 0) Trym.underlying22 hi hz0 .i64 .i64 0 (C : Int) (by omega) (by omega) (by rw [hz2]; omega) (by omega)
  simpa [hz1, Value.cells] using hr
theorem own_made (w : World) (B C : Nat) (hB : B ≤ w.heap.size) (hC : C ≤ 2097152) : Own (w.alloc (.cells (madeCells #[.int .u8 0] C) 5)) B w.heap.size C [] :=
  World.ownsRow_made w _ C hB (by unfold maxLen; omega) (by simp [size_madeCells])
theorem reads_new_at (w : World) (c : Int) (H : Nat) (h : w.heap.size = H) : Reads (w.alloc (.cells #[.int .u8 c] 5)) (some ⟨H, 0, none⟩) 1 [c] := by
  subst h; exact reads_new w c
theorem Own.caps {w : World} {B g cap : Nat} {l : List Int} (h : Own w B g cap l) : l.length ≤ cap ∧ cap ≤ maxLen := by
  rcases h.2 with ⟨h', _⟩ | ⟨g', cap', cur, h', _, _, h1, h2, _⟩
  · simp at h'
  · simp only [Value.slice.injEq, Option.some.injEq, Addr.mk.injEq, and_true, true_and] at h'
    obtain ⟨rfl, rfl⟩ := h'
    exact ⟨h1, h2⟩
theorem Own.cellsAt {w : World} {B g cap : Nat} {l : List Int} (h : Own w B g cap l) : ∀ i, i < l.length → w.cell? ⟨g, i, none⟩ = some (.int .u8 (l.getD i 0)) := fun i hi => by
  have := h.reads.cells i hi
  rwa [addr_plain, Nat.zero_add] at this
/-- One append more: what is kept below. -/
theorem below_app {B : Nat} {w wr w2 : World} {o : Obj} {g cap : Nat} {l : List Int} (hb : Below B w wr) (hB : B ≤ w.heap.size) (hown : Own wr B g cap l) (hg : (wr.alloc o).grownBy w2 (some g)) : Below B w w2 := by
  have hs := hb.size
  refine (hb.alloc (by omega) o).grown hg (by simp; omega) ?_
  intro k hk
  cases hk
  exact hown.lt.1
/-- The text that the law builds, and what quoted makes of it. -/
theorem built (single : Bool) (sl rl L : List Int) (hF : Plain.Fits single sl rl) (hL : L = (Plain.quoteOf single :: Plain.enc single sl ++ [Plain.quoteOf single]) ++ rl) : Plain.answer (Plain.quoteOf single) L = some (sl, rl) := by
  subst hL
  unfold Plain.answer
  have := Plain.round_trip single sl rl [] hF
  simpa using this
/-! ### The law's walk -/
set_option maxHeartbeats 4000000 in
set_option maxRecDepth 100000 in
theorem rt_single (a0 : Option Addr) (n c0 : Nat) (a1 : Option Addr) (m c1 : Nat) (sl rl : List Int) (w : World) (h0 : Reads w a0 n sl) (h1 : Reads w a1 m rl) (hnil0 : a0 = none → n = 0 ∧ c0 = 0) (hnil1 : a1 = none → m = 0 ∧ c1 = 0)
    (hn : n ≤ 262144) (hm : m ≤ 262144) (hF : Plain.Fits true sl rl) (hF0 : rl.getD 0 0 ≠ 39) :
    Calls Trym.prog 4 #[.slice a0 n c0, .slice a1 m c1, .bool true] w fun e w' => e = .returned (.bool true) ∧ Below w.heap.size w w' := by
  have HF : Hid (Plain.Fits true sl rl) := hF
  clear hF
  go_enter Trym.func4, Trym.ntmps4
  go_wp2_with fail
  refine (bytes2_any a0 a1 n c0 m c1 true w).mono ?_
  rintro e w' ⟨⟨b, rfl⟩, rfl⟩
  cases b
  · go_wp2
    go_ret
    exact ⟨rfl, Below.refl _ _⟩
  by_cases hm0 : 0 < m
  case' pos =>
    obtain ⟨x, rfl, hx0⟩ := h1.2 0 hm0
    obtain ⟨d, hd⟩ : ∃ d, d = rl.getD 0 0 := ⟨_, rfl⟩
    have hx : w'.cell? x = some (.int .u8 d) := by rw [hd]; simpa [Addr.add] using hx0
    have t39 : (d == 39) = false := by rw [hd]; simpa using hF0
    clear hx0 hd
    go_wp2_with fail
  case' neg => go_wp2_with fail
  all_goals clear hm0
  all_goals
    refine (clone_opt a0 n c0 sl w' h0 hnil0 (by omega)).mono ?_
    rintro e w1 ⟨b0, rfl, r0, hb1⟩
    go_wp2_with fail
    refine (clone_opt _ m c1 rl w1 (h1.below hb1) hnil1 (by omega)).mono ?_
    rintro e w2 ⟨b1, rfl, r1, hb2⟩
    have r0' := r0.below hb2
    have hB2 : Below w'.heap.size w' w2 := hb1.trans (hb2.mono hb1.size)
    have hmk := fun w => run_make0 (2 * n + m + 2) (2 * (n : Int) + (m : Int) + 2) (by omega) (by omega) w
    have o0 := (own_made w2 w2.heap.size (2 * n + m + 2) (Nat.le_refl _) (by omega)).alloc (.cells #[.int .u8 39] 5)
    have q0 := reads_new_at (w2.alloc (.cells (madeCells #[.int .u8 0] (2 * n + m + 2)) 5)) 39 (w2.heap.size + 1) (by simp)
    have z0 : w2.heap.size ≤ ((w2.alloc (.cells (madeCells #[.int .u8 0] (2 * n + m + 2)) 5)).alloc (.cells #[.int .u8 39] 5)).heap.size := by simp; omega
    have z1 : Below w2.heap.size w2 ((w2.alloc (.cells (madeCells #[.int .u8 0] (2 * n + m + 2)) 5)).alloc (.cells #[.int .u8 39] 5)) := ((Below.refl _ _).alloc (Nat.le_refl _) _).alloc (by simp) _
    clear h0 h1 hb1 hb2 r0 hnil0 hnil1
    go_wp2_with (first | (at_builtin; refine wpList_app _ rfl (.tmp 66) (.tmp 68) rfl w2.heap.size w2.heap.size 0 (2 * n + m + 2) [] [39] rfl rfl o0 ⟨w2.heap.size + 1, 0, none⟩ 1 1 rfl q0 1 rfl [39] rfl (by omega) z0 ?_; intro g1 cap1 w3 hown1 hgrow1))
    have hb3 : Below w2.heap.size w2 w3 := z1.grown hgrow1 z0 (by intro k hk; cases hk; exact Nat.le_refl _)
    clear o0 q0 z0 z1 hgrow1 hmk
    go_loopw [9, 10] (fun tv i wr => ∃ (k g cap : Nat) (L : List Int), k ≤ n ∧ i = .int .i64 k ∧ L.length ≤ 2 * k + 1 ∧ Hid (L = 39 :: Plain.enc true (sl.take k)) ∧ tv = .slice (some ⟨g, 0, none⟩) L.length cap ∧ Own wr w2.heap.size g cap L ∧ Below w2.heap.size w2 wr) (fun _ i _ => n - (intOf i).toNat)
    case atStart => exact ⟨0, g1, cap1, [39], Nat.zero_le _, rfl, by simp, rfl, rfl, hown1, hb3⟩
    case round =>
      obtain ⟨k, g, cap, L, hk, rfl, hLl, HL, rfl, hown, hbr⟩ := hrel
      have hszr : w2.heap.size ≤ wr.heap.size := hbr.size
      by_cases hlt : k < n
      · obtain ⟨x0, rfl, hcx0⟩ := r0'.2 k hlt
        obtain ⟨c, hcc⟩ : ∃ c, c = sl.getD k 0 := ⟨_, rfl⟩
        have hcx : w2.cell? (x0.add k) = some (.int .u8 c) := by rw [hcc]; exact hcx0
        have hxl : (x0.add k).block < w2.heap.size := cell_lt hcx
        have hck : wr.cell? (x0.add k) = some (.int .u8 c) := (hbr.cell hxl).trans hcx
        have HC : Hid (c = sl.getD k 0) := hcc
        clear hcc hcx0 hown1 hb3
        by_cases h39 : c = 39
        · subst h39
          have HN : Hid (L ++ [39] ++ [39] = 39 :: Plain.enc true (sl.take (k + 1))) := by
            show _ = _
            rw [HL.out, Plain.take_snoc sl k (by rw [r0'.1]; exact hlt), ← HC.out, Plain.enc_snoc_quote]
            simp
          clear HC HL
          go_wp2_with (first | (at_builtin; refine wpList_app _ rfl (.tmp 76) (.tmp 81) rfl w2.heap.size g L.length cap L [39] rfl rfl (hown.alloc _) ⟨wr.heap.size, 0, none⟩ 1 1 rfl (reads_new _ _) (L.length + 1) rfl (L ++ [39]) rfl (by omega) (by simp; omega) ?_; intro g4 cap4 w4 hown4 hgrow4; have hb4 := below_app hbr (Nat.le_refl _) hown hgrow4; have hck4 : w4.cell? (x0.add k) = some (.int .u8 39) := (hb4.cell hxl).trans hcx; have hsz4 := hb4.size) | (at_builtin; refine wpList_app _ rfl (.tmp 91) (.tmp 92) rfl w2.heap.size g4 (L.length + 1) cap4 (L ++ [39]) [39] rfl (by simp) (hown4.alloc _) ⟨w4.heap.size, 0, none⟩ 1 1 rfl (reads_new _ _) (L.length + 2) rfl (L ++ [39] ++ [39]) rfl (by omega) (by simp; omega) ?_; intro g5 cap5 w5 hown5 hgrow5; have hb5 := below_app hb4 (Nat.le_refl _) hown4 hgrow5))
          clear hgrow4 hgrow5 hck4 hck hown hown4
          go_wp2
          go_roundw
          case rel => exact ⟨k + 1, g5, cap5, L ++ [39] ++ [39], by omega, by go_num, by simp; omega, HN, by simp, hown5, hb5⟩
          case measure => simp [intOf]; omega
        · have t39 : (c == 39) = false := by simpa using h39
          have HN : Hid (L ++ [c] = 39 :: Plain.enc true (sl.take (k + 1))) := by
            show _ = _
            rw [HL.out, Plain.take_snoc sl k (by rw [r0'.1]; exact hlt), ← HC.out, Plain.enc_snoc_other _ _ _ (by simp [h39])]
            simp
          clear HC HL h39
          go_wp2_with (first | (at_builtin; refine wpList_app _ rfl (.tmp 76) (.tmp 81) rfl w2.heap.size g L.length cap L [c] rfl rfl (hown.alloc _) ⟨wr.heap.size, 0, none⟩ 1 1 rfl (reads_new _ _) (L.length + 1) rfl (L ++ [c]) rfl (by omega) (by simp; omega) ?_; intro g4 cap4 w4 hown4 hgrow4; have hb4 := below_app hbr (Nat.le_refl _) hown hgrow4; have hck4 : w4.cell? (x0.add k) = some (.int .u8 c) := (hb4.cell hxl).trans hcx; have hsz4 := hb4.size))
          clear hgrow4 hck4 hck hown
          go_wp2
          go_roundw
          case rel => exact ⟨k + 1, g4, cap4, L ++ [c], by omega, by go_num, by simp; omega, HN, by simp, hown4, hb4⟩
          case measure => simp [intOf]; omega
      · have HL1 : Hid (L ++ [39] = Plain.quoteOf true :: Plain.enc true sl ++ [Plain.quoteOf true]) := by
          show _ = _
          have e : sl.take k = sl := List.take_of_length_le (by rw [r0'.1]; omega)
          rw [HL.out, e]
          rfl
        have hLn : L.length ≤ 2 * n + 1 := by omega
        clear HL hown1 hb3
        obtain ⟨wo, hwo⟩ : ∃ wo, wo = wr := ⟨_, rfl⟩
        subst hwo
        go_wp2_with (first | (at_builtin; refine wpList_app _ rfl (.tmp 94) (.tmp 96) rfl w2.heap.size g L.length cap L [39] rfl rfl (hown.alloc _) ⟨wo.heap.size, 0, none⟩ 1 1 rfl (reads_new _ _) (L.length + 1) rfl (L ++ [39]) rfl (by omega) (by simp; omega) ?_; intro g4 cap4 w4 hown4 hgrow4; have hb4 := below_app hbr (Nat.le_refl _) hown hgrow4; have hsz4 := hb4.size))
        obtain ⟨T, hT⟩ : ∃ T, T = L ++ [39] := ⟨_, rfl⟩
        have HT : Hid (T = Plain.quoteOf true :: Plain.enc true sl ++ [Plain.quoteOf true]) := hT.trans HL1.out
        have hTl : T.length = L.length + 1 := by rw [hT]; simp
        have HTl : Hid (T.length = L.length + 1) := hTl
        rw [← hT] at hown4
        clear hT hTl HL1 hgrow4 hown
        go_loopw [9, 11] (fun tv i wr => ∃ (k g cap : Nat) (M : List Int), k ≤ m ∧ i = .int .i64 k ∧ M.length ≤ 2 * n + 2 + k ∧ Hid (M = T ++ rl.take k) ∧ tv = .slice (some ⟨g, 0, none⟩) M.length cap ∧ Own wr w2.heap.size g cap M ∧ Below w2.heap.size w2 wr) (fun _ i _ => m - (intOf i).toNat)
        case atStart =>
          refine ⟨0, g4, cap4, T, Nat.zero_le _, rfl, by rw [HTl.out]; omega, ?_, by rw [HTl.out], hown4, hb4⟩
          show T = T ++ rl.take 0
          simp
        case round =>
          obtain ⟨j, g', cap', M, hj, rfl, hMl, HM, rfl, hown, hbr'⟩ := hrel
          have hszr' : w2.heap.size ≤ wr.heap.size := hbr'.size
          by_cases hlt' : j < m
          · obtain ⟨x1, rfl, hcx0⟩ := r1.2 j hlt'
            obtain ⟨c, hcc⟩ : ∃ c, c = rl.getD j 0 := ⟨_, rfl⟩
            have hcx : w2.cell? (x1.add j) = some (.int .u8 c) := by rw [hcc]; exact hcx0
            have hck : wr.cell? (x1.add j) = some (.int .u8 c) := (hbr'.cell (cell_lt hcx)).trans hcx
            have HN : Hid (M ++ [c] = T ++ rl.take (j + 1)) := by
              show _ = _
              rw [HM.out, Plain.take_snoc rl j (by rw [r1.1]; exact hlt'), ← hcc]
              simp
            clear hcc hcx0 HM hown4 hb4 hcx
            go_wp2_with (first | (at_builtin; refine wpList_app _ rfl (.tmp 104) (.tmp 109) rfl w2.heap.size g' M.length cap' M [c] rfl rfl (hown.alloc _) ⟨wr.heap.size, 0, none⟩ 1 1 rfl (reads_new _ _) (M.length + 1) rfl (M ++ [c]) rfl (by omega) (by simp; omega) ?_; intro g5 cap5 w5 hown5 hgrow5; have hb5 := below_app hbr' (Nat.le_refl _) hown hgrow5))
            clear hgrow5 hck hown
            go_wp2
            go_roundw
            case rel => exact ⟨j + 1, g5, cap5, M ++ [c], by omega, by go_num, by simp; omega, HN, by simp, hown5, hb5⟩
            case measure => simp [intOf]; omega
          · have HZ : Hid (Plain.answer 39 M = some (sl, rl)) := by
              have e : rl.take j = rl := List.take_of_length_le (by rw [r1.1]; omega)
              exact built true sl rl M HF.out (by rw [HM.out, e, HT.out])
            have HM0 : Hid (M.getD 0 0 = 39 ∧ 0 < M.length) := by
              show _ ∧ _
              rw [HM.out, HT.out]
              exact ⟨rfl, by simp⟩
            have H := zzquoted_any g' M.length cap' 39 M wr HM0.out.2 (by omega) hown.caps.1 hown.caps.2 rfl HM0.out.1 hown.cellsAt
            rw [HZ.out] at H
            clear hown4 hb4 HM HT HTl HZ HM0
            go_wp2_with fail
            refine H.mono ?_
            rintro e w6 ⟨⟨x, n1, d1, y, m1, d2, rfl, q1, q2⟩, hb6⟩
            have hB6 : Below w2.heap.size w2 w6 := hbr'.trans (hb6.mono hszr')
            have E1 := eq_same (some x) b0 n1 n d1 n sl w6 q1 (r0'.below hB6) (by have h1 := q1.1; have h2 := r0'.1; omega)
            clear H hown hb6
            go_wp2_with fail
            refine E1.mono ?_
            rintro e w7 ⟨rfl, hb7⟩
            have hB7 : Below w2.heap.size w2 w7 := hB6.trans (hb7.mono hB6.size)
            have E2 := eq_same y b1 m1 m d2 m rl w7 (q2.below hb7) (r1.below hB7) (by have h1 := q2.1; have h2 := r1.1; omega)
            clear E1 hb7 q1 q2
            go_wp2_with fail
            refine E2.mono ?_
            rintro e w8 ⟨rfl, hb8⟩
            have hB8 : Below w'.heap.size w' w8 := hB2.trans ((hB7.trans (hb8.mono hB7.size)).mono hB2.size)
            clear E2 hb8
            go_wp2
            go_ret
            exact ⟨rfl, hB8⟩

set_option maxHeartbeats 4000000 in
set_option maxRecDepth 100000 in
theorem rt_double (a0 : Option Addr) (n c0 : Nat) (a1 : Option Addr) (m c1 : Nat) (sl rl : List Int) (w : World) (h0 : Reads w a0 n sl) (h1 : Reads w a1 m rl) (hnil0 : a0 = none → n = 0 ∧ c0 = 0) (hnil1 : a1 = none → m = 0 ∧ c1 = 0)
    (hn : n ≤ 262144) (hm : m ≤ 262144) :
    Calls Trym.prog 4 #[.slice a0 n c0, .slice a1 m c1, .bool false] w fun e w' => e = .returned (.bool true) ∧ Below w.heap.size w w' := by
  go_enter Trym.func4, Trym.ntmps4
  go_wp2_with fail
  refine (bytes2_any a0 a1 n c0 m c1 false w).mono ?_
  rintro e w' ⟨⟨b, rfl⟩, rfl⟩
  cases b
  · go_wp2
    go_ret
    exact ⟨rfl, Below.refl _ _⟩
  go_wp2_with fail
  go_loop [8] (fun i => ∃ k : Nat, k ≤ n ∧ i = .int .i64 k ∧ Hid (∀ i, i < k → sl.getD i 0 ≠ 34 ∧ sl.getD i 0 ≠ 92)) (fun i => n - (intOf i).toNat)
  case atStart => exact ⟨0, Nat.zero_le _, rfl, fun i hi => absurd hi (by omega)⟩
  case round =>
    obtain ⟨k, hk, rfl, HA⟩ := hrel
    by_cases hlt : k < n
    · obtain ⟨x0, rfl, hcx0⟩ := h0.2 k hlt
      obtain ⟨c, hcc⟩ : ∃ c, c = sl.getD k 0 := ⟨_, rfl⟩
      have hck : w'.cell? (x0.add k) = some (.int .u8 c) := by rw [hcc]; exact hcx0
      have HC : Hid (c = sl.getD k 0) := hcc
      clear hcc hcx0
      by_cases h34 : c = 34
      · subst h34
        go_wp2
        go_ret
        exact ⟨rfl, Below.refl _ _⟩
      · have t34 : (c == 34) = false := by simpa using h34
        by_cases h92 : c = 92
        · subst h92
          clear h34
          go_wp2
          go_ret
          exact ⟨rfl, Below.refl _ _⟩
        · have t92 : (c == 92) = false := by simpa using h92
          have HN : Hid (∀ i, i < k + 1 → sl.getD i 0 ≠ 34 ∧ sl.getD i 0 ≠ 92) := by
            intro i hi
            by_cases e : i = k
            · subst e; rw [← HC.out]; exact ⟨h34, h92⟩
            · exact HA.out i (by omega)
          clear h34 h92
          go_wp2
          go_round
          case rel => exact ⟨k + 1, by omega, by go_num, HN⟩
          case measure => simp [intOf]; omega
    · have HF : Hid (Plain.Fits false sl rl) := by
        refine ⟨fun e => by simp at e, fun _ c hc => ?_⟩
        obtain ⟨i, hi, rfl⟩ := List.getElem_of_mem hc
        have := HA.out i (by have h2 := h0.1; omega)
        simpa [List.getD_eq_getElem?_getD, hi] using this
      obtain ⟨k0, hk0⟩ : ∃ k0, k0 = k := ⟨_, rfl⟩
      clear HA
      go_wp2_with fail
      refine (clone_opt a0 n c0 sl w' h0 hnil0 (by omega)).mono ?_
      rintro e w1 ⟨b0, rfl, r0, hb1⟩
      go_wp2_with fail
      refine (clone_opt _ m c1 rl w1 (h1.below hb1) hnil1 (by omega)).mono ?_
      rintro e w2 ⟨b1, rfl, r1, hb2⟩
      have r0' := r0.below hb2
      have hB2 : Below w'.heap.size w' w2 := hb1.trans (hb2.mono hb1.size)
      have hmk := fun w => run_make0 (2 * n + m + 2) (2 * (n : Int) + (m : Int) + 2) (by omega) (by omega) w
      have o0 := (own_made w2 w2.heap.size (2 * n + m + 2) (Nat.le_refl _) (by omega)).alloc (.cells #[.int .u8 34] 5)
      have q0 := reads_new_at (w2.alloc (.cells (madeCells #[.int .u8 0] (2 * n + m + 2)) 5)) 34 (w2.heap.size + 1) (by simp)
      have z0 : w2.heap.size ≤ ((w2.alloc (.cells (madeCells #[.int .u8 0] (2 * n + m + 2)) 5)).alloc (.cells #[.int .u8 34] 5)).heap.size := by simp; omega
      have z1 : Below w2.heap.size w2 ((w2.alloc (.cells (madeCells #[.int .u8 0] (2 * n + m + 2)) 5)).alloc (.cells #[.int .u8 34] 5)) := ((Below.refl _ _).alloc (Nat.le_refl _) _).alloc (by simp) _
      clear h0 h1 hb1 hb2 r0 hnil0 hnil1
      go_wp2_with (first | (at_builtin; refine wpList_app _ rfl (.tmp 66) (.tmp 68) rfl w2.heap.size w2.heap.size 0 (2 * n + m + 2) [] [34] rfl rfl o0 ⟨w2.heap.size + 1, 0, none⟩ 1 1 rfl q0 1 rfl [34] rfl (by omega) z0 ?_; intro g1 cap1 w3 hown1 hgrow1))
      have hb3 : Below w2.heap.size w2 w3 := z1.grown hgrow1 z0 (by intro k hk; cases hk; exact Nat.le_refl _)
      clear o0 q0 z0 z1 hgrow1 hmk
      go_loopw [9, 10] (fun tv i wr => ∃ (k g cap : Nat) (L : List Int), k ≤ n ∧ i = .int .i64 k ∧ L.length ≤ 2 * k + 1 ∧ Hid (L = 34 :: Plain.enc false (sl.take k)) ∧ tv = .slice (some ⟨g, 0, none⟩) L.length cap ∧ Own wr w2.heap.size g cap L ∧ Below w2.heap.size w2 wr) (fun _ i _ => n - (intOf i).toNat)
      case atStart => exact ⟨0, g1, cap1, [34], Nat.zero_le _, rfl, by simp, rfl, rfl, hown1, hb3⟩
      case round =>
        obtain ⟨k, g, cap, L, hk, rfl, hLl, HL, rfl, hown, hbr⟩ := hrel
        have hszr : w2.heap.size ≤ wr.heap.size := hbr.size
        by_cases hlt : k < n
        · obtain ⟨x0, rfl, hcx0⟩ := r0'.2 k hlt
          obtain ⟨c, hcc⟩ : ∃ c, c = sl.getD k 0 := ⟨_, rfl⟩
          have hcx : w2.cell? (x0.add k) = some (.int .u8 c) := by rw [hcc]; exact hcx0
          have hxl : (x0.add k).block < w2.heap.size := cell_lt hcx
          have hck : wr.cell? (x0.add k) = some (.int .u8 c) := (hbr.cell hxl).trans hcx
          have HC : Hid (c = sl.getD k 0) := hcc
          clear hcc hcx0 hown1 hb3
          have HN : Hid (L ++ [c] = 34 :: Plain.enc false (sl.take (k + 1))) := by
            show _ = _
            rw [HL.out, Plain.take_snoc sl k (by rw [r0'.1]; exact hlt), ← HC.out, Plain.enc_snoc_other _ _ _ (by simp)]
            simp
          clear HC HL
          go_wp2_with (first | (at_builtin; refine wpList_app _ rfl (.tmp 76) (.tmp 81) rfl w2.heap.size g L.length cap L [c] rfl rfl (hown.alloc _) ⟨wr.heap.size, 0, none⟩ 1 1 rfl (reads_new _ _) (L.length + 1) rfl (L ++ [c]) rfl (by omega) (by simp; omega) ?_; intro g4 cap4 w4 hown4 hgrow4; have hb4 := below_app hbr (Nat.le_refl _) hown hgrow4; have hck4 : w4.cell? (x0.add k) = some (.int .u8 c) := (hb4.cell hxl).trans hcx; have hsz4 := hb4.size))
          clear hgrow4 hck4 hck hown
          go_wp2
          go_roundw
          case rel => exact ⟨k + 1, g4, cap4, L ++ [c], by omega, by go_num, by simp; omega, HN, by simp, hown4, hb4⟩
          case measure => simp [intOf]; omega
        · have HL1 : Hid (L ++ [34] = Plain.quoteOf false :: Plain.enc false sl ++ [Plain.quoteOf false]) := by
            show _ = _
            have e : sl.take k = sl := List.take_of_length_le (by rw [r0'.1]; omega)
            rw [HL.out, e]
            rfl
          have hLn : L.length ≤ 2 * n + 1 := by omega
          clear HL hown1 hb3
          obtain ⟨wo, hwo⟩ : ∃ wo, wo = wr := ⟨_, rfl⟩
          subst hwo
          go_wp2_with (first | (at_builtin; refine wpList_app _ rfl (.tmp 94) (.tmp 96) rfl w2.heap.size g L.length cap L [34] rfl rfl (hown.alloc _) ⟨wo.heap.size, 0, none⟩ 1 1 rfl (reads_new _ _) (L.length + 1) rfl (L ++ [34]) rfl (by omega) (by simp; omega) ?_; intro g4 cap4 w4 hown4 hgrow4; have hb4 := below_app hbr (Nat.le_refl _) hown hgrow4; have hsz4 := hb4.size))
          obtain ⟨T, hT⟩ : ∃ T, T = L ++ [34] := ⟨_, rfl⟩
          have HT : Hid (T = Plain.quoteOf false :: Plain.enc false sl ++ [Plain.quoteOf false]) := hT.trans HL1.out
          have hTl : T.length = L.length + 1 := by rw [hT]; simp
          have HTl : Hid (T.length = L.length + 1) := hTl
          rw [← hT] at hown4
          clear hT hTl HL1 hgrow4 hown
          go_loopw [9, 11] (fun tv i wr => ∃ (k g cap : Nat) (M : List Int), k ≤ m ∧ i = .int .i64 k ∧ M.length ≤ 2 * n + 2 + k ∧ Hid (M = T ++ rl.take k) ∧ tv = .slice (some ⟨g, 0, none⟩) M.length cap ∧ Own wr w2.heap.size g cap M ∧ Below w2.heap.size w2 wr) (fun _ i _ => m - (intOf i).toNat)
          case atStart =>
            refine ⟨0, g4, cap4, T, Nat.zero_le _, rfl, by rw [HTl.out]; omega, ?_, by rw [HTl.out], hown4, hb4⟩
            show T = T ++ rl.take 0
            simp
          case round =>
            obtain ⟨j, g', cap', M, hj, rfl, hMl, HM, rfl, hown, hbr'⟩ := hrel
            have hszr' : w2.heap.size ≤ wr.heap.size := hbr'.size
            by_cases hlt' : j < m
            · obtain ⟨x1, rfl, hcx0⟩ := r1.2 j hlt'
              obtain ⟨c, hcc⟩ : ∃ c, c = rl.getD j 0 := ⟨_, rfl⟩
              have hcx : w2.cell? (x1.add j) = some (.int .u8 c) := by rw [hcc]; exact hcx0
              have hck : wr.cell? (x1.add j) = some (.int .u8 c) := (hbr'.cell (cell_lt hcx)).trans hcx
              have HN : Hid (M ++ [c] = T ++ rl.take (j + 1)) := by
                show _ = _
                rw [HM.out, Plain.take_snoc rl j (by rw [r1.1]; exact hlt'), ← hcc]
                simp
              clear hcc hcx0 HM hown4 hb4 hcx
              go_wp2_with (first | (at_builtin; refine wpList_app _ rfl (.tmp 104) (.tmp 109) rfl w2.heap.size g' M.length cap' M [c] rfl rfl (hown.alloc _) ⟨wr.heap.size, 0, none⟩ 1 1 rfl (reads_new _ _) (M.length + 1) rfl (M ++ [c]) rfl (by omega) (by simp; omega) ?_; intro g5 cap5 w5 hown5 hgrow5; have hb5 := below_app hbr' (Nat.le_refl _) hown hgrow5))
              clear hgrow5 hck hown
              go_wp2
              go_roundw
              case rel => exact ⟨j + 1, g5, cap5, M ++ [c], by omega, by go_num, by simp; omega, HN, by simp, hown5, hb5⟩
              case measure => simp [intOf]; omega
            · have HZ : Hid (Plain.answer 34 M = some (sl, rl)) := by
                have e : rl.take j = rl := List.take_of_length_le (by rw [r1.1]; omega)
                exact built false sl rl M HF.out (by rw [HM.out, e, HT.out])
              have HM0 : Hid (M.getD 0 0 = 34 ∧ 0 < M.length) := by
                show _ ∧ _
                rw [HM.out, HT.out]
                exact ⟨rfl, by simp⟩
              have H := zzquoted_any g' M.length cap' 34 M wr HM0.out.2 (by omega) hown.caps.1 hown.caps.2 rfl HM0.out.1 hown.cellsAt
              rw [HZ.out] at H
              clear hown4 hb4 HM HT HTl HZ HM0
              go_wp2_with fail
              refine H.mono ?_
              rintro e w6 ⟨⟨x, n1, d1, y, m1, d2, rfl, q1, q2⟩, hb6⟩
              have hB6 : Below w2.heap.size w2 w6 := hbr'.trans (hb6.mono hszr')
              have E1 := eq_same (some x) b0 n1 n d1 n sl w6 q1 (r0'.below hB6) (by have h1 := q1.1; have h2 := r0'.1; omega)
              clear H hown hb6
              go_wp2_with fail
              refine E1.mono ?_
              rintro e w7 ⟨rfl, hb7⟩
              have hB7 : Below w2.heap.size w2 w7 := hB6.trans (hb7.mono hB6.size)
              have E2 := eq_same y b1 m1 m d2 m rl w7 (q2.below hb7) (r1.below hB7) (by have h1 := q2.1; have h2 := r1.1; omega)
              clear E1 hb7 q1 q2
              go_wp2_with fail
              refine E2.mono ?_
              rintro e w8 ⟨rfl, hb8⟩
              have hB8 : Below w'.heap.size w' w8 := hB2.trans ((hB7.trans (hb8.mono hB7.size)).mono hB2.size)
              clear E2 hb8
              go_wp2
              go_ret
              exact ⟨rfl, hB8⟩

/-- Single mode, and the rest opens with a quote: the law says nothing. -/
theorem rt_bad (a0 : Option Addr) (n c0 : Nat) (x : Addr) (m c1 : Nat) (w : World) (hm0 : 0 < m) (hx : w.cell? x = some (.int .u8 39)) :
    Calls Trym.prog 4 #[.slice a0 n c0, .slice (some x) m c1, .bool true] w fun e w' => e = .returned (.bool true) ∧ Below w.heap.size w w' := by
  have i0 : (0 : Int) < (m : Int) := by omega
  go_enter Trym.func4, Trym.ntmps4
  go_wp2_with fail
  refine (bytes2_any a0 (some x) n c0 m c1 true w).mono ?_
  rintro e w' ⟨⟨b, rfl⟩, rfl⟩
  cases b
  · go_wp2
    go_ret
    exact ⟨rfl, Below.refl _ _⟩
  by_cases hn : n ≤ 262144
  · by_cases hm : m ≤ 262144
    · go_wp2
      go_ret
      exact ⟨rfl, Below.refl _ _⟩
    · go_wp2
      go_ret
      exact ⟨rfl, Below.refl _ _⟩
  · go_wp2
    go_ret
    exact ⟨rfl, Below.refl _ _⟩

/-- Too many bytes: the law says nothing. -/
theorem rt_early (a0 : Option Addr) (n c0 : Nat) (a1 : Option Addr) (m c1 : Nat) (b : Bool) (w : World) (h : 262144 < n ∨ 262144 < m) :
    Calls Trym.prog 4 #[.slice a0 n c0, .slice a1 m c1, .bool b] w fun e w' => e = .returned (.bool true) ∧ Below w.heap.size w w' := by
  go_enter Trym.func4, Trym.ntmps4
  go_wp2_with fail
  refine (bytes2_any a0 a1 n c0 m c1 b w).mono ?_
  rintro e w' ⟨⟨b', rfl⟩, rfl⟩
  cases b'
  · go_wp2
    go_ret
    exact ⟨rfl, Below.refl _ _⟩
  by_cases hn : 262144 < n
  · go_wp2
    go_ret
    exact ⟨rfl, Below.refl _ _⟩
  · have hm : 262144 < m := by omega
    clear h
    go_wp2
    go_ret
    exact ⟨rfl, Below.refl _ _⟩
end Go.Proofs.Qxb6602979aMods

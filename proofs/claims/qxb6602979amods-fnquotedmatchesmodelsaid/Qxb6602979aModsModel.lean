/-
  SEAT b6602979aM: the contract of zzb1ModelQuoted: it answers as Plain.scan says, too.
-/
import Derived.Test.Qxb6602979aModsTrip
namespace Go.Proofs.Qxb6602979aMods
open Go.RowKit
set_option linter.unusedVariables false

set_option maxHeartbeats 1000000 in
set_option maxRecDepth 100000 in
/-- A text that opens with no single quote. -/
theorem model_other (g n : Nat) (q : Int) (zs : List Int) (w : World) (hn0 : 0 < n) (hn : n ≤ 2097152) (hz : zs.length = n) (hq : zs.getD 0 0 = q) (hq39 : ¬ q = 39)
    (hc : ∀ i, i < n → w.cell? ⟨g, i, none⟩ = some (.int .u8 (zs.getD i 0))) :
    Calls Trym.prog 8 #[.slice (some ⟨g, 0, none⟩) n n] w fun e w' => QAns w' e (Plain.answer q zs) ∧ Below w.heap.size w w' := by
  have HZ : Hid (zs.length = n) := hz
  have hc0 : w.cell? ⟨g, 0, none⟩ = some (.int .u8 q) := by rw [← hq]; exact hc 0 hn0
  have HC : Hid (∀ i, i < n → w.cell? ⟨g, i, none⟩ = some (.int .u8 (zs.getD i 0))) := hc
  have hg : g < w.heap.size := cell_lt hc0
  have t39 : (q == 39) = false := by simpa using hq39
  have HQ : Hid (¬ q = 39) := hq39
  clear hz hq hc hq39
  go_enter Trym.func8, Trym.ntmps8
  go_wp2
  clear hc0
  go_loop [10] (fun i => ∃ k : Nat, 1 ≤ k ∧ k ≤ n ∧ i = .int .i64 k ∧ Hid (Plain.answer q zs = Plain.scan q (Plain.mid zs k) (zs.drop k))) (fun i => n + 1 - (intOf i).toNat)
  case atStart =>
    refine ⟨1, Nat.le_refl _, by omega, rfl, ?_⟩
    show _ = _
    rw [Plain.mid_one]
    rfl
  case round =>
    obtain ⟨k, hk1, hkn, rfl, HS⟩ := hrel
    by_cases hlt : k < n
    · obtain ⟨c, hcc⟩ : ∃ c, c = zs.getD k 0 := ⟨_, rfl⟩
      have hck : w.cell? ⟨g, k, none⟩ = some (.int .u8 c) := by rw [hcc]; exact HC.out k hlt
      have HCC : Hid (c = zs.getD k 0) := hcc
      have hzk : k < zs.length := by rw [HZ.out]; exact hlt
      clear hcc
      by_cases h2 : c = q
      · subst h2
        have HT : Hid (Plain.answer c zs = some (Plain.mid zs k, zs.drop (k + 1))) := by
          show _ = _
          rw [HS.out, Plain.at_close hzk HCC.out.symm (fun h => HQ.out h.1)]
        have i1 : (k : Int) + 1 ≤ (n : Int) := by omega
        clear HS
        by_cases hce : n = k + 1
        · subst hce
          go_wp2
          go_quiet (fail)
          go_wp2
          go_ret3
          refine ⟨?_, below_draws (Below.refl _ _) _⟩
          rw [HT.out]
          exact QAns.mk (reads_mid _ hg HZ.out HC.out hkn (Below.refl _ _)) (reads_end _ HZ.out (by omega) (by omega))
        · go_wp2
          go_quiet (fail)
          go_wp2
          go_ret3
          refine ⟨?_, below_draws (Below.refl _ _) _⟩
          rw [HT.out]
          exact QAns.mk (reads_mid _ hg HZ.out HC.out hkn (Below.refl _ _)) (reads_tail _ hg HZ.out HC.out (Below.refl _ _))
      · have t1 : (c == q) = false := by simpa using h2
        by_cases h34 : q = 34
        · by_cases h92 : c = 92
          · subst h34
            subst h92
            have HT : Hid (Plain.answer 34 zs = none) := by
              show _ = _
              rw [HS.out, Plain.at_esc hzk HCC.out.symm rfl]
            clear HS h2
            go_wp2
            go_ret3
            refine ⟨?_, Below.refl _ _⟩
            rw [HT.out]
            rfl
          · have t92 : (c == 92) = false := by simpa using h92
            have HT : Hid (Plain.answer q zs = Plain.scan q (Plain.mid zs (k + 1)) (zs.drop (k + 1))) := by
              show _ = _
              rw [HS.out, Plain.at_step hzk (by rw [← HCC.out]; exact fun h => h92 h.1) (by rw [← HCC.out]; exact h2), Plain.mid_step hk1 hzk]
            subst h34
            clear HS h2 h92
            go_wp2
            go_round
            case rel => exact ⟨k + 1, by omega, by omega, by go_num, HT⟩
            case measure => simp [intOf]; omega
        · have t34 : (q == 34) = false := by simpa using h34
          have HT : Hid (Plain.answer q zs = Plain.scan q (Plain.mid zs (k + 1)) (zs.drop (k + 1))) := by
            show _ = _
            rw [HS.out, Plain.at_step hzk (fun h => h34 h.2) (by rw [← HCC.out]; exact h2), Plain.mid_step hk1 hzk]
          clear HS h2 h34
          go_wp2
          go_round
          case rel => exact ⟨k + 1, by omega, by omega, by go_num, HT⟩
          case measure => simp [intOf]; omega
    · have HN : Hid (Plain.answer q zs = none) := by
        show _ = _
        rw [HS.out, Plain.at_end (by rw [HZ.out]; omega)]
      clear HS
      go_wp2
      go_ret3
      refine ⟨?_, Below.refl _ _⟩
      rw [HN.out]
      rfl

set_option maxHeartbeats 2000000 in
set_option maxRecDepth 100000 in
/-- A text that opens with a single quote: run by run. -/
theorem model_single (g n : Nat) (zs : List Int) (w : World) (hn0 : 0 < n) (hn : n ≤ 2097152) (hz : zs.length = n) (hq : zs.getD 0 0 = 39)
    (hc : ∀ i, i < n → w.cell? ⟨g, i, none⟩ = some (.int .u8 (zs.getD i 0))) :
    Calls Trym.prog 8 #[.slice (some ⟨g, 0, none⟩) n n] w fun e w' => QAns w' e (Plain.answer 39 zs) ∧ Below w.heap.size w w' := by
  have HZ : Hid (zs.length = n) := hz
  have hc0 : w.cell? ⟨g, 0, none⟩ = some (.int .u8 39) := by rw [← hq]; exact hc 0 hn0
  have HC : Hid (∀ i, i < n → w.cell? ⟨g, i, none⟩ = some (.int .u8 (zs.getD i 0))) := hc
  have hg : g < w.heap.size := cell_lt hc0
  have hmk := fun w => run_make0 n (n : Int) rfl (by omega) w
  clear hz hq hc
  go_enter Trym.func8, Trym.ntmps8
  go_wp2
  clear hc0 hmk
  go_loopw [6, 7] (fun bv i wr => ∃ (k g1 cap1 : Nat) (acc : List Int), 1 ≤ k ∧ k ≤ n ∧ i = .int .i64 k ∧ bv = .slice (some ⟨g1, 0, none⟩) acc.length cap1 ∧ acc.length ≤ k ∧ Hid (Plain.answer 39 zs = Plain.scan 39 acc (zs.drop k)) ∧ Own wr w.heap.size g1 cap1 acc ∧ Below w.heap.size w wr) (fun _ i _ => n + 1 - (intOf i).toNat)
  case atStart => exact ⟨1, w.heap.size, n, [], Nat.le_refl _, by omega, rfl, rfl, by simp, rfl, own_made w _ n (Nat.le_refl _) (by omega), (Below.refl _ _).alloc (Nat.le_refl _) _⟩
  case round =>
    obtain ⟨k, g1, cap1, acc, hk1, hkn, rfl, rfl, hacc, HS, hown, hb⟩ := hrel
    have hsz : w.heap.size ≤ wr.heap.size := hb.size
    by_cases hlt : k < n
    · obtain ⟨c, hcc⟩ : ∃ c, c = zs.getD k 0 := ⟨_, rfl⟩
      have hck : wr.cell? ⟨g, k, none⟩ = some (.int .u8 c) := by
        rw [hcc]
        exact (hb.cell (by exact hg)).trans (HC.out k hlt)
      have HCC : Hid (c = zs.getD k 0) := hcc
      have hzk : k < zs.length := by rw [HZ.out]; exact hlt
      clear hcc
      by_cases h39 : c = 39
      · subst h39
        obtain ⟨wo, hwo⟩ : ∃ wo, wo = wr := ⟨_, rfl⟩
        subst hwo
        go_wp2
        go_loop [8] (fun i => ∃ j : Nat, i = .int .i64 j ∧ k + j ≤ n ∧ Plain.Run zs k j) (fun i => n - (intOf i).toNat)
        case atStart => exact ⟨0, rfl, by omega, ⟨by rw [HZ.out]; omega, fun i hi => absurd hi (by omega)⟩⟩
        case round =>
          obtain ⟨j, rfl, hj, HR⟩ := hrel
          by_cases h2 : k + j < n ∧ zs.getD (k + j) 0 = 39
          · obtain ⟨h2a, h2b⟩ := h2
            have hdk : wo.cell? ⟨g, k + j, none⟩ = some (.int .u8 39) := by
              rw [← h2b]
              exact (hb.cell (by exact hg)).trans (HC.out (k + j) h2a)
            have HN : Plain.Run zs k (j + 1) := by
              refine ⟨by rw [HZ.out]; omega, fun i hi => ?_⟩
              by_cases e : i = j
              · subst e; exact h2b
              · exact HR.2 i (by omega)
            clear h2b
            have i2 : (k : Int) + (j : Int) < (n : Int) := by omega
            go_wp2
            go_round
            case rel => exact ⟨j + 1, by go_num, by omega, HN⟩
            case measure => simp [intOf]; omega
          · have HW : Plain.Whole zs k j := by
              refine ⟨HR, ?_⟩
              by_cases e : k + j < n
              · exact .inr (fun h => h2 ⟨e, h⟩)
              · exact .inl (by rw [HZ.out]; omega)
            have hj1 : 1 ≤ j := by
              refine Classical.byContradiction fun h => h2 ?_
              have : j = 0 := by omega
              subst this
              exact ⟨hlt, HCC.out.symm⟩
            have HS2 : Hid (j % 2 = 1 → Plain.answer 39 zs = some (acc ++ List.replicate (j / 2) 39, zs.drop (k + j))) := fun h => by rw [HS.out, Plain.whole_odd HW h]
            have HS3 : Hid (j % 2 = 0 → Plain.answer 39 zs = Plain.scan 39 (acc ++ List.replicate (j / 2) 39) (zs.drop (k + j))) := fun h => by rw [HS.out, Plain.whole_even HW h]
            clear HS HW HR
            by_cases hkj : k + j < n
            case' pos =>
              obtain ⟨d, hdd⟩ : ∃ d, d = zs.getD (k + j) 0 := ⟨_, rfl⟩
              have hdk : wo.cell? ⟨g, k + j, none⟩ = some (.int .u8 d) := by
                rw [hdd]
                exact (hb.cell (by exact hg)).trans (HC.out (k + j) hkj)
              have td : (d == 39) = false := by
                simp only [beq_eq_false_iff_ne]
                exact fun e => h2 ⟨hkj, by rw [← hdd]; exact e⟩
              have i2 : (k : Int) + (j : Int) < (n : Int) := by omega
              clear hdd h2
              go_wp2
            case' neg =>
              have i2 : (n : Int) ≤ (k : Int) + (j : Int) := by omega
              clear h2
              go_wp2
            all_goals
              go_loopw [6, 9] (fun bv i wr => ∃ (t g2 cap2 : Nat), t ≤ j / 2 ∧ i = .int .i64 t ∧ bv = .slice (some ⟨g2, 0, none⟩) (acc.length + t) cap2 ∧ Own wr w.heap.size g2 cap2 (acc ++ List.replicate t 39) ∧ Below w.heap.size w wr) (fun _ i _ => n - (intOf i).toNat)
              case atStart => exact ⟨0, g1, cap1, Nat.zero_le _, rfl, rfl, by simpa using hown, hb⟩
              case round =>
                obtain ⟨t, g2, cap2, ht, rfl, rfl, hown2, hb2⟩ := hrel
                have hsz2 : w.heap.size ≤ wr.heap.size := hb2.size
                clear hown
                by_cases hlt3 : t < j / 2
                · have i3 : (t : Int) < (j : Int) / 2 := by omega
                  have HL : Hid ((acc ++ List.replicate t 39).length = acc.length + t) := by
                    show _ = _
                    simp
                  go_wp2_with (first | (at_builtin; refine wpList_app _ rfl (.tmp 60) (.tmp 61) rfl w.heap.size g2 (acc.length + t) cap2 (acc ++ List.replicate t 39) [39] rfl HL.out (hown2.alloc _) ⟨wr.heap.size, 0, none⟩ 1 1 rfl (reads_new _ _) (acc.length + (t + 1)) rfl (acc ++ List.replicate (t + 1) 39) (by rw [List.replicate_succ', List.append_assoc]) (by omega) (by simp; omega) ?_; intro g3 cap3 w3 hown3 hgrow3; have hb3 := below_app hb2 (Nat.le_refl _) hown2 hgrow3))
                  clear hgrow3 hown2
                  go_wp2
                  go_roundw
                  case rel => exact ⟨t + 1, g3, cap3, by omega, by go_num, rfl, hown3, hb3⟩
                  case measure => simp [intOf]; omega
                · have i3 : (j : Int) / 2 ≤ (t : Int) := by omega
                  have ht2 : t = j / 2 := by omega
                  have HT2 : Hid (t = j / 2) := ht2
                  clear ht2
                  have HL : Hid ((acc ++ List.replicate t 39).length = acc.length + t) := by
                    show _ = _
                    simp
                  by_cases hodd : j % 2 = 1
                  · have t1 : ((j : Int) % 2 == 1) = true := by simp; omega
                    have HT : Hid (Plain.answer 39 zs = some (acc ++ List.replicate t 39, zs.drop (k + j))) := by
                      show _ = _
                      rw [HS2.out hodd, HT2.out]
                    clear HS2 HS3 hodd
                    go_wp2
                    go_quiet (fail)
                    go_wp2
                    go_ret3
                    refine ⟨?_, below_draws hb2 _⟩
                    rw [HT.out]
                    first
                      | exact QAns.mk (by rw [← HL.out]; exact (hown2.drews _).reads) (reads_tail _ hg HZ.out HC.out hb2)
                      | exact QAns.mk (by rw [← HL.out]; exact (hown2.drews _).reads) (reads_end _ HZ.out (by omega) (by omega))
                  · have t1 : ((j : Int) % 2 == 1) = false := by simp; omega
                    have HT : Hid (Plain.answer 39 zs = Plain.scan 39 (acc ++ List.replicate t 39) (zs.drop (k + j))) := by
                      show _ = _
                      rw [HS3.out (by omega), HT2.out]
                    clear HS2 HS3 hodd
                    go_wp2
                    go_roundw
                    case rel => exact ⟨k + j, g2, cap2, acc ++ List.replicate t 39, by omega, by omega, by go_num, by rw [HL.out], by rw [HL.out]; omega, HT, hown2, hb2⟩
                    case measure => simp [intOf]; omega
      · have t39 : (c == 39) = false := by simpa using h39
        have HT : Hid (Plain.answer 39 zs = Plain.scan 39 (acc ++ [c]) (zs.drop (k + 1))) := by
          show _ = _
          rw [HS.out, Plain.at_step hzk (fun h => absurd h.2 (by omega)) (by rw [← HCC.out]; exact h39), ← HCC.out]
        clear HS h39
        go_wp2_with (first | (at_builtin; refine wpList_app _ rfl (.tmp 28) (.tmp 33) rfl w.heap.size g1 acc.length cap1 acc [c] rfl rfl (hown.alloc _) ⟨wr.heap.size, 0, none⟩ 1 1 rfl (reads_new _ _) (acc.length + 1) rfl (acc ++ [c]) rfl (by omega) (by simp; omega) ?_; intro g2 cap2 w2 hown2 hgrow2; have hb2 := below_app hb (Nat.le_refl _) hown hgrow2))
        clear hgrow2 hown
        go_wp2
        go_roundw
        case rel => exact ⟨k + 1, g2, cap2, acc ++ [c], by omega, by omega, by go_num, by simp, by simp; omega, HT, hown2, hb2⟩
        case measure => simp [intOf]; omega
    · have HN : Hid (Plain.answer 39 zs = none) := by
        show _ = _
        rw [HS.out, Plain.at_end (by rw [HZ.out]; omega)]
      clear HS
      go_wp2
      go_ret3
      refine ⟨?_, hb⟩
      rw [HN.out]
      rfl

/-- zzb1ModelQuoted, whatever the opening byte. -/
theorem model_any (g n : Nat) (q : Int) (zs : List Int) (w : World) (hn0 : 0 < n) (hn : n ≤ 2097152) (hz : zs.length = n) (hq : zs.getD 0 0 = q)
    (hc : ∀ i, i < n → w.cell? ⟨g, i, none⟩ = some (.int .u8 (zs.getD i 0))) :
    Calls Trym.prog 8 #[.slice (some ⟨g, 0, none⟩) n n] w fun e w' => QAns w' e (Plain.answer q zs) ∧ Below w.heap.size w w' := by
  by_cases h : q = 39
  · subst h
    exact model_single g n zs w hn0 hn hz hq hc
  · exact model_other g n q zs w hn0 hn hz hq h hc

/-- The length bound: it answers some bool. -/
theorem bytes1_any (a : Option Addr) (n c : Nat) (w : World) :
    Calls Trym.prog 5 #[.slice a n c] w fun e w' => (∃ b, e = .returned (.bool b)) ∧ w' = w := by
  go_enter Trym.func5, Trym.ntmps5
  go_wp2
  all_goals (go_ret; exact ⟨⟨_, rfl⟩, rfl⟩)

/-! ### The law's walk -/
set_option maxHeartbeats 1000000 in
set_option maxRecDepth 100000 in
theorem mm_some (x : Addr) (n cap : Nat) (zs : List Int) (w : World) (hn0 : 0 < n) (hn : n ≤ 1048576) (hz : zs.length = n) (hc : ∀ i, i < n → w.cell? (x.add i) = some (.int .u8 (zs.getD i 0))) :
    Calls Trym.prog 3 #[.slice (some x) n cap] w fun e w' => e = .returned (.bool true) ∧ Below w.heap.size w w' := by
  have HZ : Hid (zs.length = n) := hz
  have HC : Hid (∀ i, i < n → w.cell? (x.add i) = some (.int .u8 (zs.getD i 0))) := hc
  have hnil := fun (w : World) (a : Option Addr) (n c : Nat) => Lib.run_eql_slice_nil (P := Trym.prog) w 22 5 a n c 0 0 Trym.underlying22
  have t0 : ((n : Int) == 0) = false := by simp; omega
  clear hz hc
  go_enter Trym.func3, Trym.ntmps3
  go_wp2_with fail
  refine (bytes1_any (some x) n cap w).mono ?_
  rintro e w' ⟨⟨b, rfl⟩, rfl⟩
  cases b
  · go_wp2
    go_ret
    exact ⟨rfl, Below.refl _ _⟩
  go_wp2_with fail
  refine (clone_any x n cap zs w' (by omega) HC.out).mono ?_
  rintro e w1 ⟨rfl, hrow, hb⟩
  obtain ⟨q, hq⟩ : ∃ q, zs.getD 0 0 = q := ⟨_, rfl⟩
  have H1 := zzquoted_any w'.heap.size n n q zs w1 hn0 (by omega) (Nat.le_refl _) (by unfold maxLen; omega) HZ.out hq (fun i hi => hrow.cell hi)
  have H2 : ∀ w2, Below w1.heap.size w1 w2 → Calls Trym.prog 8 #[.slice (some ⟨w'.heap.size, 0, none⟩) n n] w2 fun e w'' => QAns w'' e (Plain.answer q zs) ∧ Below w2.heap.size w2 w'' := fun w2 hb2 =>
    model_any w'.heap.size n q zs w2 hn0 (by omega) HZ.out hq (fun i hi => (hrow.of_block (hb2.block _ hrow.lt)).cell hi)
  obtain ⟨r, hr⟩ : ∃ r, r = Plain.answer q zs := ⟨_, rfl⟩
  rw [← hr] at H1 H2
  have HLN : Hid (∀ s t, r = some (s, t) → s.length ≤ n ∧ t.length ≤ n) := fun s t h => by
    have := Plain.answer_len (hr.symm.trans h)
    rw [HZ.out] at this
    exact this
  have HB : Hid (∀ w2, Below w1.heap.size w1 w2 → Calls Trym.prog 8 #[.slice (some ⟨w'.heap.size, 0, none⟩) n n] w2 fun e w'' => QAns w'' e r ∧ Below w2.heap.size w2 w'') := H2
  clear H2 hr hrow hq HC
  go_wp2_with fail
  refine H1.mono ?_
  rintro e w2 ⟨ha, hb2⟩
  have H3 := HB.out w2 hb2
  have hB2 : Below w'.heap.size w' w2 := hb.trans (hb2.mono hb.size)
  clear HB H1 hb2 hb
  cases r with
  | none =>
    obtain rfl := ha
    go_wp2_with fail
    refine H3.mono ?_
    rintro e w3 ⟨ha, hb3⟩
    obtain rfl := ha
    have hB3 : Below w'.heap.size w' w3 := hB2.trans (hb3.mono hB2.size)
    clear H3 hb3 hB2
    go_wp2
    go_ret
    exact ⟨rfl, hB3⟩
  | some p =>
    obtain ⟨s, t⟩ := p
    obtain ⟨x1, n1, c1, y1, m1, d1, rfl, p1, p2⟩ := ha
    go_wp2_with fail
    refine H3.mono ?_
    rintro e w3 ⟨ha, hb3⟩
    obtain ⟨x2, n2, c2, y2, m2, d2, rfl, q1, q2⟩ := ha
    have hB3 : Below w'.heap.size w' w3 := hB2.trans (hb3.mono hB2.size)
    have hl := HLN.out s t rfl
    have E1 := eq_same (some x1) (some x2) n1 n2 c1 c2 s w3 (p1.below hb3) q1 (by have h1 := p1.1; omega)
    have p2' := p2.below hb3
    have hm1 : m1 ≤ 4194304 := by have h1 := p2.1; omega
    clear H3 hb3 hB2 p1 p2 q1 HLN hl
    go_wp2_with fail
    refine E1.mono ?_
    rintro e w4 ⟨rfl, hb4⟩
    have E2 := eq_same y1 y2 m1 m2 d1 d2 t w4 (p2'.below hb4) (q2.below hb4) hm1
    have hB4 : Below w'.heap.size w' w4 := hB3.trans (hb4.mono hB3.size)
    clear E1 hb4 hB3 p2' q2
    go_wp2_with fail
    refine E2.mono ?_
    rintro e w5 ⟨rfl, hb5⟩
    have hB5 : Below w'.heap.size w' w5 := hB4.trans (hb5.mono hB4.size)
    clear E2 hb5 hB4
    go_wp2
    go_ret
    exact ⟨rfl, hB5⟩

/-- No bytes, or too many: the law says nothing. -/
theorem mm_early (a : Option Addr) (n c : Nat) (w : World) (h : n = 0 ∨ 1048576 < n) :
    Calls Trym.prog 3 #[.slice a n c] w fun e w' => e = .returned (.bool true) ∧ Below w.heap.size w w' := by
  go_enter Trym.func3, Trym.ntmps3
  go_wp2_with fail
  refine (bytes1_any a n c w).mono ?_
  rintro e w' ⟨⟨b, rfl⟩, rfl⟩
  cases b
  · go_wp2
    go_ret
    exact ⟨rfl, Below.refl _ _⟩
  by_cases hn : 1048576 < n
  · clear h
    go_wp2
    go_ret
    exact ⟨rfl, Below.refl _ _⟩
  · have h0 : n = 0 := by omega
    subst h0
    clear h hn
    go_wp2
    go_ret
    exact ⟨rfl, Below.refl _ _⟩
end Go.Proofs.Qxb6602979aMods

/-
  SEAT b6602979aM: the contract of quoted (and ZZQuoted): it answers as Plain.scan says.
-/
import Derived.Test.Qxb6602979aModsBase
namespace Go.Proofs.Qxb6602979aMods
open Go.RowKit
set_option linter.unusedVariables false

/-- What an ending says of a text's scan, in the world w. -/
def QAns (w : World) (e : Ending) : Option (List Int × List Int) → Prop
  | none => e = .returned (.tuple #[.slice none 0 0, .slice none 0 0, .bool false])
  | some (s, r) => ∃ x n c y m d, e = .returned (.tuple #[.slice (some x) n c, .slice y m d, .bool true]) ∧ Reads w (some x) n s ∧ Reads w y m r
/-- Slot s of the loop: nil while nothing is doubled; then a row of the call's own. -/
def SAt (w : World) (B : Nat) (sv : Value) (zs acc : List Int) (k : Nat) : Prop :=
  (sv = .slice none 0 0 ∧ acc = Plain.mid zs k) ∨ ∃ g cap, sv = .slice (some ⟨g, 0, none⟩) acc.length cap ∧ Own w B g cap acc

theorem QAns.mk {w : World} {x : Addr} {n c : Nat} {y : Option Addr} {m d : Nat} {s r : List Int} (h1 : Reads w (some x) n s) (h2 : Reads w y m r) :
    QAns w (.returned (.tuple #[.slice (some x) n c, .slice y m d, .bool true])) (some (s, r)) := ⟨_, _, _, _, _, _, rfl, h1, h2⟩
/-- The scalar as a part of the text. -/
theorem reads_mid {w wr : World} {g n k : Nat} {zs : List Int} (nq : Nat) (hg : g < w.heap.size) (hz : zs.length = n) (hc : ∀ i, i < n → w.cell? ⟨g, i, none⟩ = some (.int .u8 (zs.getD i 0))) (hlt : k ≤ n) (hb : Below w.heap.size w wr) :
    Reads (wr.drewN nq) (some ⟨g, 1, none⟩) (k - 1) (Plain.mid zs k) := by
  refine ⟨Plain.mid_len (by omega), fun i hi => ⟨_, rfl, ?_⟩⟩
  rw [addr_plain, (below_draws hb nq).cell (by exact hg), hc _ (by omega), Plain.mid_getD hi]
/-- What follows the scalar. -/
theorem reads_tail {w wr : World} {g n k : Nat} {zs : List Int} (nq : Nat) (hg : g < w.heap.size) (hz : zs.length = n) (hc : ∀ i, i < n → w.cell? ⟨g, i, none⟩ = some (.int .u8 (zs.getD i 0))) (hb : Below w.heap.size w wr) :
    Reads (wr.drewN nq) (some ⟨g, k, none⟩) (n - k) (zs.drop k) := by
  refine ⟨by simp [hz], fun i hi => ⟨_, rfl, ?_⟩⟩
  rw [addr_plain, (below_draws hb nq).cell (by exact hg), hc _ (by omega), Plain.drop_getD]
/-- Nothing follows: whatever the address. -/
theorem reads_end {W : World} {n m k : Nat} {zs : List Int} (y : Option Addr) (hz : zs.length = n) (h : n ≤ k) (hm : m = 0) : Reads W y m (zs.drop k) :=
  ⟨by simp [hz]; omega, fun i hi => absurd hi (by omega)⟩

set_option maxHeartbeats 1000000 in
set_option maxRecDepth 100000 in
theorem quoted_any (g n cap : Nat) (q : Int) (zs : List Int) (w : World) (hn0 : 0 < n) (hn : n ≤ 2097152) (hcap : n ≤ cap) (hcap2 : cap ≤ maxLen) (hz : zs.length = n) (hq : zs.getD 0 0 = q)
    (hc : ∀ i, i < n → w.cell? ⟨g, i, none⟩ = some (.int .u8 (zs.getD i 0))) :
    Calls Trym.prog 11 #[.slice (some ⟨g, 0, none⟩) n cap] w fun e w' => QAns w' e (Plain.answer q zs) ∧ Below w.heap.size w w' := by
  unfold maxLen at hcap2
  have HZ : Hid (zs.length = n) := hz
  have HQ : Hid (zs.getD 0 0 = q) := hq
  have hc0 : w.cell? ⟨g, 0, none⟩ = some (.int .u8 q) := by rw [← hq]; exact hc 0 hn0
  have HC : Hid (∀ i, i < n → w.cell? ⟨g, i, none⟩ = some (.int .u8 (zs.getD i 0))) := hc
  have hg : g < w.heap.size := cell_lt hc0
  have hnil := fun (w : World) (a : Option Addr) (n c : Nat) => Lib.run_eql_slice_nil (P := Trym.prog) w 22 5 a n c 0 0 Trym.underlying22
  have hnnil := fun (w : World) (a : Option Addr) (n c : Nat) => run_neq_slice_nil_any (P := Trym.prog) w 22 5 a n c 0 0 Trym.underlying22
  clear hz hq hc
  go_enter Trym.func11, Trym.ntmps11
  go_wp2
  clear hc0
  go_loopw [2, 3, 4, 6] (fun sv av ov i wr => av = .slice none 0 0 ∧ ov = .bool false ∧ ∃ (k : Nat) (acc : List Int), 1 ≤ k ∧ k ≤ n ∧ i = .int .i64 k ∧ acc.length ≤ k ∧ Hid (Plain.answer q zs = Plain.scan q acc (zs.drop k)) ∧ SAt wr w.heap.size sv zs acc k ∧ Below w.heap.size w wr)
    (fun _ _ _ i _ => n + 1 - (intOf i).toNat)
  case atStart => exact ⟨rfl, rfl, 1, [], Nat.le_refl _, by omega, rfl, by simp, rfl, .inl ⟨rfl, (Plain.mid_one zs).symm⟩, Below.refl _ _⟩
  case round =>
    obtain ⟨rfl, rfl, k, acc, hk1, hkn, rfl, hacc, HS, hS, hb⟩ := hrel
    by_cases hlt : k < n
    · obtain ⟨c, hcc⟩ : ∃ c, c = zs.getD k 0 := ⟨_, rfl⟩
      have hck : wr.cell? ⟨g, k, none⟩ = some (.int .u8 c) := by
        rw [hcc]
        exact (hb.cell (by exact hg)).trans (HC.out k hlt)
      have HCC : Hid (c = zs.getD k 0) := hcc
      have hzk : k < zs.length := by rw [HZ.out]; exact hlt
      clear hcc
      by_cases h1 : c = 92 ∧ q = 34
      · obtain ⟨rfl, rfl⟩ := h1
        have HN : Hid (Plain.answer 34 zs = none) := by
          show _ = _
          rw [HS.out, Plain.at_esc hzk HCC.out.symm rfl]
        go_wp2
        go_ret3
        refine ⟨?_, hb⟩
        rw [HN.out]
        rfl
      by_cases h2 : c = q
      · by_cases h3 : q = 39 ∧ k + 1 < n ∧ zs.getD (k + 1) 0 = 39
        · obtain ⟨rfl, hk2, hd⟩ := h3
          subst h2
          have hdk : wr.cell? ⟨g, k + 1, none⟩ = some (.int .u8 39) := by
            rw [← hd]
            exact (hb.cell (by exact hg)).trans (HC.out (k + 1) hk2)
          have HT : Hid (Plain.answer 39 zs = Plain.scan 39 (acc ++ [39]) (zs.drop (k + 2))) := by
            show _ = _
            rw [HS.out, Plain.at_twice (by rw [HZ.out]; exact hk2) HCC.out.symm rfl hd]
          clear HS hd h1
          have i1 : (k : Int) + 1 < (n : Int) := by omega
          rcases hS with ⟨rfl, HA⟩ | ⟨g1, cap1, rfl, hown⟩
          · subst HA
            have hml : (Plain.mid zs k).length = k - 1 := Plain.mid_len (by omega)
            have R0 : ∀ o : Obj, Reads (wr.alloc o) (some ⟨g, 1, none⟩) (k - 1) (Plain.mid zs k) := fun o => ⟨hml, fun i hi => ⟨_, rfl, by
              rw [addr_plain, World.cell?_alloc_lt _ _ _ (by have := hb.size; show g < _; omega), hb.cell (by exact hg), HC.out (1 + i) (by omega), Plain.mid_getD hi]⟩⟩
            have HML : Hid ((Plain.mid zs k).length = k - 1) := hml
            have hsz : w.heap.size ≤ wr.heap.size := hb.size
            clear hml
            go_wp2_with (first | (at_builtin; refine wpList_app _ rfl (.tmp 53) (.tmp 56) rfl w.heap.size wr.heap.size 0 0 [] (Plain.mid zs k) rfl rfl (own_new wr _ hsz) ⟨g, 1, none⟩ (k - 1) (cap - 1) rfl (R0 _) (k - 1) (Nat.zero_add _) (Plain.mid zs k) rfl (by omega) (by simp; omega) ?_; intro g1 cap1 w1 hown1 hgrow1; have hb1 := (hb.alloc hsz (.cells #[] 5)).grown hgrow1 (by simp; omega) (by intro q hq; cases hq; exact hsz)) | (at_builtin; refine wpList_app _ rfl (.tmp 58) (.tmp 59) rfl w.heap.size g1 (k - 1) cap1 (Plain.mid zs k) [39] rfl HML.out (hown1.alloc _) ⟨w1.heap.size, 0, none⟩ 1 1 rfl (reads_new _ _) k (by omega) (Plain.mid zs k ++ [39]) rfl (by omega) (by simp; have := hb1.size; omega) ?_; intro g2 cap2 w2 hown2 hgrow2))
            have hb2 : Below w.heap.size w w2 := (hb1.alloc hb1.size _).grown hgrow2 (by simp; have := hb1.size; omega) (by intro q hq; cases hq; exact hown1.lt.1)
            clear hgrow1 hgrow2 hb1 hown1 R0
            go_wp2
            go_roundw
            case rel =>
              refine ⟨rfl, rfl, k + 2, Plain.mid zs k ++ [39], by omega, by omega, by go_num, by simp [HML.out]; omega, HT, .inr ⟨g2, cap2, ?_, hown2⟩, hb2⟩
              rw [List.length_append, HML.out]
              simp; omega
            case measure => simp [intOf]; omega
          · have hsz : w.heap.size ≤ wr.heap.size := hb.size
            go_wp2_with (first | (at_builtin; refine wpList_app _ rfl (.tmp 58) (.tmp 59) rfl w.heap.size g1 acc.length cap1 acc [39] rfl rfl (hown.alloc _) ⟨wr.heap.size, 0, none⟩ 1 1 rfl (reads_new _ _) (acc.length + 1) rfl (acc ++ [39]) rfl (by omega) (by simp; omega) ?_; intro g2 cap2 w2 hown2 hgrow2))
            have hb2 : Below w.heap.size w w2 := (hb.alloc hb.size _).grown hgrow2 (by simp; omega) (by intro q hq; cases hq; exact hown.lt.1)
            clear hgrow2 hown
            go_wp2
            go_roundw
            case rel =>
              refine ⟨rfl, rfl, k + 2, acc ++ [39], by omega, by omega, by go_num, by simp; omega, HT, .inr ⟨g2, cap2, ?_, hown2⟩, hb2⟩
              rw [List.length_append]
              rfl
            case measure => simp [intOf]; omega
        · subst h2
          have HT : Hid (Plain.answer c zs = some (acc, zs.drop (k + 1))) := by
            show _ = _
            rw [HS.out, Plain.at_close hzk HCC.out.symm (by rw [HZ.out]; exact h3)]
          have i1 : (k : Int) + 1 ≤ (n : Int) := by omega
          have i2 : (n : Int) ≤ (cap : Int) := by omega
          clear HS h1
          by_cases h39 : c = 39
          · by_cases hk2 : k + 1 < n
            · obtain ⟨d, hdd⟩ : ∃ d, d = zs.getD (k + 1) 0 := ⟨_, rfl⟩
              have hdk : wr.cell? ⟨g, k + 1, none⟩ = some (.int .u8 d) := by
                rw [hdd]
                exact (hb.cell (by exact hg)).trans (HC.out (k + 1) hk2)
              have t39 : (d == 39) = false := by
                simp only [beq_eq_false_iff_ne]
                exact fun e => h3 ⟨h39, hk2, by rw [← hdd]; exact e⟩
              have i3 : (k : Int) + 1 < (n : Int) := by omega
              subst h39
              clear h3 hdd
              rcases hS with ⟨rfl, HA⟩ | ⟨g1, cap1, rfl, hown⟩
              · have HA' : Hid (acc = Plain.mid zs k) := HA
                clear HA
                go_wp2
                go_quiet (fail)
                go_wp2
                go_ret3
                refine ⟨?_, below_draws hb _⟩
                rw [HT.out, HA'.out]
                exact QAns.mk (reads_mid _ hg HZ.out HC.out hkn hb) (reads_tail _ hg HZ.out HC.out hb)
              · go_wp2
                go_quiet (fail)
                go_wp2
                go_ret3
                refine ⟨?_, below_draws hb _⟩
                rw [HT.out]
                exact QAns.mk (hown.drews _).reads (reads_tail _ hg HZ.out HC.out hb)
            · subst h39
              clear h3
              have i3 : (n : Int) ≤ (k : Int) + 1 := by omega
              rcases hS with ⟨rfl, HA⟩ | ⟨g1, cap1, rfl, hown⟩
              · have HA' : Hid (acc = Plain.mid zs k) := HA
                clear HA
                by_cases hce : cap = k + 1
                · subst hce
                  go_wp2
                  go_quiet (fail)
                  go_wp2
                  go_ret3
                  refine ⟨?_, below_draws hb _⟩
                  rw [HT.out, HA'.out]
                  exact QAns.mk (reads_mid _ hg HZ.out HC.out hkn hb) (reads_end _ HZ.out (by omega) (by omega))
                · go_wp2
                  go_quiet (fail)
                  go_wp2
                  go_ret3
                  refine ⟨?_, below_draws hb _⟩
                  rw [HT.out, HA'.out]
                  exact QAns.mk (reads_mid _ hg HZ.out HC.out hkn hb) (reads_tail _ hg HZ.out HC.out hb)
              · by_cases hce : cap = k + 1
                · subst hce
                  go_wp2
                  go_quiet (fail)
                  go_wp2
                  go_ret3
                  refine ⟨?_, below_draws hb _⟩
                  rw [HT.out]
                  exact QAns.mk ((hown.drews _).reads) (reads_end _ HZ.out (by omega) (by omega))
                · go_wp2
                  go_quiet (fail)
                  go_wp2
                  go_ret3
                  refine ⟨?_, below_draws hb _⟩
                  rw [HT.out]
                  exact QAns.mk ((hown.drews _).reads) (reads_tail _ hg HZ.out HC.out hb)
          · clear h3
            have t39 : (c == 39) = false := by simpa using h39
            by_cases h92 : c = 92
            · subst h92
              clear h39
              rcases hS with ⟨rfl, HA⟩ | ⟨g1, cap1, rfl, hown⟩
              · have HA' : Hid (acc = Plain.mid zs k) := HA
                clear HA
                by_cases hce : cap = k + 1
                · subst hce
                  go_wp2
                  go_quiet (fail)
                  go_wp2
                  go_ret3
                  refine ⟨?_, below_draws hb _⟩
                  rw [HT.out, HA'.out]
                  exact QAns.mk (reads_mid _ hg HZ.out HC.out hkn hb) (reads_end _ HZ.out (by omega) (by omega))
                · go_wp2
                  go_quiet (fail)
                  go_wp2
                  go_ret3
                  refine ⟨?_, below_draws hb _⟩
                  rw [HT.out, HA'.out]
                  exact QAns.mk (reads_mid _ hg HZ.out HC.out hkn hb) (reads_tail _ hg HZ.out HC.out hb)
              · by_cases hce : cap = k + 1
                · subst hce
                  go_wp2
                  go_quiet (fail)
                  go_wp2
                  go_ret3
                  refine ⟨?_, below_draws hb _⟩
                  rw [HT.out]
                  exact QAns.mk ((hown.drews _).reads) (reads_end _ HZ.out (by omega) (by omega))
                · go_wp2
                  go_quiet (fail)
                  go_wp2
                  go_ret3
                  refine ⟨?_, below_draws hb _⟩
                  rw [HT.out]
                  exact QAns.mk ((hown.drews _).reads) (reads_tail _ hg HZ.out HC.out hb)
            · have t92 : (c == 92) = false := by simpa using h92
              clear h39 h92
              rcases hS with ⟨rfl, HA⟩ | ⟨g1, cap1, rfl, hown⟩
              · have HA' : Hid (acc = Plain.mid zs k) := HA
                clear HA
                by_cases hce : cap = k + 1
                · subst hce
                  go_wp2
                  go_quiet (fail)
                  go_wp2
                  go_ret3
                  refine ⟨?_, below_draws hb _⟩
                  rw [HT.out, HA'.out]
                  exact QAns.mk (reads_mid _ hg HZ.out HC.out hkn hb) (reads_end _ HZ.out (by omega) (by omega))
                · go_wp2
                  go_quiet (fail)
                  go_wp2
                  go_ret3
                  refine ⟨?_, below_draws hb _⟩
                  rw [HT.out, HA'.out]
                  exact QAns.mk (reads_mid _ hg HZ.out HC.out hkn hb) (reads_tail _ hg HZ.out HC.out hb)
              · by_cases hce : cap = k + 1
                · subst hce
                  go_wp2
                  go_quiet (fail)
                  go_wp2
                  go_ret3
                  refine ⟨?_, below_draws hb _⟩
                  rw [HT.out]
                  exact QAns.mk ((hown.drews _).reads) (reads_end _ HZ.out (by omega) (by omega))
                · go_wp2
                  go_quiet (fail)
                  go_wp2
                  go_ret3
                  refine ⟨?_, below_draws hb _⟩
                  rw [HT.out]
                  exact QAns.mk ((hown.drews _).reads) (reads_tail _ hg HZ.out HC.out hb)
      · have t1 : (c == q) = false := by simpa using h2
        have HT : Hid (Plain.answer q zs = Plain.scan q (acc ++ [c]) (zs.drop (k + 1))) := by
          show _ = _
          rw [HS.out, Plain.at_step hzk (by rw [← HCC.out]; exact h1) (by rw [← HCC.out]; exact h2), ← HCC.out]
        rcases hS with ⟨rfl, HA⟩ | ⟨g1, cap1, rfl, hown⟩
        · have HA' : Hid (acc ++ [c] = Plain.mid zs (k + 1)) := by
            show _ = _
            rw [HA, HCC.out, Plain.mid_step hk1 hzk]
          clear HA HS h2
          by_cases h92 : c = 92
          · have h34 : (q == 34) = false := by simp; exact fun e => h1 ⟨h92, e⟩
            subst h92
            clear h1
            go_wp2
            go_roundw
            case rel => exact ⟨rfl, rfl, k + 1, acc ++ [92], by omega, by omega, by go_num, by simp; omega, HT, .inl ⟨rfl, HA'.out⟩, hb⟩
            case measure => simp [intOf]; omega
          · have t92 : (c == 92) = false := by simpa using h92
            clear h1 h92
            go_wp2
            go_roundw
            case rel => exact ⟨rfl, rfl, k + 1, acc ++ [c], by omega, by omega, by go_num, by simp; omega, HT, .inl ⟨rfl, HA'.out⟩, hb⟩
            case measure => simp [intOf]; omega
        · have hsz : w.heap.size ≤ wr.heap.size := hb.size
          clear HS h2
          by_cases h92 : c = 92
          · have h34 : (q == 34) = false := by simp; exact fun e => h1 ⟨h92, e⟩
            subst h92
            clear h1
            go_wp2_with (first | (at_builtin; refine wpList_app _ rfl (.tmp 80) (.tmp 82) rfl w.heap.size g1 acc.length cap1 acc [92] rfl rfl (hown.alloc _) ⟨wr.heap.size, 0, none⟩ 1 1 rfl (reads_new _ _) (acc.length + 1) rfl (acc ++ [92]) rfl (by omega) (by simp; omega) ?_; intro g2 cap2 w2 hown2 hgrow2))
            have hb2 : Below w.heap.size w w2 := (hb.alloc hb.size _).grown hgrow2 (by simp; omega) (by intro q hq; cases hq; exact hown.lt.1)
            clear hgrow2 hown
            go_wp2
            go_roundw
            case rel =>
              refine ⟨rfl, rfl, k + 1, acc ++ [92], by omega, by omega, by go_num, by simp; omega, HT, .inr ⟨g2, cap2, ?_, hown2⟩, hb2⟩
              rw [List.length_append]
              rfl
            case measure => simp [intOf]; omega
          · have t92 : (c == 92) = false := by simpa using h92
            clear h1 h92
            go_wp2_with (first | (at_builtin; refine wpList_app _ rfl (.tmp 80) (.tmp 82) rfl w.heap.size g1 acc.length cap1 acc [c] rfl rfl (hown.alloc _) ⟨wr.heap.size, 0, none⟩ 1 1 rfl (reads_new _ _) (acc.length + 1) rfl (acc ++ [c]) rfl (by omega) (by simp; omega) ?_; intro g2 cap2 w2 hown2 hgrow2))
            have hb2 : Below w.heap.size w w2 := (hb.alloc hb.size _).grown hgrow2 (by simp; omega) (by intro q hq; cases hq; exact hown.lt.1)
            clear hgrow2 hown
            go_wp2
            go_roundw
            case rel =>
              refine ⟨rfl, rfl, k + 1, acc ++ [c], by omega, by omega, by go_num, by simp; omega, HT, .inr ⟨g2, cap2, ?_, hown2⟩, hb2⟩
              rw [List.length_append]
              rfl
            case measure => simp [intOf]; omega
    · have HN : Hid (Plain.answer q zs = none) := by
        show _ = _
        rw [HS.out, Plain.at_end (by rw [HZ.out]; omega)]
      go_wp2
      go_ret3
      refine ⟨?_, hb⟩
      rw [HN.out]
      rfl

/-- ZZQuoted hands quoted's answer on. -/
theorem zzquoted_any (g n cap : Nat) (q : Int) (zs : List Int) (w : World) (hn0 : 0 < n) (hn : n ≤ 2097152) (hcap : n ≤ cap) (hcap2 : cap ≤ maxLen) (hz : zs.length = n) (hq : zs.getD 0 0 = q)
    (hc : ∀ i, i < n → w.cell? ⟨g, i, none⟩ = some (.int .u8 (zs.getD i 0))) :
    Calls Trym.prog 7 #[.slice (some ⟨g, 0, none⟩) n cap] w fun e w' => QAns w' e (Plain.answer q zs) ∧ Below w.heap.size w w' := by
  have H := quoted_any g n cap q zs w hn0 hn hcap hcap2 hz hq hc
  obtain ⟨r, hr⟩ : ∃ r, r = Plain.answer q zs := ⟨_, rfl⟩
  rw [← hr] at H ⊢
  clear hz hq hc hr hcap2
  cases r with
  | none =>
    go_enter Trym.func7, Trym.ntmps7
    go_wp2_with fail
    refine H.mono ?_
    rintro e w' ⟨ha, hb⟩
    obtain rfl := ha
    go_wp2
    go_ret3
    exact ⟨rfl, hb⟩
  | some p =>
    obtain ⟨s, t⟩ := p
    go_enter Trym.func7, Trym.ntmps7
    go_wp2_with fail
    refine H.mono ?_
    rintro e w' ⟨ha, hb⟩
    obtain ⟨x, n1, c1, y, m1, d1, rfl, h1, h2⟩ := ha
    go_wp2
    go_ret3
    exact ⟨QAns.mk h1 h2, hb⟩
end Go.Proofs.Qxb6602979aMods

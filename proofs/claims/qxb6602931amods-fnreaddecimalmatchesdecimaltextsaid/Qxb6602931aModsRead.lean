/-
  SEAT b6602931aM: contracts of zzClone, readDecimal, zzStripZeros, zzDecLE, zzBytesEq: the functions that read.
-/
import Derived.Test.Qxb6602931aModsRows
import Derived.Test.Qxb6602931aModsPlain
import Derived.WalkKit
import Derived.WalkSpells
import Derived.Deep.OwnRows
import Derived.Deep.QuietTactic
import Derived.BigQuiet
namespace Go.Proofs.Qxb6602931aMods
open Go.RowKit
set_option linter.unusedVariables false

theorem Trym.info5 : (Trym.prog.info? 5).map (fun i => (i.zero, i.size, i.bytes)) = some (some (.int .u8 0), 1, 1) := by kernel_rfl

theorem cell_lt {w : World} {a : Addr} {v : Value} (h : w.cell? a = some v) : a.block < w.heap.size := World.block_lt_of_cell? w _ h

/-- Draws turn no block. -/
theorem below_draws {B : Nat} {w w' : World} (h : Below B w w') (n : Nat) : Below B w (w'.drewN n) := ⟨h.os, h.tape, h.output, h.size, h.block⟩

/-- One byte more of the copy. -/
theorem fill_step (zs : List Int) (k j : Nat) (v : Int) (hv : v = zs.getD k 0) :
    (if j = k then Value.int .u8 v else .int .u8 (if j < k then zs.getD j 0 else 0)) = .int .u8 (if j < k + 1 then zs.getD j 0 else 0) := by
  by_cases e : j = k
  · subst e; subst hv; simp
  · rw [if_neg e]
    by_cases e2 : j < k
    · rw [if_pos e2, if_pos (by omega)]
    · rw [if_neg e2, if_neg (by omega)]

/-- zzClone of a slice that is not nil: a new row with its bytes. -/
theorem clone_any (x : Addr) (n cap : Nat) (zs : List Int) (w : World) (hn : n ≤ 1048576) (hc : ∀ i, i < n → w.cell? (x.add i) = some (.int .u8 (zs.getD i 0))) :
    Calls Trym.prog 10 #[.slice (some x) n cap] w fun e w' => e = .returned (.slice (some ⟨w.heap.size, 0, none⟩) n n) ∧ w'.rowIs w.heap.size 5 n (fun i => .int .u8 (zs.getD i 0)) ∧ Below w.heap.size w w' := by
  have hmk := run_make_row' (P := Trym.prog) 22 5 (.int .u8 0) 1 Trym.underlying22 Trym.info5 rfl .i64 .i64 n (by omega) (by omega)
  have hnil := fun (w : World) (a : Option Addr) (n c : Nat) => Lib.run_eql_slice_nil (P := Trym.prog) w 22 5 a n c 0 0 Trym.underlying22
  go_enter Trym.func10, Trym.ntmps10
  go_wp2
  go_loopw [4] (fun i wr => ∃ k : Nat, k ≤ n ∧ i = .int .i64 k ∧ wr.rowIs w.heap.size 5 n (fun j => .int .u8 (if j < k then zs.getD j 0 else 0)) ∧ Below w.heap.size w wr) (fun i _ => n - (intOf i).toNat)
  case atStart => exact ⟨0, Nat.zero_le _, rfl, (World.rowIs_made w _ n 5).congr (fun i hi => by simp), (Below.refl _ _).alloc (Nat.le_refl _) _⟩
  case round =>
    obtain ⟨k, hk, rfl, hrow, hb⟩ := hrel
    by_cases hlt : k < n
    · have hck : wr.cell? (x.add k) = some (.int .u8 (zs.getD k 0)) := by
        have h := hc k hlt
        rw [hb.cell (cell_lt h)]; exact h
      have ht : wr.cell? ⟨w.heap.size, k, none⟩ = some (.int .u8 0) := by rw [hrow.cell hlt]; simp
      have hf := hrow.frozen k
      go_wp2
      go_roundw
      case rel => exact ⟨k + 1, by omega, by go_num, (hrow.set k _).congr (fun j hj => fill_step zs k j _ (by simp)), hb.setCell (Nat.le_refl _) _⟩
      case measure => simp [intOf]; omega
    · go_wp2
      go_ret
      exact ⟨rfl, hrow.congr (fun j hj => by rw [if_pos (by omega)]), hb⟩

/-- zzClone of nil. -/
theorem clone_nil (w : World) :
    Calls Trym.prog 10 #[.slice none 0 0] w fun e w' => e = .returned (.slice none 0 0) ∧ w' = w := by
  have hnil := fun (w : World) (a : Option Addr) (n c : Nat) => Lib.run_eql_slice_nil (P := Trym.prog) w 22 5 a n c 0 0 Trym.underlying22
  go_enter Trym.func10, Trym.ntmps10
  go_wp2
  go_ret
  exact ⟨rfl, rfl⟩

/-- The length bound: it answers some bool. -/
theorem bytes_any (a : Option Addr) (n cap : Nat) (L : Int) (w : World) :
    Calls Trym.prog 15 #[.slice a n cap, .int .u64 L] w fun e w' => (∃ b, e = .returned (.bool b)) ∧ w' = w := by
  go_enter Trym.func15, Trym.ntmps15
  go_wp2
  all_goals (go_ret; exact ⟨⟨_, rfl⟩, rfl⟩)

/-- readDecimal of nothing: refused. -/
theorem read_none (a : Option Addr) (cap : Nat) (L : Int) (w : World) :
    Calls Trym.prog 16 #[.slice a 0 cap, .int .u64 L] w fun e w' => e = .returned (.tuple #[.int .u64 0, .bool false]) ∧ w' = w := by
  go_enter Trym.func16, Trym.ntmps16
  go_wp2
  refine wp_loop_rounds 1 ?_
  rw [rounds_succ]
  go_wp2
  go_ret2
  exact ⟨rfl, rfl⟩

/-- readDecimal of some bytes. -/
theorem read_any (x : Addr) (n cap : Nat) (zs : List Int) (L : Int) (w : World) (hL : 9 ≤ L) (hL2 : L ≤ 18446744073709551615) (hn0 : 0 < n) (hn : n ≤ 65536) (hz : zs.length = n)
    (hw : ∀ i, 0 ≤ zs.getD i 0 ∧ zs.getD i 0 ≤ 255) (hc : ∀ i, i < n → w.cell? (x.add i) = some (.int .u8 (zs.getD i 0))) :
    Calls Trym.prog 24 #[.slice (some x) n cap, .int .u64 L] w fun e w' => e = .returned (.tuple #[.int .u64 (Plain.rdV zs L), .bool (Plain.rdB zs L)]) ∧ w' = w := by
  have HZ : Hid (zs.length = n) := hz
  clear hz
  go_enter Trym.func24, Trym.ntmps24
  go_wp2
  go_loop [6, 12] (fun v i => ∃ k : Nat, ∃ m : Int, k ≤ n ∧ i = .int .i64 k ∧ v = .int .u64 m ∧ 0 ≤ m ∧ m ≤ L ∧ Hid (m = Plain.val (zs.take k)) ∧ Plain.AllDig (zs.take k)) (fun _ i => n - (intOf i).toNat)
  case atStart => exact ⟨0, 0, Nat.zero_le _, rfl, rfl, by omega, by omega, rfl, Plain.allDig_nil⟩
  case round =>
    obtain ⟨k, m, hk, rfl, rfl, hm0, hm1, HM, hD⟩ := hrel
    by_cases hlt : k < n
    · obtain ⟨c, hcc⟩ : ∃ c, c = zs.getD k 0 := ⟨_, rfl⟩
      have hck : w.cell? (x.add k) = some (.int .u8 c) := by rw [hcc]; exact hc k hlt
      have hc0 : 0 ≤ c := by rw [hcc]; exact (hw k).1
      have hc1 : c ≤ 255 := by rw [hcc]; exact (hw k).2
      have HC : Hid (c = zs.getD k 0) := hcc
      clear hcc hc hw
      by_cases hd : 48 ≤ c ∧ c ≤ 57
      · obtain ⟨hd1, hd2⟩ := hd
        by_cases hq : (L - (c - 48)) / 10 < m
        · have HB : Hid (Plain.rdB zs L = false) := by
            refine Plain.read_over (k := k + 1) ?_
            rw [(Plain.read_step (by rw [HZ.out]; exact hlt) hD (by rw [← HC.out]; exact hd1) (by rw [← HC.out]; exact hd2)).2, ← HM.out, ← HC.out]
            omega
          go_wp2
          go_ret2
          exact ⟨by rw [Plain.rdV_no HB.out, HB.out]; rfl, rfl⟩
        · have HS : Hid (Plain.AllDig (zs.take (k + 1)) ∧ m * 10 + (c - 48) = Plain.val (zs.take (k + 1))) := by
            have := Plain.read_step (by rw [HZ.out]; exact hlt) hD (by rw [← HC.out]; exact hd1) (by rw [← HC.out]; exact hd2)
            exact ⟨this.1, by rw [this.2, ← HM.out, ← HC.out]⟩
          go_wp2
          go_round
          case rel => exact ⟨k + 1, m * 10 + (c - 48), by omega, by go_num, by go_num, by omega, by omega, HS.out.2, HS.out.1⟩
          case measure => simp [intOf]; omega
      · have HB : Hid (Plain.rdB zs L = false) := Plain.read_bad (k := k) (by rw [HZ.out]; exact hlt) (by rw [← HC.out]; exact hd)
        by_cases hd1 : c < 48
        · go_wp2
          go_ret2
          exact ⟨by rw [Plain.rdV_no HB.out, HB.out]; rfl, rfl⟩
        · have hd2 : 57 < c := by omega
          go_wp2
          go_ret2
          exact ⟨by rw [Plain.rdV_no HB.out, HB.out]; rfl, rfl⟩
    · have HB : Hid (Plain.rdB zs L = true ∧ m = Plain.val zs) := by
        have e : zs.take k = zs := List.take_of_length_le (by rw [HZ.out]; omega)
        have h1 := HM.out
        rw [e] at h1 hD
        exact ⟨Plain.rdB_iff.2 ⟨⟨by rw [HZ.out]; exact hn0, by omega⟩, hD⟩, h1⟩
      go_wp2
      go_ret2
      exact ⟨by rw [Plain.rdV_yes HB.out.1, HB.out.1, ← HB.out.2]; rfl, rfl⟩

/-- ZZreadDecimal hands readDecimal's answer on. -/
theorem zzread_any (x : Addr) (n cap : Nat) (zs : List Int) (L : Int) (w : World) (hL : 9 ≤ L) (hL2 : L ≤ 18446744073709551615) (hn0 : 0 < n) (hn : n ≤ 65536) (hz : zs.length = n)
    (hw : ∀ i, 0 ≤ zs.getD i 0 ∧ zs.getD i 0 ≤ 255) (hc : ∀ i, i < n → w.cell? (x.add i) = some (.int .u8 (zs.getD i 0))) :
    Calls Trym.prog 16 #[.slice (some x) n cap, .int .u64 L] w fun e w' => e = .returned (.tuple #[.int .u64 (Plain.rdV zs L), .bool (Plain.rdB zs L)]) ∧ w' = w := by
  have H := read_any x n cap zs L w hL hL2 hn0 hn hz hw hc
  clear hz hw hc
  go_enter Trym.func16, Trym.ntmps16
  go_wp2_with fail
  refine H.mono ?_
  rintro e w' ⟨rfl, rfl⟩
  go_wp2
  go_ret2
  exact ⟨rfl, rfl⟩

/-- Where zzStripZeros ends: ahead of place j zeros alone; there the last byte, or no zero. -/
def StripAt (zs : List Int) (n j : Nat) : Prop := j < n ∧ (∀ i, i < j → zs.getD i 0 = 48) ∧ (j + 1 = n ∨ zs.getD j 0 ≠ 48)
/-- zzStripZeros: the text behind its leading zeros. -/
theorem strip_any (g n : Nat) (zs : List Int) (w : World) (hn0 : 0 < n) (hn : n ≤ 65536) (hc : ∀ i, i < n → w.cell? ⟨g, i, none⟩ = some (.int .u8 (zs.getD i 0))) :
    Calls Trym.prog 17 #[.slice (some ⟨g, 0, none⟩) n n] w fun e w' => (∃ j : Nat, StripAt zs n j ∧ e = .returned (.slice (some ⟨g, j, none⟩) (n - j) (n - j))) ∧ w' = w := by
  go_enter Trym.func17, Trym.ntmps17
  go_wp2
  go_loop [3] (fun i => ∃ k : Nat, k < n ∧ i = .int .i64 k ∧ Hid (∀ i, i < k → zs.getD i 0 = 48)) (fun i => n - (intOf i).toNat)
  case atStart => exact ⟨0, by omega, rfl, fun i hi => absurd hi (by omega)⟩
  case round =>
    obtain ⟨k, hk, rfl, HZ⟩ := hrel
    obtain ⟨c, hcc⟩ : ∃ c, c = zs.getD k 0 := ⟨_, rfl⟩
    have hck : w.cell? ⟨g, k, none⟩ = some (.int .u8 c) := by rw [hcc]; exact hc k hk
    have HC : Hid (c = zs.getD k 0) := hcc
    clear hcc hc
    by_cases hlt : k + 1 < n
    · by_cases h0 : c = 48
      · have HN : Hid (∀ i, i < k + 1 → zs.getD i 0 = 48) := by
          intro i hi
          by_cases e : i = k
          · subst e; rw [← HC.out]; exact h0
          · exact HZ.out i (by omega)
        subst h0
        go_wp2
        go_round
        case rel => exact ⟨k + 1, by omega, by go_num, HN⟩
        case measure => simp [intOf]; omega
      · have h0' : (c == 48) = false := by simpa using h0
        have HS : StripAt zs n k := ⟨hk, HZ.out, .inr (by rw [← HC.out]; exact h0)⟩
        go_wp2
        go_ret
        exact ⟨⟨k, HS, rfl⟩, rfl⟩
    · have HS : StripAt zs n k := ⟨hk, HZ.out, .inl (by omega)⟩
      go_wp2
      go_ret
      exact ⟨⟨k, HS, rfl⟩, rfl⟩

/-- zzBytesEq: are the two texts one? -/
theorem bytesEq_any (x y : Addr) (n m cx cy : Nat) (p q : List Int) (w : World) (ha : p.length = n) (hb : q.length = m) (hn : n ≤ 65536) (hm : m ≤ 65536)
    (hx : ∀ i, i < n → w.cell? (x.add i) = some (.int .u8 (p.getD i 0))) (hy : ∀ i, i < m → w.cell? (y.add i) = some (.int .u8 (q.getD i 0))) :
    Calls Trym.prog 20 #[.slice (some x) n cx, .slice (some y) m cy] w fun e w' => (∃ r : Bool, e = .returned (.bool r) ∧ (r = true ↔ p = q)) ∧ Below w.heap.size w w' := by
  have HA : Hid (p.length = n) := ha
  have HB : Hid (q.length = m) := hb
  clear ha hb
  by_cases hnm : n = m
  · subst hnm
    go_enter Trym.func20, Trym.ntmps20
    go_wp2
    go_loopw [5] (fun i wr => ∃ k : Nat, k ≤ n ∧ i = .int .i64 k ∧ Hid (∀ i, i < k → p.getD i 0 = q.getD i 0) ∧ Below w.heap.size w wr) (fun i _ => n - (intOf i).toNat)
    case atStart => exact ⟨0, by omega, rfl, fun i hi => absurd hi (by omega), Below.refl _ _⟩
    case round =>
      obtain ⟨k, hk, rfl, HE, hbel⟩ := hrel
      by_cases hlt : k < n
      · obtain ⟨c, hcc⟩ : ∃ c, c = p.getD k 0 := ⟨_, rfl⟩
        obtain ⟨d, hdd⟩ : ∃ d, d = q.getD k 0 := ⟨_, rfl⟩
        have hck : wr.cell? (x.add k) = some (.int .u8 c) := by
          have h := hx k hlt
          rw [hbel.cell (cell_lt h), hcc]; exact h
        have hdk : wr.cell? (y.add k) = some (.int .u8 d) := by
          have h := hy k hlt
          rw [hbel.cell (cell_lt h), hdd]; exact h
        have HC : Hid (c = p.getD k 0) := hcc
        have HD : Hid (d = q.getD k 0) := hdd
        clear hcc hdd hx hy
        have i1 : (0 : Int) ≤ (k : Int) := by omega
        have i2 : (k : Int) < (n : Int) := by omega
        go_wp2
        go_quiet (fail)
        go_wp2
        · have hne : ¬ c = d := by simpa using (show (c != d) = true by assumption)
          have HN : Hid (¬ p = q) := by
            intro e
            refine hne ?_
            rw [HC.out, HD.out, e]
          go_ret
          exact ⟨⟨false, rfl, by simp; exact HN.out⟩, below_draws hbel _⟩
        · have he : c = d := by simpa using (show (c != d) = false by assumption)
          have HN : Hid (∀ i, i < k + 1 → p.getD i 0 = q.getD i 0) := by
            intro i hi
            by_cases e : i = k
            · subst e; rw [← HC.out, ← HD.out]; exact he
            · exact HE.out i (by omega)
          go_roundw
          case rel => exact ⟨k + 1, by omega, by go_num, HN, below_draws hbel _⟩
          case measure => simp [intOf]; omega
      · have HN : Hid (p = q) := Plain.eq_of_all (by rw [HA.out, HB.out]) (fun i hi => HE.out i (by have := HA.out; omega))
        go_wp2
        go_ret
        exact ⟨⟨true, rfl, by simp; exact HN.out⟩, hbel⟩
  · have hnm' : ((n : Int) == (m : Int)) = false := by simp; omega
    have HN : Hid (¬ p = q) := by
      intro e
      have h1 := HA.out
      have h2 := HB.out
      rw [e] at h1
      omega
    go_enter Trym.func20, Trym.ntmps20
    go_wp2
    go_ret
    exact ⟨⟨false, rfl, by simp; exact HN.out⟩, Below.refl _ _⟩

/-- zzDecLE: two texts without leading zeros, compared. -/
theorem decLE_any (x y : Addr) (n m cx cy : Nat) (p q : List Int) (w : World) (ha : p.length = n) (hb : q.length = m) (hn : n ≤ 65536) (hm : m ≤ 65536)
    (hx : ∀ i, i < n → w.cell? (x.add i) = some (.int .u8 (p.getD i 0))) (hy : ∀ i, i < m → w.cell? (y.add i) = some (.int .u8 (q.getD i 0))) :
    Calls Trym.prog 18 #[.slice (some x) n cx, .slice (some y) m cy] w fun e w' => e = .returned (.bool (Plain.decLE p q)) ∧ Below w.heap.size w w' := by
  have HA : Hid (p.length = n) := ha
  have HB : Hid (q.length = m) := hb
  clear ha hb
  by_cases hnm : n = m
  · subst hnm
    have HL : Hid (Plain.decLE p q = Plain.leL p q) := by
      unfold Plain.decLE
      exact if_pos (by rw [HA.out, HB.out])
    go_enter Trym.func18, Trym.ntmps18
    go_wp2
    go_loopw [5] (fun i wr => ∃ k : Nat, k ≤ n ∧ i = .int .i64 k ∧ Hid (∀ i, i < k → p.getD i 0 = q.getD i 0) ∧ Below w.heap.size w wr) (fun i _ => n - (intOf i).toNat)
    case atStart => exact ⟨0, by omega, rfl, fun i hi => absurd hi (by omega), Below.refl _ _⟩
    case round =>
      obtain ⟨k, hk, rfl, HE, hbel⟩ := hrel
      by_cases hlt : k < n
      · obtain ⟨c, hcc⟩ : ∃ c, c = p.getD k 0 := ⟨_, rfl⟩
        obtain ⟨d, hdd⟩ : ∃ d, d = q.getD k 0 := ⟨_, rfl⟩
        have hck : wr.cell? (x.add k) = some (.int .u8 c) := by
          have h := hx k hlt
          rw [hbel.cell (cell_lt h), hcc]; exact h
        have hdk : wr.cell? (y.add k) = some (.int .u8 d) := by
          have h := hy k hlt
          rw [hbel.cell (cell_lt h), hdd]; exact h
        have HC : Hid (c = p.getD k 0) := hcc
        have HD : Hid (d = q.getD k 0) := hdd
        clear hcc hdd hx hy
        have i1 : (0 : Int) ≤ (k : Int) := by omega
        have i2 : (k : Int) < (n : Int) := by omega
        go_wp2
        go_quiet (fail)
        by_cases hcd : c = d
        · have hcd' : (c != d) = false := by simpa using hcd
          have HN : Hid (∀ i, i < k + 1 → p.getD i 0 = q.getD i 0) := by
            intro i hi
            by_cases e : i = k
            · subst e; rw [← HC.out, ← HD.out]; exact hcd
            · exact HE.out i (by omega)
          clear hcd
          go_wp2
          go_roundw
          case rel => exact ⟨k + 1, by omega, by go_num, HN, below_draws hbel _⟩
          case measure => simp [intOf]; omega
        · have hcd' : (c != d) = true := by simpa using hcd
          have HN : Hid (Plain.leL p q = decide (c < d)) := by
            have := Plain.leL_part (a := p) (b := q) k (by rw [HA.out]; exact hlt) (by rw [HA.out, HB.out]) HE.out (by rw [← HC.out, ← HD.out]; exact hcd)
            show Plain.leL p q = decide (c < d)
            rw [this, HC.out, HD.out]
          clear hcd
          have hck' : (wr.drewN nq).cell? (x.add k) = some (.int .u8 c) := hck
          have hdk' : (wr.drewN nq).cell? (y.add k) = some (.int .u8 d) := hdk
          go_wp2
          go_quiet (fail)
          go_wp2
          go_ret
          refine ⟨?_, below_draws (below_draws hbel _) _⟩
          rw [HL.out, HN.out]
          rfl
      · have HN : Hid (p = q) := Plain.eq_of_all (by rw [HA.out, HB.out]) (fun i hi => HE.out i (by have := HA.out; omega))
        go_wp2
        go_ret
        refine ⟨?_, hbel⟩
        rw [HL.out, HN.out, Plain.leL_self]
        rfl
  · have hnm' : ((n : Int) == (m : Int)) = false := by simp; omega
    have HL : Hid (Plain.decLE p q = decide (n < m)) := by
      show Plain.decLE p q = decide (n < m)
      unfold Plain.decLE
      rw [if_neg (by rw [HA.out, HB.out]; exact hnm), HA.out, HB.out]
    go_enter Trym.func18, Trym.ntmps18
    go_wp2
    go_ret
    refine ⟨?_, Below.refl _ _⟩
    rw [HL.out]
    rfl
end Go.Proofs.Qxb6602931aMods

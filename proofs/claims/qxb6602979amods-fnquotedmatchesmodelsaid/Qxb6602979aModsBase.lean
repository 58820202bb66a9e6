/-
  SEAT b6602979aM: contracts of zzb1Clone and zzb1Eq; one law on append, as this seat wants it.
-/
import Derived.Test.Qxb6602979aModsRows
import Derived.Test.Qxb6602979aModsPlain
import Derived.WalkKit
import Derived.WalkSpells
import Derived.Deep.OwnRows
import Derived.Deep.QuietTactic
import Derived.BigQuiet
namespace Go.Proofs.Qxb6602979aMods
open Go.RowKit
set_option linter.unusedVariables false

theorem Trym.info5 : (Trym.prog.info? 5).map (fun i => (i.zero, i.size, i.bytes)) = some (some (.int .u8 0), 1, 1) := by kernel_rfl

theorem cell_lt {w : World} {a : Addr} {v : Value} (h : w.cell? a = some v) : a.block < w.heap.size := World.block_lt_of_cell? w _ h

/-- Draws turn no block. -/
theorem below_draws {B : Nat} {w w' : World} (h : Below B w w') (n : Nat) : Below B w (w'.drewN n) := ⟨h.os, h.tape, h.output, h.size, h.block⟩

/-- One byte more of the copy. -/
theorem fill_step (zs : List Int) (k j : Nat) (v : Int) (hv : v = zs.getD k 0) :
    (if j = k then Value.int .u8 v else .int .u8 (if j < k then zs.getD j 0 else 0)) = .int .u8 (if j < k + 1 then zs.getD j 0 else 0) := by
  by_cases e : j = k
  · subst e; subst hv; simp
  · rw [if_neg e]
    by_cases e2 : j < k
    · rw [if_pos e2, if_pos (by omega)]
    · rw [if_neg e2, if_neg (by omega)]

/-- zzb1Clone of a slice that is not nil: a new row with its bytes. -/
theorem clone_any (x : Addr) (n cap : Nat) (zs : List Int) (w : World) (hn : n ≤ 1048576) (hc : ∀ i, i < n → w.cell? (x.add i) = some (.int .u8 (zs.getD i 0))) :
    Calls Trym.prog 6 #[.slice (some x) n cap] w fun e w' => e = .returned (.slice (some ⟨w.heap.size, 0, none⟩) n n) ∧ w'.rowIs w.heap.size 5 n (fun i => .int .u8 (zs.getD i 0)) ∧ Below w.heap.size w w' := by
  have hmk := run_make_row' (P := Trym.prog) 22 5 (.int .u8 0) 1 Trym.underlying22 Trym.info5 rfl .i64 .i64 n (by omega) (by omega)
  have hnil := fun (w : World) (a : Option Addr) (n c : Nat) => Lib.run_eql_slice_nil (P := Trym.prog) w 22 5 a n c 0 0 Trym.underlying22
  go_enter Trym.func6, Trym.ntmps6
  go_wp2
  go_loopw [4] (fun i wr => ∃ k : Nat, k ≤ n ∧ i = .int .i64 k ∧ wr.rowIs w.heap.size 5 n (fun j => .int .u8 (if j < k then zs.getD j 0 else 0)) ∧ Below w.heap.size w wr) (fun i _ => n - (intOf i).toNat)
  case atStart => exact ⟨0, Nat.zero_le _, rfl, (World.rowIs_made w _ n 5).congr (fun i hi => by simp), (Below.refl _ _).alloc (Nat.le_refl _) _⟩
  case round =>
    obtain ⟨k, hk, rfl, hrow, hb⟩ := hrel
    by_cases hlt : k < n
    · have hck : wr.cell? (x.add k) = some (.int .u8 (zs.getD k 0)) := by
        have h := hc k hlt
        rw [hb.cell (cell_lt h)]; exact h
      have ht : wr.cell? ⟨w.heap.size, k, none⟩ = some (.int .u8 0) := by rw [hrow.cell hlt]; simp
      have hf := hrow.frozen k
      go_wp2
      go_roundw
      case rel => exact ⟨k + 1, by omega, by go_num, (hrow.set k _).congr (fun j hj => fill_step zs k j _ (by simp)), hb.setCell (Nat.le_refl _) _⟩
      case measure => simp [intOf]; omega
    · go_wp2
      go_ret
      exact ⟨rfl, hrow.congr (fun j hj => by rw [if_pos (by omega)]), hb⟩

/-- zzb1Clone of nil. -/
theorem clone_nil (w : World) :
    Calls Trym.prog 6 #[.slice none 0 0] w fun e w' => e = .returned (.slice none 0 0) ∧ w' = w := by
  have hnil := fun (w : World) (a : Option Addr) (n c : Nat) => Lib.run_eql_slice_nil (P := Trym.prog) w 22 5 a n c 0 0 Trym.underlying22
  go_enter Trym.func6, Trym.ntmps6
  go_wp2
  go_ret
  exact ⟨rfl, rfl⟩

/-- zzb1Eq: are the two texts one? -/
theorem eq_some (x y : Addr) (n m cx cy : Nat) (p q : List Int) (w : World) (ha : p.length = n) (hb : q.length = m) (hn : n ≤ 4194304) (hm : m ≤ 4194304)
    (hx : ∀ i, i < n → w.cell? (x.add i) = some (.int .u8 (p.getD i 0))) (hy : ∀ i, i < m → w.cell? (y.add i) = some (.int .u8 (q.getD i 0))) :
    Calls Trym.prog 9 #[.slice (some x) n cx, .slice (some y) m cy] w fun e w' => (∃ r : Bool, e = .returned (.bool r) ∧ (r = true ↔ p = q)) ∧ Below w.heap.size w w' := by
  have HA : Hid (p.length = n) := ha
  have HB : Hid (q.length = m) := hb
  clear ha hb
  by_cases hnm : n = m
  · subst hnm
    go_enter Trym.func9, Trym.ntmps9
    go_wp2
    go_loopw [5] (fun i wr => ∃ k : Nat, k ≤ n ∧ i = .int .i64 k ∧ Hid (∀ i, i < k → p.getD i 0 = q.getD i 0) ∧ Below w.heap.size w wr) (fun i _ => n - (intOf i).toNat)
    case atStart => exact ⟨0, by omega, rfl, fun i hi => absurd hi (by omega), Below.refl _ _⟩
    case round =>
      obtain ⟨k, hk, rfl, HE, hbel⟩ := hrel
      by_cases hlt : k < n
      · obtain ⟨c, hcc⟩ : ∃ c, c = p.getD k 0 := ⟨_, rfl⟩
        obtain ⟨d, hdd⟩ : ∃ d, d = q.getD k 0 := ⟨_, rfl⟩
        have hck : wr.cell? (x.add k) = some (.int .u8 c) := by
          have h := hx k hlt
          rw [hbel.cell (cell_lt h), hcc]; exact h
        have hdk : wr.cell? (y.add k) = some (.int .u8 d) := by
          have h := hy k hlt
          rw [hbel.cell (cell_lt h), hdd]; exact h
        have HC : Hid (c = p.getD k 0) := hcc
        have HD : Hid (d = q.getD k 0) := hdd
        clear hcc hdd hx hy
        have i1 : (0 : Int) ≤ (k : Int) := by omega
        have i2 : (k : Int) < (n : Int) := by omega
        go_wp2
        go_quiet (fail)
        go_wp2
        · have hne : ¬ c = d := by simpa using (show (c != d) = true by assumption)
          have HN : Hid (¬ p = q) := by
            intro e
            refine hne ?_
            rw [HC.out, HD.out, e]
          go_ret
          exact ⟨⟨false, rfl, by simp; exact HN.out⟩, below_draws hbel _⟩
        · have he : c = d := by simpa using (show (c != d) = false by assumption)
          have HN : Hid (∀ i, i < k + 1 → p.getD i 0 = q.getD i 0) := by
            intro i hi
            by_cases e : i = k
            · subst e; rw [← HC.out, ← HD.out]; exact he
            · exact HE.out i (by omega)
          go_roundw
          case rel => exact ⟨k + 1, by omega, by go_num, HN, below_draws hbel _⟩
          case measure => simp [intOf]; omega
      · have HN : Hid (p = q) := Plain.eq_of_all (by rw [HA.out, HB.out]) (fun i hi => HE.out i (by have := HA.out; omega))
        go_wp2
        go_ret
        exact ⟨⟨true, rfl, by simp; exact HN.out⟩, hbel⟩
  · have hnm' : ((n : Int) == (m : Int)) = false := by simp; omega
    have HN : Hid (¬ p = q) := by
      intro e
      have h1 := HA.out
      have h2 := HB.out
      rw [e] at h1
      omega
    go_enter Trym.func9, Trym.ntmps9
    go_wp2
    go_ret
    exact ⟨⟨false, rfl, by simp; exact HN.out⟩, Below.refl _ _⟩


theorem addr_plain (b off i : Nat) : (⟨b, off, none⟩ : Addr).add i = ⟨b, off + i, none⟩ := by
  unfold Addr.add; split <;> simp_all

/-! ### What a slice of bytes reads -/
/-- A slice with address a (nil among them) and length n reads as the bytes l. -/
def Reads (w : World) (a : Option Addr) (n : Nat) (l : List Int) : Prop := l.length = n ∧ ∀ i, i < n → ∃ x, a = some x ∧ w.cell? (x.add i) = some (.int .u8 (l.getD i 0))
theorem Reads.cells {w : World} {x : Addr} {n : Nat} {l : List Int} (h : Reads w (some x) n l) : ∀ i, i < n → w.cell? (x.add i) = some (.int .u8 (l.getD i 0)) := fun i hi => by
  obtain ⟨y, hy, hc⟩ := h.2 i hi
  cases hy
  exact hc
theorem Reads.below {w w' : World} {a : Option Addr} {n : Nat} {l : List Int} (h : Reads w a n l) (hb : Below w.heap.size w w') : Reads w' a n l :=
  ⟨h.1, fun i hi => by
    obtain ⟨x, hx, hc⟩ := h.2 i hi
    exact ⟨x, hx, by rw [hb.cell (cell_lt hc)]; exact hc⟩⟩

/-- Two slices of no bytes, or of unlike lengths: whatever their addresses. -/
theorem eq_none (a b : Option Addr) (cx cy : Nat) (w : World) :
    Calls Trym.prog 9 #[.slice a 0 cx, .slice b 0 cy] w fun e w' => e = .returned (.bool true) ∧ w' = w := by
  go_enter Trym.func9, Trym.ntmps9
  go_wp2
  refine wp_loop_rounds 1 ?_
  rw [rounds_succ]
  go_wp2
  go_ret
  exact ⟨rfl, rfl⟩
theorem eq_unlike (a b : Option Addr) (n m cx cy : Nat) (hnm : ¬ n = m) (w : World) :
    Calls Trym.prog 9 #[.slice a n cx, .slice b m cy] w fun e w' => e = .returned (.bool false) ∧ w' = w := by
  have hnm' : ((n : Int) == (m : Int)) = false := by simp; omega
  go_enter Trym.func9, Trym.ntmps9
  go_wp2
  go_ret
  exact ⟨rfl, rfl⟩
/-- zzb1Eq of two slices that read as one text: true. -/
theorem eq_same (a b : Option Addr) (n m cx cy : Nat) (l : List Int) (w : World) (h1 : Reads w a n l) (h2 : Reads w b m l) (hn : n ≤ 4194304) :
    Calls Trym.prog 9 #[.slice a n cx, .slice b m cy] w fun e w' => e = .returned (.bool true) ∧ Below w.heap.size w w' := by
  have e : m = n := h2.1.symm.trans h1.1
  subst e
  by_cases h0 : m = 0
  · subst h0
    exact (eq_none a b cx cy w).mono fun e w' ⟨he, hw⟩ => ⟨he, by rw [hw]; exact Below.refl _ _⟩
  · obtain ⟨x, rfl, _⟩ := h1.2 0 (by omega)
    obtain ⟨y, rfl, _⟩ := h2.2 0 (by omega)
    refine (eq_some x y m m cx cy l l w h1.1 h1.1 hn hn h1.cells h2.cells).mono ?_
    rintro e w' ⟨⟨r, rfl, hr⟩, hb⟩
    exact ⟨by rw [hr.2 rfl], hb⟩

/-! ### append onto a row of the call's own -/
/-- The row at block g, capacity cap, is the call's own and reads as l. -/
def Own (w : World) (B g cap : Nat) (l : List Int) : Prop := w.ownsRow B 5 1 (.slice (some ⟨g, 0, none⟩) l.length cap) l.length (l.map (Value.int .u8))
theorem Own.reads {w : World} {B g cap : Nat} {l : List Int} (h : Own w B g cap l) : Reads w (some ⟨g, 0, none⟩) l.length l :=
  ⟨rfl, fun i hi => ⟨_, rfl, by
    have e : (⟨g, 0, none⟩ : Addr).add i = ⟨g, i, none⟩ := by
      simp only [Addr.add]
      by_cases h0 : i = 0
      · subst h0; simp
      · simp [h0]
    rw [e, World.ownsRow.cellAt h i (by omega)]
    simp [List.getD_eq_getElem?_getD, hi]⟩⟩
theorem Own.alloc {w : World} {B g cap : Nat} {l : List Int} (h : Own w B g cap l) (o : Obj) : Own (w.alloc o) B g cap l := World.ownsRow.alloc h o
theorem Own.drews {w : World} {B g cap : Nat} {l : List Int} (h : Own w B g cap l) (n : Nat) : Own (w.drewN n) B g cap l := h
theorem Own.lt {w : World} {B g cap : Nat} {l : List Int} (h : Own w B g cap l) : B ≤ g ∧ g < w.heap.size := World.ownsRow.lt h g rfl
/-- A world that has grown by another row, or by none. -/
theorem Own.kept {w w' : World} {B g cap : Nat} {l : List Int} {row : Option Nat} (h : Own w B g cap l) (hg : w.grownBy w' row) (hne : some g ≠ row) : Own w' B g cap l :=
  World.ownsRow.kept h hg (.inr hne)

/-- The literal of one byte, laid in a block of its own. -/
theorem reads_new (w : World) (c : Int) : Reads (w.alloc (.cells #[.int .u8 c] 5)) (some ⟨w.heap.size, 0, none⟩) 1 [c] :=
  ⟨rfl, fun i hi => ⟨_, rfl, by
    obtain rfl : i = 0 := by omega
    simp [Addr.add]⟩⟩
/-- The literal of no byte. -/
theorem own_new (w : World) (B : Nat) (hB : B ≤ w.heap.size) : Own (w.alloc (.cells #[] 5)) B w.heap.size 0 [] :=
  World.ownsRow_lit w #[] 0 hB (by unfold maxLen; omega) rfl

/-- 'x = append(x, y...)': x a row of the call's own. -/
theorem wpList_app (w : World) {ops : Array Oper} {rest : List Oper} {o : Oper} {a : Act} {Q : Exit → Act → World → Prop} (hgd : o.guard = none) (s x : Operand)
    (ho : o.op = .call { callee := .builtin .append, args := #[s, x], argTypes := #[22, 22] }) (B g n cap : Nat) (l news : List Int) (hs : a.eval s = .slice (some ⟨g, 0, none⟩) n cap) (hn : l.length = n) (hown : Own w B g cap l)
    (ad : Addr) (m c : Nat) (hx : a.eval x = .slice (some ad) m c) (hnews : Reads w (some ad) m news) (N : Nat) (hN : n + m = N) (L : List Int) (hL : l ++ news = L) (hlen : N ≤ 16777216) (hB : B ≤ w.heap.size)
    (h : ∀ g' cap' w', Own w' B g' cap' L → w.grownBy w' (some g) → wpList Trym.prog ops Q rest (a.put o.dst (.slice (some ⟨g', 0, none⟩) N cap')) w') : wpList Trym.prog ops Q (o :: rest) a w := by
  obtain ⟨i0, hi, hz0, hz1, hz2⟩ := info_parts Trym.info5
  subst hn
  subst hN
  subst hL
  have hl := hnews.1
  refine wpList_append_own w hgd s x 22 ho B 5 i0 (.int .u8 0) 1 1 Trym.underlying22 hi hz0 hz1 hz2 rfl (by decide) _ l.length (l.map (Value.int .u8)) hs hown ad m c (news.map (Value.int .u8)) hx (by simp [hl]) ?_ ?_ (by unfold maxLen; omega) (by omega) hB ?_
  · intro j u hu
    rw [List.getElem?_map] at hu
    obtain ⟨d, hd, rfl⟩ := Option.map_eq_some_iff.1 hu
    obtain ⟨hj, hd'⟩ := List.getElem?_eq_some_iff.1 hd
    rw [hnews.cells j (by omega)]
    simp [List.getD_eq_getElem?_getD, hd]
  · intro u hu
    obtain ⟨d, _, rfl⟩ := List.mem_map.1 hu
    rfl
  · intro v' w' hown' hgrow hnil
    rcases hown'.2 with ⟨hv, _⟩ | ⟨g', cap', cur, hv, r⟩
    · exact absurd (hnil.1 hv).1 (by simp)
    · subst hv
      refine h g' cap' w' ?_ hgrow
      unfold Own
      rw [List.length_append, hl, List.map_append]
      exact hown'
end Go.Proofs.Qxb6602979aMods

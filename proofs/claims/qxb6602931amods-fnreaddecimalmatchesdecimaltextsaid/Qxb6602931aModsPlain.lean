/-
  SEAT b6602931aM: THE PLAIN LAW: decimal texts as lists of byte values. No Go in sight.
-/
namespace Go.Proofs.Qxb6602931aMods.Plain

/-- Every byte is an ASCII digit. -/
def AllDig (l : List Int) : Prop := ∀ c ∈ l, 48 ≤ c ∧ c ≤ 57
/-- The number that a text of digits stands for. -/
def val : List Int → Int
  | [] => 0
  | c :: l => (c - 48) * 10 ^ l.length + val l
/-- Not empty; no leading zero unless it is one byte long. -/
def Canon (l : List Int) : Prop := 1 ≤ l.length ∧ (l.length = 1 ∨ l.getD 0 0 ≠ 48)

theorem pow_pos (k : Nat) : (0 : Int) < 10 ^ k := Int.pow_pos (by omega)
theorem pow_mono {j k : Nat} (h : j ≤ k) : (10 : Int) ^ j ≤ 10 ^ k := by
  induction k with
  | zero => have : j = 0 := by omega
            subst this; exact Int.le_refl _
  | succ k ih =>
    by_cases e : j = k + 1
    · subst e; exact Int.le_refl _
    · have := ih (by omega)
      have := pow_pos k
      rw [Int.pow_succ]; omega

theorem allDig_nil : AllDig [] := fun c h => by simp at h
theorem allDig_cons {c : Int} {l : List Int} : AllDig (c :: l) ↔ (48 ≤ c ∧ c ≤ 57) ∧ AllDig l := by
  simp [AllDig]
theorem allDig_append {a b : List Int} : AllDig (a ++ b) ↔ AllDig a ∧ AllDig b := by
  unfold AllDig
  constructor
  · intro h
    exact ⟨fun c hc => h c (by simp [hc]), fun c hc => h c (by simp [hc])⟩
  · rintro ⟨h1, h2⟩ c hc
    rcases List.mem_append.1 hc with h | h
    · exact h1 c h
    · exact h2 c h

theorem val_append (a b : List Int) : val (a ++ b) = val a * 10 ^ b.length + val b := by
  induction a with
  | nil => simp [val]
  | cons c l ih =>
    simp only [List.cons_append, val, ih, List.length_append, Int.pow_add]
    rw [Int.add_mul, Int.mul_assoc]
    omega
theorem val_one (c : Int) : val [c] = c - 48 := by simp [val]
theorem val_snoc (l : List Int) (c : Int) : val (l ++ [c]) = val l * 10 + (c - 48) := by
  rw [val_append, val_one]; simp

theorem val_bd {l : List Int} (h : AllDig l) : 0 ≤ val l ∧ val l < 10 ^ l.length := by
  induction l with
  | nil => simp [val]
  | cons c l ih =>
    obtain ⟨⟨h1, h2⟩, h3⟩ := allDig_cons.1 h
    obtain ⟨i1, i2⟩ := ih h3
    have hp := pow_pos l.length
    have a1 : 0 ≤ (c - 48) * 10 ^ l.length := Int.mul_nonneg (by omega) (by omega)
    have a2 : (c - 48) * 10 ^ l.length ≤ 9 * 10 ^ l.length := Int.mul_le_mul_of_nonneg_right (by omega) (by omega)
    simp only [val, List.length_cons, Int.pow_succ]
    omega

/-- A head of a text of digits stands for no more than the whole. -/
theorem val_take_le {l : List Int} (h : AllDig l) (k : Nat) : val (l.take k) ≤ val l := by
  have e := val_append (l.take k) (l.drop k)
  rw [List.take_append_drop] at e
  rw [← List.take_append_drop k l] at h
  obtain ⟨h1, h2⟩ := allDig_append.1 h
  have b1 := val_bd h1
  have b2 := val_bd h2
  have hp := pow_pos (l.drop k).length
  have : val (l.take k) * 1 ≤ val (l.take k) * 10 ^ (l.drop k).length := Int.mul_le_mul_of_nonneg_left (by omega) b1.1
  omega

theorem canon_lower {l : List Int} (h : AllDig l) (hc : Canon l) (h2 : 2 ≤ l.length) : 10 ^ (l.length - 1) ≤ val l := by
  match l, h2 with
  | c :: l, h2 =>
    obtain ⟨⟨g1, g2⟩, g3⟩ := allDig_cons.1 h
    have hne : c ≠ 48 := by
      rcases hc.2 with e | e
      · simp only [List.length_cons] at e h2; omega
      · simpa using e
    have b := val_bd g3
    have hp := pow_pos l.length
    have : 1 * 10 ^ l.length ≤ (c - 48) * 10 ^ l.length := Int.mul_le_mul_of_nonneg_right (by omega) (by omega)
    simp only [val, List.length_cons, Nat.add_sub_cancel]
    omega

/-- The shorter of two texts without leading zeros is the smaller number. -/
theorem canon_len {a b : List Int} (ha : AllDig a) (hb : AllDig b) (cb : Canon b) (ca : Canon a) (h : a.length < b.length) : val a < val b := by
  have h1 := (val_bd ha).2
  have h2 := canon_lower hb cb (by have := ca.1; omega)
  have h3 := pow_mono (j := a.length) (k := b.length - 1) (by omega)
  omega

/-- Two texts of one length, byte by byte. -/
def leL : List Int → List Int → Bool
  | a :: as, b :: bs => if a = b then leL as bs else decide (a < b)
  | _, _ => true

theorem val_lt_of_head {a b : Int} {as bs : List Int} (ha : AllDig as) (hb : AllDig bs) (hl : as.length = bs.length) (h : a < b) : val (a :: as) < val (b :: bs) := by
  have h1 := val_bd ha
  have h2 := val_bd hb
  have hp := pow_pos as.length
  have : (a - 48 + 1) * 10 ^ as.length ≤ (b - 48) * 10 ^ as.length := Int.mul_le_mul_of_nonneg_right (by omega) (by omega)
  rw [Int.add_mul] at this
  simp only [val, ← hl]
  omega

theorem leL_val {a b : List Int} (ha : AllDig a) (hb : AllDig b) (hl : a.length = b.length) : leL a b = decide (val a ≤ val b) := by
  induction a generalizing b with
  | nil =>
    match b, hl with
    | [], _ => simp [leL]
  | cons c as ih =>
    match b, hl with
    | d :: bs, hl =>
      have hl' : as.length = bs.length := by simpa using hl
      obtain ⟨g1, g2⟩ := allDig_cons.1 ha
      obtain ⟨k1, k2⟩ := allDig_cons.1 hb
      simp only [leL]
      by_cases e : c = d
      · subst e
        rw [if_pos rfl, ih g2 k2 hl']
        simp only [val, ← hl']
        congr 1
        apply propext
        omega
      · rw [if_neg e]
        by_cases e2 : c < d
        · have := val_lt_of_head g2 k2 hl' e2
          simp [e2]; omega
        · have := val_lt_of_head k2 g2 hl'.symm (show d < c by omega)
          simp [e2]; omega

theorem val_inj {a b : List Int} (ha : AllDig a) (hb : AllDig b) (hl : a.length = b.length) (h : val a = val b) : a = b := by
  induction a generalizing b with
  | nil =>
    match b, hl with
    | [], _ => rfl
  | cons c as ih =>
    match b, hl with
    | d :: bs, hl =>
      have hl' : as.length = bs.length := by simpa using hl
      obtain ⟨g1, g2⟩ := allDig_cons.1 ha
      obtain ⟨k1, k2⟩ := allDig_cons.1 hb
      by_cases e : c = d
      · subst e
        rw [ih g2 k2 hl' (by simp only [val, ← hl'] at h; omega)]
      · by_cases e2 : c < d
        · have := val_lt_of_head g2 k2 hl' e2; omega
        · have := val_lt_of_head k2 g2 hl'.symm (show d < c by omega); omega

theorem canon_inj {a b : List Int} (ha : AllDig a) (hb : AllDig b) (ca : Canon a) (cb : Canon b) (h : val a = val b) : a = b := by
  refine val_inj ha hb ?_ h
  by_cases e : a.length < b.length
  · have := canon_len ha hb cb ca e; omega
  · by_cases e2 : b.length < a.length
    · have := canon_len hb ha ca cb e2; omega
    · omega

/-- What zzDecLE answers. -/
def decLE (a b : List Int) : Bool := if a.length = b.length then leL a b else decide (a.length < b.length)
theorem decLE_val {a b : List Int} (ha : AllDig a) (hb : AllDig b) (ca : Canon a) (cb : Canon b) : decLE a b = decide (val a ≤ val b) := by
  unfold decLE
  by_cases e : a.length = b.length
  · rw [if_pos e, leL_val ha hb e]
  · rw [if_neg e]
    by_cases e1 : a.length < b.length
    · have := canon_len ha hb cb ca e1
      simp [e1]; omega
    · have := canon_len hb ha ca cb (by omega)
      simp [e1]; omega

/-- The loop of zzDecLE: so far one, and here they part. -/
theorem leL_part {a b : List Int} (k : Nat) (hk : k < a.length) (hl : a.length = b.length) (he : ∀ i, i < k → a.getD i 0 = b.getD i 0) (hne : ¬ a.getD k 0 = b.getD k 0) : leL a b = decide (a.getD k 0 < b.getD k 0) := by
  induction k generalizing a b with
  | zero =>
    match a, b, hk, hl with
    | c :: as, d :: bs, _, _ =>
      simp only [List.getD_cons_zero] at hne ⊢
      simp [leL, hne]
  | succ k ih =>
    match a, b, hk, hl with
    | c :: as, d :: bs, hk, hl =>
      have e0 : c = d := by simpa using he 0 (by omega)
      subst e0
      simp only [List.getD_cons_succ] at hne ⊢
      simp only [leL, if_true]
      exact ih (by simpa using hk) (by simpa using hl) (fun i hi => by simpa using he (i + 1) (by omega)) hne
/-- The loop of zzDecLE, of zzBytesEq: one to the end. -/
theorem eq_of_all {a b : List Int} (hl : a.length = b.length) (he : ∀ i, i < a.length → a.getD i 0 = b.getD i 0) : a = b := by
  refine List.ext_getElem hl fun i h1 h2 => ?_
  have := he i h1
  simpa [List.getD_eq_getElem?_getD, h1, h2] using this
theorem leL_self (a : List Int) : leL a a = true := by
  induction a with
  | nil => rfl
  | cons c l ih => simp [leL, ih]

/-! ### readDecimal -/
def rdB (zs : List Int) (L : Int) : Bool := decide (0 < zs.length ∧ val zs ≤ L) && zs.all fun c => decide (48 ≤ c ∧ c ≤ 57)
def rdV (zs : List Int) (L : Int) : Int := if rdB zs L = true then val zs else 0
theorem allB {zs : List Int} : (zs.all fun c => decide (48 ≤ c ∧ c ≤ 57)) = true ↔ AllDig zs := by
  simp [AllDig]
theorem rdB_iff {zs : List Int} {L : Int} : rdB zs L = true ↔ (0 < zs.length ∧ val zs ≤ L) ∧ AllDig zs := by
  unfold rdB
  rw [Bool.and_eq_true, allB, decide_eq_true_eq]
theorem rdV_no {zs : List Int} {L : Int} (h : rdB zs L = false) : rdV zs L = 0 := by simp [rdV, h]
theorem rdV_yes {zs : List Int} {L : Int} (h : rdB zs L = true) : rdV zs L = val zs := by simp [rdV, h]
theorem take_snoc (zs : List Int) (k : Nat) (h : k < zs.length) : zs.take (k + 1) = zs.take k ++ [zs.getD k 0] := by
  rw [List.take_succ_eq_append_getElem h]
  simp [List.getD_eq_getElem?_getD, h]
/-- The loop's step: a digit that still fits. -/
theorem read_step {zs : List Int} {k : Nat} (hk : k < zs.length) (hd : AllDig (zs.take k)) (h1 : 48 ≤ zs.getD k 0) (h2 : zs.getD k 0 ≤ 57) :
    AllDig (zs.take (k + 1)) ∧ val (zs.take (k + 1)) = val (zs.take k) * 10 + (zs.getD k 0 - 48) := by
  rw [take_snoc zs k hk]
  exact ⟨allDig_append.2 ⟨hd, allDig_cons.2 ⟨⟨h1, h2⟩, allDig_nil⟩⟩, val_snoc _ _⟩
/-- A byte that is no digit: refused. -/
theorem read_bad {zs : List Int} {k : Nat} {L : Int} (hk : k < zs.length) (h : ¬ (48 ≤ zs.getD k 0 ∧ zs.getD k 0 ≤ 57)) : rdB zs L = false := by
  rw [Bool.eq_false_iff]
  intro hb
  refine h ((rdB_iff.1 hb).2 _ ?_)
  rw [List.getD_eq_getElem?_getD, List.getElem?_eq_getElem hk]
  simp
/-- A head that passes the limit: refused. -/
theorem read_over {zs : List Int} {k : Nat} {L : Int} (h : L < val (zs.take k)) : rdB zs L = false := by
  rw [Bool.eq_false_iff]
  intro hb
  have := val_take_le (rdB_iff.1 hb).2 k
  have := (rdB_iff.1 hb).1.2
  omega

/-! ### the law's own look at the digits -/
def okB (zs : List Int) (k : Nat) : Bool := (zs.take k).all fun c => decide (48 ≤ c ∧ c ≤ 57)
theorem okB_zero (zs : List Int) : okB zs 0 = true := by simp [okB]
theorem okB_good {zs : List Int} {k : Nat} (hk : k < zs.length) (h : 48 ≤ zs.getD k 0 ∧ zs.getD k 0 ≤ 57) : okB zs (k + 1) = okB zs k := by
  unfold okB
  rw [take_snoc zs k hk, List.all_append]
  simp only [List.all_cons, List.all_nil, Bool.and_true]
  rw [decide_eq_true h, Bool.and_true]
theorem okB_bad {zs : List Int} {k : Nat} (hk : k < zs.length) (h : ¬ (48 ≤ zs.getD k 0 ∧ zs.getD k 0 ≤ 57)) : okB zs (k + 1) = false := by
  unfold okB
  rw [take_snoc zs k hk, List.all_append]
  simp only [List.all_cons, List.all_nil, Bool.and_true]
  rw [decide_eq_false h, Bool.and_false]
theorem okB_all {zs : List Int} {k : Nat} (hk : zs.length ≤ k) : okB zs k = true ↔ AllDig zs := by
  unfold okB
  rw [List.take_of_length_le hk, allB]
/-- The three ways behind the look. -/
theorem ways {zs : List Int} {L r : Int} {ok vb : Bool} {k : Nat} (hr : r = rdV zs L) (hok : ok = rdB zs L) (hv : vb = okB zs k) (hk : zs.length ≤ k) (h0 : 0 < zs.length) :
    (vb = false ∧ ok = false ∧ r = 0) ∨ (vb = true ∧ ok = false ∧ r = 0 ∧ AllDig zs ∧ L < val zs) ∨ (vb = true ∧ ok = true ∧ r = val zs ∧ AllDig zs ∧ val zs ≤ L) := by
  by_cases hd : AllDig zs
  · have hv' : vb = true := by rw [hv]; exact (okB_all hk).2 hd
    by_cases hb : rdB zs L = true
    · exact .inr (.inr ⟨hv', by rw [hok, hb], by rw [hr, rdV_yes hb], hd, (rdB_iff.1 hb).1.2⟩)
    · have hb' : rdB zs L = false := by simpa using hb
      refine .inr (.inl ⟨hv', by rw [hok, hb'], by rw [hr, rdV_no hb'], hd, ?_⟩)
      refine Classical.byContradiction fun hn => hb (rdB_iff.2 ⟨⟨h0, by omega⟩, hd⟩)
  · have hv' : vb = false := by
      rw [hv]
      cases h : okB zs k
      · rfl
      · exact absurd ((okB_all hk).1 h) hd
    have hb' : rdB zs L = false := by
      cases h : rdB zs L
      · rfl
      · exact absurd (rdB_iff.1 h).2 hd
    exact .inl ⟨hv', by rw [hok, hb'], by rw [hr, rdV_no hb']⟩

/-! ### zzStripZeros -/
theorem strip {zs : List Int} {j : Nat} (hd : AllDig zs) (hj : j < zs.length) (h0 : ∀ i, i < j → zs.getD i 0 = 48) (hs : j + 1 = zs.length ∨ zs.getD j 0 ≠ 48) :
    AllDig (zs.drop j) ∧ Canon (zs.drop j) ∧ val (zs.drop j) = val zs := by
  have e : zs.take j ++ zs.drop j = zs := List.take_append_drop j zs
  rw [← e] at hd
  obtain ⟨d1, d2⟩ := allDig_append.1 hd
  have z : ∀ l : List Int, (∀ c ∈ l, c = 48) → val l = 0 := by
    intro l
    induction l with
    | nil => intro _; rfl
    | cons c l ih =>
      intro h
      have := h c (by simp)
      subst this
      simp [val, ih (fun c hc => h c (by simp [hc]))]
  have z0 : val (zs.take j) = 0 := by
    refine z _ fun c hc => ?_
    obtain ⟨i, hi, rfl⟩ := List.getElem_of_mem hc
    have hi' : i < j := by simp at hi; omega
    have := h0 i hi'
    rw [List.getD_eq_getElem?_getD, List.getElem?_eq_getElem (by omega)] at this
    simpa using this
  refine ⟨d2, ⟨by simp; omega, ?_⟩, ?_⟩
  · rcases hs with h | h
    · exact .inl (by simp; omega)
    · refine .inr ?_
      simpa [List.getD_eq_getElem?_getD] using h
  · have := val_append (zs.take j) (zs.drop j)
    rw [e, z0] at this
    omega

/-! ### zzDec -/
/-- What the loop of zzDec holds: 'u' is what is left of U, 'S' the digits laid so far. -/
def DecAt (U u : Int) (S : List Int) : Prop := AllDig S ∧ U = u * 10 ^ S.length + val S ∧ 0 ≤ u ∧ (S = [] ∨ 0 < u)
theorem decAt_start {U : Int} (h : 0 ≤ U) : DecAt U U [] := ⟨allDig_nil, by simp [val], h, .inl rfl⟩
theorem decAt_step {U u : Int} {S : List Int} (h : DecAt U u S) :
    AllDig ((48 + u % 10) :: S) ∧ U = (u / 10) * 10 ^ (S.length + 1) + val ((48 + u % 10) :: S) ∧ 0 ≤ u / 10 := by
  obtain ⟨h1, h2, h3, h4⟩ := h
  refine ⟨allDig_cons.2 ⟨by omega, h1⟩, ?_, by omega⟩
  have e : u = u / 10 * 10 + u % 10 := by omega
  have e2 : (48 + u % 10 - 48 : Int) = u % 10 := by omega
  simp only [val, e2, Int.pow_succ]
  rw [h2]
  have e3 : u * 10 ^ S.length = (u / 10 * 10 + u % 10) * 10 ^ S.length := by rw [← e]
  rw [e3, Int.add_mul, Int.mul_assoc, Int.mul_comm 10 (10 ^ S.length)]
  omega
theorem decAt_more {U u : Int} {S : List Int} (h : DecAt U u S) (hu : ¬ u / 10 = 0) : DecAt U (u / 10) ((48 + u % 10) :: S) := by
  obtain ⟨a, b, c⟩ := decAt_step h
  exact ⟨a, by simpa using b, c, .inr (by omega)⟩
theorem decAt_last {U u : Int} {S : List Int} (h : DecAt U u S) (hu : u / 10 = 0) :
    AllDig ((48 + u % 10) :: S) ∧ Canon ((48 + u % 10) :: S) ∧ val ((48 + u % 10) :: S) = U := by
  obtain ⟨a, b, c⟩ := decAt_step h
  refine ⟨a, ⟨by simp, ?_⟩, by rw [b, hu]; omega⟩
  rcases h.2.2.2 with e | e
  · exact .inl (by rw [e]; rfl)
  · exact .inr (by simp only [List.getD_cons_zero]; omega)
/-- The buffer of twenty is never too short. -/
theorem decAt_len {U u : Int} {S : List Int} (h : DecAt U u S) (hU : U ≤ 18446744073709551615) : S.length ≤ 19 := by
  obtain ⟨h1, h2, h3, h4⟩ := h
  rcases h4 with e | e
  · rw [e]; simp
  · refine Classical.byContradiction fun hn => ?_
    have p := pow_mono (j := 20) (k := S.length) (by omega)
    have b := val_bd h1
    have : 1 * 10 ^ S.length ≤ u * 10 ^ S.length := Int.mul_le_mul_of_nonneg_right (by omega) (by have := pow_pos S.length; omega)
    have e20 : (10 : Int) ^ 20 = 100000000000000000000 := by decide
    omega
end Go.Proofs.Qxb6602931aMods.Plain

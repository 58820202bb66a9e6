/-
  SEAT b6602979aM: THE PLAIN LAW: a quoted scalar as a list of byte values. No Go in sight.
-/
namespace Go.Proofs.Qxb6602979aMods.Plain

/-- What stands between the opening byte q and its close, unquoted, behind 'acc'; and what follows. -/
def scan (q : Int) : List Int → List Int → Option (List Int × List Int)
  | _, [] => none
  | acc, c :: r =>
    if c = 92 ∧ q = 34 then none
    else if c = q then
      match r with
      | [] => some (acc, [])
      | d :: r' => if q = 39 ∧ d = 39 then scan q (acc ++ [39]) r' else some (acc, d :: r')
    else scan q (acc ++ [c]) r

theorem scan_nil (q : Int) (acc : List Int) : scan q acc [] = none := by simp [scan]
theorem scan_esc {q c : Int} (acc r : List Int) (h1 : c = 92) (h2 : q = 34) : scan q acc (c :: r) = none := by
  rw [scan.eq_def]; simp [h1, h2]
theorem scan_twice {q c : Int} (acc r : List Int) (h1 : c = q) (h2 : q = 39) : scan q acc (c :: 39 :: r) = scan q (acc ++ [39]) r := by
  subst h1; subst h2
  rw [scan.eq_def]; simp
theorem scan_close {q c : Int} (acc r : List Int) (h1 : c = q) (h2 : ¬ (q = 39 ∧ ∃ r', r = 39 :: r')) : scan q acc (c :: r) = some (acc, r) := by
  subst h1
  rw [scan.eq_def]
  have e : ¬ (c = 92 ∧ c = 34) := by omega
  simp only [e, if_false, if_true]
  match r with
  | [] => rfl
  | d :: r' =>
    simp only
    rw [if_neg]
    rintro ⟨a, b⟩
    exact h2 ⟨a, r', by rw [b]⟩
theorem scan_step {q c : Int} (acc r : List Int) (h1 : ¬ (c = 92 ∧ q = 34)) (h2 : ¬ c = q) : scan q acc (c :: r) = scan q (acc ++ [c]) r := by
  rw [scan.eq_def]
  simp only [h1, h2, if_false]

/-- What a text that opens with q comes to. -/
def answer (q : Int) (zs : List Int) : Option (List Int × List Int) := scan q [] (zs.drop 1)

/-- Neither part is longer than the text. -/
theorem scan_len (q : Int) (N : Nat) : ∀ (l acc s t : List Int), l.length ≤ N → scan q acc l = some (s, t) → s.length ≤ acc.length + l.length ∧ t.length ≤ l.length := by
  induction N with
  | zero =>
    intro l acc s t hl h
    have : l = [] := List.eq_nil_of_length_eq_zero (by omega)
    subst this
    rw [scan_nil] at h
    cases h
  | succ N ih =>
    intro l acc s t hl h
    match l, hl, h with
    | [], _, h =>
      rw [scan_nil] at h
      cases h
    | c :: r, hl, h =>
      have hl' : r.length ≤ N := by simpa using hl
      by_cases h1 : c = 92 ∧ q = 34
      · rw [scan_esc _ _ h1.1 h1.2] at h
        cases h
      · by_cases h2 : c = q
        · by_cases h3 : q = 39 ∧ ∃ r', r = 39 :: r'
          · obtain ⟨hq, r', rfl⟩ := h3
            rw [scan_twice _ _ h2 hq] at h
            have := ih r' _ s t (by simp at hl'; omega) h
            simp at this ⊢
            omega
          · rw [scan_close _ _ h2 h3] at h
            cases h
            simp
        · rw [scan_step _ _ h1 h2] at h
          have := ih r _ s t hl' h
          simp at this ⊢
          omega
theorem answer_len {q : Int} {zs s t : List Int} (h : answer q zs = some (s, t)) : s.length ≤ zs.length ∧ t.length ≤ zs.length := by
  have := scan_len q _ _ _ _ _ (Nat.le_refl _) h
  simp at this
  omega

/-! ### By places -/
theorem drop_at (zs : List Int) (k : Nat) (h : k < zs.length) : zs.drop k = zs.getD k 0 :: zs.drop (k + 1) := by
  rw [List.drop_eq_getElem_cons h]
  simp [List.getD_eq_getElem?_getD, h]
theorem at_end {q : Int} {zs acc : List Int} {k : Nat} (h : zs.length ≤ k) : scan q acc (zs.drop k) = none := by
  rw [List.drop_of_length_le h, scan_nil]
theorem at_esc {q : Int} {zs acc : List Int} {k : Nat} (h : k < zs.length) (h1 : zs.getD k 0 = 92) (h2 : q = 34) : scan q acc (zs.drop k) = none := by
  rw [drop_at zs k h, scan_esc _ _ h1 h2]
theorem at_twice {q : Int} {zs acc : List Int} {k : Nat} (h : k + 1 < zs.length) (h1 : zs.getD k 0 = q) (h2 : q = 39) (h3 : zs.getD (k + 1) 0 = 39) :
    scan q acc (zs.drop k) = scan q (acc ++ [39]) (zs.drop (k + 2)) := by
  rw [drop_at zs k (by omega), drop_at zs (k + 1) h, h3, scan_twice _ _ h1 h2]
theorem at_close {q : Int} {zs acc : List Int} {k : Nat} (h : k < zs.length) (h1 : zs.getD k 0 = q) (h2 : ¬ (q = 39 ∧ k + 1 < zs.length ∧ zs.getD (k + 1) 0 = 39)) :
    scan q acc (zs.drop k) = some (acc, zs.drop (k + 1)) := by
  rw [drop_at zs k h, scan_close _ _ h1]
  rintro ⟨a, r', hr⟩
  refine h2 ⟨a, ?_⟩
  have hl : k + 1 < zs.length := by
    have := congrArg List.length hr
    simp at this
    omega
  refine ⟨hl, ?_⟩
  rw [drop_at zs (k + 1) hl] at hr
  exact (List.cons.inj hr).1
theorem at_step {q : Int} {zs acc : List Int} {k : Nat} (h : k < zs.length) (h1 : ¬ (zs.getD k 0 = 92 ∧ q = 34)) (h2 : ¬ zs.getD k 0 = q) :
    scan q acc (zs.drop k) = scan q (acc ++ [zs.getD k 0]) (zs.drop (k + 1)) := by
  rw [drop_at zs k h, scan_step _ _ h1 h2]

/-! ### The text from place 1 to place k -/
def mid (zs : List Int) (k : Nat) : List Int := (zs.drop 1).take (k - 1)
theorem mid_one (zs : List Int) : mid zs 1 = [] := by simp [mid]
theorem mid_len {zs : List Int} {k : Nat} (h : k ≤ zs.length) : (mid zs k).length = k - 1 := by simp [mid]; omega
theorem mid_step {zs : List Int} {k : Nat} (h0 : 1 ≤ k) (h : k < zs.length) : mid zs (k + 1) = mid zs k ++ [zs.getD k 0] := by
  unfold mid
  obtain ⟨j, rfl⟩ : ∃ j, k = j + 1 := ⟨k - 1, by omega⟩
  have e : j + 1 + 1 - 1 = j + 1 := by omega
  have e2 : j + 1 - 1 = j := by omega
  rw [e, e2, List.take_succ_eq_append_getElem (by simp; omega)]
  congr 1
  simp [List.getD_eq_getElem?_getD, h]
theorem mid_getD {zs : List Int} {k i : Nat} (h : i < k - 1) : (mid zs k).getD i 0 = zs.getD (1 + i) 0 := by
  rw [Nat.add_comm 1 i]
  simp [mid, List.getD_eq_getElem?_getD, h]
theorem drop_getD (zs : List Int) (j i : Nat) : (zs.drop j).getD i 0 = zs.getD (j + i) 0 := by
  simp [List.getD_eq_getElem?_getD]
theorem take_snoc (zs : List Int) (k : Nat) (h : k < zs.length) : zs.take (k + 1) = zs.take k ++ [zs.getD k 0] := by
  rw [List.take_succ_eq_append_getElem h]
  simp [List.getD_eq_getElem?_getD, h]

/-! ### The round trip -/
/-- Each quote doubled in single mode. -/
def enc (single : Bool) : List Int → List Int
  | [] => []
  | c :: r => if single = true ∧ c = 39 then 39 :: 39 :: enc single r else c :: enc single r
theorem enc_append (b : Bool) (l m : List Int) : enc b (l ++ m) = enc b l ++ enc b m := by
  induction l with
  | nil => rfl
  | cons c r ih =>
    simp only [List.cons_append, enc, ih]
    split <;> simp
theorem enc_snoc_quote (l : List Int) : enc true (l ++ [39]) = enc true l ++ [39] ++ [39] := by
  rw [enc_append]; simp [enc]
theorem enc_snoc_other (b : Bool) (l : List Int) (c : Int) (h : ¬ (b = true ∧ c = 39)) : enc b (l ++ [c]) = enc b l ++ [c] := by
  rw [enc_append]; simp only [enc, h, if_false]
theorem enc_len (b : Bool) (l : List Int) : (enc b l).length ≤ 2 * l.length := by
  induction l with
  | nil => simp [enc]
  | cons c r ih =>
    simp only [enc]
    split <;> simp <;> omega
def quoteOf (single : Bool) : Int := if single = true then 39 else 34
/-- What the law asks of s and rest. -/
def Fits (single : Bool) (s rest : List Int) : Prop :=
  (single = true → ∀ r', rest ≠ 39 :: r') ∧ (single = false → ∀ c ∈ s, c ≠ 34 ∧ c ≠ 92)
theorem round_trip (single : Bool) (s rest acc : List Int) (h : Fits single s rest) :
    scan (quoteOf single) acc (enc single s ++ quoteOf single :: rest) = some (acc ++ s, rest) := by
  induction s generalizing acc with
  | nil =>
    simp only [enc, List.nil_append, List.append_nil]
    refine scan_close _ _ rfl ?_
    rintro ⟨hq, r', hr⟩
    cases single
    · simp [quoteOf] at hq
    · exact h.1 rfl r' hr
  | cons c r ih =>
    have h' : Fits single r rest := ⟨h.1, fun e c hc => h.2 e c (by simp [hc])⟩
    cases single
    · have hc := h.2 rfl c (by simp)
      have e1 : ¬ (false = true ∧ c = 39) := by simp
      simp only [enc, e1, if_false, List.cons_append]
      rw [scan_step _ _ (by omega) (by simp [quoteOf]; exact hc.1), ih _ h']
      simp
    · by_cases hc : c = 39
      · subst hc
        have e1 : enc true (39 :: r) = 39 :: 39 :: enc true r := by simp [enc]
        rw [e1, List.cons_append, List.cons_append, scan_twice (q := quoteOf true) (c := 39) _ _ rfl rfl, ih _ h']
        simp
      · have e1 : enc true (c :: r) = c :: enc true r := by simp [enc, hc]
        rw [e1, List.cons_append, scan_step _ _ (by simp [quoteOf]) (by simpa [quoteOf] using hc), ih _ h']
        simp

/-! ### Runs of quotes: the model's way -/
theorem run_even (acc r : List Int) (t : Nat) : scan 39 acc (List.replicate (2 * t) 39 ++ r) = scan 39 (acc ++ List.replicate t 39) r := by
  induction t generalizing acc with
  | zero => simp
  | succ t ih =>
    have e : 2 * (t + 1) = (2 * t) + 1 + 1 := by omega
    rw [e, List.replicate_succ, List.replicate_succ]
    simp only [List.cons_append]
    rw [scan_twice _ _ rfl rfl, ih]
    simp [List.replicate_succ]
theorem run_odd (acc r : List Int) (t : Nat) (h : ∀ r', r ≠ 39 :: r') : scan 39 acc (List.replicate (2 * t + 1) 39 ++ r) = some (acc ++ List.replicate t 39, r) := by
  have e : List.replicate (2 * t + 1) (39 : Int) ++ r = List.replicate (2 * t) 39 ++ (39 :: r) := by
    rw [List.replicate_succ']; simp
  rw [e, run_even, scan_close _ _ rfl]
  rintro ⟨_, r', hr⟩
  exact h r' hr
/-- A run of n quotes from place k on. -/
def Run (zs : List Int) (k n : Nat) : Prop := k + n ≤ zs.length ∧ ∀ i, i < n → zs.getD (k + i) 0 = 39
theorem run_drop {zs : List Int} {k n : Nat} (h : Run zs k n) : zs.drop k = List.replicate n 39 ++ zs.drop (k + n) := by
  induction n generalizing k with
  | zero => simp
  | succ n ih =>
    have h1 := h.1
    have h0 : zs.getD k 0 = 39 := h.2 0 (by omega)
    rw [drop_at zs k (by omega), h0, ih (k := k + 1) ⟨by omega, fun i hi => by have := h.2 (i + 1) (by omega); rwa [show k + 1 + i = k + (i + 1) by omega]⟩]
    rw [show k + 1 + n = k + (n + 1) by omega]
    simp [List.replicate_succ]
/-- The run is whole: it ends with the text, or ahead of another byte. -/
def Whole (zs : List Int) (k n : Nat) : Prop := Run zs k n ∧ (k + n = zs.length ∨ zs.getD (k + n) 0 ≠ 39)
theorem whole_even {zs acc : List Int} {k n : Nat} (h : Whole zs k n) (he : n % 2 = 0) : scan 39 acc (zs.drop k) = scan 39 (acc ++ List.replicate (n / 2) 39) (zs.drop (k + n)) := by
  rw [run_drop h.1]
  have e : n = 2 * (n / 2) := by omega
  conv => lhs; rw [e]
  rw [run_even, ← e]
theorem whole_odd {zs acc : List Int} {k n : Nat} (h : Whole zs k n) (he : n % 2 = 1) : scan 39 acc (zs.drop k) = some (acc ++ List.replicate (n / 2) 39, zs.drop (k + n)) := by
  have hr : ∀ r', zs.drop (k + n) ≠ 39 :: r' := by
    intro r' hr
    have hl : k + n < zs.length := by
      have := congrArg List.length hr
      simp at this
      omega
    rcases h.2 with e | e
    · omega
    · rw [drop_at zs (k + n) hl] at hr
      exact e (List.cons.inj hr).1
  rw [run_drop h.1]
  have e : n = 2 * (n / 2) + 1 := by omega
  conv => lhs; rw [e]
  rw [run_odd _ _ _ (by rw [← e]; exact hr), ← e]
/-- The loops of zzb1Eq: one to the end. -/
theorem eq_of_all {a b : List Int} (hl : a.length = b.length) (he : ∀ i, i < a.length → a.getD i 0 = b.getD i 0) : a = b := by
  refine List.ext_getElem hl fun i h1 h2 => ?_
  have := he i h1
  simpa [List.getD_eq_getElem?_getD, h1, h2] using this
end Go.Proofs.Qxb6602979aMods.Plain

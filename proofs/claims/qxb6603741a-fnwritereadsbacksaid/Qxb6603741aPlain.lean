/-
  THE PLAIN LAWS: quoting and scanning of JSON strings, and the tree that is written: no Go in sight. Bytes are Ints.
-/
namespace Go.Proofs.Qxb6603741a

theorem getD_drop (l : List Int) (i j : Nat) (d : Int) : (l.drop i).getD j d = l.getD (i + j) d := by simp [List.getD]
theorem drop_cons (l : List Int) (i : Nat) (h : i < l.length) : l.drop i = l.getD i 0 :: l.drop (i + 1) := by
  rw [List.drop_eq_getElem_cons h]; simp [List.getD, h]
theorem ext_getD (a b : List Int) (hl : a.length = b.length) (h : ∀ j, j < a.length → a.getD j 0 = b.getD j 0) : a = b := by
  apply List.ext_getElem hl
  intro j h1 h2
  have := h j h1
  simpa [List.getD, h1, h2] using this

/-! ### scanning a string token -/
def scanL : List Int → Option Nat
  | [] => none
  | [c] => if c = 34 then some 1 else none
  | c :: d :: r => if c = 34 then some 1 else if c = 92 then (scanL r).map (· + 2) else (scanL (d :: r)).map (· + 1)

theorem scanL_quote (r : List Int) : scanL (34 :: r) = some 1 := by cases r <;> simp [scanL]
theorem scanL_back (r : List Int) : scanL (92 :: r) = (scanL (r.drop 1)).map (· + 2) := by cases r <;> simp [scanL]
theorem scanL_other (c : Int) (r : List Int) (h1 : c ≠ 34) (h2 : c ≠ 92) : scanL (c :: r) = (scanL r).map (· + 1) := by cases r <;> simp [scanL, h1, h2]

/-- The index just past the closing quote, from index i on. -/
def scanAt (zs : List Int) (i : Nat) : Option Nat := (scanL (zs.drop i)).map (· + i)

theorem scanAt_end (zs : List Int) (i : Nat) (h : zs.length ≤ i) : scanAt zs i = none := by simp [scanAt, List.drop_of_length_le h, scanL]
theorem scanAt_quote (zs : List Int) (i : Nat) (h : i < zs.length) (hc : zs.getD i 0 = 34) : scanAt zs i = some (i + 1) := by
  unfold scanAt; rw [drop_cons zs i h, hc, scanL_quote]; simp; omega
theorem scanAt_back (zs : List Int) (i : Nat) (h : i < zs.length) (hc : zs.getD i 0 = 92) : scanAt zs i = scanAt zs (i + 2) := by
  unfold scanAt; rw [drop_cons zs i h, hc, scanL_back, List.drop_drop]
  cases hs : scanL (zs.drop (i + 1 + 1)) with
  | none => simp [show i + 2 = i + 1 + 1 by omega]
  | some q => simp [show i + 2 = i + 1 + 1 by omega]; omega
theorem scanAt_other (zs : List Int) (i : Nat) (h : i < zs.length) (h1 : zs.getD i 0 ≠ 34) (h2 : zs.getD i 0 ≠ 92) : scanAt zs i = scanAt zs (i + 1) := by
  unfold scanAt; rw [drop_cons zs i h, scanL_other _ _ h1 h2]
  cases hs : scanL (zs.drop (i + 1)) with
  | none => simp
  | some q => simp; omega

/-- What scanString returns at pos. -/
def scanR (zs : List Int) (pos : Nat) : Int := if pos < zs.length ∧ zs.getD pos 0 = 34 then (match scanAt zs (pos + 1) with | some q => (q : Int) | none => -1) else -1
def optI : Option Nat → Int
  | some q => (q : Int)
  | none => -1
theorem scanR_eq (zs : List Int) (pos : Nat) : scanR zs pos = if pos < zs.length ∧ zs.getD pos 0 = 34 then optI (scanAt zs (pos + 1)) else -1 := by
  unfold scanR optI; split <;> rfl

/-! ### quoting -/
def hexd (d : Int) : Int := if d < 10 then 48 + d else 87 + d
def esc (b : Int) : List Int :=
  if b = 34 ∨ b = 92 then [92, b] else if b = 8 then [92, 98] else if b = 12 then [92, 102] else if b = 10 then [92, 110] else if b = 13 then [92, 114] else if b = 9 then [92, 116]
  else if b < 32 then [92, 117, 48, 48, hexd (b / 16), hexd (b % 16)] else [b]
def quote (s : List Int) : List Int := 34 :: (s.flatMap esc ++ [34])

theorem esc_len (b : Int) : 1 ≤ (esc b).length ∧ (esc b).length ≤ 6 := by
  unfold esc; (repeat' split) <;> simp
theorem flat_len (s : List Int) : (s.flatMap esc).length ≤ 6 * s.length := by
  induction s with
  | nil => simp
  | cons b r ih => have := esc_len b; simp only [List.flatMap_cons, List.length_append, List.length_cons]; omega
theorem quote_len (s : List Int) : 2 ≤ (quote s).length ∧ (quote s).length ≤ 6 * s.length + 2 := by
  have := flat_len s
  unfold quote
  simp only [List.length_cons, List.length_append, List.length_nil]; omega

/-- Every byte of an escape leaves the scan inside the string. -/
theorem scanL_esc (b : Int) (hb : 0 ≤ b) (r : List Int) : scanL (esc b ++ r) = (scanL r).map (· + (esc b).length) := by
  unfold esc
  split
  · rename_i h
    rw [List.cons_append, scanL_back]
    rfl
  · rename_i h
    split
    · rw [List.cons_append, scanL_back]; rfl
    · split
      · rw [List.cons_append, scanL_back]; rfl
      · split
        · rw [List.cons_append, scanL_back]; rfl
        · split
          · rw [List.cons_append, scanL_back]; rfl
          · split
            · rw [List.cons_append, scanL_back]; rfl
            · split
              · rename_i h1
                have e1 : hexd (b / 16) ≠ 34 ∧ hexd (b / 16) ≠ 92 := by unfold hexd; split <;> omega
                have e2 : hexd (b % 16) ≠ 34 ∧ hexd (b % 16) ≠ 92 := by unfold hexd; split <;> omega
                simp only [List.cons_append, List.nil_append]
                rw [scanL_back]
                simp only [List.drop_succ_cons, List.drop_zero]
                rw [scanL_other 48 _ (by decide) (by decide), scanL_other 48 _ (by decide) (by decide), scanL_other _ _ e1.1 e1.2, scanL_other _ _ e2.1 e2.2]
                cases scanL r <;> simp
              · rw [List.cons_append, scanL_other b _ (by omega) (by omega)]
                simp

theorem scanL_flat (s : List Int) (hb : ∀ b ∈ s, 0 ≤ b) (r : List Int) : scanL (s.flatMap esc ++ (34 :: r)) = some ((s.flatMap esc).length + 1) := by
  induction s with
  | nil => simp [scanL_quote]
  | cons b t ih =>
    rw [List.flatMap_cons, List.append_assoc, scanL_esc b (hb b (by simp)), ih (fun c hc => hb c (by simp [hc]))]
    simp; omega

theorem scanR_quote (pre s post : List Int) (hb : ∀ b ∈ s, 0 ≤ b) : scanR (pre ++ quote s ++ post) pre.length = ((pre.length + (quote s).length : Nat) : Int) := by
  have h1 : (pre ++ quote s ++ post).getD pre.length 0 = 34 := by simp [quote, List.getD]
  have h2 : pre.length < (pre ++ quote s ++ post).length := by simp [quote]
  have h3 : (pre ++ quote s ++ post).drop (pre.length + 1) = s.flatMap esc ++ (34 :: post) := by
    rw [List.append_assoc, List.drop_append]
    simp [quote, List.append_assoc]
  rw [scanR_eq, if_pos ⟨h2, h1⟩]
  unfold scanAt
  rw [h3, scanL_flat s hb]
  simp [optI, quote]; omega

/-- What stands behind k bytes of the string, the opening quote with it. -/
def pre (S : List Int) (k : Nat) : List Int := 34 :: (S.take k).flatMap esc
theorem pre_zero (S : List Int) : pre S 0 = [34] := by simp [pre]
theorem pre_succ (S : List Int) (k : Nat) (h : k < S.length) : pre S (k + 1) = pre S k ++ esc (S.getD k 0) := by
  unfold pre
  rw [List.take_add_one]
  unfold List.getD
  rw [List.getElem?_eq_getElem h]
  simp only [Option.toList, List.flatMap_append, List.flatMap_cons, List.flatMap_nil, List.append_nil, List.cons_append, Option.getD]
theorem pre_all (S : List Int) (k : Nat) (h : S.length ≤ k) : pre S k ++ [34] = quote S := by
  unfold pre quote
  rw [List.take_of_length_le h]
  simp
theorem pre_le (S : List Int) (k : Nat) : (pre S k).length + 1 ≤ (quote S).length := by
  have h : (S.flatMap esc).length = ((S.take k).flatMap esc).length + ((S.drop k).flatMap esc).length := by
    rw [← List.length_append, ← List.flatMap_append, List.take_append_drop]
  unfold pre quote
  simp only [List.length_cons, List.length_append, List.length_nil, h]
  omega

theorem quote_split (S : List Int) (k : Nat) (h : k < S.length) : ∃ rest, quote S = pre S k ++ (esc (S.getD k 0) ++ rest) ∧ rest ≠ [] := by
  refine ⟨(S.drop (k + 1)).flatMap esc ++ [34], ?_, by simp⟩
  have h1 : S = S.take k ++ (S.getD k 0 :: S.drop (k + 1)) := by
    rw [← drop_cons S k h, List.take_append_drop]
  have h2 : S.flatMap esc = (S.take k).flatMap esc ++ (esc (S.getD k 0) ++ (S.drop (k + 1)).flatMap esc) := by
    conv => lhs; rw [h1]
    rw [List.flatMap_append, List.flatMap_cons]
  unfold pre quote
  rw [h2]
  simp [List.append_assoc]
theorem quote_at (S : List Int) (k : Nat) (h : k < S.length) (j : Nat) (hj : j < (esc (S.getD k 0)).length) : (quote S).getD ((pre S k).length + j) 0 = (esc (S.getD k 0)).getD j 0 := by
  obtain ⟨rest, hr, _⟩ := quote_split S k h
  rw [hr]
  generalize esc (S.getD k 0) = l at *
  unfold List.getD
  rw [List.getElem?_append_right (by omega), Nat.add_sub_cancel_left, List.getElem?_append_left hj]
theorem quote_last (S : List Int) : (quote S).getD ((quote S).length - 1) 0 = 34 := by
  have h : quote S = (34 :: S.flatMap esc) ++ [34] := by simp [quote]
  rw [h]
  simp only [List.length_append, List.length_cons, List.length_nil, Nat.zero_add, Nat.add_sub_cancel]
  unfold List.getD
  rw [List.getElem?_append_right (by simp)]
  simp
theorem quote_first (S : List Int) : (quote S).getD 0 0 = 34 := by simp [quote]
theorem take_snoc (S : List Int) (k : Nat) (h : k < S.length) : S.take (k + 1) = S.take k ++ [S.getD k 0] := by
  rw [List.take_add_one]
  unfold List.getD
  rw [List.getElem?_eq_getElem h]
  rfl
end Go.Proofs.Qxb6603741a

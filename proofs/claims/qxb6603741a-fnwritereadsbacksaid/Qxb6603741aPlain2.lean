/-
  THE PLAIN LAWS OF THE TREE: what 'write' writes, how long it is. No Go in sight.
-/
import Derived.Test.Qxb6603741aPlain
namespace Go.Proofs.Qxb6603741a

structure Tree where
  text : List Int
  names : List Int
  kinds : List Int
  nS : List Int
  nE : List Int
  st : List Int
  en : List Int

def sub (l : List Int) (s e : Int) : List Int := (l.take e.toNat).drop s.toNat
theorem sub_len (l : List Int) (s e : Int) (h0 : 0 ≤ s) (h1 : s ≤ e) (h2 : e ≤ l.length) : (sub l s e).length = e.toNat - s.toNat := by
  unfold sub; simp; omega
theorem sub_le (l : List Int) (s e : Int) : (sub l s e).length ≤ l.length := by unfold sub; simp; omega
theorem sub_getD (l : List Int) (s e : Int) (j : Nat) (hj : s.toNat + j < e.toNat) : (sub l s e).getD j 0 = l.getD (s.toNat + j) 0 := by
  unfold sub
  rw [getD_drop]
  unfold List.getD
  rw [List.getElem?_take_of_lt hj]

def clo (k : Int) : Int := if k = 123 then 125 else 93

/-- The members so far, commas between. -/
def kidsTo (g : Nat → List Int) (s : Nat) : Nat → List Int
  | 0 => []
  | i + 1 => kidsTo g s i ++ ((if i = 0 then [] else [44]) ++ g (s + i))

/-- One member's text, its name with it in an object. -/
def mem (T : Tree) (k : Int) (j : Nat) (l : List Int) : List Int := (if k = 123 then quote (sub T.names (T.nS.getD j 0) (T.nE.getD j 0)) ++ [58] else []) ++ l

/-- What 'write' appends for a node, with fuel. -/
def outN (T : Tree) : Nat → Int → Int → Int → List Int
  | 0, _, _, _ => []
  | f + 1, k, s, e => if k = 0 then sub T.text s e else
      k :: (kidsTo (fun j => mem T k j (outN T f (T.kinds.getD j 0) (T.st.getD j 0) (T.en.getD j 0))) s.toNat (e.toNat - s.toNat) ++ [clo k])

/-- The text of member j of a container of kind k. -/
def kid (T : Tree) (f : Nat) (k : Int) (j : Nat) : List Int := mem T k j (outN T f (T.kinds.getD j 0) (T.st.getD j 0) (T.en.getD j 0))
theorem outN_scalar (T : Tree) (f : Nat) (s e : Int) : outN T (f + 1) 0 s e = sub T.text s e := by simp [outN]
theorem outN_cont (T : Tree) (f : Nat) (k s e : Int) (hk : k ≠ 0) : outN T (f + 1) k s e = k :: (kidsTo (kid T f k) s.toNat (e.toNat - s.toNat) ++ [clo k]) := by
  simp only [outN, if_neg hk]; rfl

theorem kidsTo_split (g : Nat → List Int) (s n : Nat) : ∀ d c, c + d = n → ∃ r, kidsTo g s n = kidsTo g s c ++ r ∧ (0 < c → 0 < d → ∃ r', r = 44 :: r') ∧ (d = 0 → r = []) := by
  intro d
  induction d with
  | zero => intro c hc; obtain rfl : c = n := by omega
            exact ⟨[], by simp, by omega, fun _ => rfl⟩
  | succ d ih =>
    intro c hc
    obtain ⟨r, hr, _, _⟩ := ih (c + 1) (by omega)
    refine ⟨((if c = 0 then [] else [44]) ++ g (s + c)) ++ r, ?_, ?_, by omega⟩
    · rw [hr, kidsTo, List.append_assoc]
    · intro h0 _
      rw [if_neg (by omega)]
      exact ⟨_, rfl⟩
theorem kidsTo_le (g : Nat → List Int) (s n c : Nat) (h : c ≤ n) : (kidsTo g s c).length ≤ (kidsTo g s n).length := by
  obtain ⟨r, hr, _⟩ := kidsTo_split g s n (n - c) c (by omega)
  rw [hr, List.length_append]; omega

/-! ### sums -/
def sumTo (p : Nat → Bool) (f : Nat → Nat) : Nat → Nat
  | 0 => 0
  | b + 1 => sumTo p f b + (if p b then f b else 0)
theorem sumTo_mono (p : Nat → Bool) (f g : Nat → Nat) (b : Nat) (h : ∀ j, j < b → f j ≤ g j) : sumTo p f b ≤ sumTo p g b := by
  induction b with
  | zero => simp [sumTo]
  | succ b ih =>
    have h1 := ih (fun j hj => h j (by omega))
    have h2 := h b (by omega)
    simp only [sumTo]
    split <;> omega
theorem sumTo_congr (p q : Nat → Bool) (f : Nat → Nat) (b : Nat) (h : ∀ j, j < b → p j = q j) : sumTo p f b = sumTo q f b := by
  induction b with
  | zero => simp [sumTo]
  | succ b ih =>
    simp only [sumTo]
    rw [ih (fun j hj => h j (by omega)), h b (by omega)]
theorem sumTo_or (p q : Nat → Bool) (f : Nat → Nat) (b : Nat) (h : ∀ j, j < b → ¬ (p j = true ∧ q j = true)) : sumTo (fun j => p j || q j) f b = sumTo p f b + sumTo q f b := by
  induction b with
  | zero => simp [sumTo]
  | succ b ih =>
    simp only [sumTo]
    rw [ih (fun j hj => h j (by omega))]
    have h2 := h b (by omega)
    by_cases hp : p b = true <;> by_cases hq : q b = true <;> simp [hp, hq] at h2 ⊢ <;> omega

/-- In the range of a container? -/
def inR (s e : Int) (j : Nat) : Bool := decide (s.toNat ≤ j ∧ j < e.toNat)

theorem sumTo_range (f : Nat → Nat) (s e : Int) (b : Nat) (hb : e.toNat ≤ b) : sumTo (inR s e) f b = sumTo (inR s e) f e.toNat := by
  induction b with
  | zero => have : e.toNat = 0 := by omega
            rw [this]
  | succ b ih =>
    by_cases h : e.toNat = b + 1
    · rw [h]
    · have : inR s e b = false := by simp [inR]; omega
      simp only [sumTo, this]
      simp
      exact ih (by omega)

/-! ### how many nodes are visited -/
def cnt (T : Tree) : Nat → Int → Int → Int → Nat
  | 0, _, _, _ => 1
  | f + 1, k, s, e => 1 + if k = 0 then 0 else sumTo (inR s e) (fun j => cnt T f (T.kinds.getD j 0) (T.st.getD j 0) (T.en.getD j 0)) e.toNat
def cntJ (T : Tree) (f j : Nat) : Nat := cnt T f (T.kinds.getD j 0) (T.st.getD j 0) (T.en.getD j 0)
theorem cnt_mono (T : Tree) : ∀ f k s e, cnt T f k s e ≤ cnt T (f + 1) k s e := by
  intro f
  induction f with
  | zero => intro k s e; simp [cnt]
  | succ f ih =>
    intro k s e
    rw [cnt, cnt]
    split
    · omega
    · have := sumTo_mono (inR s e) (fun j => cnt T f (T.kinds.getD j 0) (T.st.getD j 0) (T.en.getD j 0)) (fun j => cnt T (f + 1) (T.kinds.getD j 0) (T.st.getD j 0) (T.en.getD j 0)) e.toNat (fun j _ => ih _ _ _)
      omega

/-- The shape of a tree: what 'wellFormed' finds. -/
structure Shape (T : Tree) (m : Nat) : Prop where
  lk : T.kinds.length = m
  kind : ∀ j, j < m → T.kinds.getD j 0 = 0 ∨ T.kinds.getD j 0 = 91 ∨ T.kinds.getD j 0 = 123
  scal : ∀ j, j < m → T.kinds.getD j 0 = 0 → 0 ≤ T.st.getD j 0 ∧ T.st.getD j 0 ≤ T.en.getD j 0 ∧ T.en.getD j 0 ≤ T.text.length
  cont : ∀ j, j < m → T.kinds.getD j 0 ≠ 0 → 0 ≤ T.st.getD j 0 ∧ T.st.getD j 0 ≤ T.en.getD j 0 ∧ T.en.getD j 0 ≤ j
  disj : ∀ i j, i < j → j < m → T.kinds.getD i 0 ≠ 0 → T.kinds.getD j 0 ≠ 0 → ∀ x, ¬ (inR (T.st.getD i 0) (T.en.getD i 0) x = true ∧ inR (T.st.getD j 0) (T.en.getD j 0) x = true)
  nam : ∀ i, i < m → T.kinds.getD i 0 = 123 → ∀ j, inR (T.st.getD i 0) (T.en.getD i 0) j = true → 0 ≤ T.nS.getD j 0 ∧ T.nS.getD j 0 ≤ T.nE.getD j 0 ∧ T.nE.getD j 0 ≤ T.names.length

theorem cnt_sum (T : Tree) (m : Nat) (hT : Shape T m) (f : Nat) : ∀ b, b ≤ m → ∀ p : Nat → Bool, (∀ i, i < b → T.kinds.getD i 0 ≠ 0 → ∀ x, ¬ (inR (T.st.getD i 0) (T.en.getD i 0) x = true ∧ p x = true)) → sumTo p (cntJ T f) b ≤ b := by
  intro b
  induction b with
  | zero => intro _ p _; simp [sumTo]
  | succ b ih =>
    intro hb p hp
    simp only [sumTo]
    by_cases hpb : p b = true
    · rw [if_pos hpb]
      cases f with
      | zero => have := ih (by omega) p (fun i hi => hp i (by omega)); have h0 : cntJ T 0 b = 1 := rfl; omega
      | succ f =>
        by_cases hk : T.kinds.getD b 0 = 0
        · have := ih (by omega) p (fun i hi => hp i (by omega))
          have h2 : cntJ T (f + 1) b = 1 := by unfold cntJ; rw [cnt, if_pos hk]
          omega
        · have hc := hT.cont b (by omega) hk
          have h2 : cntJ T (f + 1) b ≤ 1 + sumTo (inR (T.st.getD b 0) (T.en.getD b 0)) (cntJ T (f + 1)) b := by
            unfold cntJ
            rw [cnt, if_neg hk]
            have h3 := sumTo_mono (inR (T.st.getD b 0) (T.en.getD b 0)) (fun j => cnt T f (T.kinds.getD j 0) (T.st.getD j 0) (T.en.getD j 0)) (fun j => cnt T (f + 1) (T.kinds.getD j 0) (T.st.getD j 0) (T.en.getD j 0)) b (fun j _ => cnt_mono T f _ _ _)
            have h4 := sumTo_range (fun j => cnt T f (T.kinds.getD j 0) (T.st.getD j 0) (T.en.getD j 0)) (T.st.getD b 0) (T.en.getD b 0) b (by omega)
            omega
          have h5 := ih (by omega) (fun j => p j || inR (T.st.getD b 0) (T.en.getD b 0) j) (by
            intro i hi hki x hx
            have h6 := hp i (by omega) hki x
            have h7 := hT.disj i b (by omega) (by omega) hki hk x
            simp only [Bool.or_eq_true] at hx
            rcases hx with ⟨hx1, hx2 | hx2⟩
            · exact h6 ⟨hx1, hx2⟩
            · exact h7 ⟨hx1, hx2⟩)
          rw [sumTo_or p _ _ _ (by intro j _ hx; exact hp b (by omega) hk j ⟨hx.2, hx.1⟩)] at h5
          omega
    · rw [if_neg hpb]
      have := ih (by omega) p (fun i hi => hp i (by omega))
      omega

/-! ### how long the text is -/
theorem kidsTo_len (g : Nat → List Int) (h : Nat → Nat) (hg : ∀ j, (g j).length + 1 ≤ h j) (s : Nat) : ∀ i, (kidsTo g s i).length ≤ sumTo (fun j => decide (s ≤ j)) h (s + i) := by
  intro i
  induction i with
  | zero => simp [kidsTo]
  | succ i ih =>
    have h1 := hg (s + i)
    have h2 : sumTo (fun j => decide (s ≤ j)) h (s + (i + 1)) = sumTo (fun j => decide (s ≤ j)) h (s + i) + h (s + i) := by
      rw [← Nat.add_assoc, sumTo]; simp
    rw [kidsTo, h2]
    simp only [List.length_append]
    split <;> simp <;> omega

theorem out_len (T : Tree) (ht : T.text.length ≤ 1048576) (hn : T.names.length ≤ 1048576) : ∀ f k s e, (outN T f k s e).length + 6291460 ≤ 7340040 * cnt T f k s e := by
  intro f
  induction f with
  | zero => intro k s e; simp [outN, cnt]
  | succ f ih =>
    intro k s e
    by_cases hk : k = 0
    · subst hk
      rw [outN_scalar, cnt, if_pos rfl]
      have := sub_le T.text s e
      omega
    · rw [outN_cont T f k s e hk, cnt, if_neg hk]
      have h1 : ∀ j, (kid T f k j).length + 1 ≤ 7340040 * cntJ T f j := by
        intro j
        have h2 := ih (T.kinds.getD j 0) (T.st.getD j 0) (T.en.getD j 0)
        have h3 := (quote_len (sub T.names (T.nS.getD j 0) (T.nE.getD j 0))).2
        have h4 := sub_le T.names (T.nS.getD j 0) (T.nE.getD j 0)
        unfold kid mem cntJ
        split <;> simp only [List.length_append, List.length_cons, List.length_nil] <;> omega
      have h5 := kidsTo_len (kid T f k) (fun j => 7340040 * cntJ T f j) h1 s.toNat (e.toNat - s.toNat)
      have h6 : ∀ b, sumTo (fun j => decide (s.toNat ≤ j)) (fun j => 7340040 * cntJ T f j) b = 7340040 * sumTo (fun j => decide (s.toNat ≤ j)) (cntJ T f) b := by
        intro b
        induction b with
        | zero => simp [sumTo]
        | succ b ihb => simp only [sumTo]; rw [ihb]; split <;> omega
      rw [h6] at h5
      have h7 : sumTo (fun j => decide (s.toNat ≤ j)) (cntJ T f) (s.toNat + (e.toNat - s.toNat)) ≤ sumTo (inR s e) (cntJ T f) e.toNat := by
        by_cases hse : s.toNat ≤ e.toNat
        · rw [show s.toNat + (e.toNat - s.toNat) = e.toNat by omega]
          rw [sumTo_congr (fun j => decide (s.toNat ≤ j)) (inR s e) (cntJ T f) e.toNat (fun j hj => by simp [inR, hj])]
          omega
        · rw [show s.toNat + (e.toNat - s.toNat) = s.toNat by omega]
          have : ∀ b, b ≤ s.toNat → sumTo (fun j => decide (s.toNat ≤ j)) (cntJ T f) b = 0 := by
            intro b
            induction b with
            | zero => simp [sumTo]
            | succ b ihb => intro hb; simp only [sumTo]; rw [ihb (by omega), if_neg (by simp; omega)]
          rw [this _ (Nat.le_refl _)]; omega
      have h8 : (fun j => cnt T f (T.kinds.getD j 0) (T.st.getD j 0) (T.en.getD j 0)) = cntJ T f := rfl
      rw [h8]
      simp only [List.length_cons, List.length_append, List.length_nil]
      omega

/-- The root, too, is well formed. -/
structure Root (T : Tree) (m : Nat) (k s e : Int) : Prop where
  kind : k = 0 ∨ k = 91 ∨ k = 123
  scal : k = 0 → 0 ≤ s ∧ s ≤ e ∧ e ≤ T.text.length
  cont : k ≠ 0 → 0 ≤ s ∧ s ≤ e ∧ e ≤ m
  disj : k ≠ 0 → ∀ i, i < m → T.kinds.getD i 0 ≠ 0 → ∀ x, ¬ (inR (T.st.getD i 0) (T.en.getD i 0) x = true ∧ inR s e x = true)
  nam : k = 123 → ∀ j, inR s e j = true → 0 ≤ T.nS.getD j 0 ∧ T.nS.getD j 0 ≤ T.nE.getD j 0 ∧ T.nE.getD j 0 ≤ T.names.length

theorem root_len (T : Tree) (m : Nat) (k s e : Int) (hT : Shape T m) (hR : Root T m k s e) (ht : T.text.length ≤ 1048576) (hn : T.names.length ≤ 1048576) (hm : m ≤ 32768) :
    (outN T (m + 1) k s e).length ≤ 240525770760 := by
  have h1 := out_len T ht hn (m + 1) k s e
  have h2 : cnt T (m + 1) k s e ≤ 1 + m := by
    rw [cnt]
    by_cases hk : k = 0
    · rw [if_pos hk]; omega
    · rw [if_neg hk]
      have h3 := hR.cont hk
      have h4 := cnt_sum T m hT m m (Nat.le_refl _) (inR s e) (hR.disj hk)
      have h5 := sumTo_range (cntJ T m) s e m (by omega)
      have h8 : (fun j => cnt T m (T.kinds.getD j 0) (T.st.getD j 0) (T.en.getD j 0)) = cntJ T m := rfl
      rw [h8]
      omega
  have h3 : 7340040 * cnt T (m + 1) k s e ≤ 7340040 * 32769 := Nat.mul_le_mul_left _ (by omega)
  omega
end Go.Proofs.Qxb6603741a

import Derived.Test.Qxb6604255aPlain2
namespace Go.Proofs.Qxb6604255a
set_option linter.unusedVariables false

/-! ### linked's search -/
def Gr.ldone (G : Gr) (b : Nat) (st : Int) (M : Nat → Int) (v : Nat) : Prop := ∀ x, G.edge v x → x ≠ b ∧ (¬ x < G.nreal → M x = st)
def Gr.lpart (G : Gr) (b : Nat) (st : Int) (M : Nat → Int) (u j : Nat) : Prop := ∀ i x : Nat, G.first.getD u 0 ≤ i → i < j → G.succ.getD i 0 = (x : Int) → x ≠ b ∧ (¬ x < G.nreal → M x = st)
def unmark (st : Int) (M : Nat → Int) : Nat → Bool := fun v => decide (M v ≠ st)
structure Lk (G : Gr) (a b : Nat) (st : Int) (M : Nat → Int) (K : List Nat) (u : Nat) : Prop where
  stk : ∀ x, x ∈ K → x < G.n
  clo : ∀ v, v < G.n → (v = a ∨ M v = st) → v ∈ K ∨ v = u ∨ G.ldone b st M v

theorem Lk.init {G : Gr} {a b : Nat} {st : Int} {M : Nat → Int} (ha : a < G.n) (hM : ∀ v, v < G.n → M v ≠ st) : Lk G a b st M [a] G.n :=
  ⟨fun x hx => by obtain rfl : x = a := by simpa using hx
                  exact ha, fun v hv h => by
    rcases h with rfl | h
    · exact .inl (by simp)
    · exact absurd h (hM v hv)⟩
theorem Lk.pop {G : Gr} {a b : Nat} {st : Int} {M : Nat → Int} {K : List Nat} {u : Nat} (h : Lk G a b st M (K ++ [u]) G.n) : u < G.n ∧ Lk G a b st M K u := by
  refine ⟨h.stk u (by simp), fun x hx => h.stk x (by simp [hx]), fun v hv hm => ?_⟩
  rcases h.clo v hv hm with h1 | h1 | h1
  · rcases List.mem_append.1 h1 with h2 | h2
    · exact .inl h2
    · exact .inr (.inl (by simpa using h2))
  · omega
  · exact .inr (.inr h1)
theorem Lk.push {G : Gr} {a b : Nat} {st : Int} {M : Nat → Int} {K : List Nat} {u v : Nat} (h : Lk G a b st M K u) (hv : v < G.n) : Lk G a b st (upd M v st) (K ++ [v]) u := by
  refine ⟨fun x hx => ?_, fun x hx hm => ?_⟩
  · rcases List.mem_append.1 hx with h2 | h2
    · exact h.stk x h2
    · obtain rfl : x = v := by simpa using h2
      exact hv
  · by_cases hxv : x = v
    · subst hxv; exact .inl (by simp)
    · rw [upd_other _ _ hxv] at hm
      rcases h.clo x hx hm with h1 | h1 | h1
      · exact .inl (by simp [h1])
      · exact .inr (.inl h1)
      · refine .inr (.inr fun y hy => ⟨(h1 y hy).1, fun hr => ?_⟩)
        by_cases hyv : y = v
        · subst hyv; exact upd_same _ _ _
        · rw [upd_other _ _ hyv]; exact (h1 y hy).2 hr
theorem Gr.lpart_push {G : Gr} {b : Nat} {st : Int} {M : Nat → Int} {u j : Nat} (h : G.lpart b st M u j) (v : Nat) : G.lpart b st (upd M v st) u j := by
  intro i x h1 h2 h3
  refine ⟨(h i x h1 h2 h3).1, fun hr => ?_⟩
  by_cases hxv : x = v
  · subst hxv; exact upd_same _ _ _
  · rw [upd_other _ _ hxv]; exact (h i x h1 h2 h3).2 hr
theorem Gr.lpart_step {G : Gr} {b : Nat} {st : Int} {M : Nat → Int} {u j v : Nat} (h : G.lpart b st M u j) (hv : G.succ.getD j 0 = (v : Int)) (h1 : v ≠ b) (h2 : ¬ v < G.nreal → M v = st) : G.lpart b st M u (j + 1) := by
  intro i x h3 h4 h5
  by_cases hij : i = j
  · subst hij
    obtain rfl : x = v := by omega
    exact ⟨h1, h2⟩
  · exact h i x h3 (by omega) h5
theorem Gr.lpart_zero {G : Gr} {b : Nat} {st : Int} {M : Nat → Int} {u j : Nat} (hj : G.first.getD u 0 = (j : Int)) : G.lpart b st M u j := by
  intro i x h1 h2; omega
theorem Lk.fin {G : Gr} {a b : Nat} {st : Int} {M : Nat → Int} {K : List Nat} {u j : Nat} (h : Lk G a b st M K u) (hp : G.lpart b st M u j) (hj : G.first.getD (u + 1) 0 = (j : Int)) : Lk G a b st M K G.n := by
  refine ⟨h.stk, fun v hv hm => ?_⟩
  rcases h.clo v hv hm with h1 | h1 | h1
  · exact .inl h1
  · subst h1
    refine .inr (.inr ?_)
    rintro x ⟨_, i, hi1, hi2, hi3⟩
    exact hp i x hi1 (by omega) hi3
  · exact .inr (.inr h1)
theorem Lk.none {G : Gr} {a b : Nat} {st : Int} {M : Nat → Int} (ok : G.OK) (ha : a < G.n) (h : Lk G a b st M [] G.n) : ¬ G.link a b := by
  have hd : ∀ v, v < G.n → (v = a ∨ M v = st) → G.ldone b st M v := by
    intro v hv hm
    rcases h.clo v hv hm with h1 | h1 | h1
    · cases h1
    · omega
    · exact h1
  have hv : ∀ k m, G.thru a k m → m < G.n ∧ (m = a ∨ M m = st) := by
    intro k
    induction k with
    | zero => intro m hm; obtain rfl : m = a := hm; exact ⟨ha, .inl rfl⟩
    | succ k ih =>
      rintro m ⟨p, hp, he, hn⟩
      have := ih p hp
      exact ⟨Gr.edge_lt ok he, .inr ((hd p this.1 this.2 m he).2 hn)⟩
  rintro ⟨k, m, hm, he⟩
  have := hv k m hm
  exact (hd m this.1 this.2 b he).1 rfl
theorem unmark_drop {st : Int} {M : Nat → Int} {n v : Nat} (hv : v < n) (h : M v ≠ st) : cnt (unmark st (upd M v st)) n + 1 = cnt (unmark st M) n :=
  cnt_drop n v hv (by simp [unmark, h]) (by simp [unmark, upd_same]) (fun i hi => by simp [unmark, upd_other _ _ hi])
end Go.Proofs.Qxb6604255a

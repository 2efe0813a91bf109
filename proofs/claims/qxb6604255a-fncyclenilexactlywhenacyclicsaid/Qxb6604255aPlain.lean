namespace Go.Proofs.Qxb6604255a

/-- A graph as the law takes it. -/
structure Gr where
  nreal : Nat
  n : Nat
  first : List Int
  succ : List Int

/-- What wellFormed finds. -/
structure Gr.OK (G : Gr) : Prop where
  len : G.first.length = G.n + 1
  real : G.nreal ≤ G.n
  low : 0 ≤ G.first.getD 0 0
  mono : ∀ u, u < G.n → G.first.getD u 0 ≤ G.first.getD (u + 1) 0
  high : G.first.getD G.n 0 ≤ G.succ.length
  node : ∀ j : Nat, G.first.getD 0 0 ≤ j → (j : Int) < G.first.getD G.n 0 → 0 ≤ G.succ.getD j 0 ∧ G.succ.getD j 0 < G.n

/-- An edge. -/
def Gr.edge (G : Gr) (u v : Nat) : Prop := u < G.n ∧ ∃ j : Nat, G.first.getD u 0 ≤ j ∧ (j : Int) < G.first.getD (u + 1) 0 ∧ G.succ.getD j 0 = v
/-- What an edge into v costs. -/
def Gr.wt (G : Gr) (v : Nat) : Nat := if v < G.nreal then 1 else 0
/-- A walk of k edges from s to u of cost c. -/
def Gr.walk (G : Gr) (s : Nat) : Nat → Nat → Nat → Prop
  | 0, c, u => u = s ∧ c = 0
  | k + 1, c, u => ∃ v c', Gr.walk G s k c' v ∧ G.edge v u ∧ c = c' + G.wt u
theorem Gr.OK.le {G : Gr} (h : G.OK) (u d : Nat) : u + d ≤ G.n → G.first.getD u 0 ≤ G.first.getD (u + d) 0 := by
  induction d with
  | zero => intro _; exact Int.le_refl _
  | succ d ih =>
    intro hd
    have h1 := ih (by omega)
    have h2 := h.mono (u + d) (by omega)
    rw [← Nat.add_assoc]
    omega
theorem Gr.OK.span {G : Gr} (h : G.OK) (u : Nat) (hu : u < G.n) : 0 ≤ G.first.getD u 0 ∧ G.first.getD u 0 ≤ G.first.getD (u + 1) 0 ∧ G.first.getD (u + 1) 0 ≤ G.succ.length := by
  have h1 := h.le 0 u (by omega)
  have h2 := h.mono u hu
  have h3 := h.le (u + 1) (G.n - (u + 1)) (by omega)
  rw [show u + 1 + (G.n - (u + 1)) = G.n by omega] at h3
  rw [Nat.zero_add] at h1
  have h4 := h.low
  have h5 := h.high
  omega
theorem Gr.OK.target {G : Gr} (h : G.OK) (u j : Nat) (hu : u < G.n) (h1 : G.first.getD u 0 ≤ j) (h2 : (j : Int) < G.first.getD (u + 1) 0) : 0 ≤ G.succ.getD j 0 ∧ G.succ.getD j 0 < G.n := by
  have h3 := h.le 0 u (by omega)
  have h4 := h.le (u + 1) (G.n - (u + 1)) (by omega)
  rw [show u + 1 + (G.n - (u + 1)) = G.n by omega] at h4
  rw [Nat.zero_add] at h3
  exact h.node j (by omega) (by omega)
theorem Gr.edge_lt {G : Gr} (h : G.OK) {u v : Nat} (he : G.edge u v) : v < G.n := by
  obtain ⟨hu, j, h1, h2, h3⟩ := he
  have := h.target u j hu h1 h2
  omega
end Go.Proofs.Qxb6604255a

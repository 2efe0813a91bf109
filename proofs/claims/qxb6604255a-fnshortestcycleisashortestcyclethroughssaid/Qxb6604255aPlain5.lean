import Derived.Test.Qxb6604255aPlain2
namespace Go.Proofs.Qxb6604255a
set_option linter.unusedVariables false

/-! ### minCycleCost: plain -/
def notDone (dn : Nat → Bool) : Nat → Bool := fun v => !dn v
def Gr.dproc (G : Gr) (dist : Nat → Int) (v : Nat) : Prop := ∀ x, G.edge v x → 0 ≤ dist x ∧ dist x ≤ dist v + G.wt x
/-- Dijkstra's state between two rounds. -/
structure Dij (G : Gr) (s H : Nat) (dist : Nat → Int) (dn : Nat → Bool) : Prop where
  low : ∀ v, v < G.n → -1 ≤ dist v
  walk : ∀ v, v < G.n → 0 ≤ dist v → ∃ k, G.walk s k (dist v).toNat v
  start : dist s = 0
  fin : ∀ v, v < G.n → dn v = true → 0 ≤ dist v ∧ G.dproc dist v
  ord : ∀ u v, u < G.n → v < G.n → dn u = true → dn v = false → 0 ≤ dist v → dist u ≤ dist v
  high : ∀ v, v < G.n → dist v ≤ H
  left : cnt (notDone dn) G.n + H = G.n

/-- In the round of u: its edges before j are read. -/
structure DijU (G : Gr) (s H u j : Nat) (dist : Nat → Int) (dn : Nat → Bool) : Prop where
  low : ∀ v, v < G.n → -1 ≤ dist v
  walk : ∀ v, v < G.n → 0 ≤ dist v → ∃ k, G.walk s k (dist v).toNat v
  start : dist s = 0
  fin : ∀ v, v < G.n → dn v = true → 0 ≤ dist v ∧ (v ≠ u → G.dproc dist v)
  ord : ∀ x v, x < G.n → v < G.n → dn x = true → dn v = false → 0 ≤ dist v → dist x ≤ dist v
  top : ∀ x, x < G.n → dn x = true → dist x ≤ dist u
  self : dn u = true
  part : ∀ i x : Nat, G.first.getD u 0 ≤ i → i < j → G.succ.getD i 0 = (x : Int) → 0 ≤ dist x ∧ dist x ≤ dist u + G.wt x
  high : ∀ v, v < G.n → dist v ≤ H + 1
  uH : dist u ≤ H
  left : cnt (notDone dn) G.n + (H + 1) = G.n

theorem Dij.init {G : Gr} {s : Nat} (hs : s < G.n) : Dij G s 0 (upd (fun _ => -1) s 0) (fun _ => false) := by
  have h0 : ∀ v, 0 ≤ upd (fun _ => (-1 : Int)) s 0 v → v = s := fun v h => by
    by_cases hv : v = s
    · exact hv
    · rw [upd_other _ _ hv] at h; omega
  refine ⟨fun v _ => ?_, fun v _ h => ⟨0, h0 v h, ?_⟩, upd_same _ _ _, (fun v _ h => by cases h), (fun u v _ _ h => by cases h), fun v _ => ?_, ?_⟩
  · by_cases hv : v = s
    · subst hv; rw [upd_same]; omega
    · rw [upd_other _ _ hv]; omega
  · rw [h0 v h, upd_same]; rfl
  · by_cases hv : v = s
    · subst hv; rw [upd_same]; omega
    · rw [upd_other _ _ hv]; omega
  · rw [cnt_all (p := notDone (fun _ => false)) G.n (fun _ _ => rfl)]; rfl

/-- What the scan for the least finds. -/
def Scan (dist : Nat → Int) (dn : Nat → Bool) (u : Int) (k : Nat) : Prop :=
  (u = -1 ∧ ∀ v, v < k → dn v = true ∨ dist v < 0) ∨ (∃ x : Nat, u = x ∧ x < k ∧ dn x = false ∧ 0 ≤ dist x ∧ ∀ v, v < k → dn v = false → 0 ≤ dist v → dist x ≤ dist v)
theorem Scan.init {dist : Nat → Int} {dn : Nat → Bool} : Scan dist dn (-1) 0 := .inl ⟨rfl, fun v h => by omega⟩
theorem Scan.skip {dist : Nat → Int} {dn : Nat → Bool} {u : Int} {k : Nat} (h : Scan dist dn u k) (hk : dn k = true ∨ dist k < 0) : Scan dist dn u (k + 1) := by
  rcases h with ⟨h1, h2⟩ | ⟨x, h1, h2, h3, h4, h5⟩
  · refine .inl ⟨h1, fun v hv => ?_⟩
    by_cases hvk : v = k
    · subst hvk; exact hk
    · exact h2 v (by omega)
  · refine .inr ⟨x, h1, by omega, h3, h4, fun v hv hd h0 => ?_⟩
    by_cases hvk : v = k
    · subst hvk
      rcases hk with hk | hk
      · rw [hk] at hd; cases hd
      · omega
    · exact h5 v (by omega) hd h0
theorem Scan.keep {dist : Nat → Int} {dn : Nat → Bool} {x k : Nat} (h : Scan dist dn x k) (hk : ¬ dist k < dist x) : Scan dist dn x (k + 1) := by
  rcases h with ⟨h1, h2⟩ | ⟨y, h1, h2, h3, h4, h5⟩
  · omega
  · obtain rfl : x = y := by omega
    refine .inr ⟨x, rfl, by omega, h3, h4, fun v hv hd h0 => ?_⟩
    by_cases hvk : v = k
    · subst hvk; omega
    · exact h5 v (by omega) hd h0
theorem Scan.take {dist : Nat → Int} {dn : Nat → Bool} {u : Int} {k : Nat} (h : Scan dist dn u k) (hd : dn k = false) (h0 : 0 ≤ dist k) (hk : u = -1 ∨ ∃ x : Nat, u = x ∧ dist k < dist x) : Scan dist dn k (k + 1) := by
  refine .inr ⟨k, rfl, by omega, hd, h0, fun v hv hdv hv0 => ?_⟩
  by_cases hvk : v = k
  · subst hvk; omega
  · rcases h with ⟨h1, h2⟩ | ⟨y, h1, h2, h3, h4, h5⟩
    · rcases h2 v (by omega) with h | h
      · rw [h] at hdv; cases hdv
      · omega
    · have h6 := h5 v (by omega) hdv hv0
      rcases hk with hk | ⟨x, hk, hlt⟩
      · omega
      · obtain rfl : x = y := by omega
        omega

theorem Dij.pick {G : Gr} {s H : Nat} {dist : Nat → Int} {dn : Nat → Bool} (h : Dij G s H dist dn) (x j : Nat) (hx : x < G.n) (hS : Scan dist dn x G.n) (hj : G.first.getD x 0 = (j : Int)) : DijU G s H x j dist (upd dn x true) := by
  rcases hS with ⟨h1, _⟩ | ⟨y, h1, _, h3, h4, h5⟩
  · omega
  · obtain rfl : x = y := by omega
    refine ⟨h.low, h.walk, h.start, fun v hv hd => ?_, fun a v ha hv hda hdv h0 => ?_, fun a ha hda => ?_, upd_same _ _ _, fun i y hi1 hi2 => by omega, fun v hv => ?_, h.high x hx, ?_⟩
    · by_cases hvx : v = x
      · subst hvx; exact ⟨h4, fun hne => absurd rfl hne⟩
      · rw [upd_other _ _ hvx] at hd
        exact ⟨(h.fin v hv hd).1, fun _ => (h.fin v hv hd).2⟩
    · have hvx : v ≠ x := fun e => by subst e; rw [upd_same] at hdv; cases hdv
      rw [upd_other _ _ hvx] at hdv
      by_cases hax : a = x
      · subst hax; exact h5 v hv hdv h0
      · rw [upd_other _ _ hax] at hda
        exact h.ord a v ha hv hda hdv h0
    · by_cases hax : a = x
      · subst hax; exact Int.le_refl _
      · rw [upd_other _ _ hax] at hda
        exact h.ord a x ha hx hda h3 h4
    · have := h.high v hv; omega
    · have h6 := cnt_drop (p := notDone dn) (q := notDone (upd dn x true)) G.n x hx (by simp [notDone, h3]) (by simp [notDone, upd_same]) (fun i hi => by simp [notDone, upd_other _ _ hi])
      have := h.left
      omega

theorem DijU.keep {G : Gr} {s H u j v : Nat} {dist : Nat → Int} {dn : Nat → Bool} (h : DijU G s H u j dist dn) (hv : G.succ.getD j 0 = (v : Int)) (h0 : 0 ≤ dist v) (h1 : dist v ≤ dist u + G.wt v) : DijU G s H u (j + 1) dist dn := by
  refine ⟨h.low, h.walk, h.start, h.fin, h.ord, h.top, h.self, fun i x h4 h5 h6 => ?_, h.high, h.uH, h.left⟩
  by_cases hij : i = j
  · subst hij
    obtain rfl : x = v := by omega
    exact ⟨h0, h1⟩
  · exact h.part i x h4 (by omega) h6

theorem DijU.set {G : Gr} {s H u j v : Nat} {dist : Nat → Int} {dn : Nat → Bool} (h : DijU G s H u j dist dn) (hu : u < G.n) (hvn : v < G.n) (hv : G.succ.getD j 0 = (v : Int)) (he : G.edge u v) (hup : dist v < 0 ∨ dist u + G.wt v < dist v) : DijU G s H u (j + 1) (upd dist v (dist u + G.wt v)) dn := by
  have hu0 : 0 ≤ dist u := (h.fin u hu h.self).1
  have hnd : dn v = false := by
    cases hd : dn v with
    | false => rfl
    | true =>
      have h1 := (h.fin v hvn hd).1
      have h2 := h.top v hvn hd
      omega
  have hne : ∀ x, dn x = true → x ≠ v := fun x hx e => by subst e; rw [hnd] at hx; cases hx
  have huv : u ≠ v := hne u h.self
  have hsv : s ≠ v := fun e => by
    subst e
    have := h.start
    omega
  have hle : ∀ x, 0 ≤ dist x → 0 ≤ upd dist v (dist u + ↑(G.wt v)) x ∧ upd dist v (dist u + ↑(G.wt v)) x ≤ dist x := by
    intro x hx
    by_cases hxv : x = v
    · subst hxv; rw [upd_same]; omega
    · rw [upd_other _ _ hxv]; omega
  refine ⟨fun x hx => ?_, fun x hx h0 => ?_, ?_, fun x hx hd => ?_, fun a x ha hx hda hdx h0 => ?_, fun a ha hda => ?_, h.self, fun i x h4 h5 h6 => ?_, fun x hx => ?_, ?_, h.left⟩
  · by_cases hxv : x = v
    · subst hxv; rw [upd_same]; omega
    · rw [upd_other _ _ hxv]; exact h.low x hx
  · by_cases hxv : x = v
    · subst hxv
      rw [upd_same]
      obtain ⟨k, hk⟩ := h.walk u hu hu0
      refine ⟨k + 1, u, _, hk, he, by omega⟩
    · rw [upd_other _ _ hxv] at h0 ⊢; exact h.walk x hx h0
  · rw [upd_other _ _ hsv]; exact h.start
  · have hxv := hne x hd
    have hf := h.fin x hx hd
    rw [upd_other _ _ hxv]
    refine ⟨hf.1, fun hxu y hy => ?_⟩
    obtain ⟨h1, h2⟩ := hf.2 hxu y hy
    have h3 := hle y h1
    rw [upd_other (i := v) (j := x) _ _ hxv]
    omega
  · rw [upd_other _ _ (hne a hda)]
    by_cases hxv : x = v
    · subst hxv
      rw [upd_same]
      have := h.top a ha hda
      omega
    · rw [upd_other _ _ hxv] at h0 ⊢
      exact h.ord a x ha hx hda hdx h0
  · rw [upd_other _ _ (hne a hda), upd_other _ _ huv]; exact h.top a ha hda
  · rw [upd_other (j := u) _ _ huv]
    by_cases hij : i = j
    · subst hij
      obtain rfl : x = v := by omega
      rw [upd_same]; omega
    · obtain ⟨h1, h2⟩ := h.part i x h4 (by omega) h6
      have := hle x h1
      omega
  · by_cases hxv : x = v
    · subst hxv
      rw [upd_same]
      have := h.uH
      have := G.wt_le x
      omega
    · rw [upd_other _ _ hxv]; exact h.high x hx
  · rw [upd_other _ _ huv]; exact h.uH

theorem DijU.fin' {G : Gr} {s H u j : Nat} {dist : Nat → Int} {dn : Nat → Bool} (h : DijU G s H u j dist dn) (hj : G.first.getD (u + 1) 0 = (j : Int)) : Dij G s (H + 1) dist dn := by
  refine ⟨h.low, h.walk, h.start, fun v hv hd => ⟨(h.fin v hv hd).1, ?_⟩, h.ord, fun v hv => by have := h.high v hv; omega, h.left⟩
  by_cases hvu : v = u
  · subst hvu
    rintro x ⟨_, i, h1, h2, h3⟩
    exact h.part i x h1 (by omega) h3
  · exact (h.fin v hv hd).2 hvu

/-- The distances are exact. -/
structure Exact (G : Gr) (s : Nat) (dist : Nat → Int) : Prop where
  low : ∀ v, v < G.n → -1 ≤ dist v
  walk : ∀ v, v < G.n → 0 ≤ dist v → ∃ k, G.walk s k (dist v).toNat v
  least : ∀ k c v, G.walk s k c v → 0 ≤ dist v ∧ dist v ≤ c
  high : ∀ v, v < G.n → dist v ≤ G.n
theorem exact_of {G : Gr} {s H : Nat} {dist : Nat → Int} {dn : Nat → Bool} (h : Dij G s H dist dn) (hall : ∀ v, v < G.n → dn v = true ∨ dist v < 0) : Exact G s dist := by
  refine ⟨h.low, h.walk, ?_, fun v hv => by have := h.high v hv; have := h.left; omega⟩
  intro k
  induction k with
  | zero => rintro c v ⟨rfl, rfl⟩; rw [h.start]; omega
  | succ k ih =>
    rintro c v ⟨u, c', hw, he, rfl⟩
    have hu := ih c' u hw
    rcases hall u he.1 with hd | hd
    · have := (h.fin u he.1 hd).2 v he
      omega
    · omega
theorem Dij.done {G : Gr} {s : Nat} {dist : Nat → Int} {dn : Nat → Bool} (h : Dij G s G.n dist dn) : Exact G s dist := by
  refine exact_of h (fun v hv => .inl ?_)
  have := cnt_zero (p := notDone dn) G.n (by have := h.left; omega) v hv
  simpa [notDone] using this
theorem Dij.stop {G : Gr} {s H : Nat} {dist : Nat → Int} {dn : Nat → Bool} (h : Dij G s H dist dn) (hS : Scan dist dn (-1) G.n) : Exact G s dist := by
  rcases hS with ⟨_, h2⟩ | ⟨x, h1, _⟩
  · exact exact_of h h2
  · omega

/-- The last scan: the edges before (u, j) are read. -/
structure Best (G : Gr) (s : Nat) (dist : Nat → Int) (u j : Nat) (b : Int) : Prop where
  low : b = -1 ∨ (0 ≤ b ∧ G.closed s b.toNat)
  high : b ≤ G.n + 1
  all : ∀ v i : Nat, v < G.n → G.first.getD v 0 ≤ i → (i : Int) < G.first.getD (v + 1) 0 → (v < u ∨ (v = u ∧ i < j)) → 0 ≤ dist v → G.succ.getD i 0 = (s : Int) → 0 ≤ b ∧ b ≤ dist v + 1
theorem Best.init {G : Gr} {s : Nat} {dist : Nat → Int} : Best G s dist 0 0 (-1) := ⟨.inl rfl, by omega, fun v i _ _ _ h => by omega⟩
theorem Best.node {G : Gr} {s u j : Nat} {dist : Nat → Int} {b : Int} (h : Best G s dist u j b) (hj : G.first.getD (u + 1) 0 ≤ (j : Int)) (j' : Nat) (hj' : j' = 0) : Best G s dist (u + 1) j' b :=
  ⟨h.low, h.high, fun v i hv h1 h2 h3 => h.all v i hv h1 h2 (by
    subst hj'
    by_cases hvu : v = u
    · subst hvu; exact .inr ⟨rfl, by omega⟩
    · exact .inl (by omega))⟩
theorem Best.skip {G : Gr} {s u j j' : Nat} {dist : Nat → Int} {b : Int} (h : Best G s dist u j b) (hd : dist u < 0) : Best G s dist (u + 1) 0 b :=
  ⟨h.low, h.high, fun v i hv h1 h2 h3 h4 => by
    by_cases hvu : v = u
    · subst hvu; omega
    · exact h.all v i hv h1 h2 (.inl (by omega)) h4⟩
theorem Best.enter {G : Gr} {s u j : Nat} {dist : Nat → Int} {b : Int} (h : Best G s dist u 0 b) (hj : G.first.getD u 0 = (j : Int)) : Best G s dist u j b :=
  ⟨h.low, h.high, fun v i hv h1 h2 h3 => h.all v i hv h1 h2 (by
    rcases h3 with h3 | ⟨rfl, h4⟩
    · exact .inl h3
    · omega)⟩
theorem Best.other {G : Gr} {s u j : Nat} {dist : Nat → Int} {b : Int} (h : Best G s dist u j b) (hj : G.succ.getD j 0 ≠ (s : Int) ∨ (0 ≤ b ∧ b ≤ dist u + 1)) : Best G s dist u (j + 1) b :=
  ⟨h.low, h.high, fun v i hv h1 h2 h3 h4 h5 => by
    by_cases hvu : v = u ∧ i = j
    · obtain ⟨rfl, rfl⟩ := hvu
      rcases hj with hj | hj
      · exact absurd h5 hj
      · exact hj
    · exact h.all v i hv h1 h2 (by omega) h4 h5⟩
theorem Best.set {G : Gr} {s u j : Nat} {dist : Nat → Int} {b : Int} (h : Best G s dist u j b) (hE : Exact G s dist) (hs : s < G.nreal) (hu : u < G.n) (h0 : 0 ≤ dist u) (he : G.edge u s) (hup : b < 0 ∨ dist u + 1 < b) : Best G s dist u (j + 1) (dist u + 1) := by
  refine ⟨.inr ⟨by omega, ?_⟩, by have := hE.high u hu; omega, fun v i hv h1 h2 h3 h4 h5 => ?_⟩
  · obtain ⟨k, hk⟩ := hE.walk u hu h0
    refine ⟨k, u, _, hk, he, ?_⟩
    rw [Gr.wt_real hs]; omega
  · by_cases hvu : v = u ∧ i = j
    · obtain ⟨rfl, rfl⟩ := hvu
      omega
    · have := h.all v i hv h1 h2 (by omega) h4 h5
      omega
theorem Best.least {G : Gr} {s j : Nat} {dist : Nat → Int} {b : Int} (h : Best G s dist G.n j b) (hE : Exact G s dist) (hs : s < G.nreal) (h0 : 0 ≤ b) : G.least s b.toNat := by
  refine ⟨?_, ?_⟩
  · rcases h.low with h1 | h1
    · omega
    · exact h1.2
  · rintro c ⟨k, v, c', hw, ⟨hv, i, h1, h2, h3⟩, rfl⟩
    have h4 := hE.least k c' v hw
    have := h.all v i hv h1 h2 (.inl hv) h4.1 h3
    rw [Gr.wt_real hs]
    omega
end Go.Proofs.Qxb6604255a

import Derived.Test.Qxb6604255aPlain2
namespace Go.Proofs.Qxb6604255a
set_option linter.unusedVariables false

/-! ### Kahn's sort -/
theorem cnt_pos {p : Nat → Bool} (k : Nat) (h : cnt p k ≠ 0) : ∃ i, i < k ∧ p i = true := by
  induction k with
  | zero => exact absurd rfl h
  | succ k ih =>
    unfold cnt at h
    by_cases hp : p k = true
    · exact ⟨k, by omega, hp⟩
    · rw [if_neg hp] at h
      obtain ⟨i, hi, hpi⟩ := ih (by omega)
      exact ⟨i, by omega, hpi⟩
theorem cnt_mono {p q : Nat → Bool} (k : Nat) (h : ∀ i, i < k → p i = true → q i = true) : cnt p k ≤ cnt q k := by
  induction k with
  | zero => exact Nat.le_refl _
  | succ k ih =>
    unfold cnt
    have := ih (fun i hi => h i (by omega))
    have hk := h k (by omega)
    by_cases hp : p k = true
    · rw [if_pos hp, if_pos (hk hp)]; omega
    · rw [if_neg hp]; split <;> omega
theorem cnt_from (lo : Nat) : ∀ k, cnt (fun v => decide (lo ≤ v)) k = k - lo := by
  intro k
  induction k with
  | zero => simp [cnt]
  | succ k ih =>
    unfold cnt
    rw [ih]
    by_cases h : lo ≤ k
    · simp [h]; omega
    · simp [h]; omega
theorem cnt_list (Q : List Nat) (n : Nat) (hn : Q.Nodup) (hr : ∀ x, x ∈ Q → x < n) : cnt (fun v => decide (v ∈ Q)) n = Q.length := by
  induction Q with
  | nil =>
    have : cnt (fun v => decide (v ∈ ([] : List Nat))) n = cnt (fun _ => false) n := cnt_congr n (fun i _ => by simp)
    rw [this]
    have h0 : ∀ k, cnt (fun _ => false) k = 0 := fun k => by
      induction k with
      | zero => rfl
      | succ k ih => unfold cnt; rw [ih]; rfl
    exact h0 n
  | cons y ys ih =>
    obtain ⟨h1, h2⟩ := List.nodup_cons.1 hn
    have := ih h2 (fun x hx => hr x (by simp [hx]))
    have hd := cnt_drop (p := fun v => decide (v ∈ y :: ys)) (q := fun v => decide (v ∈ ys)) n y (hr y (by simp)) (by simp) (by simp [h1]) (fun i hi => by simp [hi])
    rw [List.length_cons]
    omega

def eb (G : Gr) (al : Nat → Bool) (v : Nat) : Nat → Bool := fun j => al j && decide (G.succ.getD j 0 = (v : Int))
theorem eb_other {G : Gr} {al : Nat → Bool} {j v v' ns : Nat} {x : Bool} (hv : G.succ.getD j 0 = (v : Int)) (hne : v' ≠ v) : cnt (eb G (upd al j x) v') ns = cnt (eb G al v') ns := by
  refine cnt_congr ns (fun i _ => ?_)
  unfold eb
  by_cases hij : i = j
  · subst hij
    have : decide (G.succ.getD i 0 = (v' : Int)) = false := decide_eq_false (by omega)
    rw [this, Bool.and_false, Bool.and_false]
  · rw [upd_other _ _ hij]
theorem eb_drop {G : Gr} {al : Nat → Bool} {j v ns : Nat} (hj : j < ns) (ha : al j = true) (hv : G.succ.getD j 0 = (v : Int)) : cnt (eb G (upd al j false) v) ns + 1 = cnt (eb G al v) ns :=
  cnt_drop ns j hj (by unfold eb; rw [ha, decide_eq_true hv]; rfl) (by unfold eb; rw [upd_same]; rfl) (fun i hi => by unfold eb; rw [upd_other _ _ hi])
theorem eb_add {G : Gr} {al : Nat → Bool} {j v ns : Nat} (hj : j < ns) (ha : al j = false) (hv : G.succ.getD j 0 = (v : Int)) : cnt (eb G (upd al j true) v) ns = cnt (eb G al v) ns + 1 :=
  (cnt_drop ns j hj (by unfold eb; rw [upd_same, decide_eq_true hv]; rfl) (by unfold eb; rw [ha]; rfl) (fun i hi => by unfold eb; rw [upd_other _ _ hi])).symm

/-- The edges from f0 up to j. -/
def span (f0 j : Nat) : Nat → Bool := fun i => decide (f0 ≤ i ∧ i < j)
theorem span_succ (f0 j : Nat) (h : f0 ≤ j) : span f0 (j + 1) = upd (span f0 j) j true := by
  funext i
  by_cases hij : i = j
  · subst hij; rw [upd_same]; exact decide_eq_true (by omega)
  · rw [upd_other _ _ hij]
    unfold span
    congr 1
    exact propext ⟨fun ⟨a, b⟩ => ⟨a, by omega⟩, fun ⟨a, b⟩ => ⟨a, by omega⟩⟩
/-- The first loop: indeg counts the edges read so far. -/
def Deg (G : Gr) (lo ns f0 j : Nat) (D : Nat → Int) : Prop := ∀ v, lo ≤ v → v < G.n → D v = cnt (eb G (span f0 j) v) ns
theorem Deg.init {G : Gr} {lo ns f0 : Nat} : Deg G lo ns f0 f0 (fun _ => 0) := by
  intro v _ _
  have h0 : ∀ k, cnt (eb G (span f0 f0) v) k = 0 := fun k => by
    induction k with
    | zero => rfl
    | succ k ih =>
      unfold cnt
      have : eb G (span f0 f0) v k = false := by unfold eb span; rw [decide_eq_false (by omega)]; rfl
      rw [ih, this]; rfl
  rw [h0]; rfl
theorem Deg.skip {G : Gr} {lo ns f0 j v : Nat} {D : Nat → Int} (h : Deg G lo ns f0 j D) (hf : f0 ≤ j) (hv : G.succ.getD j 0 = (v : Int)) (hlo : v < lo) : Deg G lo ns f0 (j + 1) D := by
  intro x h1 h2
  rw [h x h1 h2, span_succ f0 j hf, eb_other hv (by omega)]
theorem Deg.inc {G : Gr} {lo ns f0 j v : Nat} {D : Nat → Int} (h : Deg G lo ns f0 j D) (hf : f0 ≤ j) (hj : j < ns) (hv : G.succ.getD j 0 = (v : Int)) : Deg G lo ns f0 (j + 1) (upd D v (D v + 1)) := by
  intro x h1 h2
  rw [span_succ f0 j hf]
  by_cases hx : x = v
  · subst hx
    rw [upd_same, eb_add hj (by unfold span; exact decide_eq_false (by omega)) hv, h x h1 h2]
    simp
  · rw [upd_other _ _ hx, eb_other hv hx]; exact h x h1 h2
theorem Deg.low {G : Gr} {lo ns f0 j : Nat} {D : Nat → Int} (h : Deg G lo ns f0 j D) (v : Nat) (h1 : lo ≤ v) (h2 : v < G.n) : 0 ≤ D v ∧ D v ≤ ns := by
  rw [h v h1 h2]
  have := cnt_le (eb G (span f0 j) v) ns
  omega

/-- The second loop: the queue holds the nodes without a predecessor. -/
structure Roots (G : Gr) (lo k : Nat) (D : Nat → Int) (Q : List Nat) : Prop where
  nod : Q.Nodup
  rng : ∀ x, x ∈ Q → lo ≤ x ∧ x < k
  mem : ∀ v, lo ≤ v → v < k → (v ∈ Q ↔ D v = 0)
theorem Roots.init {G : Gr} {lo : Nat} {D : Nat → Int} : Roots G lo lo D [] := ⟨by simp, (fun x hx => by cases hx), fun v h1 h2 => by omega⟩
theorem Roots.skip {G : Gr} {lo k : Nat} {D : Nat → Int} {Q : List Nat} (h : Roots G lo k D Q) (hk : D k ≠ 0) : Roots G lo (k + 1) D Q := by
  refine ⟨h.nod, fun x hx => by have := h.rng x hx; omega, fun v h1 h2 => ?_⟩
  by_cases hv : v = k
  · subst hv
    exact ⟨fun hm => by have := h.rng v hm; omega, fun h0 => absurd h0 hk⟩
  · exact h.mem v h1 (by omega)
theorem Roots.add {G : Gr} {lo k : Nat} {D : Nat → Int} {Q : List Nat} (h : Roots G lo k D Q) (hlo : lo ≤ k) (hk : D k = 0) : Roots G lo (k + 1) D (Q ++ [k]) := by
  have hnk : k ∉ Q := fun hm => by have := h.rng k hm; omega
  refine ⟨?_, fun x hx => ?_, fun v h1 h2 => ?_⟩
  · rw [List.nodup_append]
    exact ⟨h.nod, by simp, fun a ha b hb => by
      obtain rfl : b = k := by simpa using hb
      intro e; subst e; exact hnk ha⟩
  · rcases List.mem_append.1 hx with h3 | h3
    · have := h.rng x h3; omega
    · obtain rfl : x = k := by simpa using h3
      omega
  · by_cases hv : v = k
    · subst hv
      exact ⟨fun _ => hk, fun _ => by simp⟩
    · have := h.mem v h1 (by omega)
      rw [← this, List.mem_append]
      exact ⟨fun h3 => h3.elim id (fun h4 => absurd (by simpa using h4) hv), .inl⟩

/-- The third loop: h nodes of the queue are read; u's edges before j too. -/
structure Kh (G : Gr) (lo ns h u j : Nat) (Q : List Nat) (D : Nat → Int) (al : Nat → Bool) : Prop where
  nod : Q.Nodup
  rng : ∀ x, x ∈ Q → lo ≤ x ∧ x < G.n
  hle : h ≤ Q.length
  deg : ∀ v, lo ≤ v → v < G.n → D v = cnt (eb G al v) ns
  mem : ∀ v, lo ≤ v → v < G.n → (v ∈ Q ↔ D v = 0)
  dead : ∀ x i : Nat, lo ≤ x → x < G.n → G.first.getD x 0 ≤ i → (i : Int) < G.first.getD (x + 1) 0 → (al i = false ↔ (∃ p : Nat, p < h ∧ Q[p]? = some x) ∨ (x = u ∧ i < j))
  src : ∀ i, al i = true → ∃ x, lo ≤ x ∧ x < G.n ∧ G.first.getD x 0 ≤ i ∧ (i : Int) < G.first.getD (x + 1) 0
  topo : ∀ p y : Nat, Q[p]? = some y → ∀ x : Nat, lo ≤ x → G.edge x y → ∃ p' : Nat, p' < p ∧ Q[p']? = some x

theorem src_of {G : Gr} (ok : G.OK) (lo i : Nat) : ∀ d, lo + d ≤ G.n → G.first.getD lo 0 ≤ i → (i : Int) < G.first.getD (lo + d) 0 → ∃ x, lo ≤ x ∧ x < lo + d ∧ G.first.getD x 0 ≤ i ∧ (i : Int) < G.first.getD (x + 1) 0 := by
  intro d
  induction d with
  | zero => intro _ h1 h2; rw [Nat.add_zero] at h2; omega
  | succ d ih =>
    intro hd h1 h2
    by_cases h : (i : Int) < G.first.getD (lo + d) 0
    · obtain ⟨x, h3, h4, h5⟩ := ih (by omega) h1 h
      exact ⟨x, h3, by omega, h5⟩
    · exact ⟨lo + d, by omega, by omega, by omega, by rw [Nat.add_assoc]; exact h2⟩
theorem src_one {G : Gr} (ok : G.OK) {x y i : Nat} (hx : x < G.n) (hy : y < G.n) (h1 : G.first.getD x 0 ≤ i) (h2 : (i : Int) < G.first.getD (x + 1) 0) (h3 : G.first.getD y 0 ≤ i) (h4 : (i : Int) < G.first.getD (y + 1) 0) : x = y := by
  rcases Nat.lt_trichotomy x y with h | h | h
  · have := ok.le (x + 1) (y - (x + 1)) (by omega)
    rw [show x + 1 + (y - (x + 1)) = y by omega] at this
    omega
  · exact h
  · have := ok.le (y + 1) (x - (y + 1)) (by omega)
    rw [show y + 1 + (x - (y + 1)) = x by omega] at this
    omega

theorem Kh.init {G : Gr} (ok : G.OK) {lo ns f0 f1 : Nat} {Q : List Nat} {D : Nat → Int} (hlo : lo ≤ G.n) (e0 : G.first.getD lo 0 = (f0 : Int)) (e1 : G.first.getD G.n 0 = (f1 : Int)) (hns : f1 ≤ ns) (hD : Deg G lo ns f0 f1 D) (hR : Roots G lo G.n D Q) : Kh G lo ns 0 G.n 0 Q D (span f0 f1) := by
  have hal : ∀ x i : Nat, lo ≤ x → x < G.n → G.first.getD x 0 ≤ i → (i : Int) < G.first.getD (x + 1) 0 → span f0 f1 i = true := by
    intro x i h1 h2 h3 h4
    have h5 := ok.le lo (x - lo) (by omega)
    rw [show lo + (x - lo) = x by omega] at h5
    have h6 := ok.le (x + 1) (G.n - (x + 1)) (by omega)
    rw [show x + 1 + (G.n - (x + 1)) = G.n by omega] at h6
    exact decide_eq_true (by omega)
  refine ⟨hR.nod, hR.rng, Nat.zero_le _, hD, hR.mem, fun x i h1 h2 h3 h4 => ⟨fun h => ?_, fun h => ?_⟩, fun i hi => ?_, fun p y hy x hx he => ?_⟩
  · rw [hal x i h1 h2 h3 h4] at h; cases h
  · rcases h with ⟨p, hp, _⟩ | ⟨h, _⟩ <;> omega
  · have := of_decide_eq_true hi
    obtain ⟨x, h1, h2, h3⟩ := src_of ok lo i (G.n - lo) (by omega) (by omega) (by rw [show lo + (G.n - lo) = G.n by omega]; omega)
    exact ⟨x, h1, by omega, h3⟩
  · have hyQ := List.mem_of_getElem? hy
    have hyr := hR.rng y hyQ
    have h0 := (hR.mem y hyr.1 hyr.2).1 hyQ
    rw [hD y hyr.1 hyr.2] at h0
    obtain ⟨hxn, i, h1, h2, h3⟩ := he
    have h4 := hal x i hx hxn h1 h2
    have h5 : i < ns := by
      have := of_decide_eq_true h4
      omega
    have := cnt_zero (p := eb G (span f0 f1) y) ns (by omega) i h5
    unfold eb at this
    rw [h4, decide_eq_true h3] at this
    cases this

theorem Kh.enter {G : Gr} {lo ns h u j0 : Nat} {Q : List Nat} {D : Nat → Int} {al : Nat → Bool} (hK : Kh G lo ns h G.n 0 Q D al) (e0 : G.first.getD u 0 = (j0 : Int)) : Kh G lo ns h u j0 Q D al := by
  refine ⟨hK.nod, hK.rng, hK.hle, hK.deg, hK.mem, fun x i h1 h2 h3 h4 => ?_, hK.src, hK.topo⟩
  rw [hK.dead x i h1 h2 h3 h4]
  refine ⟨fun h => .inl (h.elim id (fun h => by omega)), fun h => .inl (h.elim id (fun ⟨e, h⟩ => by subst e; omega))⟩
/-- u's edge j is still there. -/
theorem Kh.alive {G : Gr} {lo ns h u j : Nat} {Q : List Nat} {D : Nat → Int} {al : Nat → Bool} (hK : Kh G lo ns h u j Q D al) (hu : Q[h]? = some u) (hj0 : G.first.getD u 0 ≤ j) (hj1 : (j : Int) < G.first.getD (u + 1) 0) : al j = true := by
  cases ha : al j with
  | true => rfl
  | false =>
    have hr := hK.rng u (List.mem_of_getElem? hu)
    rcases (hK.dead u j hr.1 hr.2 hj0 hj1).1 ha with ⟨p, hp, hpu⟩ | ⟨_, h⟩
    · obtain ⟨l1, e1⟩ := List.getElem?_eq_some_iff.1 hpu
      obtain ⟨l2, e2⟩ := List.getElem?_eq_some_iff.1 hu
      have := (List.getElem_inj hK.nod).1 (e1.trans e2.symm)
      omega
    · omega
theorem Kh.dead_step {G : Gr} (ok : G.OK) {lo ns h u j : Nat} {Q Q' : List Nat} {D : Nat → Int} {al : Nat → Bool} (hK : Kh G lo ns h u j Q D al) (hun : u < G.n) (hj0 : G.first.getD u 0 ≤ j) (hj1 : (j : Int) < G.first.getD (u + 1) 0) (hQ : ∀ p, p < h → Q'[p]? = Q[p]?) :
    ∀ x i : Nat, lo ≤ x → x < G.n → G.first.getD x 0 ≤ i → (i : Int) < G.first.getD (x + 1) 0 → (upd al j false i = false ↔ (∃ p, p < h ∧ Q'[p]? = some x) ∨ (x = u ∧ i < j + 1)) := by
  intro x i h1 h2 h3 h4
  by_cases hij : i = j
  · subst hij
    obtain rfl := src_one ok h2 hun h3 h4 hj0 hj1
    rw [upd_same]
    exact ⟨fun _ => .inr ⟨rfl, by omega⟩, fun _ => rfl⟩
  · rw [upd_other _ _ hij, hK.dead x i h1 h2 h3 h4]
    refine ⟨fun h => ?_, fun h => ?_⟩
    · rcases h with ⟨p, hp, hx⟩ | ⟨e, h⟩
      · exact .inl ⟨p, hp, by rw [hQ p hp]; exact hx⟩
      · exact .inr ⟨e, by omega⟩
    · rcases h with ⟨p, hp, hx⟩ | ⟨e, h⟩
      · exact .inl ⟨p, hp, by rw [← hQ p hp]; exact hx⟩
      · exact .inr ⟨e, by omega⟩
theorem upd_true {al : Nat → Bool} {j i : Nat} (h : upd al j false i = true) : al i = true := by
  by_cases hij : i = j
  · subst hij; rw [upd_same] at h; cases h
  · rwa [upd_other _ _ hij] at h
theorem Kh.skip {G : Gr} (ok : G.OK) {lo ns h u j v : Nat} {Q : List Nat} {D : Nat → Int} {al : Nat → Bool} (hK : Kh G lo ns h u j Q D al) (hun : u < G.n) (hj0 : G.first.getD u 0 ≤ j) (hj1 : (j : Int) < G.first.getD (u + 1) 0) (hv : G.succ.getD j 0 = (v : Int)) (hlo : v < lo) : Kh G lo ns h u (j + 1) Q D (upd al j false) :=
  ⟨hK.nod, hK.rng, hK.hle, fun x h1 h2 => by rw [hK.deg x h1 h2, eb_other hv (by omega)], hK.mem, hK.dead_step ok hun hj0 hj1 (fun _ _ => rfl), fun i hi => hK.src i (upd_true hi), hK.topo⟩
theorem Kh.deg_step {G : Gr} {lo ns h u j v : Nat} {Q : List Nat} {D : Nat → Int} {al : Nat → Bool} (hK : Kh G lo ns h u j Q D al) (hjn : j < ns) (ha : al j = true) (hv : G.succ.getD j 0 = (v : Int)) : ∀ x, lo ≤ x → x < G.n → upd D v (D v - 1) x = cnt (eb G (upd al j false) x) ns := by
  intro x h1 h2
  by_cases hx : x = v
  · subst hx
    have h3 := eb_drop (ns := ns) hjn ha hv
    rw [upd_same, hK.deg x h1 h2]
    omega
  · rw [upd_other _ _ hx, eb_other hv hx]; exact hK.deg x h1 h2
theorem Kh.pos {G : Gr} {lo ns h u j v : Nat} {Q : List Nat} {D : Nat → Int} {al : Nat → Bool} (hK : Kh G lo ns h u j Q D al) (hjn : j < ns) (ha : al j = true) (hv : G.succ.getD j 0 = (v : Int)) (h1 : lo ≤ v) (h2 : v < G.n) : 1 ≤ D v ∧ D v ≤ ns := by
  have h3 := eb_drop (ns := ns) hjn ha hv
  have h4 := cnt_le (eb G al v) ns
  rw [hK.deg v h1 h2]
  omega
theorem Kh.decK {G : Gr} (ok : G.OK) {lo ns h u j v : Nat} {Q : List Nat} {D : Nat → Int} {al : Nat → Bool} (hK : Kh G lo ns h u j Q D al) (hun : u < G.n) (hj0 : G.first.getD u 0 ≤ j) (hj1 : (j : Int) < G.first.getD (u + 1) 0) (hjn : j < ns) (ha : al j = true) (hv : G.succ.getD j 0 = (v : Int)) (h1 : lo ≤ v) (h2 : v < G.n) (hne : D v - 1 ≠ 0) : Kh G lo ns h u (j + 1) Q (upd D v (D v - 1)) (upd al j false) := by
  refine ⟨hK.nod, hK.rng, hK.hle, hK.deg_step hjn ha hv, fun x h3 h4 => ?_, hK.dead_step ok hun hj0 hj1 (fun _ _ => rfl), fun i hi => hK.src i (upd_true hi), hK.topo⟩
  by_cases hx : x = v
  · subst hx
    have h5 := hK.pos hjn ha hv h1 h2
    rw [upd_same, hK.mem x h3 h4]
    omega
  · rw [upd_other _ _ hx]; exact hK.mem x h3 h4
theorem Kh.decA {G : Gr} (ok : G.OK) {lo ns h u j v : Nat} {Q : List Nat} {D : Nat → Int} {al : Nat → Bool} (hK : Kh G lo ns h u j Q D al) (hu : Q[h]? = some u) (hj0 : G.first.getD u 0 ≤ j) (hj1 : (j : Int) < G.first.getD (u + 1) 0) (hjn : j < ns) (hns : G.first.getD G.n 0 ≤ ns) (ha : al j = true) (hv : G.succ.getD j 0 = (v : Int)) (h1 : lo ≤ v) (h2 : v < G.n) (h0 : D v - 1 = 0) : Kh G lo ns h u (j + 1) (Q ++ [v]) (upd D v (D v - 1)) (upd al j false) := by
  have hur := hK.rng u (List.mem_of_getElem? hu)
  have hvQ : v ∉ Q := fun hm => by have := (hK.mem v h1 h2).1 hm; omega
  have hhl : h < Q.length := (List.getElem?_eq_some_iff.1 hu).1
  have hdead := hK.dead_step ok hur.2 hj0 hj1 (Q' := Q ++ [v]) (fun p hp => List.getElem?_append_left (by omega))
  have hdeg := hK.deg_step hjn ha hv
  refine ⟨?_, fun x hx => ?_, by rw [List.length_append]; omega, hdeg, fun x h3 h4 => ?_, hdead, fun i hi => hK.src i (upd_true hi), fun p y hy x hx he => ?_⟩
  · rw [List.nodup_append]
    exact ⟨hK.nod, by simp, fun a ha b hb => by
      obtain rfl : b = v := by simpa using hb
      intro e; subst e; exact hvQ ha⟩
  · rcases List.mem_append.1 hx with h3 | h3
    · exact hK.rng x h3
    · obtain rfl : x = v := by simpa using h3
      exact ⟨h1, h2⟩
  · by_cases hx : x = v
    · subst hx
      rw [upd_same]
      exact ⟨fun _ => h0, fun _ => by simp⟩
    · rw [upd_other _ _ hx, List.mem_append, ← hK.mem x h3 h4]
      exact ⟨fun h3 => h3.elim id (fun h4 => absurd (by simpa using h4) hx), .inl⟩
  · by_cases hp : p < Q.length
    · rw [List.getElem?_append_left hp] at hy
      obtain ⟨p', hp', hx'⟩ := hK.topo p y hy x hx he
      exact ⟨p', hp', by rw [List.getElem?_append_left (by omega)]; exact hx'⟩
    · rw [List.getElem?_append_right (by omega)] at hy
      have hpl : p = Q.length := by
        have := (List.getElem?_eq_some_iff.1 hy).1
        simp at this; omega
      subst hpl
      simp at hy
      subst hy
      obtain ⟨hxn, i, hi1, hi2, hi3⟩ := he
      have hz := hdeg v h1 h2
      rw [upd_same, h0] at hz
      have hspan := ok.le (x + 1) (G.n - (x + 1)) (by omega)
      rw [show x + 1 + (G.n - (x + 1)) = G.n by omega] at hspan
      have hin : i < ns := by omega
      have hzi := cnt_zero (p := eb G (upd al j false) v) ns (by omega) i hin
      unfold eb at hzi
      rw [decide_eq_true hi3, Bool.and_true] at hzi
      rcases (hdead x i hx hxn hi1 hi2).1 hzi with ⟨p', hp', hx'⟩ | ⟨rfl, _⟩
      · exact ⟨p', by omega, hx'⟩
      · exact ⟨h, hhl, by rw [List.getElem?_append_left hhl]; exact hu⟩
theorem Kh.next {G : Gr} {lo ns h u j : Nat} {Q : List Nat} {D : Nat → Int} {al : Nat → Bool} (hK : Kh G lo ns h u j Q D al) (hu : Q[h]? = some u) (e1 : G.first.getD (u + 1) 0 = (j : Int)) : Kh G lo ns (h + 1) G.n 0 Q D al := by
  refine ⟨hK.nod, hK.rng, (List.getElem?_eq_some_iff.1 hu).1, hK.deg, hK.mem, fun x i h1 h2 h3 h4 => ?_, hK.src, hK.topo⟩
  rw [hK.dead x i h1 h2 h3 h4]
  refine ⟨fun hh => ?_, fun hh => ?_⟩
  · rcases hh with ⟨p, hp, hx⟩ | ⟨rfl, _⟩
    · exact .inl ⟨p, by omega, hx⟩
    · exact .inl ⟨h, by omega, hu⟩
  · rcases hh with ⟨p, hp, hx⟩ | ⟨_, h⟩
    · by_cases hph : p = h
      · subst hph
        rw [hu] at hx
        cases hx
        exact .inr ⟨rfl, by omega⟩
      · exact .inl ⟨p, by omega, hx⟩
    · omega

/-- A rank that grows along every edge among the nodes from lo up. -/
def Gr.Ranked (G : Gr) (lo : Nat) : Prop := ∃ rank : Nat → Nat, ∀ x y, lo ≤ x → lo ≤ y → G.edge x y → rank x < rank y
/-- A set of nodes from lo up, not empty, in which each has a predecessor. -/
def Gr.Stuck (G : Gr) (lo : Nat) : Prop := ∃ R : Nat → Prop, (∃ r, R r) ∧ ∀ r, R r → lo ≤ r ∧ r < G.n ∧ ∃ x, R x ∧ G.edge x r

theorem Kh.rank {G : Gr} (ok : G.OK) {lo ns : Nat} {Q : List Nat} {D : Nat → Int} {al : Nat → Bool} (hK : Kh G lo ns Q.length G.n 0 Q D al) (hl : Q.length = G.n - lo) : G.Ranked lo := by
  have hall : ∀ v, lo ≤ v → v < G.n → v ∈ Q := by
    intro v h1 h2
    by_cases hm : v ∈ Q
    · exact hm
    · exfalso
      have c1 := cnt_list Q G.n hK.nod (fun x hx => (hK.rng x hx).2)
      have c2 := cnt_from lo G.n
      have c3 := cnt_drop (p := fun x => decide (x ∈ Q) || decide (x = v)) (q := fun x => decide (x ∈ Q)) G.n v h2 (by simp) (by simp [hm]) (fun i hi => by simp [hi])
      have c4 := cnt_mono (p := fun x => decide (x ∈ Q) || decide (x = v)) (q := fun x => decide (lo ≤ x)) G.n (fun i _ hi => by
        simp at hi
        rcases hi with hi | rfl
        · simpa using (hK.rng i hi).1
        · simpa using h1)
      omega
  refine ⟨fun v => Q.idxOf v, fun x y hx hy he => ?_⟩
  have hyQ := hall y hy (Gr.edge_lt ok he)
  have hylt : Q.idxOf y < Q.length := List.idxOf_lt_length_iff.2 hyQ
  have hyg : Q[Q.idxOf y]? = some y := by rw [List.getElem?_eq_getElem hylt, List.getElem_idxOf hylt]
  obtain ⟨p', hp', hx'⟩ := hK.topo _ y hyg x hx he
  obtain ⟨hl', hx''⟩ := List.getElem?_eq_some_iff.1 hx'
  have hxlt : Q.idxOf x < Q.length := List.idxOf_lt_length_iff.2 (by rw [← hx'']; exact List.getElem_mem hl')
  have : Q.idxOf x = p' := (List.getElem_inj hK.nod).1 ((List.getElem_idxOf hxlt).trans hx''.symm)
  show Q.idxOf x < Q.idxOf y
  omega
theorem Kh.stuck {G : Gr} (ok : G.OK) {lo ns : Nat} {Q : List Nat} {D : Nat → Int} {al : Nat → Bool} (hK : Kh G lo ns Q.length G.n 0 Q D al) (hl : Q.length ≠ G.n - lo) : G.Stuck lo := by
  refine ⟨fun v => lo ≤ v ∧ v < G.n ∧ v ∉ Q, ?_, ?_⟩
  · by_cases hex : ∃ r, lo ≤ r ∧ r < G.n ∧ r ∉ Q
    · exact hex
    · exfalso
      have c1 := cnt_list Q G.n hK.nod (fun x hx => (hK.rng x hx).2)
      have c2 := cnt_from lo G.n
      have c3 : cnt (fun v => decide (v ∈ Q)) G.n = cnt (fun v => decide (lo ≤ v)) G.n := cnt_congr G.n (fun i hi => by
        by_cases hlo : lo ≤ i
        · rw [decide_eq_true hlo]
          refine decide_eq_true ?_
          by_cases hm : i ∈ Q
          · exact hm
          · exact absurd ⟨i, hlo, hi, hm⟩ hex
        · rw [decide_eq_false hlo]
          exact decide_eq_false (fun hm => hlo (hK.rng i hm).1))
      omega
  · rintro r ⟨h1, h2, h3⟩
    refine ⟨h1, h2, ?_⟩
    have hD : cnt (eb G al r) ns ≠ 0 := fun h0 => h3 ((hK.mem r h1 h2).2 (by rw [hK.deg r h1 h2, h0]; rfl))
    obtain ⟨i, hi, hb⟩ := cnt_pos ns hD
    unfold eb at hb
    rw [Bool.and_eq_true] at hb
    obtain ⟨x, hx1, hx2, hx3, hx4⟩ := hK.src i hb.1
    refine ⟨x, ⟨hx1, hx2, fun hxQ => ?_⟩, hx2, i, hx3, hx4, of_decide_eq_true hb.2⟩
    obtain ⟨p, hp, hpx⟩ := List.getElem_of_mem hxQ
    have := (hK.dead x i hx1 hx2 hx3 hx4).2 (.inl ⟨p, hp, by rw [List.getElem?_eq_getElem hp, hpx]⟩)
    rw [this] at hb
    exact absurd hb.1 (by simp)
end Go.Proofs.Qxb6604255a

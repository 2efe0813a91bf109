import Derived.Test.Qxb6604255aPlain
namespace Go.Proofs.Qxb6604255a
set_option linter.unusedVariables false

/-! ### a function turned at one place; counting -/
def upd {α : Type} (f : Nat → α) (i : Nat) (x : α) : Nat → α := fun j => if j = i then x else f j
theorem upd_same {α : Type} (f : Nat → α) (i : Nat) (x : α) : upd f i x i = x := by simp [upd]
theorem upd_other {α : Type} (f : Nat → α) {i j : Nat} (x : α) (h : j ≠ i) : upd f i x j = f j := by simp [upd, h]

def cnt (p : Nat → Bool) : Nat → Nat
  | 0 => 0
  | k + 1 => cnt p k + (if p k = true then 1 else 0)
theorem cnt_le (p : Nat → Bool) (k : Nat) : cnt p k ≤ k := by
  induction k with
  | zero => exact Nat.le_refl _
  | succ k ih => unfold cnt; split <;> omega
theorem cnt_congr {p q : Nat → Bool} (k : Nat) (h : ∀ i, i < k → p i = q i) : cnt p k = cnt q k := by
  induction k with
  | zero => rfl
  | succ k ih => unfold cnt; rw [ih (fun i hi => h i (by omega)), h k (by omega)]
theorem cnt_drop {p q : Nat → Bool} (k v : Nat) (hv : v < k) (hp : p v = true) (hq : q v = false) (h : ∀ i, i ≠ v → q i = p i) : cnt q k + 1 = cnt p k := by
  induction k with
  | zero => omega
  | succ k ih =>
    unfold cnt
    by_cases hk : v = k
    · subst hk
      rw [hp, hq, cnt_congr (p := q) (q := p) v (fun i hi => h i (by omega))]
      simp
    · rw [h k (fun e => hk e.symm), ← ih (by omega)]
      omega
theorem cnt_zero {p : Nat → Bool} (k : Nat) (h : cnt p k = 0) : ∀ i, i < k → p i = false := by
  induction k with
  | zero => intro i hi; omega
  | succ k ih =>
    intro i hi
    unfold cnt at h
    by_cases hk : i = k
    · subst hk
      cases hp : p i with
      | false => rfl
      | true => rw [hp] at h; simp at h
    · exact ih (by omega) i (by omega)
theorem cnt_all {p : Nat → Bool} (k : Nat) (h : ∀ i, i < k → p i = true) : cnt p k = k := by
  induction k with
  | zero => rfl
  | succ k ih => unfold cnt; rw [ih (fun i hi => h i (by omega)), h k (by omega)]; simp

/-! ### walks -/
/-- s lies on a closed walk of cost c. -/
def Gr.closed (G : Gr) (s c : Nat) : Prop := ∃ k, G.walk s (k + 1) c s
/-- m is the least cost of a closed walk through s. -/
def Gr.least (G : Gr) (s m : Nat) : Prop := G.closed s m ∧ ∀ c, G.closed s c → m ≤ c
theorem Gr.wt_real {G : Gr} {v : Nat} (h : v < G.nreal) : G.wt v = 1 := by simp [Gr.wt, h]
theorem Gr.wt_other {G : Gr} {v : Nat} (h : ¬ v < G.nreal) : G.wt v = 0 := by simp [Gr.wt, h]
theorem Gr.wt_le (G : Gr) (v : Nat) : G.wt v ≤ 1 := by unfold Gr.wt; split <;> omega
theorem Gr.walk_step {G : Gr} {s k c u v : Nat} (h : G.walk s k c u) (e : G.edge u v) : G.walk s (k + 1) (c + G.wt v) v := ⟨u, c, h, e, rfl⟩

/-- A path from a whose nodes behind a are all at or above nreal. -/
def Gr.thru (G : Gr) (a : Nat) : Nat → Nat → Prop
  | 0, m => m = a
  | k + 1, m => ∃ p, Gr.thru G a k p ∧ G.edge p m ∧ ¬ m < G.nreal
/-- Such a path and an edge to b. -/
def Gr.link (G : Gr) (a b : Nat) : Prop := ∃ k m, G.thru a k m ∧ G.edge m b

theorem Gr.walk_thru {G : Gr} {s k c a : Nat} (h : G.walk s k c a) : ∀ (j m : Nat), G.thru a j m → G.walk s (k + j) c m
  | 0, m, hm => by rw [show m = a from hm]; exact h
  | j + 1, m, ⟨p, hp, he, hn⟩ => by
    have := G.walk_step (Gr.walk_thru h j p hp) he
    rw [Gr.wt_other hn] at this
    exact this
theorem Gr.walk_link {G : Gr} {s k c a b : Nat} (h : G.walk s k c a) (hl : G.link a b) (hb : b < G.nreal) : ∃ k', G.walk s (k' + 1) (c + 1) b := by
  obtain ⟨j, m, hm, he⟩ := hl
  have := G.walk_step (Gr.walk_thru h j m hm) he
  rw [Gr.wt_real hb] at this
  exact ⟨k + j, this⟩

/-! ### what validCycle asks -/
structure Gr.Valid (G : Gr) (C : List Nat) : Prop where
  pos : 0 < C.length
  real : ∀ x, x ∈ C → x < G.nreal
  nodup : C.Nodup
  small : ∀ x, x ∈ C → C.getD 0 0 ≤ x
  link : ∀ i, i < C.length → G.link (C.getD i 0) (C.getD ((i + 1) % C.length) 0)

theorem getD_mem {C : List Nat} {i : Nat} (h : i < C.length) : C.getD i 0 ∈ C := by
  rw [List.getD_eq_getElem?_getD, List.getElem?_eq_getElem h]
  exact List.getElem_mem h

/-- A closed walk through each of its nodes. -/
theorem Gr.Valid.closed {G : Gr} {C : List Nat} (h : G.Valid C) (x : Nat) (hx : x ∈ C) : G.closed x C.length := by
  obtain ⟨t, ht, hxt⟩ := List.getElem_of_mem hx
  have hx0 : x = C.getD (t % C.length) 0 := by
    rw [Nat.mod_eq_of_lt ht, List.getD_eq_getElem?_getD, List.getElem?_eq_getElem ht]; exact hxt.symm
  have hw : ∀ i, ∃ k, G.walk x (k + i) i (C.getD ((t + i) % C.length) 0) := by
    intro i
    induction i with
    | zero => exact ⟨0, by rw [Nat.add_zero]; exact ⟨hx0.symm, rfl⟩⟩
    | succ i ih =>
      obtain ⟨k, hk⟩ := ih
      have hlt : (t + i) % C.length < C.length := Nat.mod_lt _ h.pos
      have hl := h.link _ hlt
      have hm : ((t + i) % C.length + 1) % C.length = (t + (i + 1)) % C.length := by
        rw [Nat.mod_add_mod, Nat.add_assoc]
      rw [hm] at hl
      obtain ⟨j, m, hm2, he⟩ := hl
      have := G.walk_step (Gr.walk_thru hk j m hm2) he
      rw [Gr.wt_real (h.real _ (getD_mem (Nat.mod_lt _ h.pos)))] at this
      exact ⟨k + j, by rw [show k + j + (i + 1) = k + i + j + 1 by omega]; exact this⟩
  obtain ⟨k, hk⟩ := hw C.length
  rw [Nat.add_mod_right, ← hx0] at hk
  have hp := h.pos
  exact ⟨k + (C.length - 1), by rw [show k + (C.length - 1) + 1 = k + C.length by omega]; exact hk⟩

/-! ### the breadth-first search -/
def Gr.proc (G : Gr) (s : Nat) (cost : Nat → Int) (v : Nat) : Prop := ∀ x, G.edge v x → x ≠ s ∧ 0 ≤ cost x ∧ cost x ≤ cost v + G.wt x
def unseen (cost : Nat → Int) : Nat → Bool := fun v => decide (cost v = -1)
/-- 'from' is a tree with root s. -/
def Gr.tree (G : Gr) (s : Nat) (cost frm : Nat → Int) (d : Nat → Nat) : Prop :=
  d s = 0 ∧ ∀ v, v < G.n → v ≠ s → 0 ≤ cost v → ∃ p, p < G.n ∧ frm v = (p : Int) ∧ G.edge p v ∧ 0 ≤ cost p ∧ cost v = cost p + G.wt v ∧ d v = d p + 1

structure Bfs (G : Gr) (s c : Nat) (L : List Nat) (i : Nat) (N : List Nat) (cost frm : Nat → Int) (d : Nat → Nat) : Prop where
  bound : ∀ v, v < G.n → cost v = -1 ∨ (0 ≤ cost v ∧ cost v ≤ c + G.wt v)
  start : cost s = 0
  lev : ∀ x, x ∈ L → x < G.n ∧ cost x = c
  nxt : ∀ x, x ∈ N → x < G.n ∧ cost x = c + 1
  clo : ∀ v, v < G.n → 0 ≤ cost v → (∃ t, i ≤ t ∧ L[t]? = some v) ∨ v ∈ N ∨ G.proc s cost v
  tree : G.tree s cost frm d
  size : cnt (unseen cost) G.n + L.length + N.length + c ≤ G.n
  ile : i ≤ L.length

theorem Bfs.init {G : Gr} {s : Nat} (hs : s < G.n) (hr : G.nreal ≤ G.n) (frm : Nat → Int) : Bfs G s 0 [s] 0 [] (upd (fun _ => -1) s 0) frm (fun _ => 0) := by
  have hc : ∀ v, 0 ≤ upd (fun _ => (-1 : Int)) s 0 v → v = s := by
    intro v h
    by_cases hv : v = s
    · exact hv
    · rw [upd_other _ _ hv] at h; omega
  refine ⟨fun v _ => ?_, upd_same _ _ _, fun x hx => ?_, (fun x hx => by cases hx), fun v _ h => .inl ⟨0, Nat.le_refl _, ?_⟩, ⟨rfl, fun v _ hne h => absurd (hc v h) hne⟩, ?_, Nat.zero_le _⟩
  · by_cases hv : v = s
    · subst hv; rw [upd_same]; exact .inr ⟨Int.le_refl _, by omega⟩
    · rw [upd_other _ _ hv]; exact .inl rfl
  · obtain rfl : x = s := by simpa using hx
    exact ⟨hs, upd_same _ _ _⟩
  · rw [hc v h]; rfl
  · have := cnt_drop (p := unseen (fun _ => -1)) (q := unseen (upd (fun _ => -1) s 0)) G.n s hs (by simp [unseen]) (by simp [unseen, upd_same]) (fun j hj => by simp [unseen, upd_other _ _ hj])
    have h2 := cnt_le (unseen (fun _ => -1)) G.n
    simp
    omega

theorem Gr.proc_congr {G : Gr} {s : Nat} {cost cost' : Nat → Int} {v : Nat} (h : G.proc s cost v) (hv : cost' v = cost v) (hx : ∀ x, 0 ≤ cost x → cost' x = cost x) : G.proc s cost' v := by
  intro x hx'
  obtain ⟨h1, h2, h3⟩ := h x hx'
  rw [hx x h2, hv]
  exact ⟨h1, h2, h3⟩

/-- A node is found. -/
theorem Bfs.add {G : Gr} {s c i : Nat} {L N : List Nat} {cost frm : Nat → Int} {d : Nat → Nat} (h : Bfs G s c L i N cost frm d) (u v : Nat) (hu : u < G.n) (hcu : cost u = c) (hv : v < G.n) (he : G.edge u v) (hcv : cost v = -1) (L' N' : List Nat)
    (hLN : (L' = L ++ [v] ∧ N' = N ∧ ¬ v < G.nreal) ∨ (L' = L ∧ N' = N ++ [v] ∧ v < G.nreal)) :
    Bfs G s c L' i N' (upd cost v (c + G.wt v)) (upd frm v u) (upd d v (d u + 1)) := by
  have hne : ∀ x, 0 ≤ cost x → x ≠ v := fun x hx e => by subst e; omega
  have hold : ∀ x, 0 ≤ cost x → upd cost v (c + G.wt v) x = cost x := fun x hx => upd_other _ _ (hne x hx)
  have hsv : s ≠ v := hne s (by rw [h.start]; exact Int.le_refl _)
  have hx : ∀ x, x < G.n → cost x = c → upd cost v (↑c + ↑(G.wt v)) x = c := fun x _ hc => by rw [hold x (by omega), hc]
  refine ⟨fun x hxn => ?_, ?_, fun x hxL => ?_, fun x hxN => ?_, fun x hxn h0 => ?_, ⟨?_, fun x hxn hxs h0 => ?_⟩, ?_, ?_⟩
  · by_cases hxv : x = v
    · subst hxv; rw [upd_same]; exact .inr ⟨by omega, Int.le_refl _⟩
    · rw [upd_other _ _ hxv]; exact h.bound x hxn
  · rw [hold s (by rw [h.start]; exact Int.le_refl _)]; exact h.start
  · rcases hLN with ⟨rfl, rfl, hr⟩ | ⟨rfl, rfl, hr⟩
    · rcases List.mem_append.1 hxL with hxL | hxL
      · exact ⟨(h.lev x hxL).1, hx x (h.lev x hxL).1 (h.lev x hxL).2⟩
      · obtain rfl : x = v := by simpa using hxL
        exact ⟨hv, by rw [upd_same, Gr.wt_other hr]; simp⟩
    · exact ⟨(h.lev x hxL).1, hx x (h.lev x hxL).1 (h.lev x hxL).2⟩
  · have hx1 : x ∈ N → x < G.n ∧ upd cost v (↑c + ↑(G.wt v)) x = c + 1 := fun hN => by
      have := h.nxt x hN
      exact ⟨this.1, by rw [hold x (by omega)]; exact this.2⟩
    rcases hLN with ⟨rfl, rfl, hr⟩ | ⟨rfl, rfl, hr⟩
    · exact hx1 hxN
    · rcases List.mem_append.1 hxN with hxN | hxN
      · exact hx1 hxN
      · obtain rfl : x = v := by simpa using hxN
        exact ⟨hv, by rw [upd_same, Gr.wt_real hr]; simp⟩
  · by_cases hxv : x = v
    · subst hxv
      rcases hLN with ⟨rfl, rfl, hr⟩ | ⟨rfl, rfl, hr⟩
      · exact .inl ⟨L.length, h.ile, by simp⟩
      · exact .inr (.inl (by simp))
    · rw [upd_other _ _ hxv] at h0
      rcases h.clo x hxn h0 with ⟨t, ht, hL⟩ | hN | hp
      · refine .inl ⟨t, ht, ?_⟩
        rcases hLN with ⟨rfl, rfl, hr⟩ | ⟨rfl, rfl, hr⟩
        · rw [List.getElem?_append_left (List.getElem?_eq_some_iff.1 hL).1]; exact hL
        · exact hL
      · refine .inr (.inl ?_)
        rcases hLN with ⟨rfl, rfl, hr⟩ | ⟨rfl, rfl, hr⟩
        · exact hN
        · simp [hN]
      · exact .inr (.inr (Gr.proc_congr hp (hold x h0) hold))
  · rw [upd_other _ _ hsv]; exact h.tree.1
  · by_cases hxv : x = v
    · subst hxv
      refine ⟨u, hu, upd_same _ _ _, he, ?_, ?_, ?_⟩
      · rw [hold u (by omega)]; omega
      · rw [upd_same, hold u (by omega), hcu]
      · rw [upd_same, upd_other _ _ (hne u (by omega))]
    · rw [upd_other _ _ hxv] at h0
      obtain ⟨p, hp, h1, h2, h3, h4, h5⟩ := h.tree.2 x hxn hxs h0
      refine ⟨p, hp, ?_, h2, ?_, ?_, ?_⟩
      · rw [upd_other _ _ hxv]; exact h1
      · rw [hold p h3]; exact h3
      · rw [hold x h0, hold p h3]; exact h4
      · rw [upd_other _ _ hxv, upd_other _ _ (hne p h3)]; exact h5
  · have := cnt_drop (p := unseen cost) (q := unseen (upd cost v (c + G.wt v))) G.n v hv (by simp [unseen, hcv]) (by simp [unseen, upd_same]; omega) (fun j hj => by simp [unseen, upd_other _ _ hj])
    have hs := h.size
    rcases hLN with ⟨rfl, rfl, hr⟩ | ⟨rfl, rfl, hr⟩ <;> simp <;> omega
  · have hi := h.ile
    rcases hLN with ⟨rfl, rfl, hr⟩ | ⟨rfl, rfl, hr⟩
    · simp; omega
    · exact hi

/-- u's edges are read: on to the next node of the level. -/
theorem Bfs.next {G : Gr} {s c i : Nat} {L N : List Nat} {cost frm : Nat → Int} {d : Nat → Nat} (h : Bfs G s c L i N cost frm d) (u : Nat) (hu : L[i]? = some u) (hp : G.proc s cost u) : Bfs G s c L (i + 1) N cost frm d := by
  refine ⟨h.bound, h.start, h.lev, h.nxt, fun v hv h0 => ?_, h.tree, h.size, (List.getElem?_eq_some_iff.1 hu).1⟩
  rcases h.clo v hv h0 with ⟨t, ht, hL⟩ | hN | hpv
  · by_cases hti : t = i
    · subst hti
      rw [hu] at hL
      obtain rfl := Option.some.inj hL
      exact .inr (.inr hp)
    · exact .inl ⟨t, by omega, hL⟩
  · exact .inr (.inl hN)
  · exact .inr (.inr hpv)

/-- The level is read: on to the next. -/
theorem Bfs.level {G : Gr} {s c i : Nat} {L N : List Nat} {cost frm : Nat → Int} {d : Nat → Nat} (h : Bfs G s c L i N cost frm d) (hi : L.length ≤ i) (hL : 0 < L.length) : Bfs G s (c + 1) N 0 [] cost frm d := by
  refine ⟨fun v hv => ?_, h.start, fun x hx => ⟨(h.nxt x hx).1, by rw [(h.nxt x hx).2]; simp⟩, (fun x hx => by cases hx), fun v hv h0 => ?_, h.tree, ?_, Nat.zero_le _⟩
  · rcases h.bound v hv with h1 | ⟨h1, h2⟩
    · exact .inl h1
    · exact .inr ⟨h1, by omega⟩
  · rcases h.clo v hv h0 with ⟨t, ht, hLt⟩ | hN | hp
    · have := (List.getElem?_eq_some_iff.1 hLt).1
      omega
    · obtain ⟨t, ht, hx⟩ := List.getElem_of_mem hN
      exact .inl ⟨t, Nat.zero_le _, by rw [List.getElem?_eq_getElem ht, hx]⟩
    · exact .inr (.inr hp)
  · have := h.size
    simp
    omega

theorem Gr.edge_src {G : Gr} {u v : Nat} (h : G.edge u v) : u < G.n := h.1

/-- Every node that a walk of cost c' reaches is seen at no more, or c ≤ c'. -/
theorem Bfs.reach {G : Gr} {s c i : Nat} {L N : List Nat} {cost frm : Nat → Int} {d : Nat → Nat} (h : Bfs G s c L i N cost frm d) : ∀ (k c' x : Nat), G.walk s k c' x → (0 ≤ cost x ∧ cost x ≤ c') ∨ c ≤ c'
  | 0, c', x, ⟨hx, hc⟩ => by subst hx; exact .inl (by rw [h.start]; exact ⟨Int.le_refl _, by omega⟩)
  | k + 1, c', x, ⟨v, c'', hw, he, hc⟩ => by
    rcases h.reach k c'' v hw with ⟨h1, h2⟩ | hle
    · by_cases hlt : c ≤ c''
      · exact .inr (by omega)
      · rcases h.clo v he.1 h1 with ⟨t, _, hL⟩ | hN | hp
        · have := h.lev v (List.mem_of_getElem? hL)
          omega
        · have := h.nxt v hN
          omega
        · obtain ⟨_, h4, h5⟩ := hp x he
          exact .inl ⟨h4, by omega⟩
    · exact .inr (by omega)

theorem Bfs.min {G : Gr} {s c i : Nat} {L N : List Nat} {cost frm : Nat → Int} {d : Nat → Nat} (h : Bfs G s c L i N cost frm d) (hs : s < G.nreal) (C : Nat) (hC : G.closed s C) : c + 1 ≤ C := by
  obtain ⟨k, v, c'', hw, he, hc⟩ := hC
  rw [Gr.wt_real hs] at hc
  rcases h.reach k c'' v hw with ⟨h1, h2⟩ | hle
  · by_cases hlt : c ≤ c''
    · omega
    · rcases h.clo v he.1 h1 with ⟨t, _, hL⟩ | hN | hp
      · have := h.lev v (List.mem_of_getElem? hL)
        omega
      · have := h.nxt v hN
        omega
      · exact absurd rfl (hp s he).1
  · omega

theorem Bfs.none {G : Gr} {s c : Nat} {cost frm : Nat → Int} {d : Nat → Nat} (h : Bfs G s c [] 0 [] cost frm d) (C : Nat) (hC : G.closed s C) : False := by
  have hall : ∀ v, v < G.n → 0 ≤ cost v → G.proc s cost v := by
    intro v hv h0
    rcases h.clo v hv h0 with ⟨t, _, hL⟩ | hN | hp
    · simp at hL
    · cases hN
    · exact hp
  have hseen : ∀ k c' x, G.walk s k c' x → 0 ≤ cost x := by
    intro k
    induction k with
    | zero => rintro c' x ⟨rfl, _⟩; rw [h.start]; exact Int.le_refl _
    | succ k ih =>
      rintro c' x ⟨v, c'', hw, he, _⟩
      exact (hall v he.1 (ih c'' v hw) x he).2.1
  obtain ⟨k, v, c'', hw, he, _⟩ := hC
  exact (hall v he.1 (hseen k c'' v hw) s he).1 rfl
end Go.Proofs.Qxb6604255a

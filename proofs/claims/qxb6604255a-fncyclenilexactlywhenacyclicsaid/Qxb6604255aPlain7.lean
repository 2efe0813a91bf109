import Derived.Test.Qxb6604255aPlain6
namespace Go.Proofs.Qxb6604255a
set_option linter.unusedVariables false

/-! ### sums -/
def sumf (w : Nat → Nat) : Nat → Nat
  | 0 => 0
  | k + 1 => sumf w k + w k
theorem sumf_congr {w w' : Nat → Nat} (k : Nat) (h : ∀ i, i < k → w i = w' i) : sumf w k = sumf w' k := by
  induction k with
  | zero => rfl
  | succ k ih => unfold sumf; rw [ih (fun i hi => h i (by omega)), h k (by omega)]
theorem sumf_upd (w : Nat → Nat) (k v x : Nat) (hv : v < k) : sumf (upd w v x) k + w v = sumf w k + x := by
  induction k with
  | zero => omega
  | succ k ih =>
    unfold sumf
    by_cases hk : v = k
    · subst hk
      rw [upd_same, sumf_congr (w := upd w v x) (w' := w) v (fun i hi => upd_other _ _ (by omega))]
      omega
    · rw [upd_other _ _ (fun e => hk e.symm)]
      have := ih (by omega)
      omega

/-! ### the depth-first search -/
def Gr.deg (G : Gr) (u : Nat) : Nat := (G.first.getD (u + 1) 0 - G.first.getD u 0).toNat
structure Dfs (G : Gr) (st : Nat → Int) (K : List (Nat × Nat)) (fin : Nat → Nat) (T : Nat) (wt : Nat → Nat) : Prop where
  val : ∀ v, v < G.n → st v = 0 ∨ st v = 1 ∨ st v = 2
  nod : (K.map (·.1)).Nodup
  on : ∀ v, v < G.n → (st v = 1 ↔ v ∈ K.map (·.1))
  rng : ∀ f, f ∈ K → f.1 < G.n ∧ G.first.getD f.1 0 ≤ (f.2 : Int) ∧ (f.2 : Int) ≤ G.first.getD (f.1 + 1) 0
  dn : ∀ v, v < G.n → st v = 2 → fin v < T ∧ ∀ x, G.edge v x → st x = 2 ∧ fin x < fin v
  part : ∀ (i : Nat) (f : Nat × Nat), K[i]? = some f → ∀ j x : Nat, G.first.getD f.1 0 ≤ (j : Int) → j < f.2 → G.succ.getD j 0 = (x : Int) → st x = 2 ∨ ∃ g, K[i + 1]? = some g ∧ g.1 = x
  chain : ∀ (i : Nat) (f g : Nat × Nat), K[i]? = some f → K[i + 1]? = some g → G.edge f.1 g.1
  wU : ∀ u, u < G.n → st u = 0 → wt u = G.deg u + 2
  wK : ∀ f, f ∈ K → wt f.1 = (G.first.getD (f.1 + 1) 0 - f.2).toNat + 1

theorem Dfs.init (G : Gr) : Dfs G (fun _ => 0) [] (fun _ => 0) 0 (fun u => G.deg u + 2) :=
  ⟨fun _ _ => .inl rfl, by simp, fun v _ => by simp, (fun f hf => by cases hf), (fun v _ h => by simp at h), (fun i f h => by simp at h), (fun i f g h => by simp at h), fun _ _ _ => rfl, (fun f hf => by cases hf)⟩

theorem Dfs.start {G : Gr} (ok : G.OK) {st : Nat → Int} {fin : Nat → Nat} {T : Nat} {wt : Nat → Nat} (h : Dfs G st [] fin T wt) (s j : Nat) (hs : s < G.n) (h0 : st s = 0) (e0 : G.first.getD s 0 = (j : Int)) : Dfs G (upd st s 1) [(s, j)] fin T (upd wt s (G.deg s + 1)) := by
  have hsp := ok.span s hs
  have hd2 : ∀ x, st x = 2 → x ≠ s := fun x hx e => by subst e; omega
  refine ⟨fun v hv => ?_, by simp, fun v hv => ?_, fun f hf => ?_, fun v hv h2 => ?_, fun i f hf j' x h1 h2 h3 => ?_, fun i f g hf hg => ?_, fun u hu h2 => ?_, fun f hf => ?_⟩
  · by_cases hvs : v = s
    · subst hvs; rw [upd_same]; exact .inr (.inl rfl)
    · rw [upd_other _ _ hvs]; exact h.val v hv
  · by_cases hvs : v = s
    · subst hvs; rw [upd_same]; simp
    · rw [upd_other _ _ hvs, h.on v hv]
      simp [hvs]
  · obtain rfl : f = (s, j) := by simpa using hf
    exact ⟨hs, by show G.first.getD s 0 ≤ (j : Int); omega, by show (j : Int) ≤ G.first.getD (s + 1) 0; omega⟩
  · have hvs : v ≠ s := fun e => by subst e; rw [upd_same] at h2; omega
    rw [upd_other _ _ hvs] at h2
    refine ⟨(h.dn v hv h2).1, fun x hx => ?_⟩
    have h3 := (h.dn v hv h2).2 x hx
    exact ⟨by rw [upd_other _ _ (hd2 x h3.1)]; exact h3.1, h3.2⟩
  · cases i with
    | zero =>
      simp at hf
      subst hf
      have h1' : G.first.getD s 0 ≤ (j' : Int) := h1
      have h2' : j' < j := h2
      omega
    | succ i => simp at hf
  · cases i with
    | zero => simp at hg
    | succ i => simp at hf
  · have hus : u ≠ s := fun e => by subst e; rw [upd_same] at h2; omega
    rw [upd_other _ _ hus] at h2 ⊢
    exact h.wU u hu h2
  · obtain rfl : f = (s, j) := by simpa using hf
    show upd wt s (G.deg s + 1) s = (G.first.getD (s + 1) 0 - (j : Int)).toNat + 1
    rw [upd_same, Gr.deg, e0]

theorem snoc_get {α : Type} (K : List α) (a : α) : (K ++ [a])[K.length]? = some a := by simp
theorem snoc_old {α : Type} {K : List α} {a b : α} {i : Nat} (h : (K ++ [a])[i]? = some b) : (i < K.length ∧ K[i]? = some b) ∨ (i = K.length ∧ b = a) := by
  by_cases hi : i < K.length
  · rw [List.getElem?_append_left hi] at h; exact .inl ⟨hi, h⟩
  · have hl := (List.getElem?_eq_some_iff.1 h).1
    simp at hl
    have hil : i = K.length := by omega
    subst hil
    rw [snoc_get] at h
    exact .inr ⟨rfl, (Option.some.inj h).symm⟩
theorem snoc_lt {α : Type} {K : List α} {a b : α} {i : Nat} (h : K[i]? = some b) : (K ++ [a])[i]? = some b := by
  rw [List.getElem?_append_left (List.getElem?_eq_some_iff.1 h).1]; exact h

/-- The top's edges are all read: it is done. -/
theorem Dfs.pop {G : Gr} (ok : G.OK) {st : Nat → Int} {K : List (Nat × Nat)} {u j : Nat} {fin : Nat → Nat} {T : Nat} {wt : Nat → Nat} (h : Dfs G st (K ++ [(u, j)]) fin T wt) (e1 : G.first.getD (u + 1) 0 = (j : Int)) : Dfs G (upd st u 2) K (upd fin u T) (T + 1) (upd wt u 0) ∧ wt u = 1 := by
  have hu := (h.rng (u, j) (by simp)).1
  have hu : u < G.n := hu
  have hnd := h.nod
  rw [List.map_append, List.nodup_append] at hnd
  have huK : u ∉ K.map (·.1) := fun hm => hnd.2.2 u hm u (by simp) rfl
  have hu1 : st u = 1 := (h.on u hu).2 (by simp)
  have hne : ∀ f, f ∈ K → f.1 ≠ u := fun f hf e => huK (by rw [← e]; exact List.mem_map.2 ⟨f, hf, rfl⟩)
  have hlt : ∀ x, st x = 2 → x ≠ u := fun x hx e => by subst e; omega
  refine ⟨⟨fun v hv => ?_, hnd.1, fun v hv => ?_, fun f hf => h.rng f (by simp [hf]), fun v hv h2 => ?_, fun i f hf j' x h1 h2 h3 => ?_, fun i f g hf hg => h.chain i f g (snoc_lt hf) (snoc_lt hg), fun x hx h2 => ?_, fun f hf => ?_⟩, ?_⟩
  · by_cases hvu : v = u
    · subst hvu; rw [upd_same]; exact .inr (.inr rfl)
    · rw [upd_other _ _ hvu]; exact h.val v hv
  · by_cases hvu : v = u
    · subst hvu
      rw [upd_same]
      exact ⟨fun e => by omega, fun hm => absurd hm huK⟩
    · rw [upd_other _ _ hvu, h.on v hv, List.map_append, List.mem_append]
      exact ⟨fun hh => hh.elim id (fun h4 => absurd (by simpa using h4) hvu), .inl⟩
  · by_cases hvu : v = u
    · subst hvu
      rw [upd_same]
      refine ⟨by omega, ?_⟩
      rintro x ⟨_, j', hj1, hj2, hj3⟩
      have hx : st x = 2 := by
        rcases h.part K.length (v, j) (snoc_get _ _) j' x hj1 (by show j' < j; omega) hj3 with hx | ⟨g, hg, _⟩
        · exact hx
        · simp at hg
      have hxn : x < G.n := Gr.edge_lt ok ⟨hv, j', hj1, hj2, hj3⟩
      have hxu := hlt x hx
      rw [upd_other _ _ hxu, upd_other _ _ hxu]
      exact ⟨hx, (h.dn x hxn hx).1⟩
    · rw [upd_other _ _ hvu] at h2
      have h3 := h.dn v hv h2
      rw [upd_other _ _ hvu]
      refine ⟨by omega, fun x hx => ?_⟩
      have h4 := h3.2 x hx
      have hxu := hlt x h4.1
      rw [upd_other _ _ hxu, upd_other _ _ hxu]
      exact h4
  · rcases h.part i f (snoc_lt hf) j' x h1 h2 h3 with hx | ⟨g, hg, hgx⟩
    · exact .inl (by rw [upd_other _ _ (hlt x hx)]; exact hx)
    · rcases snoc_old hg with ⟨_, hg⟩ | ⟨_, rfl⟩
      · exact .inr ⟨g, hg, hgx⟩
      · left
        obtain rfl : u = x := hgx
        exact upd_same _ _ _
  · have hxu : x ≠ u := fun e => by subst e; rw [upd_same] at h2; omega
    rw [upd_other _ _ hxu] at h2 ⊢
    exact h.wU x hx h2
  · rw [upd_other _ _ (hne f hf)]
    exact h.wK f (by simp [hf])
  · have := h.wK (u, j) (by simp)
    have h5 : wt u = (G.first.getD (u + 1) 0 - (j : Int)).toNat + 1 := this
    rw [e1] at h5
    omega

/-- An edge to a node that is done. -/
theorem Dfs.adv {G : Gr} {st : Nat → Int} {K : List (Nat × Nat)} {u j v : Nat} {fin : Nat → Nat} {T : Nat} {wt : Nat → Nat} (h : Dfs G st (K ++ [(u, j)]) fin T wt) (hj1 : (j : Int) < G.first.getD (u + 1) 0) (hv : G.succ.getD j 0 = (v : Int)) (h2 : st v = 2) : Dfs G st (K ++ [(u, j + 1)]) fin T (upd wt u (wt u - 1)) ∧ 1 ≤ wt u := by
  have hu := (h.rng (u, j) (by simp))
  have hnd := h.nod
  rw [List.map_append, List.nodup_append] at hnd
  have huK : u ∉ K.map (·.1) := fun hm => hnd.2.2 u hm u (by simp) rfl
  have hu1 : st u = 1 := (h.on u hu.1).2 (by simp)
  have hne : ∀ f, f ∈ K → f.1 ≠ u := fun f hf e => huK (by rw [← e]; exact List.mem_map.2 ⟨f, hf, rfl⟩)
  have hwu : wt u = (G.first.getD (u + 1) 0 - (j : Int)).toNat + 1 := h.wK (u, j) (by simp)
  have hmap : (K ++ [(u, j + 1)]).map (·.1) = (K ++ [(u, j)]).map (·.1) := by simp
  refine ⟨⟨h.val, by rw [hmap]; exact h.nod, fun x hx => by rw [hmap]; exact h.on x hx, fun f hf => ?_, h.dn, fun i f hf j' x h1 h3 h4 => ?_, fun i f g hf hg => ?_, fun x hx h3 => ?_, fun f hf => ?_⟩, by omega⟩
  · rcases List.mem_append.1 hf with hf | hf
    · exact h.rng f (by simp [hf])
    · obtain rfl : f = (u, j + 1) := by simpa using hf
      refine ⟨hu.1, ?_, ?_⟩
      · show G.first.getD u 0 ≤ ((j + 1 : Nat) : Int)
        have : G.first.getD u 0 ≤ (j : Int) := hu.2.1
        omega
      · show ((j + 1 : Nat) : Int) ≤ G.first.getD (u + 1) 0
        omega
  · rcases snoc_old hf with ⟨hi, hf⟩ | ⟨rfl, rfl⟩
    · rcases h.part i f (snoc_lt hf) j' x h1 h3 h4 with hx | ⟨g, hg, hgx⟩
      · exact .inl hx
      · rcases snoc_old hg with ⟨_, hg⟩ | ⟨hil, rfl⟩
        · exact .inr ⟨g, snoc_lt hg, hgx⟩
        · exact .inr ⟨(u, j + 1), by rw [hil]; exact snoc_get _ _, hgx⟩
    · have h1' : G.first.getD u 0 ≤ (j' : Int) := h1
      have h3' : j' < j + 1 := h3
      by_cases hjj : j' = j
      · subst hjj
        obtain rfl : x = v := by omega
        exact .inl h2
      · rcases h.part K.length (u, j) (snoc_get _ _) j' x h1' (by show j' < j; omega) h4 with hx | ⟨g, hg, _⟩
        · exact .inl hx
        · simp at hg
  · rcases snoc_old hf with ⟨hi, hf⟩ | ⟨rfl, rfl⟩
    · rcases snoc_old hg with ⟨_, hg⟩ | ⟨hil, rfl⟩
      · exact h.chain i f g (snoc_lt hf) (snoc_lt hg)
      · exact h.chain i f (u, j) (snoc_lt hf) (by rw [hil]; exact snoc_get _ _)
    · simp at hg
  · have hxu : x ≠ u := fun e => by subst e; omega
    rw [upd_other _ _ hxu]; exact h.wU x hx h3
  · rcases List.mem_append.1 hf with hf | hf
    · rw [upd_other _ _ (hne f hf)]; exact h.wK f (by simp [hf])
    · obtain rfl : f = (u, j + 1) := by simpa using hf
      show upd wt u (wt u - 1) u = (G.first.getD (u + 1) 0 - ((j + 1 : Nat) : Int)).toNat + 1
      rw [upd_same]
      omega

/-- An edge to a new node. -/
theorem Dfs.push {G : Gr} (ok : G.OK) {st : Nat → Int} {K : List (Nat × Nat)} {u j v j0 : Nat} {fin : Nat → Nat} {T : Nat} {wt : Nat → Nat} (h : Dfs G st (K ++ [(u, j)]) fin T wt) (hj1 : (j : Int) < G.first.getD (u + 1) 0) (hv : G.succ.getD j 0 = (v : Int)) (hvn : v < G.n) (he : G.edge u v) (h0 : st v = 0) (e0 : G.first.getD v 0 = (j0 : Int)) :
    Dfs G (upd st v 1) (K ++ [(u, j + 1)] ++ [(v, j0)]) fin T (upd (upd wt u (wt u - 1)) v (G.deg v + 1)) ∧ 1 ≤ wt u ∧ wt v = G.deg v + 2 ∧ u ≠ v := by
  have hu := (h.rng (u, j) (by simp))
  have hun : u < G.n := hu.1
  have hnd := h.nod
  have hnd' := hnd
  rw [List.map_append, List.nodup_append] at hnd
  have huK : u ∉ K.map (·.1) := fun hm => hnd.2.2 u hm u (by simp) rfl
  have hu1 : st u = 1 := (h.on u hun).2 (by simp)
  have huv : u ≠ v := fun e => by subst e; omega
  have hne : ∀ f, f ∈ K → f.1 ≠ u := fun f hf e => huK (by rw [← e]; exact List.mem_map.2 ⟨f, hf, rfl⟩)
  have hvK : v ∉ (K ++ [(u, j)]).map (·.1) := fun hm => by have := (h.on v hvn).2 hm; omega
  have hnv : ∀ f, f ∈ K → f.1 ≠ v := fun f hf e => hvK (by rw [← e]; exact List.mem_map.2 ⟨f, by simp [hf], rfl⟩)
  have hwu : wt u = (G.first.getD (u + 1) 0 - (j : Int)).toNat + 1 := h.wK (u, j) (by simp)
  have hmap : (K ++ [(u, j + 1)] ++ [(v, j0)]).map (·.1) = (K ++ [(u, j)]).map (·.1) ++ [v] := by simp
  have hd2 : ∀ x, st x = 2 → x ≠ v := fun x hx e => by subst e; omega
  have hsp := ok.span v hvn
  refine ⟨⟨fun x hx => ?_, ?_, fun x hx => ?_, fun f hf => ?_, fun x hx h2 => ?_, fun i f hf j' x h1 h3 h4 => ?_, fun i f g hf hg => ?_, fun x hx h3 => ?_, fun f hf => ?_⟩, by omega, h.wU v hvn h0, huv⟩
  · by_cases hxv : x = v
    · subst hxv; rw [upd_same]; exact .inr (.inl rfl)
    · rw [upd_other _ _ hxv]; exact h.val x hx
  · rw [hmap, List.nodup_append]
    exact ⟨hnd', by simp, fun a ha b hb => by
      obtain rfl : b = v := by simpa using hb
      intro e; subst e; exact hvK ha⟩
  · rw [hmap, List.mem_append]
    by_cases hxv : x = v
    · subst hxv; rw [upd_same]; simp
    · rw [upd_other _ _ hxv, h.on x hx]
      exact ⟨.inl, fun hh => hh.elim id (fun h5 => absurd (by simpa using h5) hxv)⟩
  · rcases List.mem_append.1 hf with hf | hf
    · rcases List.mem_append.1 hf with hf | hf
      · exact h.rng f (by simp [hf])
      · obtain rfl : f = (u, j + 1) := by simpa using hf
        refine ⟨hun, ?_, ?_⟩
        · show G.first.getD u 0 ≤ ((j + 1 : Nat) : Int)
          have : G.first.getD u 0 ≤ (j : Int) := hu.2.1
          omega
        · show ((j + 1 : Nat) : Int) ≤ G.first.getD (u + 1) 0
          omega
    · obtain rfl : f = (v, j0) := by simpa using hf
      exact ⟨hvn, by show G.first.getD v 0 ≤ (j0 : Int); omega, by show (j0 : Int) ≤ G.first.getD (v + 1) 0; omega⟩
  · have hxv : x ≠ v := fun e => by subst e; rw [upd_same] at h2; omega
    rw [upd_other _ _ hxv] at h2
    have h5 := h.dn x hx h2
    refine ⟨h5.1, fun y hy => ?_⟩
    have h6 := h5.2 y hy
    exact ⟨by rw [upd_other _ _ (hd2 y h6.1)]; exact h6.1, h6.2⟩
  · rcases snoc_old hf with ⟨hi, hf⟩ | ⟨rfl, rfl⟩
    · rcases snoc_old hf with ⟨hi2, hf⟩ | ⟨rfl, rfl⟩
      · rcases h.part i f (snoc_lt hf) j' x h1 h3 h4 with hx | ⟨g, hg, hgx⟩
        · exact .inl (by rw [upd_other _ _ (hd2 x hx)]; exact hx)
        · rcases snoc_old hg with ⟨_, hg⟩ | ⟨hil, rfl⟩
          · exact .inr ⟨g, snoc_lt (snoc_lt hg), hgx⟩
          · exact .inr ⟨(u, j + 1), by rw [hil]; exact snoc_lt (snoc_get _ _), hgx⟩
      · have h1' : G.first.getD u 0 ≤ (j' : Int) := h1
        have h3' : j' < j + 1 := h3
        by_cases hjj : j' = j
        · subst hjj
          obtain rfl : x = v := by omega
          refine .inr ⟨(x, j0), ?_, rfl⟩
          have := snoc_get (K ++ [(u, j' + 1)]) (x, j0)
          rw [List.length_append] at this
          exact this
        · rcases h.part K.length (u, j) (snoc_get _ _) j' x h1' (by show j' < j; omega) h4 with hx | ⟨g, hg, _⟩
          · exact .inl (by rw [upd_other _ _ (hd2 x hx)]; exact hx)
          · simp at hg
    · have h1' : G.first.getD v 0 ≤ (j' : Int) := h1
      have h3' : j' < j0 := h3
      omega
  · rcases snoc_old hf with ⟨hi, hf⟩ | ⟨rfl, rfl⟩
    · rcases snoc_old hf with ⟨hi2, hf⟩ | ⟨rfl, rfl⟩
      · rcases snoc_old hg with ⟨_, hg⟩ | ⟨hil, rfl⟩
        · rcases snoc_old hg with ⟨_, hg⟩ | ⟨hil, rfl⟩
          · exact h.chain i f g (snoc_lt hf) (snoc_lt hg)
          · exact h.chain i f (u, j) (snoc_lt hf) (by rw [hil]; exact snoc_get _ _)
        · simp at hil; omega
      · rcases snoc_old hg with ⟨hlt, hg⟩ | ⟨hil, rfl⟩
        · simp at hlt
        · exact he
    · have := (List.getElem?_eq_some_iff.1 hg).1
      simp at this
  · have hxv : x ≠ v := fun e => by subst e; rw [upd_same] at h3; omega
    rw [upd_other _ _ hxv] at h3
    have hxu : x ≠ u := fun e => by subst e; omega
    rw [upd_other _ _ hxv, upd_other _ _ hxu]; exact h.wU x hx h3
  · rcases List.mem_append.1 hf with hf | hf
    · rcases List.mem_append.1 hf with hf | hf
      · rw [upd_other _ _ (hnv f hf), upd_other _ _ (hne f hf)]; exact h.wK f (by simp [hf])
      · obtain rfl : f = (u, j + 1) := by simpa using hf
        show upd (upd wt u (wt u - 1)) v (G.deg v + 1) u = (G.first.getD (u + 1) 0 - ((j + 1 : Nat) : Int)).toNat + 1
        rw [upd_other _ _ huv, upd_same]
        omega
    · obtain rfl : f = (v, j0) := by simpa using hf
      show upd (upd wt u (wt u - 1)) v (G.deg v + 1) v = (G.first.getD (v + 1) 0 - (j0 : Int)).toNat + 1
      rw [upd_same, Gr.deg, e0]

/-! ### what it means -/
/-- A closed chain of edges. -/
def Gr.Round (G : Gr) (c : List Nat) : Prop := 0 < c.length ∧ ∀ t, t < c.length → G.edge (c.getD t 0) (c.getD ((t + 1) % c.length) 0)
theorem Gr.Round.closed {G : Gr} {c : List Nat} (h : G.Round c) (t : Nat) (ht : t < c.length) : ∃ C, G.closed (c.getD t 0) C := by
  have hw : ∀ i, ∃ C, G.walk (c.getD t 0) i C (c.getD ((t + i) % c.length) 0) := by
    intro i
    induction i with
    | zero => exact ⟨0, by rw [Nat.add_zero, Nat.mod_eq_of_lt ht], rfl⟩
    | succ i ih =>
      obtain ⟨C, hC⟩ := ih
      have hl := h.2 _ (Nat.mod_lt (t + i) h.1)
      rw [Nat.mod_add_mod, Nat.add_assoc] at hl
      exact ⟨_, G.walk_step hC hl⟩
  obtain ⟨C, hC⟩ := hw c.length
  rw [Nat.add_mod_right, Nat.mod_eq_of_lt ht] at hC
  have hp := h.1
  exact ⟨C, c.length - 1, by rw [show c.length - 1 + 1 = c.length by omega]; exact hC⟩
theorem Gr.Round.real {G : Gr} {c : List Nat} {lo : Nat} (h : G.Round c) (hR : G.Ranked lo) : ∃ t, t < c.length ∧ c.getD t 0 < lo := by
  by_cases hex : ∃ t, t < c.length ∧ c.getD t 0 < lo
  · exact hex
  · exfalso
    obtain ⟨rank, hrank⟩ := hR
    have hge : ∀ t, t < c.length → lo ≤ c.getD t 0 := fun t ht => by
      by_cases hlt : c.getD t 0 < lo
      · exact absurd ⟨t, ht, hlt⟩ hex
      · omega
    have hup : ∀ i, rank (c.getD 0 0) + i ≤ rank (c.getD (i % c.length) 0) := by
      intro i
      induction i with
      | zero => rw [Nat.mod_eq_of_lt h.1]; exact Nat.le_refl _
      | succ i ih =>
        have hl := h.2 _ (Nat.mod_lt i h.1)
        rw [Nat.mod_add_mod] at hl
        have := hrank _ _ (hge _ (Nat.mod_lt i h.1)) (hge _ (Nat.mod_lt (i + 1) h.1)) hl
        omega
    have := hup c.length
    rw [Nat.mod_self] at this
    have hp := h.1
    omega
theorem Gr.Ranked.open_ {G : Gr} (h : G.Ranked 0) (s C : Nat) (hC : G.closed s C) : False := by
  obtain ⟨rank, hrank⟩ := h
  have hw : ∀ k c v, G.walk s k c v → rank s + k ≤ rank v := by
    intro k
    induction k with
    | zero => rintro c v ⟨rfl, _⟩; exact Nat.le_refl _
    | succ k ih =>
      rintro c v ⟨u, c', hw, he, _⟩
      have h1 := ih c' u hw
      have h2 := hrank u v (Nat.zero_le _) (Nat.zero_le _) he
      omega
  obtain ⟨k, hk⟩ := hC
  have := hw _ _ _ hk
  omega

theorem max_of {p : Nat → Prop} {f : Nat → Nat} (B : Nat) (hB : ∀ x, p x → f x < B) (h : ∃ x, p x) : ∃ x, p x ∧ ∀ y, p y → f y ≤ f x := by
  obtain ⟨x0, h0⟩ := h
  have : ∀ d x, p x → B - f x ≤ d → ∃ x, p x ∧ ∀ y, p y → f y ≤ f x := by
    intro d
    induction d with
    | zero => intro x hx hd; have := hB x hx; omega
    | succ d ih =>
      intro x hx hd
      by_cases hex : ∃ y, p y ∧ f x < f y
      · obtain ⟨y, hy, hlt⟩ := hex
        exact ih y hy (by omega)
      · exact ⟨x, hx, fun y hy => by
          by_cases hlt : f x < f y
          · exact absurd ⟨y, hy, hlt⟩ hex
          · omega⟩
  exact this (B - f x0) x0 h0 (Nat.le_refl _)
theorem min_of {p : Nat → Prop} {f : Nat → Nat} (h : ∃ x, p x) : ∃ x, p x ∧ ∀ y, p y → f x ≤ f y := by
  obtain ⟨x0, h0⟩ := h
  have : ∀ d x, p x → f x ≤ d → ∃ x, p x ∧ ∀ y, p y → f x ≤ f y := by
    intro d
    induction d with
    | zero => intro x hx hd; exact ⟨x, hx, fun y hy => by omega⟩
    | succ d ih =>
      intro x hx hd
      by_cases hex : ∃ y, p y ∧ f y < f x
      · obtain ⟨y, hy, hlt⟩ := hex
        exact ih y hy (by omega)
      · exact ⟨x, hx, fun y hy => by
          by_cases hlt : f y < f x
          · exact absurd ⟨y, hy, hlt⟩ hex
          · omega⟩
  exact this (f x0) x0 h0 (Nat.le_refl _)

/-- The search has seen every node below nreal and met no node of its path: nothing is stuck. -/
theorem Dfs.free {G : Gr} {st : Nat → Int} {fin : Nat → Nat} {T : Nat} {wt : Nat → Nat} (h : Dfs G st [] fin T wt) (hR : G.Ranked G.nreal) (hall : ∀ v, v < G.nreal → st v = 2) : ¬ G.Stuck 0 := by
  rintro ⟨R, ⟨r0, hr0⟩, hpred⟩
  obtain ⟨rank, hrank⟩ := hR
  have hdone : ∀ r, R r → st r = 2 := by
    by_cases hex : ∃ r, R r ∧ st r ≠ 2
    · exfalso
      obtain ⟨r, ⟨hr, hr2⟩, hmin⟩ := min_of (f := rank) hex
      obtain ⟨_, hrn, x, hx, he⟩ := hpred r hr
      have hx2 : st x ≠ 2 := fun h2 => hr2 ((h.dn x (hpred x hx).2.1 h2).2 r he).1
      have hxr : G.nreal ≤ x := by
        by_cases hlt : x < G.nreal
        · exact absurd (hall x hlt) hx2
        · omega
      have hrr : G.nreal ≤ r := by
        by_cases hlt : r < G.nreal
        · exact absurd (hall r hlt) hr2
        · omega
      have h1 := hrank x r hxr hrr he
      have h2 := hmin x ⟨hx, hx2⟩
      omega
    · intro r hr
      by_cases h2 : st r = 2
      · exact h2
      · exact absurd ⟨r, hr, h2⟩ hex
  obtain ⟨r, hr, hmax⟩ := max_of (p := R) (f := fin) T (fun x hx => (h.dn x (hpred x hx).2.1 (hdone x hx)).1) ⟨r0, hr0⟩
  obtain ⟨_, _, x, hx, he⟩ := hpred r hr
  have h1 := ((h.dn x (hpred x hx).2.1 (hdone x hx)).2 r he).2
  have h2 := hmax x hx
  omega

/-- The path from frame i on, closed by the edge back. -/
theorem Dfs.ring {G : Gr} {st : Nat → Int} {K : List (Nat × Nat)} {fin : Nat → Nat} {T : Nat} {wt : Nat → Nat} (h : Dfs G st K fin T wt) (i : Nat) (f top : Nat × Nat) (hi : K[i]? = some f) (htop : K[K.length - 1]? = some top) (he : G.edge top.1 f.1) : G.Round ((K.drop i).map (·.1)) := by
  have hil := (List.getElem?_eq_some_iff.1 hi).1
  have hlen : ((K.drop i).map (·.1)).length = K.length - i := by simp
  have hget : ∀ t g, K[i + t]? = some g → ((K.drop i).map (·.1)).getD t 0 = g.1 := by
    intro t g hg
    rw [List.getD_eq_getElem?_getD, List.getElem?_map, List.getElem?_drop, hg]
    rfl
  refine ⟨by omega, fun t ht => ?_⟩
  rw [hlen] at ht ⊢
  obtain ⟨g, hg⟩ : ∃ g, K[i + t]? = some g := ⟨_, List.getElem?_eq_getElem (by omega)⟩
  by_cases hlast : t + 1 < K.length - i
  · rw [Nat.mod_eq_of_lt hlast]
    obtain ⟨g', hg'⟩ : ∃ g', K[i + (t + 1)]? = some g' := ⟨_, List.getElem?_eq_getElem (by omega)⟩
    rw [hget t g hg, hget (t + 1) g' hg']
    exact h.chain (i + t) g g' hg (by rw [Nat.add_assoc]; exact hg')
  · rw [show t + 1 = K.length - i by omega, Nat.mod_self, hget t g hg, hget 0 f (by rw [Nat.add_zero]; exact hi)]
    rw [show i + t = K.length - 1 by omega, htop] at hg
    cases hg
    exact he
end Go.Proofs.Qxb6604255a

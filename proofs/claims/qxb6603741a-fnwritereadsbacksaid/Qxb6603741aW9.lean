import Derived.Test.Qxb6603741aW8
namespace Go.Proofs.Qxb6603741a
open Go.RowKit

/-- A node that the fuel suffices for. -/
structure NodeOK (T : Tree) (m f : Nat) (k s e : Int) : Prop where
  kind : k = 0 ∨ k = 91 ∨ k = 123
  fuel : 0 < f
  scal : k = 0 → 0 ≤ s ∧ s < e ∧ e ≤ T.text.length
  cont : k ≠ 0 → 0 ≤ s ∧ s ≤ e ∧ e ≤ m ∧ e.toNat < f
  nam : k = 123 → ∀ j, s.toNat ≤ j → j < e.toNat → 0 ≤ T.nS.getD j 0 ∧ T.nS.getD j 0 ≤ T.nE.getD j 0 ∧ T.nE.getD j 0 ≤ T.names.length

theorem kid_ok {T : Tree} {m f : Nat} {k s e : Int} (hT : Shape T m) (hne : ∀ j, j < m → T.kinds.getD j 0 = 0 → T.st.getD j 0 < T.en.getD j 0) (h : NodeOK T m (f + 1) k s e) (hk : k ≠ 0) (j : Nat) (_h1 : s.toNat ≤ j) (h2 : j < e.toNat) :
    NodeOK T m f (T.kinds.getD j 0) (T.st.getD j 0) (T.en.getD j 0) := by
  have hc := h.cont hk
  have hjm : j < m := by omega
  refine ⟨hT.kind j hjm, by omega, fun h0 => ?_, fun h0 => ?_, fun h0 j' h3 h4 => hT.nam j hjm h0 j' (by simp only [inR, decide_eq_true_eq]; exact ⟨h3, h4⟩)⟩
  · have := hT.scal j hjm h0
    exact ⟨this.1, hne j hjm h0, this.2.2⟩
  · have := hT.cont j hjm h0
    exact ⟨this.1, this.2.1, by omega, by omega⟩

theorem Try.info49 : (Try.prog.info? 49).map (fun i => (i.zero, i.size, i.bytes)) = some (some (.agg #[.int .u8 0, .int .i64 0, .int .i64 0, .int .i64 0, .int .i64 0]), 5, 40) := by kernel_rfl

theorem write_all (T : Tree) (m cb gN : Nat) (ta : Option Addr) (nt ct : Nat) (an : Option Addr) (nn cn : Nat) (hm : m ≤ 1048576) (hT : Shape T m) (hby : ∀ j, 0 ≤ T.names.getD j 0 ∧ T.names.getD j 0 ≤ 255) (hne : ∀ j, j < m → T.kinds.getD j 0 = 0 → T.st.getD j 0 < T.en.getD j 0) :
    ∀ f k s e, NodeOK T m f k s e → WriteSaid T m cb gN ta nt ct an nn cn f k s e := by
  intro f
  induction f with
  | zero => intro k s e h; have := h.fuel; omega
  | succ f ih =>
    intro k s e h
    by_cases hk : k = 0
    · subst hk
      obtain ⟨h0, h1, h2⟩ := h.scal rfl
      intro nS nE B v n xs w hE hown hB hA hlim
      rw [outN_scalar] at hlim ⊢
      exact write_scalar T m cb gN ta nt ct an nn cn nS nE s e B v n xs w hE hown hB h0 h1 h2 hlim
    · have hc := h.cont hk
      have hkk : k = 91 ∨ k = 123 := by have := h.kind; omega
      exact write_cont T hby m cb gN ta nt ct an nn cn f k s e hkk hm hc.1 hc.2.1 hc.2.2.1 (fun j h1 h2 => ih _ _ _ (kid_ok hT hne h hk j h1 h2)) h.nam

/-- Every cell of the row is there and may be written. -/
def Free (w : World) (g N : Nat) : Prop := ∀ o, o < N → ∃ u, w.cell? ⟨g, o, none⟩ = some u ∧ w.frozen? ⟨g, o, none⟩ = false
theorem set_get {w : World} {g N o : Nat} (v : Value) (h : Free w g N) (ho : o < N) : (w.setCell ⟨g, o, none⟩ v).cell? ⟨g, o, none⟩ = some v := by
  obtain ⟨u, hu, _⟩ := h o ho
  exact World.cell?_setCell_same _ _ _ hu
theorem set_oth {w : World} {g o o' : Nat} (v : Value) (h : o' ≠ o) : (w.setCell ⟨g, o, none⟩ v).cell? ⟨g, o', none⟩ = w.cell? ⟨g, o', none⟩ :=
  World.cell?_setCell_other _ _ _ _ (by intro he; injection he with _ h2 _; omega)
theorem Free.set {w : World} {g N o : Nat} (v : Value) (h : Free w g N) (ho : o < N) : Free (w.setCell ⟨g, o, none⟩ v) g N := by
  intro o' ho'
  obtain ⟨u, hu, hf⟩ := h o' ho'
  by_cases he : o' = o
  · subst he; exact ⟨v, set_get v h ho, by simpa using hf⟩
  · exact ⟨u, by rw [set_oth v he]; exact hu, by simpa using hf⟩
/-- Node j as the row holds it. -/
def NodeAt (w : World) (T : Tree) (g j : Nat) : Prop := w.cell? ⟨g, 5 * j, none⟩ = some (.int .u8 (T.kinds.getD j 0)) ∧ w.cell? ⟨g, 5 * j + 1, none⟩ = some (.int .i64 (T.nS.getD j 0)) ∧ w.cell? ⟨g, 5 * j + 2, none⟩ = some (.int .i64 (T.nE.getD j 0)) ∧ w.cell? ⟨g, 5 * j + 3, none⟩ = some (.int .i64 (T.st.getD j 0)) ∧ w.cell? ⟨g, 5 * j + 4, none⟩ = some (.int .i64 (T.en.getD j 0))

/-- One store into the row. -/
structure SetP (w w' : World) (g N o : Nat) (v : Value) : Prop where
  free : Free w g N → Free w' g N
  get : Free w g N → w'.cell? ⟨g, o, none⟩ = some v
  oth : ∀ o', o' ≠ o → w'.cell? ⟨g, o', none⟩ = w.cell? ⟨g, o', none⟩
  grown : ∀ w0 : World, w0.grownBy w none → w0.heap.size ≤ g → w0.grownBy w' none
  size : w.heap.size ≤ w'.heap.size
theorem drew_cell (w : World) (a : Addr) : w.drew.cell? a = w.cell? a := rfl
theorem drew_frozen (w : World) (a : Addr) : w.drew.frozen? a = w.frozen? a := rfl
theorem setP (w : World) (g N o : Nat) (v : Value) (ho : o < N) : SetP w (w.setCell ⟨g, o, none⟩ v) g N o v :=
  ⟨fun h => h.set v ho, fun h => set_get v h ho, fun _ h => set_oth v h, fun _ h hg => grown_set h _ _ hg, by simp [World.setCell]⟩

theorem node_set' {w wr W1 W2 W3 W4 W5 W6 : World} {T : Tree} {g m i : Nat} {a0 a1 a2 a3 a4 : Int} (s1 : SetP wr W1 g (m * 5) (i * 5) (.int .u8 a0)) (s2 : SetP W1 W2 g (m * 5) (i * 5 + 1) (.int .i64 a1)) (s3 : SetP W2 W3 g (m * 5) (i * 5 + 2) (.int .i64 a2))
    (s4 : SetP W3 W4 g (m * 5) (i * 5 + 3) (.int .i64 a3)) (s5 : SetP W4 W5 g (m * 5) (i * 5 + 4) (.int .i64 a4)) (d1 : ∀ a, W6.cell? a = W5.cell? a) (d2 : ∀ a, W6.frozen? a = W5.frozen? a) (d3 : W5.grownBy W6 none)
    (hf : Free wr g (m * 5)) (hn : ∀ j, j < i → NodeAt wr T g j) (hg : w.grownBy wr none) (hgw : w.heap.size ≤ g)
    (e0 : T.kinds.getD i 0 = a0) (e1 : T.nS.getD i 0 = a1) (e2 : T.nE.getD i 0 = a2) (e3 : T.st.getD i 0 = a3) (e4 : T.en.getD i 0 = a4) :
    Free W6 g (m * 5) ∧ (∀ j, j < i + 1 → NodeAt W6 T g j) ∧ w.grownBy W6 none ∧ wr.heap.size ≤ W6.heap.size := by
  have f1 := s1.free hf
  have f2 := s2.free f1
  have f3 := s3.free f2
  have f4 := s4.free f3
  have f5 := s5.free f4
  refine ⟨fun o ho => ?_, ?_, ?_, ?_⟩
  · obtain ⟨u, h1, h2⟩ := f5 o ho
    exact ⟨u, by rw [d1]; exact h1, by rw [d2]; exact h2⟩
  · intro j hj
    unfold NodeAt
    simp only [d1]
    by_cases hji : j = i
    · subst hji
      rw [show 5 * j = j * 5 by omega, e0, e1, e2, e3, e4]
      refine ⟨?_, ?_, ?_, ?_, ?_⟩
      · rw [s5.oth _ (by omega), s4.oth _ (by omega), s3.oth _ (by omega), s2.oth _ (by omega)]; exact s1.get hf
      · rw [s5.oth _ (by omega), s4.oth _ (by omega), s3.oth _ (by omega)]; exact s2.get f1
      · rw [s5.oth _ (by omega), s4.oth _ (by omega)]; exact s3.get f2
      · rw [s5.oth _ (by omega)]; exact s4.get f3
      · exact s5.get f4
    · have h5 : ∀ o, o < i * 5 → W5.cell? ⟨g, o, none⟩ = wr.cell? ⟨g, o, none⟩ := by
        intro o ho
        rw [s5.oth _ (by omega), s4.oth _ (by omega), s3.oth _ (by omega), s2.oth _ (by omega), s1.oth _ (by omega)]
      obtain ⟨n0, n1, n2, n3, n4⟩ := hn j (by omega)
      exact ⟨by rw [h5 _ (by omega)]; exact n0, by rw [h5 _ (by omega)]; exact n1, by rw [h5 _ (by omega)]; exact n2, by rw [h5 _ (by omega)]; exact n3, by rw [h5 _ (by omega)]; exact n4⟩
  · exact grown_step (s5.grown _ (s4.grown _ (s3.grown _ (s2.grown _ (s1.grown _ hg hgw) hgw) hgw) hgw) hgw) d3
  · have z1 := s1.size; have z2 := s2.size; have z3 := s3.size; have z4 := s4.size; have z5 := s5.size; have z6 := d3.size; omega
theorem node_set {w wr : World} {T : Tree} {g m i : Nat} {a0 a1 a2 a3 a4 : Int} (hi : i < m) (hf : Free wr g (m * 5)) (hn : ∀ j, j < i → NodeAt wr T g j) (hg : w.grownBy wr none) (hgw : w.heap.size ≤ g)
    (e0 : T.kinds.getD i 0 = a0) (e1 : T.nS.getD i 0 = a1) (e2 : T.nE.getD i 0 = a2) (e3 : T.st.getD i 0 = a3) (e4 : T.en.getD i 0 = a4) (X : World)
    (hX : X = (((((wr.setCell ⟨g, i * 5, none⟩ (.int .u8 a0)).setCell ⟨g, i * 5 + 1, none⟩ (.int .i64 a1)).setCell ⟨g, i * 5 + 2, none⟩ (.int .i64 a2)).setCell ⟨g, i * 5 + 3, none⟩ (.int .i64 a3)).setCell ⟨g, i * 5 + 4, none⟩ (.int .i64 a4)).drew) :
    Free X g (m * 5) ∧ (∀ j, j < i + 1 → NodeAt X T g j) ∧ w.grownBy X none ∧ wr.heap.size ≤ X.heap.size := by
  refine node_set' (setP wr g (m * 5) (i * 5) (.int .u8 a0) (by omega)) (setP _ g (m * 5) (i * 5 + 1) (.int .i64 a1) (by omega)) (setP _ g (m * 5) (i * 5 + 2) (.int .i64 a2) (by omega)) (setP _ g (m * 5) (i * 5 + 3) (.int .i64 a3) (by omega)) (setP _ g (m * 5) (i * 5 + 4) (.int .i64 a4) (by omega)) ?_ ?_ ?_ hf hn hg hgw e0 e1 e2 e3 e4
  · intro a; rw [hX]; exact drew_cell _ a
  · intro a; rw [hX]; exact drew_frozen _ a
  · rw [hX]; exact grown_drew _ _

set_option maxHeartbeats 1600000 in
set_option maxRecDepth 100000 in
theorem zzwrite_any (T : Tree) (m : Nat) (ta : Option Addr) (nt ct : Nat) (an : Option Addr) (nn cn : Nat) (ka : Option Addr) (kc : Nat) (nsa : Option Addr) (nsc : Nat) (nea : Option Addr) (nec : Nat) (sa : Option Addr) (sc : Nat) (ea : Option Addr) (ec : Nat)
    (B : Nat) (v : Value) (n : Nat) (xs : List Value) (k s e : Int) (w : World) (hm : m ≤ 1048576) (hT : Shape T m) (hby : ∀ j, 0 ≤ T.names.getD j 0 ∧ T.names.getD j 0 ≤ 255) (hne : ∀ j, j < m → T.kinds.getD j 0 = 0 → T.st.getD j 0 < T.en.getD j 0)
    (hR : NodeOK T m (m + 1) k s e)
    (hta : Sl w .u8 ta nt ct T.text) (han : Sl w .u8 an nn cn T.names) (hka : Sl w .u8 ka m kc T.kinds) (hnsa : Sl w .i64 nsa m nsc T.nS) (hnea : Sl w .i64 nea m nec T.nE) (hsa : Sl w .i64 sa m sc T.st) (hea : Sl w .i64 ea m ec T.en)
    (tlt : ∀ g, At ta g → g < w.heap.size) (nlt : ∀ g, At an g → g < w.heap.size)
    (hown : w.ownsRow B 5 1 v n xs) (hB : B ≤ w.heap.size) (hap : ∀ g, v.ownBlock = some g → ¬ At ta g ∧ ¬ At an g) (hlim : n + (outN T (m + 1) k s e).length ≤ 70368744177664) :
    Calls Try.prog 18 #[.slice ta nt ct, .slice an nn cn, .slice ka m kc, .slice nsa m nsc, .slice nea m nec, .slice sa m sc, .slice ea m ec, v, .int .u8 k, .int .i64 s, .int .i64 e] w fun e' w' =>
      ∃ v', e' = .returned v' ∧ w'.ownsRow B 5 1 v' (n + (outN T (m + 1) k s e).length) (xs ++ I8 (outN T (m + 1) k s e)) ∧ Grew 5 w v n w' v' := by
  obtain ⟨i0, hi, hz0, hz1, hz2⟩ := info_parts Try.info49
  have H1 := hidg hta
  have H2 := hidg han
  have H3 := hidg hka
  have H4 := hidg hnsa
  have H5 := hidg hnea
  have H6 := hidg hsa
  have H7 := hidg hea
  clear hta han hka hnsa hnea hsa hea
  go_enter Try.func18, Try.ntmps18
  go_wp2_with (at_make; refine Hid.out ?_)
  refine hidg ?_
  refine wpList_make_full _ rfl _ _ 47 rfl w.heap.size 49 i0 _ 5 Try.underlying47 hi hz0 hz1 _ _ _ _ m rfl rfl rfl rfl ?_ ?_ (Nat.le_refl _) ?_
  · rw [hz2]; omega
  · unfold maxLen; omega
  intro w1 hown1 hgrow1
  have HI : Hid (Free w1 w.heap.size (m * 5)) := by
    intro o ho
    rcases hown1.2 with ⟨hv, _⟩ | ⟨g, cap, cur, hv, _, hh, hnc, _, hcs, _⟩
    · cases hv
    · cases hv
      refine ⟨cur[o]'(by omega), ?_, ?_⟩
      · rw [cell_of_row w1 _ o cur 49 (0, 0) hh]; simp [show o < cur.size by omega]
      · simp [World.frozen?, hh]
  have hlt1 := (hown1.lt w.heap.size rfl).2
  clear hown1
  go_wp2
  go_loopw [31] (fun idx wr => ∃ i : Nat, i ≤ m ∧ idx = .int .i64 i ∧ Hid (Free wr w.heap.size (m * 5) ∧ (∀ j, j < i → NodeAt wr T w.heap.size j) ∧ w.grownBy wr none ∧ w.heap.size < wr.heap.size)) (fun idx _ => m - (intOf idx).toNat)
  case atStart => exact ⟨0, Nat.zero_le _, rfl, HI.out, fun j h => by omega, hgrow1, hlt1⟩
  case round =>
    clear HI hgrow1
    obtain ⟨i, hi2, rfl, S⟩ := hrel
    by_cases hlt : i < m
    · obtain ⟨b3, o3, rfl, c3⟩ := H3.out.cells (by omega)
      obtain ⟨b4, o4, rfl, c4⟩ := H4.out.cells (by omega)
      obtain ⟨b5, o5, rfl, c5⟩ := H5.out.cells (by omega)
      obtain ⟨b6, o6, rfl, c6⟩ := H6.out.cells (by omega)
      obtain ⟨b7, o7, rfl, c7⟩ := H7.out.cells (by omega)
      have d3 := S.out.2.2.1.cell (c3 i hlt) (by simp)
      have d4 := S.out.2.2.1.cell (c4 i hlt) (by simp)
      have d5 := S.out.2.2.1.cell (c5 i hlt) (by simp)
      have d6 := S.out.2.2.1.cell (c6 i hlt) (by simp)
      have d7 := S.out.2.2.1.cell (c7 i hlt) (by simp)
      obtain ⟨u0, p0, f0⟩ := S.out.1 (i * 5) (by omega)
      obtain ⟨u1, p1, f1⟩ := S.out.1 (i * 5 + 1) (by omega)
      obtain ⟨u2, p2, f2⟩ := S.out.1 (i * 5 + 2) (by omega)
      obtain ⟨u3, p3, f3⟩ := S.out.1 (i * 5 + 3) (by omega)
      obtain ⟨u4, p4, f4⟩ := S.out.1 (i * 5 + 4) (by omega)
      clear c3 c4 c5 c6 c7
      generalize hkj : T.kinds.getD i 0 = kj at *
      generalize hnsj : T.nS.getD i 0 = nsj at *
      generalize hnej : T.nE.getD i 0 = nej at *
      generalize hsj : T.st.getD i 0 = sj at *
      generalize hej : T.en.getD i 0 = ej at *
      have R := hidg (node_set hlt S.out.1 S.out.2.1 S.out.2.2.1 (Nat.le_refl _) hkj hnsj hnej hsj hej)
      clear hkj hnsj hnej hsj hej
      have hl1 : (i : Int) < (m : Int) := by omega
      go_wp2
      go_region
      generalize hX : (World.setCell _ _ _).drew = X
      have R2 := R.out X hX.symm
      have R3 := hidg (And.intro R2.1 (And.intro R2.2.1 (And.intro R2.2.2.1 (Nat.lt_of_lt_of_le S.out.2.2.2 R2.2.2.2))))
      clear R2 hX R S d3 d4 d5 d6 d7 p0 p1 p2 p3 p4 f0 f1 f2 f3 f4
      go_wp2
      go_roundw
      case rel => exact ⟨i + 1, by omega, by go_num, R3⟩
      case measure => simp [intOf]; omega
    · obtain rfl : m = i := by omega
      have HT := hidg hT
      have HBY := hidg hby
      have HNE := hidg hne
      have HR := hidg hR
      have HTL := hidg tlt
      have HNL := hidg nlt
      have HAP := hidg hap
      clear hT hby hne hR tlt nlt hap
      go_wp2_with fail
      have hgr := S.out.2.2.1
      have hgl := S.out.2.2.2
      have hgs := hgr.size
      have hE : Env (wr.alloc (.cells #[.slice none 0 0, .int .i64 0, .slice ta nt ct, .slice an nn cn, .slice (some ⟨w.heap.size, 0, none⟩) m m, .slice none 0 0, .slice none 0 0] 53)) T m wr.heap.size w.heap.size ta nt ct an nn cn := by
        have hga := grown_alloc hgr (.cells #[.slice none 0 0, .int .i64 0, .slice ta nt ct, .slice an nn cn, .slice (some ⟨w.heap.size, 0, none⟩) m m, .slice none 0 0, .slice none 0 0] 53)
        refine ⟨by simp, by simp, by simp, H1.out.step0 hga, H2.out.step0 hga, by simp, ?_, ?_, ?_, ?_⟩
        · simp; omega
        · intro g hg; have := HTL.out g hg; simp; omega
        · intro g hg; have := HNL.out g hg; simp; omega
        · intro j hj
          obtain ⟨n0, n1, n2, n3, n4⟩ := S.out.2.1 j hj
          have hcl : ∀ o u, wr.cell? ⟨w.heap.size, o, none⟩ = some u → (wr.alloc (.cells #[.slice none 0 0, .int .i64 0, .slice ta nt ct, .slice an nn cn, .slice (some ⟨w.heap.size, 0, none⟩) m m, .slice none 0 0, .slice none 0 0] 53)).cell? ⟨w.heap.size, o, none⟩ = some u := fun o u hu => by rw [World.cell?_alloc_lt _ _ _ (World.block_lt_of_cell? _ _ hu)]; exact hu
          exact ⟨hcl _ _ n0, hcl _ _ n1, hcl _ _ n2, hcl _ _ n3, hcl _ _ n4⟩
      have hA : Apart v.ownBlock wr.heap.size w.heap.size ta an := fun g hg => ⟨by have := (hown.lt g hg).2; omega, by have := (hown.lt g hg).2; omega, (HAP.out g hg).1, (HAP.out g hg).2⟩
      have hown2 := own_step hown (grown_alloc hgr (.cells #[.slice none 0 0, .int .i64 0, .slice ta nt ct, .slice an nn cn, .slice (some ⟨w.heap.size, 0, none⟩) m m, .slice none 0 0, .slice none 0 0] 53))
      have hw := write_all T m wr.heap.size w.heap.size ta nt ct an nn cn hm HT.out HBY.out HNE.out (m + 1) k s e HR.out 0 0 B v n xs _ hE hown2 (by simp; omega) hA hlim
      refine hw.mono ?_
      rintro e w4 ⟨v4, rfl, hown4, hg4⟩
      have hgf : Grew 5 w v n w4 v4 := ((Grew.refl 5 w v n).step (grown_alloc hgr _)).trans hg4 (Nat.le_refl _)
      clear hE hA hown2 hw hg4
      go_wp2
      go_ret
      exact ⟨v4, rfl, hown4, hgf⟩
end Go.Proofs.Qxb6603741a

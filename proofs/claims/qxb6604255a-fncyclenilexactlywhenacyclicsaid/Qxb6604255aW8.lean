import Derived.Test.Qxb6604255aW7
namespace Go.Proofs.Qxb6604255a
open Go.RowKit
set_option linter.unusedVariables false

/-- The record digraph. -/
structure DgAt (G : Gr) (w : World) (db : Nat) (fa sa : Option Addr) (fc ns sc : Nat) : Prop where
  real : w.cell? ⟨db, 0, none⟩ = some (.int .i64 G.nreal)
  fst : w.cell? ⟨db, 1, none⟩ = some (.slice fa (G.n + 1) fc)
  suc : w.cell? ⟨db, 2, none⟩ = some (.slice sa ns sc)
theorem DgAt.step {G : Gr} {w w' : World} {db : Nat} {fa sa : Option Addr} {fc ns sc : Nat} (h : DgAt G w db fa sa fc ns sc) {r : Option Nat} (hg : w.grownBy w' r) (hr : r ≠ some db) : DgAt G w' db fa sa fc ns sc :=
  ⟨hg.cell h.real (fun e => hr e.symm), hg.cell h.fst (fun e => hr e.symm), hg.cell h.suc (fun e => hr e.symm)⟩
theorem DgAt.step0 {G : Gr} {w w' : World} {db : Nat} {fa sa : Option Addr} {fc ns sc : Nat} (h : DgAt G w db fa sa fc ns sc) (hg : w.grownBy w' none) : DgAt G w' db fa sa fc ns sc := h.step hg (by simp)

/-- What shortestCycle hands back. -/
def CycRes (G : Gr) (s m : Nat) (w : World) (e : Ending) (w' : World) : Prop :=
  ∃ v C, e = .returned v ∧ w'.ownsRow w.heap.size 3 1 v C.length (I64 C) ∧ G.Valid C ∧ s ∈ C ∧ C.length = m ∧ w.grownBy w' none

theorem owns_list {w : World} {base : Nat} {b cap : Nat} {C : List Nat} (h : w.ownsRow base 3 1 (.slice (some ⟨b, 0, none⟩) C.length cap) C.length (I64 C)) : ListAt w b C ∧ ∀ j, j < C.length → w.frozen? ⟨b, j, none⟩ = false := by
  refine ⟨fun j hj => owns_cell h j _ (I64_get C j hj), fun j hj => ?_⟩
  rcases h.2 with ⟨hv, _⟩ | ⟨g', cap', cur, hv, _, hh, _⟩
  · cases hv
  · cases hv
    simp [World.frozen?, hh]

theorem owns_base {w : World} {b0 b1 : Nat} {e : TypeId} {v : Value} {n : Nat} {xs : List Value} (h : w.ownsRow b1 e 1 v n xs) (hb : b0 ≤ b1) : w.ownsRow b0 e 1 v n xs := by
  refine ⟨h.1, ?_⟩
  rcases h.2 with h2 | ⟨g, cap, cur, h1, h2, h3⟩
  · exact .inl h2
  · exact .inr ⟨g, cap, cur, h1, by omega, h3⟩
theorem I64_one (K : List Nat) : ∀ u ∈ I64 K, u.oneCell' = true := by
  intro u hu
  obtain ⟨x, _, rfl⟩ := List.mem_map.1 hu
  rfl

theorem conc_ready (w : World) (rb rc t n : Nat) (B : List Nat) (hn : B.length = n) (hl : n ≤ 5000) (hli : ListAt w rb B) (ht : t < n) :
    Calls Try.prog 24 #[.slice (some ⟨w.heap.size, 0, none⟩) 2 2] (w.alloc (.cells #[.slice (some ⟨rb, t, none⟩) (n - t) (rc - t), .slice (some ⟨rb, 0, none⟩) t rc] 26)).drew
      fun e w' => ∃ v, e = .returned v ∧ w'.ownsRow w.heap.size 3 1 v (B.drop t ++ B.take t).length (I64 (B.drop t ++ B.take t)) ∧ w.grownBy w' none := by
  have hg : w.grownBy (w.alloc (.cells #[.slice (some ⟨rb, t, none⟩) (n - t) (rc - t), .slice (some ⟨rb, 0, none⟩) t rc] 26)).drew none := grown_step (grown_alloc (grown_refl w none) _) (grown_drew _ _)
  have hrb : rb < w.heap.size := hli.lt (by omega)
  have c0 : (w.alloc (.cells #[.slice (some ⟨rb, t, none⟩) (n - t) (rc - t), .slice (some ⟨rb, 0, none⟩) t rc] 26)).cell? ⟨w.heap.size, 0, none⟩ = some (.slice (some ⟨rb, t, none⟩) (n - t) (rc - t)) := by
    have := cell_new (w := w) (arr := #[.slice (some ⟨rb, t, none⟩) (n - t) (rc - t), .slice (some ⟨rb, 0, none⟩) t rc]) (e := 26) (j := 0) (u := .slice (some ⟨rb, t, none⟩) (n - t) (rc - t)) rfl
    rwa [Addr.add_lit] at this
  have c1 : (w.alloc (.cells #[.slice (some ⟨rb, t, none⟩) (n - t) (rc - t), .slice (some ⟨rb, 0, none⟩) t rc] 26)).cell? ⟨w.heap.size, 1, none⟩ = some (.slice (some ⟨rb, 0, none⟩) t rc) := by
    have := cell_new (w := w) (arr := #[.slice (some ⟨rb, t, none⟩) (n - t) (rc - t), .slice (some ⟨rb, 0, none⟩) t rc]) (e := 26) (j := 1) (u := .slice (some ⟨rb, 0, none⟩) t rc) rfl
    rwa [Addr.add_lit] at this
  refine (concat24 w.heap.size 2 (n - t) t (rc - t) rc ⟨rb, t, none⟩ ⟨rb, 0, none⟩ (I64 (B.drop t)) (I64 (B.take t)) (w.alloc (.cells #[.slice (some ⟨rb, t, none⟩) (n - t) (rc - t), .slice (some ⟨rb, 0, none⟩) t rc] 26)).drew (by rw [I64_len, List.length_drop, hn]) (by rw [I64_len, List.length_take, hn]; omega) (by omega) (by omega) c0 c1 ?_ ?_ (I64_one _) (I64_one _) (Nat.lt_of_lt_of_le hrb hg.size) (Nat.lt_of_lt_of_le hrb hg.size)).mono ?_
  · intro j u hu
    have hj : j < (B.drop t).length := by have := (List.getElem?_eq_some_iff.1 hu).1; rwa [I64_len] at this
    rw [I64_get _ _ hj] at hu
    obtain rfl := Option.some.inj hu
    rw [Addr.add_lit]
    refine hg.cell ?_ (by simp)
    have hj2 : t + j < B.length := by rw [List.length_drop] at hj; omega
    have := hli (t + j) hj2
    rw [List.getD_eq_getElem?_getD, List.getElem?_drop, ← List.getD_eq_getElem?_getD]
    exact this
  · intro j u hu
    have hj : j < (B.take t).length := by have := (List.getElem?_eq_some_iff.1 hu).1; rwa [I64_len] at this
    rw [I64_get _ _ hj] at hu
    obtain rfl := Option.some.inj hu
    rw [Addr.add_lit, Nat.zero_add]
    refine hg.cell ?_ (by simp)
    have hj2 : j < t := by rw [List.length_take] at hj; omega
    have := hli j (by omega)
    rw [List.getD_eq_getElem?_getD, List.getElem?_take_of_lt hj2, ← List.getD_eq_getElem?_getD]
    exact this
  · rintro e w' ⟨v, rfl, hown, hg'⟩
    refine ⟨v, rfl, ?_, grown_step hg hg'⟩
    have e1 : I64 (B.drop t) ++ I64 (B.take t) = I64 (B.drop t ++ B.take t) := by simp [I64]
    have e2 : (B.drop t ++ B.take t).length = n - t + t := by rw [List.length_append, List.length_drop, List.length_take]; omega
    rw [e1] at hown
    rw [e2]
    exact owns_base hown hg.size

set_option maxHeartbeats 6400000 in
set_option maxRecDepth 100000 in
theorem rotated20 (G : Gr) (s u db fg fgc m : Nat) (fa sa : Option Addr) (fc ns sc : Nat) (cost frm : Nat → Int) (d : Nat → Nat) (w : World) (hD : DgAt G w db fa sa fc ns sc) (ok : G.OK) (hn : G.n ≤ 4096) (hI : IR w .i32 fg G.n frm)
    (ht : G.tree s cost frm d) (hs : s < G.nreal) (hc : cost s = 0) (hu : u < G.n) (hcu : cost u = m) (hm : m ≤ 4096) (he : G.edge u s) :
    Calls Try.prog 20 #[.pointer (some ⟨db, 0, none⟩), .int .i64 s, .int .i32 u, .slice (some ⟨fg, 0, none⟩) G.n fgc] w fun e w' => CycRes G s (m + 1) w e w' := by
  obtain ⟨i0, hi0, hz0, hz1, hz2⟩ := info_parts Try.info3
  have HB := hidg (back_ok ht hs hc (d u) u hu (by omega) rfl)
  have HR := hidg (ring_of HB.out (by omega) he)
  have HD := hidg hD
  have HI := hidg hI
  have HT := hidg ht
  have HC := hidg (And.intro hc hcu)
  have hlen : (back G.nreal s frm (d u) u).length = m + 1 := by have := HB.out.len; omega
  have hre := ok.real
  clear hD hI ht hc hcu he ok
  generalize hBk : back G.nreal s frm (d u) u = Bk at *
  have HBk := hidg hBk
  have HL := hidg hlen
  clear hBk hlen
  have O0 : Hid (w.ownsRow w.heap.size 3 1 (.slice none 0 0) 0 []) := ⟨rfl, .inl ⟨rfl, rfl⟩⟩
  go_enter Try.func20, Try.ntmps20
  go_wp2
  go_loopg [9, 10] (d u) (fun q vs uv wr => ∃ x : Nat, uv = .int .i64 x ∧ x < G.n ∧ Hid (∃ A : List Nat, q = d x ∧ 0 ≤ cost x ∧ wr.ownsRow w.heap.size 3 1 vs A.length (I64 A) ∧ A ++ back G.nreal s frm (d x) x = Bk ∧ w.grownBy wr none))
  case atStart => exact ⟨u, rfl, hu, [], rfl, by have := HC.out.2; omega, O0.out, HBk.out, grown_refl _ _⟩
  case round =>
    clear O0
    obtain ⟨x, rfl, hx, HX⟩ := hrel
    obtain ⟨A, hq, hx0, hown, hA, hg⟩ := HX.out
    clear HX
    have hAl : A.length ≤ 4097 := by
      have := congrArg List.length hA
      rw [List.length_append, HL.out] at this
      omega
    have dg := HD.out.step0 hg
    have cr := dg.real
    have hsz := hg.size
    clear dg
    by_cases hxs : x = s
    · subst hxs
      have hdx : d x = 0 := HT.out.1
      rw [hdx] at hA
      have hA' : A ++ [x] = Bk := hA
      have E := hidg (And.intro hown (And.intro hA' hg))
      clear hown hA hA' hg hdx hq hx0
      obtain ⟨ao, cap, rfl, _⟩ := owns_shape E.out.1
      go_wp2_with (at_builtin; refine Hid.out ?_)
      refine hidg ?_
      refine wpList_app1 wr rfl _ _ 26 rfl w.heap.size 3 i0 (.int .i64 0) 8 Try.underlying26 hi0 hz0 hz1 hz2 rfl _ A.length (I64 A) E.out.1 _ rfl rfl rfl (by unfold maxLen; omega) (by omega) hsz ?_
      intro v2 w2 hown2 hgr2
      have hg2 : w.grownBy w2 none := by
        refine grown_trans E.out.2.2 hgr2.frame ?_
        cases ho : (Value.slice ao A.length cap).ownBlock with
        | none => exact .inl rfl
        | some g => exact .inr (.inr ⟨g, rfl, owns_ge E.out.1 ho⟩)
      rw [I64_app, E.out.2.1] at hown2
      have hbl : A.length + 1 = Bk.length := by rw [← E.out.2.1]; simp
      rw [hbl] at hown2
      have hBl := HL.out
      obtain ⟨rb, rc, rfl, hrb, hrb2, hrc⟩ := owns_ao hown2 (by omega)
      obtain ⟨hli, hfr⟩ := owns_list hown2
      have E2 := hidg (And.intro hli (And.intro hfr hg2))
      have EB := hidg (And.intro hbl hBl)
      have hB1 : Bk.length ≤ 4097 := by omega
      have hB0 : 0 < Bk.length := by omega
      clear hown2 hgr2 hg2 hli hfr cr hbl hBl E
      go_wp2_with fail
      refine (reverse21 rb rc Bk w2 (by omega) E2.out.1 E2.out.2.1).mono ?_
      rintro e w3 ⟨rfl, hli3, hg3⟩
      have E3 := hidg (And.intro hli3 (grown_new E2.out.2.2 hg3 hrb))
      have hs3 := hg3.size
      clear hli3 hg3 E2
      have hrl : Bk.reverse.length = Bk.length := by simp
      have HRL := hidg hrl
      have hz : ∀ j, j < (IntsOf Bk.reverse).length → w3.cell? ⟨rb, 0 + j, none⟩ = some (.int .i64 ((IntsOf Bk.reverse).getD j 0)) := fun j hj => by
        rw [Nat.zero_add, intsOf_get]
        exact E3.out.1 j (by rw [intsOf_len] at hj; exact hj)
      have HZ := hidg hz
      have HTK : Hid ((IntsOf Bk.reverse).take Bk.length = IntsOf Bk.reverse) := by
        show (IntsOf Bk.reverse).take Bk.length = IntsOf Bk.reverse
        rw [← hrl, ← intsOf_len Bk.reverse, List.take_length]
      have HIL : Hid (Bk.length ≤ (IntsOf Bk.reverse).length) := by show Bk.length ≤ _; rw [intsOf_len, hrl]; exact Nat.le_refl _
      obtain ⟨t, ht, hidx, hsm⟩ := small_spec Bk.reverse (by rw [hrl]; exact hB0)
      rw [hrl] at ht
      have HSM := hidg (And.intro hidx hsm)
      clear hz hrl hidx hsm
      go_wp2_with fail
      refine (Try.slices_Min_int rb 0 Bk.length rc (IntsOf Bk.reverse) w3 hB0 HIL.out (by omega) HZ.out).mono ?_
      rintro e w4 ⟨rfl, rfl⟩
      rw [HTK.out]
      go_wp2_with fail
      refine (Try.slices_Index_int rb 0 Bk.length rc (IntsOf Bk.reverse) _ w4 HIL.out (by omega) HZ.out).mono ?_
      rintro e w5 ⟨rfl, rfl⟩
      rw [HTK.out, HSM.out.1]
      have ht1 : (t : Int) < Bk.length := by omega
      have ht2 : (t : Int) ≤ rc := by omega
      have ht3 : t ≤ rc := by omega
      clear HZ HTK HIL
      have HCR := hidg (conc_ready w5 rb rc t Bk.length Bk.reverse HRL.out (by omega) E3.out.1 ht)
      go_wp2
      go_region_with (go_at_call 24; refine HCR.out.mono ?_; rintro e w6 ⟨v6, rfl, hown6, hg6⟩)
      all_goals
        have E6 := hidg (And.intro hown6 hg6)
        clear hown6 hg6
        go_wp2
        go_ret
        refine ⟨v6, _, rfl, owns_base E6.out.1 (E3.out.2).size, rot_valid HR.out t (by rw [HRL.out]; exact ht) HSM.out.2, ?_, ?_, grown_step E3.out.2 E6.out.2⟩
        · rw [List.mem_append, Or.comm, ← List.mem_append, List.take_append_drop, List.mem_reverse]
          have hla := HB.out.last
          rw [← hla]
          exact getD_mem (by omega)
        · rw [rot_len _ _ (by rw [HRL.out]; omega), HRL.out]
          exact EB.out.2
    · obtain ⟨p, hp, hf, hep, hp0, hcp, hdp⟩ := HT.out.2 x hx hxs hx0
      have cx := (HI.out.step hg).cell x hx
      rw [hf] at cx
      have bxs : ((x : Int) != (s : Int)) = true := by rw [bne_iff_ne]; omega
      have q1 : (x : Int) < G.n := by omega
      have q2 : (p : Int) < 4096 := by omega
      have hb : back G.nreal s frm (d x) x = if x < G.nreal then x :: back G.nreal s frm (d p) p else back G.nreal s frm (d p) p := by
        rw [hdp]
        show (if x < G.nreal then x :: back G.nreal s frm (d p) (frm x).toNat else back G.nreal s frm (d p) (frm x).toNat) = _
        rw [hf]
        rfl
      rw [hb] at hA
      have HF := hidg hf
      by_cases hxr : x < G.nreal
      · rw [if_pos hxr] at hA
        have E := hidg (And.intro hown (And.intro hA (And.intro hg (And.intro hdp (And.intro hp0 hq)))))
        clear hown hA hg hq hx0 hb hdp hcp hp0 hf hep
        obtain ⟨ao, cap, rfl, _⟩ := owns_shape E.out.1
        go_wp2_with (at_builtin; refine Hid.out ?_)
        refine hidg ?_
        refine wpList_app1 wr rfl _ _ 26 rfl w.heap.size 3 i0 (.int .i64 0) 8 Try.underlying26 hi0 hz0 hz1 hz2 rfl _ A.length (I64 A) E.out.1 _ rfl rfl rfl (by unfold maxLen; omega) (by omega) hsz ?_
        intro v2 w2 hown2 hgr2
        have hg2 : w.grownBy w2 none := by
          refine grown_trans E.out.2.2.1 hgr2.frame ?_
          cases ho : (Value.slice ao A.length cap).ownBlock with
          | none => exact .inl rfl
          | some g => exact .inr (.inr ⟨g, rfl, owns_ge E.out.1 ho⟩)
        have cx2 := (HI.out.step hg2).cell x hx
        rw [HF.out] at cx2
        rw [I64_app] at hown2
        have E2 := hidg (And.intro hown2 hg2)
        clear hown2 hgr2 hg2 cx cr
        go_wp2
        go_roundg (d p)
        case rel => exact ⟨p, by go_num, hp, A ++ [x], rfl, E.out.2.2.2.2.1, by have := E2.out.1; simpa using this, by have := E.out.2.1; simpa using this, E2.out.2⟩
        case measure => have h1 := E.out.2.2.2.1; have h2 := E.out.2.2.2.2.2; omega
      · rw [if_neg hxr] at hA
        have E := hidg (And.intro hown (And.intro hA (And.intro hg (And.intro hdp (And.intro hp0 hq)))))
        clear hown hA hg hq hx0 hb hdp hcp hp0 hf hep
        obtain ⟨ao, cap, rfl, _⟩ := owns_shape E.out.1
        go_wp2
        go_roundg (d p)
        case rel => exact ⟨p, by go_num, hp, A, rfl, E.out.2.2.2.2.1, E.out.1, E.out.2.1, E.out.2.2.1⟩
        case measure => have h1 := E.out.2.2.2.1; have h2 := E.out.2.2.2.2.2; omega
end Go.Proofs.Qxb6604255a

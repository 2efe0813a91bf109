import Derived.Test.Qxb6603741aW7
import Derived.Test.Qxb6603741aKit2
namespace Go.Proofs.Qxb6603741a
open Go.RowKit
set_option linter.unusedSimpArgs false

/-- A member: what the contract of write says of one node. -/
def WriteSaid (T : Tree) (m cb gN : Nat) (ta : Option Addr) (nt ct : Nat) (an : Option Addr) (nn cn : Nat) (f : Nat) (k s e : Int) : Prop :=
  ∀ (nS nE : Int) (B : Nat) (v : Value) (n : Nat) (xs : List Value) (w : World), Env w T m cb gN ta nt ct an nn cn → w.ownsRow B 5 1 v n xs → B ≤ w.heap.size → Apart v.ownBlock cb gN ta an → n + (outN T f k s e).length ≤ 70368744177664 →
    Calls Try.prog 27 #[.pointer (some ⟨cb, 0, none⟩), v, .agg #[.int .u8 k, .int .i64 nS, .int .i64 nE, .int .i64 s, .int .i64 e]] w fun e' w' => ∃ v', e' = .returned v' ∧ w'.ownsRow B 5 1 v' (n + (outN T f k s e).length) (xs ++ I8 (outN T f k s e)) ∧ Grew 5 w v n w' v'

/-- A node in a block of its own. -/
def Box (w : World) (g : Nat) (k nS nE s e : Int) : Prop := w.heap[g]? = some (.cells #[.int .u8 k, .int .i64 nS, .int .i64 nE, .int .i64 s, .int .i64 e] 49 (0, 0))
structure BoxC (w : World) (g : Nat) (k nS nE s e : Int) : Prop where
  c0 : w.cell? ⟨g, 0, none⟩ = some (.int .u8 k)
  c1 : w.cell? ⟨g, 1, none⟩ = some (.int .i64 nS)
  c2 : w.cell? ⟨g, 2, none⟩ = some (.int .i64 nE)
  c3 : w.cell? ⟨g, 3, none⟩ = some (.int .i64 s)
  c4 : w.cell? ⟨g, 4, none⟩ = some (.int .i64 e)
theorem Box.cells {w : World} {g : Nat} {k nS nE s e : Int} (h : Box w g k nS nE s e) : BoxC w g k nS nE s e := by
  constructor <;> (rw [cell_of_row w g _ _ 49 (0, 0) h]; rfl)
theorem Box.step {w w' : World} {g : Nat} {k nS nE s e : Int} {r : Option Nat} (h : Box w g k nS nE s e) (hg : w.grownBy w' r) (hr : some g ≠ r) : Box w' g k nS nE s e := by
  unfold Box at h ⊢
  rw [hg.block g (Array.getElem?_eq_some_iff.1 h).1 hr]
  exact h
theorem box_new (w : World) (k nS nE s e : Int) : Box (w.alloc (.cells #[.int .u8 k, .int .i64 nS, .int .i64 nE, .int .i64 s, .int .i64 e] 49)) w.heap.size k nS nE s e := heap_alloc_new w _
/-- A node's block is no row of bytes. -/
theorem Box.other {w : World} {g : Nat} {k nS nE s e : Int} (h : Box w g k nS nE s e) {base : Nat} {v : Value} {n : Nat} {xs : List Value} (hown : w.ownsRow base 5 1 v n xs) : some g ≠ v.ownBlock := by
  intro hg
  rcases hown.2 with ⟨rfl, _⟩ | ⟨g', cap, cur, rfl, _, hh, _⟩
  · simp [Value.ownBlock] at hg
  · simp [Value.ownBlock] at hg
    subst hg
    unfold Box at h
    rw [hh] at h
    simp at h

/-- How the writing of a container stands: what has been written, the node's own block. -/
structure St (w wr : World) (B : Nat) (v : Value) (n : Nat) (xs : List Value) (L : List Int) (d : Value) (gb : Nat) (k nS nE s e : Int) : Prop where
  own : wr.ownsRow B 5 1 d (n + L.length) (xs ++ I8 L)
  grew : Grew 5 w v n wr d
  box : Box wr gb k nS nE s e
theorem St.app {w wr w1 : World} {B : Nat} {v : Value} {n : Nat} {xs : List Value} {L p : List Int} {d d1 : Value} {gb : Nat} {k nS nE s e : Int} (h : St w wr B v n xs L d gb k nS nE s e)
    (hown1 : w1.ownsRow B 5 1 d1 (n + L.length + p.length) (xs ++ I8 L ++ I8 p)) (hg1 : Grew 5 wr d (n + L.length) w1 d1) : St w w1 B v n xs (L ++ p) d1 gb k nS nE s e := by
  refine ⟨?_, h.grew.trans hg1 (by omega), h.box.step hg1.frame (h.box.other h.own)⟩
  rw [List.length_append, I8_app, ← Nat.add_assoc, ← List.append_assoc]
  exact hown1
theorem own_step {wr w1 : World} {B : Nat} {e : TypeId} {d : Value} {n : Nat} {xs : List Value} (h : wr.ownsRow B e 1 d n xs) (hg : wr.grownBy w1 none) : w1.ownsRow B e 1 d n xs := h.kept hg (by cases hd : d.ownBlock <;> simp)
theorem St.step {w wr w1 : World} {B : Nat} {v : Value} {n : Nat} {xs : List Value} {L : List Int} {d : Value} {gb : Nat} {k nS nE s e : Int} (h : St w wr B v n xs L d gb k nS nE s e) (hg : wr.grownBy w1 none) : St w w1 B v n xs L d gb k nS nE s e :=
  ⟨own_step h.own hg, h.grew.step hg, h.box.step hg (by simp)⟩

theorem kid_arr (T : Tree) (f : Nat) (k : Int) (j : Nat) (h : k ≠ 123) : kid T f k j = outN T f (T.kinds.getD j 0) (T.st.getD j 0) (T.en.getD j 0) := by unfold kid mem; rw [if_neg h]; rfl
theorem kid_obj (T : Tree) (f : Nat) (j : Nat) : kid T f 123 j = quote (sub T.names (T.nS.getD j 0) (T.nE.getD j 0)) ++ [58] ++ outN T f (T.kinds.getD j 0) (T.st.getD j 0) (T.en.getD j 0) := by unfold kid mem; rw [if_pos rfl]
theorem kidsTo_next (g : Nat → List Int) (s i : Nat) (h : 0 < i) : kidsTo g s (i + 1) = kidsTo g s i ++ ([44] ++ g (s + i)) := by rw [kidsTo, if_neg (by omega)]
theorem kidsTo_first (g : Nat → List Int) (s i : Nat) (h : ¬ 0 < i) : kidsTo g s (i + 1) = kidsTo g s i ++ g (s + i) := by
  obtain rfl : i = 0 := by omega
  simp [kidsTo]
theorem sub_bytes (N : List Int) (s e : Int) (h : ∀ j, 0 ≤ N.getD j 0 ∧ N.getD j 0 ≤ 255) : ∀ j, 0 ≤ (sub N s e).getD j 0 ∧ (sub N s e).getD j 0 ≤ 255 := by
  intro j
  by_cases hj : s.toNat + j < e.toNat
  · rw [sub_getD N s e j hj]; exact h _
  · have : (sub N s e).getD j 0 = 0 := by
      unfold List.getD
      rw [List.getElem?_eq_none (by unfold sub; simp; omega)]; rfl
    omega

set_option maxHeartbeats 1600000 in
set_option maxRecDepth 100000 in
theorem write_cont (T : Tree) (hby : ∀ j, 0 ≤ T.names.getD j 0 ∧ T.names.getD j 0 ≤ 255) (m cb gN : Nat) (ta : Option Addr) (nt ct : Nat) (an : Option Addr) (nn cn : Nat) (f : Nat) (k s e : Int) (hk : k = 91 ∨ k = 123) (hm : m ≤ 1048576) (h0 : 0 ≤ s) (h1 : s ≤ e) (h2 : e ≤ m)
    (hkids : ∀ j, s.toNat ≤ j → j < e.toNat → WriteSaid T m cb gN ta nt ct an nn cn f (T.kinds.getD j 0) (T.st.getD j 0) (T.en.getD j 0))
    (hnam : k = 123 → ∀ j, s.toNat ≤ j → j < e.toNat → 0 ≤ T.nS.getD j 0 ∧ T.nS.getD j 0 ≤ T.nE.getD j 0 ∧ T.nE.getD j 0 ≤ T.names.length) :
    WriteSaid T m cb gN ta nt ct an nn cn (f + 1) k s e := by
  intro nS nE B v n xs w hE hown hB hA hlim
  obtain ⟨i0, hi, hz0, hz1, hz2⟩ := info_parts Try.info5
  obtain ⟨a, rfl⟩ := Int.eq_ofNat_of_zero_le h0
  obtain ⟨b, rfl⟩ := Int.eq_ofNat_of_zero_le (show (0 : Int) ≤ e by omega)
  simp only [Int.toNat_natCast] at hkids hnam
  have HK := hidg hkids
  have HBY := hidg hby
  have HN := hidg hnam
  have HE := hidg hE
  have HA := hidg hA
  clear hkids hnam hE hA hby
  rw [outN_cont T f k a b (by omega)] at hlim ⊢
  simp only [List.length_cons, List.length_append, List.length_nil, Int.toNat_natCast] at hlim ⊢
  have hk0 : (k == 0) = false := by simp; omega
  have hk255 : 0 ≤ k ∧ k ≤ 255 := by omega
  have hab : a ≤ b := by omega
  have hbm : b ≤ m := by omega
  clear h0 h1 h2
  have hbx := box_new w k nS nE a b
  generalize hfin : (k :: (kidsTo (kid T f k) a (b - a) ++ [clo k])) = W at *
  have HFIN := hidg hfin
  have HBX := hidg hbx
  clear hfin hbx
  go_enter Try.func27, Try.ntmps27
  go_wp2_with (at_builtin; refine Hid.out ?_)
  refine hidg ?_
  refine wpList_app1g (w.alloc (.cells #[.int .u8 k, .int .i64 nS, .int .i64 nE, .int .i64 a, .int .i64 b] 49)) rfl _ _ 22 rfl B 5 i0 (.int .u8 0) 1 Try.underlying22 hi hz0 hz1 hz2 rfl _ n xs (hown.alloc _) _ _ rfl rfl (by simp) rfl (by unfold maxLen; omega) (by omega) (by simp; omega) ?_
  intro v1 w1 hown1 hg1
  have S1 : Hid (St w w1 B v n xs [k] v1 w.heap.size k nS nE a b) := ⟨hown1, hg1.of_alloc, HBX.out.step hg1.frame (HBX.out.other (hown.alloc _))⟩
  clear hown1 hg1 HBX
  obtain ⟨x0, x1, x2, x3, x4⟩ := S1.out.box.cells
  have cn := (HE.out.step S1.out.grew.frame HA.out).cnodes
  go_wp2
  go_quiet (fail)
  generalize hsa : (if m = a then (some ⟨gN, 0, none⟩ : Option Addr) else some ⟨gN, a * 5, none⟩) = sa
  have HSA : Hid (a < b → sa = some ⟨gN, a * 5, none⟩) := by intro hlt; rw [← hsa, if_neg (by omega)]
  have S2 := hidg (S1.out.step (grown_drewN w1 nq none))
  clear hsa x0 x1 x2 x3 x4 cn S1
  generalize w1.drewN nq = w2 at *
  go_wp2
  go_loopw [1, 38] (fun dst idx wr => ∃ i : Nat, i ≤ b - a ∧ idx = .int .i64 i ∧ Hid (St w wr B v n xs (k :: kidsTo (kid T f k) a i) dst w.heap.size k nS nE a b)) (fun _ idx _ => b - a - (intOf idx).toNat)
  case atStart => exact ⟨0, Nat.zero_le _, rfl, S2.out⟩
  case round =>
    clear S2
    obtain ⟨i, hi2, rfl, S⟩ := hrel
    have hbs : B ≤ wr.heap.size := Nat.le_trans hB S.out.grew.frame.size
    have hE := HE.out.step S.out.grew.frame HA.out
    have hAd := Apart.next HA.out HE.out S.out.grew
    obtain ⟨x0, x1, x2, x3, x4⟩ := S.out.box.cells
    by_cases hlt : i < b - a
    · obtain ⟨n0, n1, n2, n3, n4⟩ := hE.node (a + i) (by omega)
      have hsa := HSA.out (by omega)
      subst hsa
      rw [show 5 * (a + i) = a * 5 + i * 5 by omega] at n0 n1 n2 n3 n4
      generalize hkj : T.kinds.getD (a + i) 0 = kj at *
      generalize hnsj : T.nS.getD (a + i) 0 = nsj at *
      generalize hnej : T.nE.getD (a + i) 0 = nej at *
      generalize hsj : T.st.getD (a + i) 0 = sj at *
      generalize hej : T.en.getD (a + i) 0 = ej at *
      have HJ := hidg (And.intro hkj (And.intro hnsj (And.intro hnej (And.intro hsj hej))))
      have HEr := hidg hE
      have HAd := hidg hAd
      clear hkj hnsj hnej hsj hej hE hAd x1 x2 x3 x4
      have HKJ : Hid (WriteSaid T m cb gN ta nt ct an nn cn f kj sj ej) := by
        have h := HK.out (a + i) (by omega) (by omega)
        rw [HJ.out.1, HJ.out.2.2.2.1, HJ.out.2.2.2.2] at h
        exact h
      have S0 := hidg (S.out.step (World.grownBy_alloc wr (.cells #[.int .u8 kj, .int .i64 nsj, .int .i64 nej, .int .i64 sj, .int .i64 ej] 49) none))
      have C0 := hidg (box_new wr kj nsj nej sj ej)
      have hKle := kidsTo_le (kid T f k) a (b - a) (i + 1) (by omega)
      have hL0 : (k :: kidsTo (kid T f k) a i).length = (kidsTo (kid T f k) a i).length + 1 := rfl
      have hlj : n + (kidsTo (kid T f k) a (b - a)).length + 2 ≤ 70368744177664 := by omega
      clear S
      by_cases hi0 : 0 < i
      · have hnx := kidsTo_next (kid T f k) a i hi0
        by_cases h123 : k = 123
        · subst h123
          have HNJ := hidg (HN.out rfl (a + i) (by omega) (by omega))
          rw [HJ.out.2.1, HJ.out.2.2.1] at HNJ
          have hko := kid_obj T f (a + i)
          rw [HJ.out.1, HJ.out.2.1, HJ.out.2.2.1, HJ.out.2.2.2.1, HJ.out.2.2.2.2] at hko
          rw [hko] at hnx
          have HNX := hidg (congrArg (fun l => (123 : Int) :: l) hnx)
          have hlen := congrArg List.length hnx
          simp only [List.length_append, List.length_cons, List.length_nil] at hlen
          have HNX : Hid (123 :: kidsTo (kid T f 123) a (i + 1) = (((((123 : Int) :: kidsTo (kid T f 123) a i) ++ [44]) ++ quote (sub T.names nsj nej)) ++ [58]) ++ outN T f kj sj ej) := by
            have h := HNX.out
            simp only [List.append_assoc, List.cons_append, List.nil_append] at h ⊢
            exact h
          rw [hlen] at hKle
          clear hnx hko hlen
          go_wp2_with (at_builtin; refine Hid.out ?_)
          refine hidg ?_
          refine wpList_app1g (wr.alloc (.cells #[.int .u8 kj, .int .i64 nsj, .int .i64 nej, .int .i64 sj, .int .i64 ej] 49)) rfl _ _ 22 rfl B 5 i0 (.int .u8 0) 1 Try.underlying22 hi hz0 hz1 hz2 rfl _ _ _ S0.out.own _ _ rfl rfl (by simp) rfl (by unfold maxLen; rw [hL0]; omega) (by rw [hL0]; omega) (by simp; omega) ?_
          intro v3 w3 hown3 hg3
          have S3 := hidg (S0.out.app (p := [44]) hown3 hg3)
          have C3 := hidg (C0.out.step hg3.frame (C0.out.other S0.out.own))
          have hE3 := HE.out.step S3.out.grew.frame HA.out
          have hA3 := Apart.next HA.out HE.out S3.out.grew
          have hbs3 : B ≤ w3.heap.size := Nat.le_trans hB S3.out.grew.frame.size
          have hL3 : (123 :: kidsTo (kid T f 123) a i ++ [44]).length = (kidsTo (kid T f 123) a i).length + 2 := by simp
          clear hown3 hg3 S0 C0
          obtain ⟨y0, y1, y2, y3, y4⟩ := C3.out.cells
          have z0 := S3.out.box.cells.c0
          have HE3 := hidg hE3
          have HA3 := hidg hA3
          clear hE3 hA3
          go_wp2_with fail
          refine (name_any cb kj nsj nej sj ej an nn cn T.names _ HE3.out.cnames HE3.out.names HNJ.out.1 HNJ.out.2.1 (by rw [← HE3.out.names.hlen]; exact HNJ.out.2.2)).mono ?_
          rintro e w4 ⟨a', n', c', rfl, hSl, hwi, hg4⟩
          have S4 := hidg (S3.out.step hg4)
          have C4 := hidg (C3.out.step hg4 (by simp))
          have HSL := hidg hSl
          have HNE : Hid (∀ g, _ = some g → ∀ b off, a' = some ⟨b, off, none⟩ → b ≠ g) := fun g hg b off hb hbg => (HA3.out g hg).2.2.2 (hbg ▸ hwi b off hb)
          have hbs4 : B ≤ w4.heap.size := Nat.le_trans hbs3 hg4.size
          clear hSl hwi hg4
          go_wp2_with fail
          refine (str_any B _ _ _ a' n' c' _ w4 S4.out.own HSL.out HNE.out (sub_bytes _ _ _ HBY.out) (by rw [hL3]; omega) hbs4).mono ?_
          rintro e w5 ⟨v5, rfl, hown5, hg5⟩
          have S5 := hidg (S4.out.app hown5 hg5)
          have C5 := hidg (C4.out.step hg5.frame (C4.out.other S4.out.own))
          have hbs5 : B ≤ w5.heap.size := Nat.le_trans hbs4 hg5.frame.size
          clear hown5 hg5 S4 C4 S3 C3 HSL HNE
          go_wp2_with (at_builtin; refine Hid.out ?_)
          refine hidg ?_
          refine wpList_app1 w5 rfl _ _ 22 rfl B 5 i0 (.int .u8 0) 1 Try.underlying22 hi hz0 hz1 hz2 rfl _ _ _ S5.out.own _ rfl rfl rfl (by unfold maxLen; rw [List.length_append, hL3]; omega) (by rw [List.length_append, hL3]; omega) hbs5 ?_
          intro v6 w6 hown6 hg6
          have S6 := hidg (S5.out.app (p := [58]) hown6 hg6)
          have C6 := hidg (C5.out.step hg6.frame (C5.out.other S5.out.own))
          have HE6 := hidg (HE.out.step S6.out.grew.frame HA.out)
          have HA6 := hidg (Apart.next HA.out HE.out S6.out.grew)
          have hbs6 : B ≤ w6.heap.size := Nat.le_trans hbs5 hg6.frame.size
          clear hown6 hg6 S5 C5
          obtain ⟨q0, q1, q2, q3, q4⟩ := C6.out.cells
          go_wp2_with fail
          refine (HKJ.out nsj nej B _ _ _ _ HE6.out S6.out.own hbs6 HA6.out (by rw [List.length_append, List.length_append, hL3]; simp only [List.length_cons, List.length_nil]; omega)).mono ?_
          rintro e w7 ⟨v7, rfl, hown7, hg7⟩
          have S7 := hidg (S6.out.app hown7 hg7)
          clear hown7 hg7 S6 C6 HKJ
          go_wp2
          go_roundw
          case rel => exact ⟨i + 1, by omega, by go_num, by rw [HNX.out]; exact S7.out⟩
          case measure => simp [intOf]; omega
        · have hk91 : (k == 123) = false := by simp [h123]
          have hko := kid_arr T f k (a + i) h123
          rw [HJ.out.1, HJ.out.2.2.2.1, HJ.out.2.2.2.2] at hko
          rw [hko] at hnx
          have HNX := hidg (congrArg (fun l => k :: l) hnx)
          have hlen := congrArg List.length hnx
          simp only [List.length_append, List.length_cons, List.length_nil] at hlen
          clear h123
          have HNX : Hid (k :: kidsTo (kid T f k) a (i + 1) = ((k :: kidsTo (kid T f k) a i) ++ [44]) ++ outN T f kj sj ej) := by
            have h := HNX.out
            simp only [List.append_assoc, List.cons_append, List.nil_append] at h ⊢
            exact h
          rw [hlen] at hKle
          clear hnx hko hlen
          go_wp2_with (at_builtin; refine Hid.out ?_)
          refine hidg ?_
          refine wpList_app1g (wr.alloc (.cells #[.int .u8 kj, .int .i64 nsj, .int .i64 nej, .int .i64 sj, .int .i64 ej] 49)) rfl _ _ 22 rfl B 5 i0 (.int .u8 0) 1 Try.underlying22 hi hz0 hz1 hz2 rfl _ _ _ S0.out.own _ _ rfl rfl (by simp) rfl (by unfold maxLen; rw [hL0]; omega) (by rw [hL0]; omega) (by simp; omega) ?_
          intro v3 w3 hown3 hg3
          have S3 := hidg (S0.out.app (p := [44]) hown3 hg3)
          have C3 := hidg (C0.out.step hg3.frame (C0.out.other S0.out.own))
          have hE3 := HE.out.step S3.out.grew.frame HA.out
          have hA3 := Apart.next HA.out HE.out S3.out.grew
          have hbs3 : B ≤ w3.heap.size := Nat.le_trans hB S3.out.grew.frame.size
          have hL3 : (k :: kidsTo (kid T f k) a i ++ [44]).length = (kidsTo (kid T f k) a i).length + 2 := by simp
          clear hown3 hg3 S0 C0
          obtain ⟨y0, y1, y2, y3, y4⟩ := C3.out.cells
          have z0 := S3.out.box.cells.c0
          have HE3 := hidg hE3
          have HA3 := hidg hA3
          clear hE3 hA3
          go_wp2_with fail
          refine (HKJ.out nsj nej B _ _ _ _ HE3.out S3.out.own hbs3 HA3.out (by rw [hL3]; omega)).mono ?_
          rintro e w4 ⟨v4, rfl, hown4, hg4⟩
          have S4 := hidg (S3.out.app hown4 hg4)
          clear hown4 hg4 S3 C3 HKJ
          go_wp2
          go_roundw
          case rel => exact ⟨i + 1, by omega, by go_num, by rw [HNX.out]; exact S4.out⟩
          case measure => simp [intOf]; omega
      · have hnx := kidsTo_first (kid T f k) a i hi0
        by_cases h123 : k = 123
        · subst h123
          have HNJ := hidg (HN.out rfl (a + i) (by omega) (by omega))
          rw [HJ.out.2.1, HJ.out.2.2.1] at HNJ
          have hko := kid_obj T f (a + i)
          rw [HJ.out.1, HJ.out.2.1, HJ.out.2.2.1, HJ.out.2.2.2.1, HJ.out.2.2.2.2] at hko
          rw [hko] at hnx
          have HNX := hidg (congrArg (fun l => (123 : Int) :: l) hnx)
          have hlen := congrArg List.length hnx
          simp only [List.length_append, List.length_cons, List.length_nil] at hlen
          have HNX : Hid (123 :: kidsTo (kid T f 123) a (i + 1) = ((((123 : Int) :: kidsTo (kid T f 123) a i) ++ quote (sub T.names nsj nej)) ++ [58]) ++ outN T f kj sj ej) := by
            have h := HNX.out
            simp only [List.append_assoc, List.cons_append, List.nil_append] at h ⊢
            exact h
          rw [hlen] at hKle
          clear hnx hko hlen
          have hE3 := HE.out.step S0.out.grew.frame HA.out
          have hA3 := Apart.next HA.out HE.out S0.out.grew
          have hbs3 : B ≤ (wr.alloc (.cells #[.int .u8 kj, .int .i64 nsj, .int .i64 nej, .int .i64 sj, .int .i64 ej] 49)).heap.size := Nat.le_trans hB S0.out.grew.frame.size
          have S3 := S0
          have C3 := C0
          have hL3 := hL0
          clear S0 C0 HEr HAd
          have z0 := S3.out.box.cells.c0
          have HE3 := hidg hE3
          have HA3 := hidg hA3
          clear hE3 hA3
          go_wp2_with fail
          refine (name_any cb kj nsj nej sj ej an nn cn T.names _ HE3.out.cnames HE3.out.names HNJ.out.1 HNJ.out.2.1 (by rw [← HE3.out.names.hlen]; exact HNJ.out.2.2)).mono ?_
          rintro e w4 ⟨a', n', c', rfl, hSl, hwi, hg4⟩
          have S4 := hidg (S3.out.step hg4)
          have C4 := hidg (C3.out.step hg4 (by simp))
          have HSL := hidg hSl
          have HNE : Hid (∀ g, _ = some g → ∀ b off, a' = some ⟨b, off, none⟩ → b ≠ g) := fun g hg b off hb hbg => (HA3.out g hg).2.2.2 (hbg ▸ hwi b off hb)
          have hbs4 : B ≤ w4.heap.size := Nat.le_trans hbs3 hg4.size
          clear hSl hwi hg4
          go_wp2_with fail
          refine (str_any B _ _ _ a' n' c' _ w4 S4.out.own HSL.out HNE.out (sub_bytes _ _ _ HBY.out) (by rw [hL3]; omega) hbs4).mono ?_
          rintro e w5 ⟨v5, rfl, hown5, hg5⟩
          have S5 := hidg (S4.out.app hown5 hg5)
          have C5 := hidg (C4.out.step hg5.frame (C4.out.other S4.out.own))
          have hbs5 : B ≤ w5.heap.size := Nat.le_trans hbs4 hg5.frame.size
          clear hown5 hg5 S4 C4 S3 C3 HSL HNE
          go_wp2_with (at_builtin; refine Hid.out ?_)
          refine hidg ?_
          refine wpList_app1 w5 rfl _ _ 22 rfl B 5 i0 (.int .u8 0) 1 Try.underlying22 hi hz0 hz1 hz2 rfl _ _ _ S5.out.own _ rfl rfl rfl (by unfold maxLen; rw [List.length_append, hL3]; omega) (by rw [List.length_append, hL3]; omega) hbs5 ?_
          intro v6 w6 hown6 hg6
          have S6 := hidg (S5.out.app (p := [58]) hown6 hg6)
          have C6 := hidg (C5.out.step hg6.frame (C5.out.other S5.out.own))
          have HE6 := hidg (HE.out.step S6.out.grew.frame HA.out)
          have HA6 := hidg (Apart.next HA.out HE.out S6.out.grew)
          have hbs6 : B ≤ w6.heap.size := Nat.le_trans hbs5 hg6.frame.size
          clear hown6 hg6 S5 C5
          obtain ⟨q0, q1, q2, q3, q4⟩ := C6.out.cells
          go_wp2_with fail
          refine (HKJ.out nsj nej B _ _ _ _ HE6.out S6.out.own hbs6 HA6.out (by rw [List.length_append, List.length_append, hL3]; simp only [List.length_cons, List.length_nil]; omega)).mono ?_
          rintro e w7 ⟨v7, rfl, hown7, hg7⟩
          have S7 := hidg (S6.out.app hown7 hg7)
          clear hown7 hg7 S6 C6 HKJ
          go_wp2
          go_roundw
          case rel => exact ⟨i + 1, by omega, by go_num, by rw [HNX.out]; exact S7.out⟩
          case measure => simp [intOf]; omega
        · have hk91 : (k == 123) = false := by simp [h123]
          have hko := kid_arr T f k (a + i) h123
          rw [HJ.out.1, HJ.out.2.2.2.1, HJ.out.2.2.2.2] at hko
          rw [hko] at hnx
          have HNX := hidg (congrArg (fun l => k :: l) hnx)
          have hlen := congrArg List.length hnx
          simp only [List.length_append, List.length_cons, List.length_nil] at hlen
          clear h123
          have HNX : Hid (k :: kidsTo (kid T f k) a (i + 1) = (k :: kidsTo (kid T f k) a i) ++ outN T f kj sj ej) := by
            have h := HNX.out
            simp only [List.append_assoc, List.cons_append, List.nil_append] at h ⊢
            exact h
          rw [hlen] at hKle
          clear hnx hko hlen
          have hE3 := HE.out.step S0.out.grew.frame HA.out
          have hA3 := Apart.next HA.out HE.out S0.out.grew
          have hbs3 : B ≤ (wr.alloc (.cells #[.int .u8 kj, .int .i64 nsj, .int .i64 nej, .int .i64 sj, .int .i64 ej] 49)).heap.size := Nat.le_trans hB S0.out.grew.frame.size
          have S3 := S0
          have C3 := C0
          have hL3 := hL0
          clear S0 C0 HEr HAd
          have z0 := S3.out.box.cells.c0
          have HE3 := hidg hE3
          have HA3 := hidg hA3
          clear hE3 hA3
          go_wp2_with fail
          refine (HKJ.out nsj nej B _ _ _ _ HE3.out S3.out.own hbs3 HA3.out (by rw [hL3]; omega)).mono ?_
          rintro e w4 ⟨v4, rfl, hown4, hg4⟩
          have S4 := hidg (S3.out.app hown4 hg4)
          clear hown4 hg4 S3 C3 HKJ
          go_wp2
          go_roundw
          case rel => exact ⟨i + 1, by omega, by go_num, by rw [HNX.out]; exact S4.out⟩
          case measure => simp [intOf]; omega
    · obtain rfl : i = b - a := by omega
      have hL0 : (k :: kidsTo (kid T f k) a (b - a)).length = (kidsTo (kid T f k) a (b - a)).length + 1 := rfl
      clear hE hAd x1 x2 x3 x4
      by_cases h123 : k = 123
      · subst h123
        go_wp2_with (at_builtin; refine Hid.out ?_)
        refine hidg ?_
        refine wpList_app1 wr rfl _ _ 22 rfl B 5 i0 (.int .u8 0) 1 Try.underlying22 hi hz0 hz1 hz2 rfl _ _ _ S.out.own _ rfl rfl rfl (by unfold maxLen; rw [hL0]; omega) (by rw [hL0]; omega) hbs ?_
        intro v3 w3 hown3 hg3
        have S3 := hidg (S.out.app (p := [125]) hown3 hg3)
        clear hown3 hg3 S
        go_wp2
        go_ret
        refine ⟨v3, rfl, ?_, S3.out.grew⟩
        have h := S3.out.own
        rw [← HFIN.out]
        simpa [clo] using h
      · have hk91 : (k == 123) = false := by simp [h123]
        have HCL : Hid (clo k = 93) := by simp [clo, h123, Hid]
        clear h123
        go_wp2_with (at_builtin; refine Hid.out ?_)
        refine hidg ?_
        refine wpList_app1 wr rfl _ _ 22 rfl B 5 i0 (.int .u8 0) 1 Try.underlying22 hi hz0 hz1 hz2 rfl _ _ _ S.out.own _ rfl rfl rfl (by unfold maxLen; rw [hL0]; omega) (by rw [hL0]; omega) hbs ?_
        intro v3 w3 hown3 hg3
        have S3 := hidg (S.out.app (p := [93]) hown3 hg3)
        clear hown3 hg3 S
        go_wp2
        go_ret
        refine ⟨v3, rfl, ?_, S3.out.grew⟩
        have h := S3.out.own
        rw [← HFIN.out, HCL.out]
        simpa using h
end Go.Proofs.Qxb6603741a

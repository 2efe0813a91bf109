import Derived.Test.Qxb6604255aW4
namespace Go.Proofs.Qxb6604255a
open Go.RowKit
set_option linter.unusedVariables false

/-- The ints of C lie in the row cb. -/
def ListAt (w : World) (cb : Nat) (C : List Nat) : Prop := ∀ j, j < C.length → w.cell? ⟨cb, j, none⟩ = some (.int .i64 ((C.getD j 0 : Nat) : Int))
theorem ListAt.step {w w' : World} {cb : Nat} {C : List Nat} (h : ListAt w cb C) (hg : w.grownBy w' none) : ListAt w' cb C := fun j hj => hg.cell (h j hj) (by simp)
theorem ListAt.lt {w : World} {cb : Nat} {C : List Nat} (h : ListAt w cb C) (hp : 0 < C.length) : cb < w.heap.size := World.block_lt_of_cell? _ _ (h 0 hp)
theorem take_mem {C : List Nat} (hn : C.Nodup) (i : Nat) (hi : i < C.length) : C.getD i 0 ∉ C.take i := by
  intro hm
  obtain ⟨j, hj, hx⟩ := List.getElem_of_mem hm
  have hj' : j < i := by simp at hj; omega
  have e1 : C.getD i 0 = C[i] := by rw [List.getD_eq_getElem?_getD, List.getElem?_eq_getElem hi]; rfl
  rw [e1, List.getElem_take] at hx
  have := (List.getElem_inj hn).1 hx
  omega
theorem take_upd {C : List Nat} (i : Nat) (hi : i < C.length) : upd (fun v => decide (v ∈ C.take i)) (C.getD i 0) true = fun v => decide (v ∈ C.take (i + 1)) := by
  have e1 : C.getD i 0 = C[i] := by rw [List.getD_eq_getElem?_getD, List.getElem?_eq_getElem hi]; rfl
  funext v
  rw [List.take_add_one, List.getElem?_eq_getElem hi, e1]
  unfold upd
  by_cases hv : v = C[i]
  · rw [if_pos hv, hv]
    exact (decide_eq_true (List.mem_append.2 (.inr (by simp)))).symm
  · rw [if_neg hv]
    have : (v ∈ C.take i ++ (some C[i]).toList) ↔ v ∈ C.take i := by
      rw [List.mem_append]
      exact ⟨fun h => h.elim id (fun h => absurd (by simpa using h) hv), .inl⟩
    simp only [this]

def BoolEnd (b : Bool) (w : World) (e' : Ending) (w' : World) : Prop := e' = .returned (.bool b) ∧ w.grownBy w' none

theorem Apart.new {G : Gr} {w w1 : World} {fa sa : Option Addr} {fc ns sc : Nat} (h : GrAt G w fa sa fc ns sc) (g : Nat) (hg : w.heap.size ≤ g) (h0 : 0 < ns ∨ sa = none ∨ True) : (∀ b off, fa = some ⟨b, off, none⟩ → b ≠ g) := by
  intro b off e
  obtain ⟨b', off', e', hc⟩ := h.F.cells (by omega)
  rw [e] at e'
  cases e'
  have := World.block_lt_of_cell? _ _ (hc 0 (by omega))
  simp only at this
  omega

set_option maxHeartbeats 6400000 in
set_option maxRecDepth 100000 in
theorem valid11 (G : Gr) (C : List Nat) (cb cc : Nat) (fa sa : Option Addr) (fc ns sc : Nat) (w : World) (hG : GrAt G w fa sa fc ns sc) (hC : ListAt w cb C) (hV : G.Valid C) (hsb : ∀ b off, sa = some ⟨b, off, none⟩ → b < w.heap.size) (hCl : C.length ≤ 5000) :
    Calls Try.prog 11 #[.slice (some ⟨cb, 0, none⟩) C.length cc, .int .i64 G.nreal, .slice fa (G.n + 1) fc, .slice sa ns sc] w fun e' w' => BoolEnd true w e' w' := by
  obtain ⟨i0, hi0, hz0, hz1, hz2⟩ := info_parts Try.info3
  obtain ⟨i4, hi4, hy0, hy1, hy2⟩ := info_parts Try.info4
  have HG := hidg hG
  have HC := hidg hC
  have HV := hidg hV
  have HSB := hidg hsb
  have hnn := hG.hn
  have hns := hG.hs
  have hpos := hV.pos
  have hcb := hC.lt hpos
  have hre := hG.ok.real
  have HFB : Hid (∀ b off, fa = some ⟨b, off, none⟩ → b < w.heap.size) := by
    intro b off e
    obtain ⟨b', off', e', hc⟩ := hG.F.cells (by omega)
    rw [e] at e'
    cases e'
    exact World.block_lt_of_cell? _ _ (hc 0 (by omega))
  clear hG hC hV hsb
  have bk : ((C.length : Int) == 0) = false := by rw [beq_eq_false_iff_ne]; omega
  go_enter Try.func11, Try.ntmps11
  go_wp2_with (at_make; refine Hid.out ?_)
  refine hidg ?_
  refine wpList_make_full _ rfl _ _ 31 rfl w.heap.size 4 i4 (.bool false) 1 Try.underlying31 hi4 hy0 hy1 _ _ _ _ G.n rfl rfl rfl rfl (by rw [hy2]; omega) (by unfold maxLen; omega) (Nat.le_refl _) ?_
  intro w1 hown1 hgrow1
  have B1 := hidg (br_new hown1)
  have HG1 := hidg hgrow1
  have hs1 := hgrow1.size
  clear hown1 hgrow1
  go_wp2
  go_loopg [12] C.length (fun q iv wr => ∃ i : Nat, i ≤ C.length ∧ q = C.length - i ∧ iv = .int .i64 i ∧ Hid (BR wr w.heap.size G.n (fun v => decide (v ∈ C.take i)) ∧ w.grownBy wr none))
  case atStart => exact ⟨0, Nat.zero_le _, rfl, rfl, by simpa using B1.out, HG1.out⟩
  case round =>
    clear B1 HG1 hs1
    obtain ⟨i, hi, rfl, rfl, HX⟩ := hrel
    by_cases hlt : i < C.length
    · have ci := HX.out.2.cell (HC.out i hlt) (by simp)
      have c0 := HX.out.2.cell (HC.out 0 hpos) (by simp)
      have hxr := HV.out.real _ (getD_mem hlt)
      have hx0 := HV.out.small _ (getD_mem hlt)
      have hbc := HX.out.1.cell (C.getD i 0) (by omega)
      have hbf := Rw.free HX.out.1 (C.getD i 0) (by omega)
      have hfalse : decide (C.getD i 0 ∈ C.take i) = false := decide_eq_false (take_mem HV.out.nodup i hlt)
      rw [hfalse] at hbc
      have R : Hid (BR (wr.setCell ⟨w.heap.size, C.getD i 0, none⟩ (.bool true)) w.heap.size G.n (fun v => decide (v ∈ C.take (i + 1))) ∧ w.grownBy (wr.setCell ⟨w.heap.size, C.getD i 0, none⟩ (.bool true)) none) := by
        refine ⟨?_, grown_set HX.out.2 _ _ (Nat.le_refl _)⟩
        have := HX.out.1.set (C.getD i 0) (by omega) true
        rw [take_upd i hlt] at this
        exact this
      have c0' : (wr.setCell ⟨w.heap.size, C.getD i 0, none⟩ (.bool true)).cell? ⟨cb, 0, none⟩ = some (.int .i64 ((C.getD 0 0 : Nat) : Int)) := by rw [set_oblk _ (by omega)]; exact c0
      have hdx : ((C.getD i 0 : Nat) : Int) < G.n := by omega
      have hil : (i : Int) < C.length := by omega
      clear HX hfalse c0
      generalize C.getD i 0 = x at *
      generalize C.getD 0 0 = x0 at *
      go_wp2
      go_roundg (C.length - (i + 1))
      case rel => exact ⟨i + 1, by omega, rfl, by go_num, R.out⟩
      case measure => omega
    · obtain rfl : i = C.length := by omega
      have HGa := hidg HX.out.2
      have hsa := HX.out.2.size
      clear HX
      go_wp2_with (at_make; refine Hid.out ?_)
      refine hidg ?_
      refine wpList_make_full _ rfl _ _ 26 rfl wr.heap.size 3 i0 (.int .i64 0) 1 Try.underlying26 hi0 hz0 hz1 _ _ _ _ G.n rfl rfl rfl rfl (by rw [hz2]; omega) (by unfold maxLen; omega) (Nat.le_refl _) ?_
      intro w2 hown2 hgrow2
      have M2 := hidg (ir_new hown2)
      have HG2 := hidg (grown_step HGa.out hgrow2)
      clear hown2 hgrow2 HGa
      generalize hmg : wr.heap.size = mg at *
      have HWR := hidg hmg
      clear hmg
      go_wp2
      go_loopg [15] C.length (fun q iv wr => ∃ i : Nat, i ≤ C.length ∧ q = C.length - i ∧ iv = .int .i64 i ∧ Hid ((∃ M, IR wr .i64 mg G.n M ∧ ∀ v, v < G.n → M v ≤ (i : Int)) ∧ w.grownBy wr none))
      case atStart => exact ⟨0, Nat.zero_le _, rfl, rfl, ⟨_, M2.out, fun v _ => Int.le_refl _⟩, HG2.out⟩
      case round =>
        clear M2 HG2 HWR
        obtain ⟨i, hi, rfl, rfl, HX⟩ := hrel
        by_cases hlt : i < C.length
        · obtain ⟨⟨M, hM, hMi⟩, hg⟩ := HX.out
          have ci := hg.cell (HC.out i hlt) (by simp)
          have c0 := hg.cell (HC.out 0 hpos) (by simp)
          have hxr := HV.out.real _ (getD_mem hlt)
          have hxn : C.getD i 0 < G.n := by omega
          have hil : (i : Int) < C.length := by omega
          have hap : Apart fa sa mg := ⟨fun b off e => by have := HFB.out b off e; omega, fun b off e => by have := HSB.out b off e; omega⟩
          have hGr := HG.out.step0 hg
          have hlk := HV.out.link i hlt
          by_cases h1 : i + 1 < C.length
          · have ci1 := hg.cell (HC.out (i + 1) h1) (by simp)
            rw [Nat.mod_eq_of_lt h1] at hlk
            have hil1 : (i : Int) + 1 < C.length := by omega
            have E := hidg (And.intro hM (And.intro hMi (And.intro hg (And.intro hap (And.intro hGr hlk)))))
            clear HX hM hMi hg hap hGr hlk hxr
            generalize C.getD i 0 = x at *
            generalize C.getD (i + 1) 0 = y at *
            go_wp2_with fail
            refine (linked17 G x y ((i : Int) + 1) M mg fa sa fc ns sc G.n wr E.out.2.2.2.2.1 hxn E.out.1 (fun v hv => by have := E.out.2.1 v hv; omega) E.out.2.2.2.1 (by omega)).mono ?_
            rintro e w4 ⟨β, rfl, hβ, hM', hg'⟩
            obtain rfl : β = true := hβ E.out.2.2.2.2.2
            have E4 := hidg (And.intro hM' hg')
            clear hβ hM' hg'
            go_wp2
            go_roundg (C.length - (i + 1))
            case rel =>
              refine ⟨i + 1, by omega, rfl, by go_num, ?_, grown_new E.out.2.2.1 E4.out.2 (by omega)⟩
              obtain ⟨M', h3, h4⟩ := E4.out.1
              refine ⟨M', h3, fun v hv => ?_⟩
              have h5 := E.out.2.1 v hv
              rcases h4 v hv with h6 | h6 <;> omega
            case measure => omega
          · rw [show i + 1 = C.length by omega, Nat.mod_self] at hlk
            have hil1 : ¬ (i : Int) + 1 < C.length := by omega
            have E := hidg (And.intro hM (And.intro hMi (And.intro hg (And.intro hap (And.intro hGr hlk)))))
            clear HX hM hMi hg hap hGr hlk hxr
            generalize hxx : C.getD i 0 = x at *
            generalize hyy : C.getD 0 0 = y at *
            clear hxx hyy
            go_wp2_with fail
            refine (linked17 G x y ((i : Int) + 1) M mg fa sa fc ns sc G.n wr E.out.2.2.2.2.1 hxn E.out.1 (fun v hv => by have := E.out.2.1 v hv; omega) E.out.2.2.2.1 (by omega)).mono ?_
            rintro e w4 ⟨β, rfl, hβ, hM', hg'⟩
            obtain rfl : β = true := hβ E.out.2.2.2.2.2
            have E4 := hidg (And.intro hM' hg')
            clear hβ hM' hg'
            go_wp2
            go_roundg (C.length - (i + 1))
            case rel =>
              refine ⟨i + 1, by omega, rfl, by go_num, ?_, grown_new E.out.2.2.1 E4.out.2 (by omega)⟩
              obtain ⟨M', h3, h4⟩ := E4.out.1
              refine ⟨M', h3, fun v hv => ?_⟩
              have h5 := E.out.2.1 v hv
              rcases h4 v hv with h6 | h6 <;> omega
            case measure => omega
        · obtain rfl : i = C.length := by omega
          go_wp2
          go_ret
          exact ⟨rfl, HX.out.2⟩
end Go.Proofs.Qxb6604255a

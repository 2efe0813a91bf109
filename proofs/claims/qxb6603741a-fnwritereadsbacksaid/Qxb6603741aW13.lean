import Derived.Test.Qxb6603741aW12
namespace Go.Proofs.Qxb6603741a
open Go.RowKit

theorem out_head {T : Tree} {m f : Nat} {k s e : Int} (h : NodeOK T m f k s e) (ht : k = 0 → Tok (sub T.text s e)) : outN T f k s e ≠ [] ∧ (outN T f k s e).getD 0 0 ≠ 93 := by
  cases f with
  | zero => have := h.fuel; omega
  | succ f =>
    by_cases hk : k = 0
    · subst hk
      rw [outN_scalar]
      have htk := ht rfl
      refine ⟨List.length_pos_iff.1 htk.pos, ?_⟩
      by_cases h34 : (sub T.text s e).getD 0 0 = 34
      · rw [h34]; decide
      · exact (htk.other h34 0 htk.pos).2.2.1
    · rw [outN_cont T f k s e hk]
      refine ⟨by simp, ?_⟩
      have := h.kind
      simp only [List.getD_cons_zero]
      omega

theorem read_all (T : Tree) (m tb : Nat) (A : Lay) (oa : Option Addr) (no oc : Nat) (O : List Int) (hm : m ≤ 1048576) (hT : Shape T m) (hby : ∀ j, 0 ≤ T.names.getD j 0 ∧ T.names.getD j 0 ≤ 255)
    (htk : ∀ j, j < m → T.kinds.getD j 0 = 0 → Tok (sub T.text (T.st.getD j 0) (T.en.getD j 0))) (hne : ∀ j, j < m → T.kinds.getD j 0 = 0 → T.st.getD j 0 < T.en.getD j 0) :
    ∀ f k s e, NodeOK T m f k s e → (k = 0 → Tok (sub T.text s e)) → ReadSaid T m tb A oa no oc O f k s e := by
  intro f
  induction f with
  | zero => intro k s e h; have := h.fuel; omega
  | succ f ih =>
    intro k s e h ht
    by_cases hk : k = 0
    · subst hk
      obtain ⟨h0, h1, h2⟩ := h.scal rfl
      exact read_scalar T m tb A oa no oc O f s e h0 h1 h2 (ht rfl)
    · have hc := h.cont hk
      have hjm : ∀ j, j < e.toNat → j < m := fun j hj => by omega
      have hkids : ∀ j, s.toNat ≤ j → j < e.toNat → ReadSaid T m tb A oa no oc O f (T.kinds.getD j 0) (T.st.getD j 0) (T.en.getD j 0) :=
        fun j h1 h2 => ih _ _ _ (kid_ok hT hne h hk j h1 h2) (fun h0 => htk j (hjm j h2) h0)
      have hhead := fun j h1 h2 => out_head (kid_ok hT hne h hk j h1 h2) (fun h0 => htk j (hjm j h2) h0)
      have hkk : k = 91 ∨ k = 123 := by have := h.kind; omega
      rcases hkk with hkk | hkk
      · exact read_arr T hby m tb A oa no oc O f k s e hkk hm hc.1 hc.2.1 hc.2.2.1 hkids hhead h.nam
      · exact read_obj T hby m tb A oa no oc O f k s e hkk hm hc.1 hc.2.1 hc.2.2.1 hkids hhead h.nam
end Go.Proofs.Qxb6603741a

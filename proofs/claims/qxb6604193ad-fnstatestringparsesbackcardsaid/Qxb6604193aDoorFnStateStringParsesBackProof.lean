import Derived.Test.Qxb6604193aDoorW4
import Derived.Test.Qxb6604193aDoorTie
import Derived.Test.Qxb6604193aDoorCards
import Derived.ProofKit
import Derived.OpenShut
import Derived.LaidLaws
import Derived.Lib.LaidTab
import Derived.Lib.LaidIn
import Derived.Stop.LaidErr
import Derived.SevenTiedAt
namespace Go.Proofs.Qxb6604193aDoor.fnStateStringParsesBack
open Go.ChangeShapes Go.WideShapes Go.ChangeAt Go.RowKit
theorem own : ownKnob Tryd.prog.godebug = none := by kernel_rfl
theorem gT : Tryd.prog.globalNamed "internal/strconv.uint64pow10" = some 0 := by kernel_rfl
theorem gTT : (Tryd.prog.globals[0]?).map (·.type) = some 38 := by kernel_rfl
theorem tab_eq : (Rows.laid_internal_strconv_uint64pow10 : DataW Unit) = Lib.tabData .u64 Lib.pow10Tab := by kernel_rfl
def laid3 : List (String × DataW Unit) := [("math/bits.deBruijn32tab", Rows.laid_math_bits_deBruijn32tab), ("math/bits.deBruijn64tab", Rows.laid_math_bits_deBruijn64tab), ("internal/strconv.uint64pow10", Rows.laid_internal_strconv_uint64pow10)]
/-- The cells of a table as the row lists it. -/
def cellsAt : DataW Unit → Array Value
  | .agg l => (l.map fun | .lit x => x.value | _ => .bool false).toArray
  | _ => #[]
/-- One start that fits: the settled world, the three tables laid. -/
def laidWorld (P : Program) (os : Os) : World :=
  let w0 := World.holding P os ⟨#[], #[], []⟩
  { w0 with heap := ((w0.heap.modify 0 fun
      | .cells _ t frozen => .cells (cellsAt Rows.laid_internal_strconv_uint64pow10) t frozen
      | o => o).modify 1 fun
      | .cells _ t frozen => .cells (cellsAt Rows.laid_math_bits_deBruijn32tab) t frozen
      | o => o).modify 2 fun
      | .cells _ t frozen => .cells (cellsAt Rows.laid_math_bits_deBruijn64tab) t frozen
      | o => o }
theorem laid_met (os : Os) (args : Array Value) : laidMet Tryd.prog laid3 ((laidWorld Tryd.prog os).forCall (fun _ _ => 0) ⟨#[], args, []⟩).memory :=
  (LaidIn.of_run [0, 1, 2] 8 (by kernel_rfl) (by kernel_rfl) (by kernel_rfl) (by kernel_rfl)).met

set_option maxRecDepth 100000 in
theorem lifted (os : Os) (started : os.Started) (H : Type) (enc : TypeId × Value → H) :
    ReturnsInHanded {} Tryd.checked os 3 .any (fun w args => (Rows.fnStateStringParsesBackSpec.pre enc Tryd.prog Tryd.f3 Rows.fnStateStringParsesBackRow.domain false w args ∧ laidMet Tryd.prog laid3 w) ∧ sizedMet enc Tryd.prog Tryd.f3 (OpenSpec.ofChange Rows.fnStateStringParsesBackSpec) false w args)
      (Rows.fnStateStringParsesBackSpec.post enc Tryd.prog Tryd.f3 false true false false) := by
  refine returnsInHanded_of_change_and (C := Tryd.checked) (X := fun w _ => laidMet Tryd.prog laid3 w) (fun _ _ _ hh h => h.of_heap hh) own started (by kernel_rfl) Tryd.func3
    (ChangeSpec.witness_at (enc := enc) (C := Tryd.checked) (os := os) (X := fun w _ => laidMet Tryd.prog laid3 w) false (laidWorld Tryd.prog os) #[.int .i64 0] 8 rfl (by kernel_rfl) (by kernel_rfl) (by kernel_rfl) (by kernel_rfl) (by kernel_rfl) (laid_met os _)) ?_
  intro W base args ds gs before hval0 hW _ _ hL _
  have hval : ∀ (j : Nat) t v, Tryd.f3.params[j]? = some t → args[j]? = some v → Value.okWide Tryd.prog W .any base t v := hval0
  have hW' := hW
  obtain ⟨p, q, hA0, hV, rfl, _, _⟩ := hW
  have hA : DataW.TrodAll enc Tryd.prog W 0 (fun _ => true) true Tryd.f3.params.toList args.toList ds p := hA0
  rw [Tryd.params3] at hA hval
  obtain ⟨v0, d0, rfl, rfl, h0⟩ := trodAll_one hA
  obtain ⟨rfl, rfl⟩ := trodVars_none hV
  obtain ⟨n, rfl, rfl, rfl, wn⟩ := open_int Tryd.underlying3 (hval 0 3 v0 rfl rfl) h0
  clear hA0 hval0
  simp only [List.append_nil] at hW'
  have hb := bounds_i64 wn
  have hL2 : laidMet Tryd.prog [("internal/strconv.uint64pow10", Lib.tabData .u64 Lib.pow10Tab)] W := by
    have h3 : laidMet Tryd.prog [("internal/strconv.uint64pow10", Rows.laid_internal_strconv_uint64pow10)] W := hL.tail.tail
    rwa [tab_eq] at h3
  have htab : Lib.TabIs Tryd.prog W "internal/strconv.uint64pow10" .u64 Lib.pow10Tab := Lib.tabIs_of_head gT gTT Tryd.underlying38 Tryd.underlying27 (by kernel_rfl) (by kernel_rfl) hL2
  refine (law_any n hb.1 hb.2 W htab).mono fun e W' ⟨he, bel⟩ => ?_
  subst he
  exact ⟨_, rfl, _, _, _, [], [], [], hW', trodAll_mk1 (shut_bool Tryd.underlying4 _), trodAll_mk1 (shut_int Tryd.underlying3 wn), rfl, bel.frame _, fun h => by cases h⟩

theorem row_holds : Rows.FnStateStringParsesBackSaid :=
  OpenClaim.holds_of_wide 3 Tryd.f3 rfl rfl rfl rfl rfl rfl rfl ⟨rfl, rfl, rfl, rfl, rfl⟩ rfl rfl rfl rfl rfl (by kernel_rfl) Tryd.func3 (by kernel_rfl)
    (of_decide_eq_true (by kernel_rfl)) (by unfold Func.isWrapper; first | (rw [if_pos (by decide +kernel)]; kernel_rfl) | (rw [if_neg (by decide +kernel)]; exact ⟨rfl, rfl⟩))
    (fun os started H enc _ => lifted os started H enc)

/-- The card. -/
theorem proved : Rows.FnStateStringParsesBackCardSaid :=
  Claim7.holds_tied_plain_at .later [] [.data, .data, .data] true (true, "57b13394c586081c287f917471a3b8aad29a9856c5bac12b51a419eabe3ac5f4") false
    row_holds (fun _ h => by cases h) (by kernel_rfl) (fun _ h => by cases h) fnStateStringParsesBack_row_tie rfl ⟨rfl, rfl⟩ (by kernel_rfl) rfl
    (fun f fn hf hfn => by
      obtain rfl : f = 3 := Option.some.inj ((show Tryd.prog.funcNamed Rows.fnStateStringParsesBackRow.func = some 3 by kernel_rfl).symm.trans hf) |>.symm
      obtain rfl : fn = Tryd.f3 := (Option.some.inj (Tryd.func3.symm.trans hfn)).symm
      exact ⟨by kernel_rfl, fun j t ht => by
        rw [Tryd.params3] at ht
        have h3 : t = 3 := by
          rcases j with _ | j
          · simpa using ht.symm
          · simp at ht
        subst h3
        exact (show Tryd.prog.wantsStandIn 3 = false by kernel_rfl)⟩)
    (by kernel_rfl)
#print axioms proved
end Go.Proofs.Qxb6604193aDoor.fnStateStringParsesBack

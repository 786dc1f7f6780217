/-
  THE ROW of FnEnterKeepsOnPathAtAStepOfItsKey (function 5), seat b6604453a: out of the walk.
-/
import Derived.Test.Qxb6604453aStep
import Derived.WalkKit
import Derived.ProofKit
import Derived.OpenShut
import Derived.ShutString
import Derived.ChangeOld
import Derived.Below
namespace Go.Proofs.Qxb6604453a.fnEnterKeepsOnPathAtAStepOfItsKey
open Go.ChangeShapes Go.WideShapes Go.ChangeAt Go.RowKit
open Go.ChangeMaps (open_string shut_string)
set_option linter.unusedVariables false

theorem own : ownKnob Try.prog.godebug = none := by kernel_rfl
theorem laidOut : laidOutB Try.prog = true := by kernel_rfl
theorem cells9 : Try.prog.cellsOf 9 = 1 := by kernel_rfl

set_option maxRecDepth 100000 in
theorem lifted (os : Os) (started : os.Started) (H : Type) (enc : TypeId × Value → H) :
    ReturnsInHanded {} Try.checked os 5 .any (Rows.fnEnterKeepsOnPathAtAStepOfItsKeySpec.pre6 enc Try.prog Try.f5 Rows.fnEnterKeepsOnPathAtAStepOfItsKeyRow.domain false) (Rows.fnEnterKeepsOnPathAtAStepOfItsKeySpec.post enc Try.prog Try.f5 false true false false) := by
  refine returnsInHanded_of_change (C := Try.checked) own started (by kernel_rfl) Try.func5
    (ChangeSpec.witness6 (enc := enc) (C := Try.checked) false ⟨#[], #[.slice none 0 0], []⟩ 8 (by kernel_rfl) (by kernel_rfl) (by kernel_rfl) (by kernel_rfl)) ?_
  intro W base args ds gs before hval0 hW hcnd _
  have hval : ∀ (j : Nat) t v, Try.f5.params[j]? = some t → args[j]? = some v → Value.okWide Try.prog W .any base t v := hval0
  have hW' := hW
  obtain ⟨p, q, hA0, hV, rfl, hfz, hnd⟩ := hW
  have hA : DataW.TrodAll enc Try.prog W 0 (fun _ => true) true Try.f5.params.toList args.toList ds p := hA0
  rw [Try.params5] at hA hval
  obtain ⟨v0, d0, rfl, rfl, h0⟩ := trodAll_one hA
  obtain ⟨rfl, rfl⟩ := trodVars_none hV
  obtain ⟨a0, len, cap, rfl⟩ := okWide_slice Try.underlying29 (hval 0 29 v0 rfl rfl)
  have k0 := h0
  obtain ⟨fuel, hf⟩ := h0
  clear hA0 hval0
  simp only [List.append_nil] at hW'
  have hlt : ∀ x ∈ p, x.block < W.heap.size := fun x hx => by simpa using hW'.lt x hx
  have fin : ∀ e W', (e = Ending.returned (.bool true) ∧ Below W.heap.size W W') →
      ∃ v, e = Ending.returned v ∧ Rows.fnEnterKeepsOnPathAtAStepOfItsKeySpec.post enc Try.checked.prog Try.f5 false true false false W #[.slice a0 len cap] v W' := by
    rintro e W' ⟨he, bel⟩
    subst he
    exact ⟨_, rfl, _, _, _, [], p, [], hW', trodAll_mk1 (shut_bool Try.underlying4 _), trodAll_mk1 (Below.trod laidOut (by kernel_rfl) (of_decide_eq_true (by kernel_rfl)) k0 bel hlt), rfl, bel.frame _, fun h => by cases h⟩
  rcases open_strings Try.underlying29 Try.underlying9 cells9 hf with ⟨hcs, hx⟩ | ⟨a, len', cap', ss, hcs, _, hl, hm, hz, hx, hcell, hws⟩
  · simp [Value.cells] at hcs
    obtain ⟨rfl, rfl, rfl⟩ := hcs
    exact (walk5_nil W).mono fin
  · simp [Value.cells] at hcs
    obtain ⟨rfl, rfl, rfl⟩ := hcs
    simp only [Prod.mk.injEq] at hx
    obtain ⟨_, rfl⟩ := hx
    simp only [if_true] at hz
    by_cases hl0 : len = 0
    · subst hl0
      exact (walk5_none a cap W).mono fin
    · obtain ⟨b, off, spot⟩ := a
      have hspot : spot = none := by simpa [Addr.add] using World.cell?_spot (hcell 0 (by omega))
      subst hspot
      have hbW : b < W.heap.size := hlt (.cell b off) (MemPlace.mem_row.2 ⟨0, by omega, by simp⟩)
      refine (walk5 b off len cap (fun j => ss.getD j ByteArray.empty) W (Nat.le_trans hl hm) hbW (fun j hj => ⟨by rw [← add_plain]; exact hcell j (by omega), ?_⟩)).mono fin
      have hj' : j < ss.length := by omega
      show (ss.getD j ByteArray.empty).size ≤ maxLen
      rw [List.getD, List.getElem?_eq_getElem hj']
      exact hws _ (List.getElem_mem hj')

theorem over : Rows.fnEnterKeepsOnPathAtAStepOfItsKeyRow.holds Try.pinned (OpenSpec.ofChange Rows.fnEnterKeepsOnPathAtAStepOfItsKeySpec) :=
  OpenClaim.holds_of_wide 5 Try.f5 rfl rfl rfl rfl rfl rfl rfl ⟨rfl, rfl, rfl, rfl, rfl⟩ rfl rfl rfl rfl rfl (by kernel_rfl) Try.func5 (by kernel_rfl)
    (of_decide_eq_true (by kernel_rfl)) (by unfold Func.isWrapper; first | (rw [if_pos (by decide +kernel)]; kernel_rfl) | (rw [if_neg (by decide +kernel)]; exact ⟨rfl, rfl⟩))
    (fun os started H enc _ => lifted os started H enc)

/-- THE STATEMENT -/
theorem proved : Rows.FnEnterKeepsOnPathAtAStepOfItsKeySaid := over
#print axioms proved
end Go.Proofs.Qxb6604453a.fnEnterKeepsOnPathAtAStepOfItsKey

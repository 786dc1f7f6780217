/-
  THE ROW of FnAppendDotDecodes (5), out of the walk; seat b6604541a.
-/
import Derived.Test.Qxb6604541aWalk
import Derived.WalkKit
import Derived.ProofKit
import Derived.OpenShut
import Derived.ShutString
import Derived.ChangeOld
import Derived.Below
import Derived.Deep.SlicePairs
namespace Go.Proofs.Qxb6604541a.fnAppendDotDecodes
open Go.ChangeShapes Go.WideShapes Go.ChangeAt Go.RowKit
open Go.ChangeMaps (open_string shut_string)
set_option linter.unusedVariables false

theorem own : ownKnob Try.prog.godebug = none := by kernel_rfl
theorem laidOut : laidOutB Try.prog = true := by kernel_rfl
theorem cells5 : Try.prog.cellsOf 5 = 1 := by kernel_rfl
theorem cells9 : Try.prog.cellsOf 9 = 1 := by kernel_rfl
theorem cells29 : Try.prog.cellsOf 29 = 1 := by kernel_rfl
theorem cells41 : Try.prog.cellsOf 41 = 2 := by kernel_rfl

section
variable {H : Type} {enc : TypeId × Value → H} {W : World}

/-- The bytes that came in. -/
theorem bytes_of {a : Option Addr} {len cap : Nat} {d : DataW H} {p : List MemPlace} (h : DataW.Trod enc Try.prog W 0 (fun _ => true) true 27 (.slice a len cap) d p) :
    ∃ F, len ≤ maxLen ∧ Bytes W a len F ∧ (a = none → len = 0 ∧ cap = 0) := by
  obtain ⟨fuel, hf⟩ := h
  rcases open_ints Try.underlying27 Try.underlying5 cells5 hf with ⟨hcs, _⟩ | ⟨x, l, c, zs, hcs, _, hl, hm, hz, _, hcell, hwz⟩
  · simp [Value.cells] at hcs
    obtain ⟨rfl, rfl, rfl⟩ := hcs
    exact ⟨fun _ => 0, Nat.zero_le _, .inl rfl, fun _ => ⟨rfl, rfl⟩⟩
  · simp [Value.cells] at hcs
    obtain ⟨rfl, rfl, rfl⟩ := hcs
    simp only [if_true] at hz
    refine ⟨fun j => (zs.getD j 0).toNat, Nat.le_trans hl hm, ?_, fun h => by cases h⟩
    by_cases h0 : len = 0
    · exact .inl h0
    · obtain ⟨b, off, spot⟩ := x
      have hspot : spot = none := by simpa [Addr.add] using World.cell?_spot (hcell 0 (by omega))
      subst hspot
      have hc0 := hcell 0 (by omega)
      rw [add_plain] at hc0
      refine .inr ⟨b, off, rfl, World.block_lt_of_cell? W _ hc0, fun j hj => ?_⟩
      have hj' : j < zs.length := by omega
      have hw := hwz (zs.getD j 0) (by rw [List.getD, List.getElem?_eq_getElem hj']; exact List.getElem_mem hj')
      have hbd : 0 ≤ zs.getD j 0 ∧ zs.getD j 0 ≤ 255 := bounds_u8 hw
      have hc := hcell j hj'
      rw [add_plain] at hc
      refine ⟨?_, by show (zs.getD j 0).toNat < 256; omega⟩
      rw [hc]
      show some (Value.int .u8 (zs.getD j 0)) = some (Value.int .u8 (((zs.getD j 0).toNat : Nat) : Int))
      rw [Int.toNat_of_nonneg hbd.1]

def strOf : Value → ByteArray
  | .string s => s
  | _ => ByteArray.empty
def numOf : Value → Nat
  | .int _ n => n.toNat
  | _ => 0

/-- The dots that came in. -/
theorem dots_of {a : Option Addr} {len cap : Nat} {d : DataW H} {p : List MemPlace} (h : DataW.Trod enc Try.prog W 0 (fun _ => true) true 28 (.slice a len cap) d p) :
    ∃ S N, len ≤ maxLen ∧ Dots W a len S N ∧ (a = none → len = 0 ∧ cap = 0) := by
  obtain ⟨fuel, hf⟩ := h
  rcases Deep.open_slice_pairs Try.underlying28 Try.underlying41 cells41 rfl rfl cells9 cells29 hf with ⟨hcs, _⟩ | ⟨x, l, c, m, n, V0, V1, D0, D1, P0, P1, hcs, _, hl, hm, hmm, _, hx⟩
  · simp [Value.cells] at hcs
    obtain ⟨rfl, rfl, rfl⟩ := hcs
    exact ⟨fun _ => ByteArray.empty, fun _ => 0, Nat.zero_le _, .inl rfl, fun _ => ⟨rfl, rfl⟩⟩
  · simp [Value.cells] at hcs
    obtain ⟨rfl, rfl, rfl⟩ := hcs
    simp only [if_true] at hmm
    refine ⟨fun j => strOf (V0 j), fun j => numOf (V1 j), Nat.le_trans hl hm, ?_, fun h => by cases h⟩
    by_cases h0 : len = 0
    · exact .inl h0
    · obtain ⟨b, off, spot⟩ := x
      have hspot : spot = none := by simpa [Addr.add] using World.cell?_spot (hx 0 (by omega)).1
      subst hspot
      have hc0 := (hx 0 (by omega)).1
      rw [add_plain] at hc0
      refine .inr ⟨b, off, rfl, World.block_lt_of_cell? W _ hc0, fun j hj => ?_⟩
      obtain ⟨c0, c1, r0, r1⟩ := hx j (by omega)
      rw [add_plain] at c0 c1
      obtain ⟨s, e0, _, hs⟩ := DataW.trod_string Try.underlying9 r0
      obtain ⟨z, e1, _, hz⟩ := DataW.trod_int Try.underlying29 r1
      have e0' : V0 j = .string s := by simpa using e0
      have e1' : V1 j = .int .u64 z := by simpa using e1
      have hbd : 0 ≤ z := (bounds_u64 hz).1
      refine ⟨?_, ?_, ?_⟩
      · rw [c0]
        show some (V0 j) = some (Value.string (strOf (V0 j)))
        rw [e0']; rfl
      · show (strOf (V0 j)).size ≤ maxLen
        rw [e0']; exact hs
      · rw [show off + j * 2 + 1 = off + (j * 2 + 1) by omega, c1]
        show some (V1 j) = some (Value.int .u64 ((numOf (V1 j) : Nat) : Int))
        rw [e1']
        show some (Value.int .u64 z) = some (Value.int .u64 ((z.toNat : Nat) : Int))
        rw [Int.toNat_of_nonneg hbd]
end

set_option maxRecDepth 100000 in
theorem lifted (os : Os) (started : os.Started) (H : Type) (enc : TypeId × Value → H) :
    ReturnsInHanded {} Try.checked os 5 .any (Rows.fnAppendDotDecodesSpec.pre6 enc Try.prog Try.f5 Rows.fnAppendDotDecodesRow.domain false) (Rows.fnAppendDotDecodesSpec.post enc Try.prog Try.f5 false true false false) := by
  refine returnsInHanded_of_change (C := Try.checked) own started (by kernel_rfl) Try.func5
    (ChangeSpec.witness6 (enc := enc) (C := Try.checked) false ⟨#[], #[.slice none 0 0, .slice none 0 0, .string ByteArray.empty, .int .u64 0], []⟩ 8 (by kernel_rfl) (by kernel_rfl) (by kernel_rfl) (by kernel_rfl)) ?_
  intro W base args ds gs before hval0 hW hcnd _
  have hval : ∀ (j : Nat) t v, Try.f5.params[j]? = some t → args[j]? = some v → Value.okWide Try.prog W .any base t v := hval0
  have hW' := hW
  obtain ⟨p, q, hA0, hV, rfl, hfz, hnd⟩ := hW
  have hA : DataW.TrodAll enc Try.prog W 0 (fun _ => true) true Try.f5.params.toList args.toList ds p := hA0
  rw [Try.params5] at hA hval
  obtain ⟨v0, vs0, d0, ds0, p0, q0, hargs, rfl, rfl, h0, r0⟩ := trodAll_cons hA
  obtain ⟨v1, vs1, d1, ds1, p1, q1, rfl, rfl, rfl, h1, r1⟩ := trodAll_cons r0
  obtain ⟨v2, vs2, d2, ds2, p2, q2, rfl, rfl, rfl, h2, r2⟩ := trodAll_cons r1
  obtain ⟨v3, vs3, d3, ds3, p3, q3, rfl, rfl, rfl, h3, r3⟩ := trodAll_cons r2
  obtain ⟨rfl, rfl, rfl⟩ := trodAll_nil r3
  obtain rfl : args = #[v0, v1, v2, v3] := by cases args; simp_all
  obtain ⟨rfl, rfl⟩ := trodVars_none hV
  obtain ⟨a0, len0, cap0, rfl⟩ := okWide_slice Try.underlying27 (hval 0 27 v0 rfl rfl)
  have k0 := h0
  have lt0 : ∀ x ∈ p0, x.block < W.heap.size := by obtain ⟨m, hm⟩ := k0; exact DataW.trod_lt m _ _ _ hm
  obtain ⟨a1, len1, cap1, rfl⟩ := okWide_slice Try.underlying28 (hval 1 28 v1 rfl rfl)
  have k1 := h1
  have lt1 : ∀ x ∈ p1, x.block < W.heap.size := by obtain ⟨m, hm⟩ := k1; exact DataW.trod_lt m _ _ _ hm
  obtain ⟨a2, rfl, rfl, rfl, w2⟩ := open_string Try.underlying9 (hval 2 9 v2 rfl rfl) h2
  obtain ⟨a3, rfl, rfl, rfl, w3⟩ := open_int Try.underlying29 (hval 3 29 v3 rfl rfl) h3
  obtain ⟨F, hl0, hb0, hn0⟩ := bytes_of h0
  obtain ⟨S, N, hl1, hb1, hn1⟩ := dots_of h1
  have hbd := bounds_u64 w3
  obtain ⟨dN, rfl⟩ := Int.eq_ofNat_of_zero_le hbd.1
  clear hA0 hval0
  refine (walk5 a0 len0 cap0 F a1 len1 cap1 S N a2 dN W hl0 hl1 w2 (by omega) hb0 hn0 hb1 hn1).mono fun e W' ⟨he, bel⟩ => ?_
  subst he
  exact ⟨_, rfl, _, _, _, [], _, [], hW', trodAll_mk1 (shut_bool Try.underlying4 _), (trodAll_cons_mk (Below.trod laidOut (by kernel_rfl) (of_decide_eq_true (by kernel_rfl)) k0 bel lt0) (trodAll_cons_mk (Below.trod laidOut (by kernel_rfl) (of_decide_eq_true (by kernel_rfl)) k1 bel lt1) (trodAll_cons_mk (shut_string Try.underlying9 w2) (trodAll_cons_mk (shut_int Try.underlying29 w3) trodAll_mk0)))), rfl, bel.frame _, fun h => by cases h⟩

theorem over : Rows.fnAppendDotDecodesRow.holds Try.pinned (OpenSpec.ofChange Rows.fnAppendDotDecodesSpec) :=
  OpenClaim.holds_of_wide 5 Try.f5 rfl rfl rfl rfl rfl rfl rfl ⟨rfl, rfl, rfl, rfl, rfl⟩ rfl rfl rfl rfl rfl (by kernel_rfl) Try.func5 (by kernel_rfl)
    (of_decide_eq_true (by kernel_rfl)) (by unfold Func.isWrapper; first | (rw [if_pos (by decide +kernel)]; kernel_rfl) | (rw [if_neg (by decide +kernel)]; exact ⟨rfl, rfl⟩))
    (fun os started H enc _ => lifted os started H enc)

/-- THE STATEMENT -/
theorem proved : Rows.FnAppendDotDecodesSaid := over
#print axioms proved
end Go.Proofs.Qxb6604541a.fnAppendDotDecodes

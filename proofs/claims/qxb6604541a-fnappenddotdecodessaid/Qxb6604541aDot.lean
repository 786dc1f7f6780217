/-
  causal.AppendDot (15); seat b6604541a.
-/
import Derived.Test.Qxb6604541aDecode
namespace Go.Proofs.Qxb6604541a
open Go.RowKit Go.WideShapes

theorem Bytes.below {w w' : World} {a : Option Addr} {n : Nat} {F : Nat → Nat} (h : Bytes w a n F) (hb : Below w.heap.size w w') : Bytes w' a n F := by
  rcases h with h | ⟨b, off, ha, hlt, hc⟩
  · exact .inl h
  · exact .inr ⟨b, off, ha, Nat.lt_of_lt_of_le hlt hb.size, fun j hj => ⟨(hb.cell (p := ⟨b, off + j, none⟩) hlt).trans (hc j hj).1, (hc j hj).2⟩⟩

theorem Dots.below {w w' : World} {a : Option Addr} {n : Nat} {S : Nat → ByteArray} {N : Nat → Nat} (h : Dots w a n S N) (hb : Below w.heap.size w w') : Dots w' a n S N := by
  rcases h with h | ⟨b, off, ha, hlt, hc⟩
  · exact .inl h
  · exact .inr ⟨b, off, ha, Nat.lt_of_lt_of_le hlt hb.size, fun j hj => ⟨(hb.cell (p := ⟨b, off + j * 2, none⟩) hlt).trans (hc j hj).1, (hc j hj).2.1, (hb.cell (p := ⟨b, off + j * 2 + 1, none⟩) hlt).trans (hc j hj).2.2⟩⟩

/-- The first n numbers. -/
def fs (F : Nat → Nat) (n : Nat) : List Nat := (List.range n).map F
theorem fs_length (F : Nat → Nat) (n : Nat) : (fs F n).length = n := by simp [fs]

theorem full_apd (B : Nat) {w : World} {a : Option Addr} {n : Nat} {F : Nat → Nat} (h : Bytes w a n F) (hnil : a = none → n = 0) : Apd B w (.slice a n n) (bc (fs F n)) := by
  refine .inr ⟨a, by rw [bc_length, fs_length], fun ha => by rw [bc_length, fs_length]; exact hnil ha, fun p hp j u hu => ?_⟩
  have hj : j < n := by
    have := (List.getElem?_eq_some_iff.1 hu).1
    rwa [bc_length, fs_length] at this
  rcases h with h | ⟨b, off, ha, _, hc⟩
  · omega
  · rw [ha] at hp
    obtain rfl : (⟨b, off, none⟩ : Addr) = p := by injection hp
    rw [add_plain, (hc j hj).1]
    rw [← hu]
    simp [bc, fs, hj]

/-- What AppendDot answers. -/
def SaysDot (e : Ending) (B : Nat) (w' : World) (len : Nat) (S : Nat → ByteArray) (t : ByteArray) (xs : List Nat) (dN : Nat) : Prop :=
  ∃ p, Found len S t p ∧ SaysRow e B w' (bc (xs ++ encF 9 p ++ encF 9 dN))

theorem dot_any (a : Option Addr) (n : Nat) (F : Nat → Nat) (ac : Option Addr) (len cap : Nat) (S : Nat → ByteArray) (N : Nat → Nat) (t : ByteArray) (dN : Nat) (w : World) (hn : n ≤ 1048576) (ha : Bytes w a n F) (hnil : a = none → n = 0) (hl : len ≤ 1048576) (hc : Dots w ac len S N) (hasc : Asc len S) (hdN : dN < 18446744073709551616) :
    Calls Try.prog 15 #[.slice a n n, .slice ac len cap, .agg #[.string t, .int .u64 dN]] w fun e w' => SaysDot e w.heap.size w' len S t (fs F n) dN ∧ Below w.heap.size w w' := by
  go_enter Try.func15, Try.ntmps15
  go_wp2_with fail
  have hb0 : Below w.heap.size w (w.alloc (.cells #[.string t, .int .u64 dN] 39)) := (Below.refl _ _).alloc (Nat.le_refl _) _
  refine (place_any ac len cap S N t _ hl (hc.below hb0) hasc).mono ?_
  rintro e w1 ⟨⟨p, r, rfl, hf⟩, hbel1⟩
  have hbel : Below w.heap.size w w1 := hb0.trans (hbel1.mono (by simp))
  have hp : p ≤ 1048576 := Nat.le_trans hf.1 hl
  have ap := full_apd w1.heap.size (ha.below hbel) hnil
  have hcell2 : w1.cell? ⟨w.heap.size, 1, none⟩ = some (.int .u64 dN) := by rw [hbel1.cell (p := ⟨w.heap.size, 1, none⟩) (by simp)]; go_simp
  have hlt1 : w.heap.size < w1.heap.size := by have := hbel1.size; simp at this; omega
  have l1 := (encF_length 9 p).2
  go_wp2_with fail
  refine (uvarint_any w1.heap.size p (by omega) _ _ w1 ap (Nat.le_refl _) (by rw [bc_length, fs_length]; omega)).mono ?_
  rintro e w2 ⟨⟨v2, rfl, hown2⟩, hbel2⟩
  have hcell3 : w2.cell? ⟨w.heap.size, 1, none⟩ = some (.int .u64 dN) := (hbel2.cell (p := ⟨w.heap.size, 1, none⟩) hlt1).trans hcell2
  rw [← bc_append] at hown2
  go_wp2_with fail
  refine (uvarint_any w1.heap.size dN hdN v2 _ w2 (.inl hown2) hbel2.size (by rw [bc_length, List.length_append, fs_length]; omega)).mono ?_
  rintro e w3 ⟨⟨v3, rfl, hown3⟩, hbel3⟩
  rw [← bc_append] at hown3
  have hown4 := own_mono hown3 (Nat.le_of_lt hlt1)
  clear hown3 hown2 hcell3 hcell2
  go_wp2
  go_ret
  exact ⟨⟨p, hf, v3, rfl, hown4⟩, hbel.trans ((hbel2.trans hbel3).mono hbel.size)⟩

end Go.Proofs.Qxb6604541a

/-
  THE WALK of FnTxnRecordIsPrefixFree (8) and the plain law that records are prefix free; seat b6604543a.
-/
import Derived.Test.Qxb6604543aRecord
namespace Go.Proofs.Qxb6604543a
open Go.RowKit Go.WideShapes

/-! ### the plain law -/
theorem enc_prefix : ∀ (f x y : Nat) (A B : List Nat), x < 128 ^ (f + 1) → y < 128 ^ (f + 1) → encF f x ++ A <+: encF f y ++ B → x = y ∧ A <+: B
  | 0, x, y, A, B, _, _, h => by
    simp only [encF, List.cons_append, List.nil_append, List.cons_prefix_cons] at h
    exact h
  | f + 1, x, y, A, B, hx, hy, h => by
    by_cases h1 : x < 128
    · by_cases h2 : y < 128
      · rw [encF_small h1, encF_small h2] at h
        simp only [List.cons_append, List.nil_append, List.cons_prefix_cons] at h
        exact h
      · rw [encF_small h1, encF_big h2] at h
        simp only [List.cons_append, List.nil_append, List.cons_prefix_cons] at h
        omega
    · by_cases h2 : y < 128
      · rw [encF_big h1, encF_small h2] at h
        simp only [List.cons_append, List.nil_append, List.cons_prefix_cons] at h
        omega
      · rw [encF_big h1, encF_big h2] at h
        simp only [List.cons_append, List.cons_prefix_cons] at h
        have hx' : x / 128 < 128 ^ (f + 1) := by rw [Nat.pow_succ] at hx; exact Nat.div_lt_of_lt_mul (by rw [Nat.mul_comm]; exact hx)
        have hy' : y / 128 < 128 ^ (f + 1) := by rw [Nat.pow_succ] at hy; exact Nat.div_lt_of_lt_mul (by rw [Nat.mul_comm]; exact hy)
        obtain ⟨e, hAB⟩ := enc_prefix f (x / 128) (y / 128) A B hx' hy' h.2
        exact ⟨by omega, hAB⟩

theorem sb_inj {s t : ByteArray} (h : sb s = sb t) : s = t := by
  apply bytes_inj
  have : Function.Injective UInt8.toNat := fun a b h => UInt8.toNat_inj.1 h
  exact (List.map_inj_right (fun a b h => this h)).1 h

theorem recOf_prefix {k1 k2 : Nat} {s1 s2 : ByteArray} (h1 : s1.size ≤ 1048576) (h2 : s2.size ≤ 1048576) (h : recOf k1 s1 <+: recOf k2 s2) : k1 = k2 ∧ s1 = s2 := by
  simp only [recOf, List.cons_prefix_cons] at h
  have hp : (1048576 : Nat) < 128 ^ (9 + 1) := by decide
  obtain ⟨e, hp2⟩ := enc_prefix 9 s1.size s2.size _ _ (by omega) (by omega) h.2
  refine ⟨h.1, sb_inj ?_⟩
  exact hp2.eq_of_length (by rw [sb_length, sb_length, e])

/-! ### the walk -/
theorem bytes31_any (k1 k2 : Int) (s1 s2 : ByteArray) (w : World) (h1 : s1.size ≤ maxLen) (h2 : s2.size ≤ maxLen) :
    Calls Try.prog 31 #[.int .u8 k1, .string s1, .int .u8 k2, .string s2] w fun e w' => Says e ∧ w' = w := by
  unfold maxLen at h1 h2
  by_cases t1 : (1048576 : Int) < (s1.size : Int)
  · go_enter Try.func31, Try.ntmps31
    go_wp2
    go_ret
    exact ⟨⟨_, rfl⟩, rfl⟩
  by_cases t2 : (1048576 : Int) < (s2.size : Int)
  · go_enter Try.func31, Try.ntmps31
    go_wp2
    go_ret
    exact ⟨⟨_, rfl⟩, rfl⟩
  by_cases t3 : (1048576 : Int) < (s1.size : Int) + (s2.size : Int)
  · go_enter Try.func31, Try.ntmps31
    go_wp2
    go_ret
    exact ⟨⟨_, rfl⟩, rfl⟩
  go_enter Try.func31, Try.ntmps31
  go_wp2
  go_ret
  exact ⟨⟨_, rfl⟩, rfl⟩

theorem Row.below {w w' : World} {B g o : Nat} {ys : List Nat} (h : Row w g o ys) (hb : Below B w w') (hg : g < B) : Row w' g o ys :=
  fun j hj => (hb.cell (p := ⟨g, o + j, none⟩) hg).trans (h j hj)
theorem Row.drewN {w : World} {g o : Nat} {ys : List Nat} (h : Row w g o ys) (n : Nat) : Row (w.drewN n) g o ys := h
theorem below_drewN (B : Nat) (w : World) (n : Nat) : Below B w (w.drewN n) := ⟨rfl, rfl, rfl, Nat.le_refl _, fun _ _ => rfl⟩

theorem eq_bytes {a b : ByteArray} (h : a = b) : (a.toList == b.toList) = true := by rw [h]; simp
theorem ne_bytes {a b : ByteArray} (h : ¬ a = b) : (a.toList == b.toList) = false := by
  rw [ByteArray.toList_eq, ByteArray.toList_eq]
  exact beq_eq_false_iff_ne.2 (fun e => h (bytes_inj e))

set_option maxHeartbeats 800000 in
set_option maxRecDepth 100000 in
theorem walk8 (k1 : Nat) (s1 : ByteArray) (k2 : Nat) (s2 : ByteArray) (w : World) (h1 : s1.size ≤ maxLen) (h2 : s2.size ≤ maxLen) :
    Calls Try.prog 8 #[.int .u8 k1, .string s1, .int .u8 k2, .string s2] w fun e w' => e = .returned (.bool true) ∧ Below w.heap.size w w' := by
  have hl1 := h1
  have hl2 := h2
  unfold maxLen at hl1 hl2
  by_cases t1 : (1048576 : Int) < (s1.size : Int)
  · go_enter Try.func8, Try.ntmps8
    go_wp2_with fail
    refine (bytes31_any k1 k2 s1 s2 w h1 h2).mono ?_
    rintro e w' ⟨⟨r, rfl⟩, hw⟩
    subst hw
    cases r <;> (go_wp2; go_ret; exact ⟨rfl, Below.refl _ _⟩)
  by_cases t2 : (1048576 : Int) < (s2.size : Int)
  · go_enter Try.func8, Try.ntmps8
    go_wp2_with fail
    refine (bytes31_any k1 k2 s1 s2 w h1 h2).mono ?_
    rintro e w' ⟨⟨r, rfl⟩, hw⟩
    subst hw
    cases r <;> (go_wp2; go_ret; exact ⟨rfl, Below.refl _ _⟩)
  by_cases t3 : (1048576 : Int) < (s1.size : Int) + (s2.size : Int)
  · go_enter Try.func8, Try.ntmps8
    go_wp2_with fail
    refine (bytes31_any k1 k2 s1 s2 w h1 h2).mono ?_
    rintro e w' ⟨⟨r, rfl⟩, hw⟩
    subst hw
    cases r <;> (go_wp2; go_ret; exact ⟨rfl, Below.refl _ _⟩)
  go_enter Try.func8, Try.ntmps8
  go_wp2_with fail
  refine (bytes31_any k1 k2 s1 s2 w h1 h2).mono ?_
  rintro e w' ⟨⟨r, rfl⟩, hw⟩
  subst hw
  cases r with
  | false => go_wp2; go_ret; exact ⟨rfl, Below.refl _ _⟩
  | true =>
    go_wp2_with fail
    refine (ztxn_any k1 s1 _ (by omega)).mono ?_
    rintro e w1 ⟨⟨v1, rfl, hown1⟩, hbel1⟩
    go_wp2_with fail
    refine (ztxn_any k2 s2 _ (by omega)).mono ?_
    rintro e w2 ⟨⟨v2, rfl, hown2⟩, hbel2⟩
    have hL1 := recOf_length k1 s1
    have hL2 := recOf_length k2 s2
    have hb1 := (encF_length 9 s1.size).2
    have hb2 := (encF_length 9 s2.size).2
    obtain ⟨g1, c1, hv1, _, _, hg1, hr1⟩ := row_shape hown1 (by omega)
    obtain ⟨g2, c2, hv2, _, _, _, hr2⟩ := row_shape hown2 (by omega)
    have hr1' : Row w2 g1 0 (recOf k1 s1) := hr1.below hbel2 hg1
    have hpos : 0 < (recOf k1 s1).length := by omega
    have hm1 : (recOf k1 s1).length ≤ 4194304 := by omega
    have hm2 : (recOf k2 s2).length ≤ 4194304 := by omega
    rw [hv1, hv2]
    have hbel : Below w'.heap.size w' w2 := hbel1.trans (hbel2.mono hbel1.size)
    clear hown1 hown2 hv1 hv2 hr1 hbel1 hbel2 hL1 hL2 hb1 hb2
    by_cases hk : k1 = k2
    · by_cases hs : s1 = s2
      · have b1 : ((k1 : Int) == (k2 : Int)) = true := beq_iff_eq.2 (by omega)
        have b2 := eq_bytes hs
        have p12 : recOf k1 s1 <+: recOf k2 s2 := by rw [hk, hs]; exact List.prefix_rfl
        have p21 : recOf k2 s2 <+: recOf k1 s1 := by rw [hk, hs]; exact List.prefix_rfl
        clear hk hs
        go_wp2_with fail
        refine (prefix_any g1 c1 g2 c2 _ _ w2 hr1' hr2 hm1 hm2).mono ?_
        rintro e w3 ⟨⟨r1, rfl, hp1⟩, n1, rfl⟩
        obtain rfl : r1 = true := hp1.2 p12
        clear hp1
        go_wp2_with fail
        refine (prefix_any g2 c2 g1 c1 _ _ (w2.drewN n1) (hr2.drewN n1) (hr1'.drewN n1) hm2 hm1).mono ?_
        rintro e w4 ⟨⟨r2, rfl, hp2⟩, n2, rfl⟩
        obtain rfl : r2 = true := hp2.2 p21
        clear hp2
        go_wp2
        go_ret
        exact ⟨rfl, hbel.trans (below_drewN _ _ _)⟩
      · have b1 : ((k1 : Int) == (k2 : Int)) = true := beq_iff_eq.2 (by omega)
        have b2 := ne_bytes hs
        have p12 : ¬ recOf k1 s1 <+: recOf k2 s2 := fun h => hs (recOf_prefix (by omega) (by omega) h).2
        have p21 : ¬ recOf k2 s2 <+: recOf k1 s1 := fun h => hs (recOf_prefix (by omega) (by omega) h).2.symm
        clear hk hs
        go_wp2_with fail
        refine (prefix_any g1 c1 g2 c2 _ _ w2 hr1' hr2 hm1 hm2).mono ?_
        rintro e w3 ⟨⟨r1, rfl, hp1⟩, n1, rfl⟩
        obtain rfl : r1 = false := by cases r1 with | false => rfl | true => exact absurd (hp1.1 rfl) p12
        clear hp1
        go_wp2_with fail
        refine (prefix_any g2 c2 g1 c1 _ _ (w2.drewN n1) (hr2.drewN n1) (hr1'.drewN n1) hm2 hm1).mono ?_
        rintro e w4 ⟨⟨r2, rfl, hp2⟩, n2, rfl⟩
        obtain rfl : r2 = false := by cases r2 with | false => rfl | true => exact absurd (hp2.1 rfl) p21
        clear hp2
        go_wp2
        go_ret
        exact ⟨rfl, hbel.trans (below_drewN _ _ _)⟩
    · have b1 : ((k1 : Int) == (k2 : Int)) = false := beq_eq_false_iff_ne.2 (by omega)
      have p12 : ¬ recOf k1 s1 <+: recOf k2 s2 := fun h => hk (recOf_prefix (by omega) (by omega) h).1
      have p21 : ¬ recOf k2 s2 <+: recOf k1 s1 := fun h => hk (recOf_prefix (by omega) (by omega) h).1.symm
      clear hk
      go_wp2_with fail
      refine (prefix_any g1 c1 g2 c2 _ _ w2 hr1' hr2 hm1 hm2).mono ?_
      rintro e w3 ⟨⟨r1, rfl, hp1⟩, n1, rfl⟩
      obtain rfl : r1 = false := by cases r1 with | false => rfl | true => exact absurd (hp1.1 rfl) p12
      clear hp1
      go_wp2_with fail
      refine (prefix_any g2 c2 g1 c1 _ _ (w2.drewN n1) (hr2.drewN n1) (hr1'.drewN n1) hm2 hm1).mono ?_
      rintro e w4 ⟨⟨r2, rfl, hp2⟩, n2, rfl⟩
      obtain rfl : r2 = false := by cases r2 with | false => rfl | true => exact absurd (hp2.1 rfl) p21
      clear hp2
      go_wp2
      go_ret
      exact ⟨rfl, hbel.trans (below_drewN _ _ _)⟩

end Go.Proofs.Qxb6604543a

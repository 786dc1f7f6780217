/-
  THE WALK of FnTxnRecordDecodesBack (7); seat b6604543a.
-/
import Derived.Test.Qxb6604543aDecode
namespace Go.Proofs.Qxb6604543a
open Go.RowKit Go.WideShapes

theorem bytes27_any (k : Int) (s : ByteArray) (w : World) (h : s.size ≤ maxLen) :
    Calls Try.prog 27 #[.int .u8 k, .string s] w fun e w' => Says e ∧ w' = w := by
  unfold maxLen at h
  by_cases t1 : (1048576 : Int) < (s.size : Int)
  · go_enter Try.func27, Try.ntmps27
    go_wp2
    go_ret
    exact ⟨⟨_, rfl⟩, rfl⟩
  go_enter Try.func27, Try.ntmps27
  go_wp2
  go_ret
  exact ⟨⟨_, rfl⟩, rfl⟩

theorem below_drewN' (B : Nat) (w : World) (n : Nat) : Below B w (w.drewN n) := ⟨rfl, rfl, rfl, Nat.le_refl _, fun _ _ => rfl⟩

set_option maxHeartbeats 800000 in
set_option maxRecDepth 100000 in
theorem walk7 (k : Nat) (s : ByteArray) (w : World) (h : s.size ≤ maxLen) :
    Calls Try.prog 7 #[.int .u8 k, .string s] w fun e w' => e = .returned (.bool true) ∧ Below w.heap.size w w' := by
  have hl := h
  unfold maxLen at hl
  by_cases t1 : (1048576 : Int) < (s.size : Int)
  · go_enter Try.func7, Try.ntmps7
    go_wp2_with fail
    refine (bytes27_any k s w h).mono ?_
    rintro e w' ⟨⟨r, rfl⟩, hw⟩
    subst hw
    cases r <;> (go_wp2; go_ret; exact ⟨rfl, Below.refl _ _⟩)
  go_enter Try.func7, Try.ntmps7
  go_wp2_with fail
  refine (bytes27_any k s w h).mono ?_
  rintro e w' ⟨⟨r, rfl⟩, hw⟩
  subst hw
  cases r with
  | false => go_wp2; go_ret; exact ⟨rfl, Below.refl _ _⟩
  | true =>
    go_wp2_with fail
    refine (ztxn_any k s _ (by omega)).mono ?_
    rintro e w1 ⟨⟨v1, rfl, hown1⟩, hbel1⟩
    have hL := recOf_length k s
    have hm := encF_length 9 s.size
    obtain ⟨g, cap, hv, hcap, _, _, hr⟩ := row_shape hown1 (by omega)
    rw [hv]
    have c0 : w1.cell? ⟨g, 0, none⟩ = some (.int .u8 k) := by simpa [recOf] using hr 0 (by omega)
    have hr1 : Row w1 g 1 (encF 9 s.size ++ sb s) := fun j hj => by
      have := hr (j + 1) (by simp [recOf] at hj ⊢; omega)
      rw [show 0 + (j + 1) = 1 + j by omega] at this
      simpa [recOf] using this
    obtain ⟨m, hmm⟩ : ∃ m, m = (encF 9 s.size).length := ⟨_, rfl⟩
    have hr2 : ∀ j, (hj : j < s.size) → w1.cell? ⟨g, 1 + m + j, none⟩ = some (.int .u8 ((s[j]'hj).toNat : Nat)) := fun j hj => by
      have := hr1 (m + j) (by rw [List.length_append, sb_length]; omega)
      rw [List.getElem_append_right (by omega)] at this
      rw [show 1 + m + j = 1 + (m + j) by omega, this]
      simp only [hmm, sb, List.getElem_map, Nat.add_sub_cancel_left]
      rfl
    have dec := decode_any g 1 (cap - 1) s.size (encF 9 s.size ++ sb s) (sb s) w1 (by omega) hr1 (by rw [List.length_append, sb_length]; omega) rfl
    have vl := varLen_any s.size (by omega) w1
    rw [← hmm] at hL hm dec vl
    have hlen : (encF 9 s.size ++ sb s).length = m + s.size := by rw [List.length_append, sb_length, hmm]
    rw [hlen] at dec
    obtain ⟨L, hLL⟩ : ∃ L, L = (recOf k s).length := ⟨_, rfl⟩
    rw [← hLL] at hcap hL ⊢
    have hL1 : 1 + m + s.size ≤ L := by omega
    have hL2 : L ≤ 1 + m + s.size := by omega
    have hm1 : 1 ≤ m := hm.1
    have hm2 : m ≤ 10 := hm.2
    clear hown1 hv hr hr1 hmm hlen hLL hL hm
    obtain ⟨cap, rfl⟩ : ∃ c, cap = c + 2 := ⟨cap - 2, by omega⟩
    rw [show m + s.size = L - 1 by omega, show cap + 2 - 1 = cap + 1 by omega] at dec
    have u1 : (L : Int) = 1 + (m : Int) + (s.size : Int) := by omega
    have bL : ((L : Int) == 1 + (m : Int) + (s.size : Int)) = true := beq_iff_eq.2 u1
    clear u1
    go_wp2_with fail
    refine dec.mono ?_
    rintro e w2 ⟨rfl, hw2⟩
    subst hw2
    clear dec
    go_wp2_with fail
    refine vl.mono ?_
    rintro e w3 ⟨rfl, hw3⟩
    subst hw3
    clear vl
    go_wp2
    go_loopw [9] (fun vi wr => ∃ q nq : Nat, q ≤ s.size ∧ vi = .int .i64 q ∧ wr = w3.drewN nq) (fun vi _ => s.size - (intOf vi).toNat)
    case atStart => exact ⟨0, 0, Nat.zero_le _, rfl, rfl⟩
    case round =>
      obtain ⟨q, nq, hq, rfl, rfl⟩ := hrel
      by_cases hlt : q < s.size
      · have c1 := hr2 q hlt
        have i1 : 1 + (m : Int) + (q : Int) < (L : Int) := by omega
        have i2 : (q : Int) < (s.size : Int) := by omega
        go_wp2
        go_quiet (fail)
        go_wp2
        go_roundw
        case rel => exact ⟨q + 1, _, by omega, by go_num, rfl⟩
        case measure => simp [intOf]; omega
      · go_wp2
        go_ret
        exact ⟨rfl, hbel1.trans (below_drewN' _ _ _)⟩

end Go.Proofs.Qxb6604543a

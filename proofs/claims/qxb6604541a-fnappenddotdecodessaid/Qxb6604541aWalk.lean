/-
  THE WALK of FnAppendDotDecodes (5); seat b6604541a.
-/
import Derived.Test.Qxb6604541aDot
namespace Go.Proofs.Qxb6604541a
open Go.RowKit Go.WideShapes

theorem row_shape {w : World} {B : Nat} {v : Value} {ys : List Nat} (h : w.ownsRow B 5 1 v (bc ys).length (bc ys)) (hne : 0 < ys.length) :
    ∃ g cap, v = .slice (some ⟨g, 0, none⟩) ys.length cap ∧ Row w g ys := by
  have hcells := fun (g : Nat) (hg : v.ownBlock = some g) => h.cells hg
  rcases h.2 with ⟨_, h0⟩ | ⟨g, cap, cur, hv, _⟩
  · rw [bc_length] at h0; omega
  · rw [bc_length] at hv
    refine ⟨g, cap, hv, fun j hj => ?_⟩
    have := hcells g (by rw [hv]; rfl) j (.int .u8 (ys[j] : Nat)) (by simp [bc, hj])
    rwa [add_plain, Nat.zero_add] at this

theorem Row.drewN {w : World} {g : Nat} {ys : List Nat} (h : Row w g ys) (n : Nat) : Row (w.drewN n) g ys := h
theorem Bytes.drewN {w : World} {a : Option Addr} {n : Nat} {F : Nat → Nat} (h : Bytes w a n F) (q : Nat) : Bytes (w.drewN q) a n F := h
theorem below_drewN (B : Nat) (w : World) (n : Nat) : Below B w (w.drewN n) := ⟨rfl, rfl, rfl, Nat.le_refl _, fun _ _ => rfl⟩

set_option maxHeartbeats 1600000 in
set_option maxRecDepth 100000 in
theorem walk5 (ab : Option Addr) (lb cb : Nat) (F : Nat → Nat) (ac : Option Addr) (lc cc : Nat) (S : Nat → ByteArray) (N : Nat → Nat) (t : ByteArray) (dN : Nat) (w : World)
    (hlb : lb ≤ maxLen) (hlc : lc ≤ maxLen) (ht : t.size ≤ maxLen) (hdN : dN < 18446744073709551616) (hb : Bytes w ab lb F) (hnb : ab = none → lb = 0 ∧ cb = 0) (hc : Dots w ac lc S N) (hnc : ac = none → lc = 0 ∧ cc = 0) :
    Calls Try.prog 5 #[.slice ab lb cb, .slice ac lc cc, .string t, .int .u64 dN] w fun e w' => e = .returned (.bool true) ∧ Below w.heap.size w w' := by
  have hlb' := hlb
  have hlc' := hlc
  have ht' := ht
  unfold maxLen at hlb' hlc' ht'
  by_cases h1 : (1048576 : Int) < (lb : Int)
  · go_enter Try.func5, Try.ntmps5
    go_wp2_with fail
    refine (bytes_all ab lb cb ac lc cc t dN S N w hlb hlc ht hc).mono ?_
    rintro e w' ⟨⟨r, rfl⟩, hw⟩
    subst hw
    cases r <;> (go_wp2; go_ret; exact ⟨rfl, Below.refl _ _⟩)
  by_cases h2 : (65536 : Int) < (lc : Int)
  · go_enter Try.func5, Try.ntmps5
    go_wp2_with fail
    refine (bytes_all ab lb cb ac lc cc t dN S N w hlb hlc ht hc).mono ?_
    rintro e w' ⟨⟨r, rfl⟩, hw⟩
    subst hw
    cases r <;> (go_wp2; go_ret; exact ⟨rfl, Below.refl _ _⟩)
  by_cases h3 : (1048576 : Int) < (t.size : Int)
  · go_enter Try.func5, Try.ntmps5
    go_wp2_with fail
    refine (bytes_all ab lb cb ac lc cc t dN S N w hlb hlc ht hc).mono ?_
    rintro e w' ⟨⟨r, rfl⟩, hw⟩
    subst hw
    cases r <;> (go_wp2; go_ret; exact ⟨rfl, Below.refl _ _⟩)
  go_enter Try.func5, Try.ntmps5
  go_wp2_with fail
  refine (bytes_all ab lb cb ac lc cc t dN S N w hlb hlc ht hc).mono ?_
  rintro e w' ⟨⟨r, rfl⟩, hw⟩
  subst hw
  cases r with
  | false => go_wp2; go_ret; exact ⟨rfl, Below.refl _ _⟩
  | true =>
    go_wp2_with fail
    refine (size_all ab lb cb ac lc cc t S N _ hlc hc).mono ?_
    rintro e w1 ⟨⟨z, rfl⟩, hw⟩
    subst hw
    by_cases hz : (1048576 : Int) < z
    · go_wp2; go_ret; exact ⟨rfl, Below.refl _ _⟩
    go_wp2_with fail
    refine (asc_all ac lc cc S N _ hlc hc).mono ?_
    rintro e w2 ⟨⟨r, rfl, hasc⟩, nq, rfl⟩
    cases r with
    | false => go_wp2; go_ret; exact ⟨rfl, below_drewN _ _ _⟩
    | true =>
      have hasc' := hasc rfl
      clear hasc
      go_wp2_with fail
      refine (cloneBytes_all ab lb cb F _ (by omega) (hb.drewN nq) hnb).mono ?_
      rintro e w3 ⟨⟨a, rfl, hbc, han⟩, hbel3⟩
      have hB3 : Below w1.heap.size w1 w3 := (below_drewN _ _ nq).trans hbel3
      clear hbel3
      go_wp2_with fail
      refine (clock_all ac lc cc S N w3 (by omega) (hc.below hB3) hnc).mono ?_
      rintro e w4 ⟨⟨a', rfl, hd⟩, hbel4⟩
      go_wp2_with fail
      refine (dot_any a lb F a' lc lc S N t dN w4 (by omega) (hbc.below hbel4) han (by omega) hd hasc' hdN).mono ?_
      rintro e w5 ⟨⟨p, hf, v, rfl, hown⟩, hbel5⟩
      have hB4 : Below w1.heap.size w1 w4 := hB3.trans (hbel4.mono hB3.size)
      have hB5 : Below w1.heap.size w1 w5 := hB4.trans (hbel5.mono hB4.size)
      have hbc5 : Bytes w5 a lb F := (hbc.below hbel4).below hbel5
      have l1 := encF_length 9 p
      have l2 := encF_length 9 dN
      obtain ⟨ys, hys⟩ : ∃ ys, ys = fs F lb ++ encF 9 p ++ encF 9 dN := ⟨_, rfl⟩
      rw [← hys] at hown
      have hyl : ys.length = lb + (encF 9 p).length + (encF 9 dN).length := by rw [hys, List.length_append, List.length_append, fs_length]
      obtain ⟨g, cap, hv, hrow⟩ := row_shape hown (by omega)
      rw [hv]
      have hfirst : ∀ j, j < lb → w5.cell? ⟨g, j, none⟩ = some (.int .u8 (F j)) := fun j hj => by
        have h0 := hrow j (by omega)
        have e0 : ys[j]'(by omega) = F j := by subst hys; simp [fs, hj]
        rw [e0] at h0
        exact h0
      have hd1 : ys.drop lb = encF 9 p ++ encF 9 dN := by
        rw [hys, List.append_assoc, List.drop_append_of_le_length (by rw [fs_length]; exact Nat.le_refl _), List.drop_of_length_le (by rw [fs_length]; exact Nat.le_refl _), List.nil_append]
      have hd2 : ys.drop (lb + (encF 9 p).length) = encF 9 dN ++ [] := by
        rw [← List.drop_drop, hd1, List.drop_append_of_le_length (Nat.le_refl _), List.drop_of_length_le (Nat.le_refl _), List.nil_append, List.append_nil]
      have hp : p ≤ lc := hf.1
      have Hf : Hid (Found lc S t p) := hf
      have Hd : Hid (ys.drop lb = encF 9 p ++ encF 9 dN ∧ ys.drop (lb + (encF 9 p).length) = encF 9 dN ++ []) := ⟨hd1, hd2⟩
      have HB : Hid (Below w1.heap.size w1 w5) := hB5
      have Hc : Hid (Dots w5 ac lc S N) := hc.below hB5
      obtain ⟨m1, hm1⟩ : ∃ m1, m1 = (encF 9 p).length := ⟨_, rfl⟩
      obtain ⟨m2, hm2⟩ : ∃ m2, m2 = (encF 9 dN).length := ⟨_, rfl⟩
      have Hm : Hid (m1 = (encF 9 p).length ∧ m2 = (encF 9 dN).length) := ⟨hm1, hm2⟩
      rw [← hm1, ← hm2] at hyl
      rw [← hm1] at l1
      rw [← hm2] at l2
      have Hyl : Hid (ys.length = lb + m1 + m2) := hyl
      obtain ⟨L, hL⟩ : ∃ L, L = ys.length := ⟨_, rfl⟩
      have hL1 : lb + m1 + m2 ≤ L := by omega
      have hL2 : L ≤ 1048576 + 20 := by omega
      rw [← hL]
      have HL : Hid (L = ys.length) := hL
      clear hown hv hys hd1 hd2 hf hB5 hc hyl hm1 hm2 hL hbc hd hbel4 hbel5 hB3 hB4 hb hnb hnc hlb hlc ht
      go_wp2
      go_loop [11, 12] (fun vb vi => ∃ k : Nat, k ≤ lc ∧ vi = .int .i64 k ∧ vb = .int .u64 (min k p : Nat)) (fun _ vi => lc - (intOf vi).toNat)
      case atStart => exact ⟨0, Nat.zero_le _, rfl, by simp⟩
      case round =>
        obtain ⟨k, hk, rfl, rfl⟩ := hrel
        by_cases hlt : k < lc
        · rcases Hc.out with h0 | ⟨b, off, rfl, _, hc⟩
          · omega
          have hcell := (hc k hlt).1
          clear hc
          by_cases hkp : k < p
          · have hless := Hf.out.2.1 k hkp
            have e1 : min k p = k := by omega
            rw [e1]
            go_wp2
            go_round
            case rel => exact ⟨k + 1, by omega, by go_num, by rw [show min (k + 1) p = k + 1 by omega]; go_num⟩
            case measure => simp [intOf]; omega
          · have hless := Hf.out.2.2 k (by omega) hlt
            have e1 : min k p = p := by omega
            rw [e1]
            go_wp2
            go_round
            case rel => exact ⟨k + 1, by omega, by go_num, by rw [show min (k + 1) p = p by omega]⟩
            case measure => simp [intOf]; omega
        · have e1 : min k p = p := by omega
          rw [e1]
          go_wp2
          go_loopw [13] (fun vi wr => ∃ q nq : Nat, q ≤ lb ∧ vi = .int .i64 q ∧ wr = w5.drewN nq) (fun vi _ => lb - (intOf vi).toNat)
          case atStart => exact ⟨0, 0, Nat.zero_le _, rfl, rfl⟩
          case round =>
            obtain ⟨q, nq, hq, rfl, rfl⟩ := hrel
            by_cases hql : q < lb
            · rcases hbc5 with h0 | ⟨b, off, rfl, _, hbc⟩
              · omega
              have c1 := (hbc q hql).1
              have c2 := hfirst q hql
              clear hbc hfirst
              generalize F q = y at c1 c2
              have i1 : (q : Int) < (L : Int) := by omega
              have i2 : (q : Int) < (lb : Int) := by omega
              go_wp2
              go_quiet (fail)
              go_wp2
              go_roundw
              case rel => exact ⟨q + 1, _, by omega, by go_num, rfl⟩
              case measure => simp [intOf]; omega
            · go_wp2_with fail
              have dec1 : Calls Try.prog 16 #[.slice (some ⟨g, 0, none⟩) L cap, .int .i64 lb] (w5.drewN nq) fun e w' => e = .returned (.tuple #[.int .u64 p, .int .i64 (lb + m1 : Nat), .bool true]) ∧ w' = w5.drewN nq := by
                rw [HL.out, Hm.out.1]
                exact decode_any g cap lb p ys (encF 9 dN) _ (by omega) (hrow.drewN nq) (by have := HL.out; omega) Hd.out.1
              refine dec1.mono ?_
              rintro e w6 ⟨rfl, hw6⟩
              subst hw6
              clear dec1
              go_wp2_with fail
              have dec2 : Calls Try.prog 16 #[.slice (some ⟨g, 0, none⟩) L cap, .int .i64 ((lb : Int) + (m1 : Int))] (w5.drewN nq) fun e w' => e = .returned (.tuple #[.int .u64 dN, .int .i64 L, .bool true]) ∧ w' = w5.drewN nq := by
                have h := decode_any g cap (lb + m1) dN ys [] (w5.drewN nq) hdN (hrow.drewN nq) (by have := HL.out; omega) (by rw [Hm.out.1]; exact Hd.out.2)
                rw [← Hm.out.2, ← Hyl.out, ← HL.out, show ((lb + m1 : Nat) : Int) = (lb : Int) + (m1 : Int) by omega] at h
                exact h
              refine dec2.mono ?_
              rintro e w6 ⟨rfl, hw6⟩
              subst hw6
              clear dec2
              go_wp2
              go_ret
              exact ⟨rfl, HB.out.trans (below_drewN _ _ _)⟩

end Go.Proofs.Qxb6604541a

/-
  THE WALK of FnEnterKeepsOnPathAtAStepOfItsKey (function 5), seat b6604453a.
-/
import Derived.Test.Qxb6604453aLast
namespace Go.Proofs.Qxb6604453a
open Go.RowKit Go.WideMaps Go.Maps Go.WideShapes

set_option maxHeartbeats 800000 in
set_option maxRecDepth 100000 in
theorem walk5 (b off len cap : Nat) (S : Nat → ByteArray) (w : World) (hl : len ≤ maxLen) (hb : b < w.heap.size) (hc : StrAt w b off len S) :
    Calls Try.prog 5 #[.slice (some ⟨b, off, none⟩) len cap] w fun e w' => e = .returned (.bool true) ∧ Below w.heap.size w w' := by
  have hl' := hl
  unfold maxLen at hl'
  go_enter Try.func5, Try.ntmps5
  go_wp2_with fail
  refine (bytes17_any b off len cap S w hl hc).mono ?_
  rintro e w' ⟨⟨r, rfl⟩, rfl⟩
  cases r with
  | false =>
    go_wp2
    go_ret
    exact ⟨rfl, Below.refl _ _⟩
  | true =>
    by_cases hbig : (65536 : Int) < (len : Int)
    · go_wp2
      go_ret
      exact ⟨rfl, Below.refl _ _⟩
    · go_wp2_with fail
      go_loop [3, 4] (fun n i => ∃ k m : Nat, k ≤ len ∧ m ≤ 1048576 ∧ i = .int .i64 k ∧ n = .int .i64 m) (fun _ i => len - (intOf i).toNat)
      case atStart => exact ⟨0, 0, Nat.zero_le _, by omega, rfl, rfl⟩
      case round =>
        obtain ⟨k, m, hk, hm, rfl, rfl⟩ := hrel
        by_cases hlt : k < len
        · obtain ⟨hcell, hsz⟩ := hc k hlt
          generalize S k = s at hcell hsz
          unfold maxLen at hsz
          go_wp2
          · go_ret
            exact ⟨rfl, Below.refl _ _⟩
          · go_ret
            exact ⟨rfl, Below.refl _ _⟩
          · go_round
            case rel => exact ⟨k + 1, m + (8 + s.size), by omega, by omega, by go_num, by go_num⟩
            case measure => simp [intOf]; omega
        · go_wp2_with fail
          refine (clone_any b off len cap S _ (by omega) hb hc).mono ?_
          rintro e w1 ⟨rfl, hrow, hbel1⟩
          go_wp2_with fail
          refine (new_any _).mono ?_
          rintro e w2 ⟨rfl, hst, hbel2⟩
          go_wp2_with fail
          go_loopw [6] (fun i wr => ∃ (k : Nat) (pv : Value), k ≤ len ∧ i = .int .i64 k ∧ St wr w1.heap.size (pre S k) pv ∧ Below w1.heap.size w1 wr) (fun i _ => len - (intOf i).toNat)
          case atStart => exact ⟨0, _, Nat.zero_le _, rfl, hst, hbel2⟩
          case round =>
            clear hst hbel2
            obtain ⟨k, pv, hk, rfl, hst, hbelk⟩ := hrel
            by_cases hlt : k < len
            · have hcell : wr.cell? ⟨w'.heap.size, k, none⟩ = some (.string (S k)) := (hbelk.cell (p := ⟨w'.heap.size, k, none⟩) hrow.lt).trans (hrow.cell hlt)
              have hsz := (hc k hlt).2
              go_wp2_with fail
              refine (zenter_any hst (by rw [pre_length]; omega) (S k) hsz).mono ?_
              rintro e w3 ⟨rfl, ⟨pv', hst'⟩, hbel3⟩
              rw [← pre_succ] at hst'
              go_wp2
              go_roundw
              case rel => exact ⟨k + 1, pv', by omega, by go_num, hst', hbelk.trans hbel3⟩
              case measure => simp [intOf]; omega
            · have hkl : k = len := by omega
              subst hkl
              go_wp2_with fail
              refine (pathLen_any hst).mono ?_
              rintro e w3 ⟨rfl, hw3⟩
              subst hw3
              rw [pre_length]
              go_wp2
              go_loopw [8] (fun i wr => ∃ q : Nat, q ≤ k ∧ i = .int .i64 q ∧ St wr w1.heap.size (pre S k) pv ∧ Below w1.heap.size w1 wr) (fun i _ => k - (intOf i).toNat)
              case atStart => exact ⟨0, Nat.zero_le _, rfl, hst, hbelk⟩
              case round =>
                clear hst hbelk
                obtain ⟨q, hq, rfl, hst, hbelk⟩ := hrel
                by_cases hlt : q < k
                · have hsz := (hc q hlt).2
                  obtain ⟨r, hr1, hr2, hr3, hr4⟩ := last_is S q k hlt
                  rw [hr3] at hr4
                  have Hr : Hid (S r = S q ∧ ∀ t, r < t → t < k → S t ≠ S q) := ⟨hr3, hr4⟩
                  clear hr3 hr4
                  go_wp2_with fail
                  refine (step_pre hst (by omega) q hlt).mono ?_
                  rintro e w4 ⟨rfl, n1, rfl⟩
                  go_wp2_with fail
                  refine (onPath_pre (hst.drewN n1) q r hsz hr2 Hr.out.1 Hr.out.2).mono ?_
                  rintro e w5 ⟨rfl, hw5⟩
                  subst hw5
                  have t1 : ¬ (r : Int) < (q : Int) := by omega
                  have t2 : (r : Int) < (k : Int) := by omega
                  go_wp2_with fail
                  refine (step_pre (hst.drewN n1) (by omega) r hr2).mono ?_
                  rintro e w4 ⟨rfl, n2, rfl⟩
                  rw [Hr.out.1]
                  go_wp2
                  go_roundw
                  case rel => exact ⟨q + 1, by omega, by go_num, hst.drewN (n1 + n2), hbelk.trans ⟨rfl, rfl, rfl, Nat.le_refl _, fun _ _ => rfl⟩⟩
                  case measure => simp [intOf]; omega
                · have hqk : q = k := by omega
                  subst hqk
                  have hle := cnt_le (pre S q)
                  rw [pre_length] at hle
                  have hz : cnt (pre S q) = 0 ↔ q = 0 := by
                    constructor
                    · intro h0
                      by_cases hq0 : q = 0
                      · exact hq0
                      · have := cnt_pos (pre S q) (fun e => hq0 (by rw [← pre_length S q, e]; rfl))
                        omega
                    · intro h0; omega
                  have Hz := hz
                  generalize hcn : cnt (pre S q) = cn at hle hz
                  have hlen : Calls Try.prog 16 #[.pointer (some ⟨w1.heap.size + 1, 0, none⟩)] wr fun e w' => e = .returned (.int .i64 cn) ∧ w' = wr := by rw [← hcn]; exact onPathLen_pre hst
                  clear hcn Hz
                  by_cases hq0 : q = 0
                  · have b1 : ((q : Int) == 0) = true := beq_iff_eq.2 (by omega)
                    have b2 : ((cn : Int) == 0) = true := beq_iff_eq.2 (by have := hz.2 hq0; omega)
                    have b3 : (cn : Int) ≤ (q : Int) := by omega
                    clear hz hq0 hle
                    go_wp2_with fail
                    refine hlen.mono ?_
                    rintro e w5 ⟨rfl, hw5⟩
                    subst hw5
                    go_wp2
                    go_ret
                    exact ⟨rfl, hbel1.trans (hbelk.mono hbel1.size)⟩
                  · have b1 : ((q : Int) == 0) = false := beq_eq_false_iff_ne.2 (by omega)
                    have b2 : ((cn : Int) == 0) = false := beq_eq_false_iff_ne.2 (fun h => hq0 (hz.1 (by omega)))
                    have b3 : (cn : Int) ≤ (q : Int) := by omega
                    clear hz hq0 hle
                    go_wp2_with fail
                    refine hlen.mono ?_
                    rintro e w5 ⟨rfl, hw5⟩
                    subst hw5
                    go_wp2
                    go_ret
                    exact ⟨rfl, hbel1.trans (hbelk.mono hbel1.size)⟩

set_option maxRecDepth 100000 in
/-- No key: the nil slice. -/
theorem walk5_nil (w : World) :
    Calls Try.prog 5 #[.slice none 0 0] w fun e w' => e = .returned (.bool true) ∧ Below w.heap.size w w' := by
  go_enter Try.func5, Try.ntmps5
  go_wp2_with fail
  refine (bytes17_none none 0 w).mono ?_
  rintro e w' ⟨⟨r, rfl⟩, rfl⟩
  cases r with
  | false =>
    go_wp2
    go_ret
    exact ⟨rfl, Below.refl _ _⟩
  | true =>
    go_wp2_with fail
    refine wp_loop_rounds 1 ?_
    rw [rounds_succ]
    go_wp2_with fail
    refine (clone_nil _).mono ?_
    rintro e w1 ⟨rfl, rfl⟩
    go_wp2_with fail
    refine (new_any _).mono ?_
    rintro e w2 ⟨rfl, hst, hbel2⟩
    go_wp2_with fail
    refine wp_loop_rounds 1 ?_
    rw [rounds_succ]
    go_wp2_with fail
    refine (pathLen_nil hst).mono ?_
    rintro e w3 ⟨rfl, hw3⟩
    subst hw3
    go_wp2_with fail
    refine wp_loop_rounds 1 ?_
    rw [rounds_succ]
    go_wp2_with fail
    refine (onPathLen_nil hst).mono ?_
    rintro e w3 ⟨rfl, hw3⟩
    subst hw3
    go_wp2
    go_ret
    exact ⟨rfl, hbel2⟩

set_option maxRecDepth 100000 in
/-- No key: an empty slice that is not nil. -/
theorem walk5_none (x : Addr) (cap : Nat) (w : World) :
    Calls Try.prog 5 #[.slice (some x) 0 cap] w fun e w' => e = .returned (.bool true) ∧ Below w.heap.size w w' := by
  go_enter Try.func5, Try.ntmps5
  go_wp2_with fail
  refine (bytes17_none (some x) cap w).mono ?_
  rintro e w' ⟨⟨r, rfl⟩, rfl⟩
  cases r with
  | false =>
    go_wp2
    go_ret
    exact ⟨rfl, Below.refl _ _⟩
  | true =>
    go_wp2_with fail
    refine wp_loop_rounds 1 ?_
    rw [rounds_succ]
    go_wp2_with fail
    refine (clone_none x cap _).mono ?_
    rintro e w1 ⟨rfl, hbel1, hsz1⟩
    go_wp2_with fail
    refine (new_any _).mono ?_
    rintro e w2 ⟨rfl, hst, hbel2⟩
    go_wp2_with fail
    refine wp_loop_rounds 1 ?_
    rw [rounds_succ]
    go_wp2_with fail
    refine (pathLen_nil hst).mono ?_
    rintro e w3 ⟨rfl, hw3⟩
    subst hw3
    go_wp2_with fail
    refine wp_loop_rounds 1 ?_
    rw [rounds_succ]
    go_wp2_with fail
    refine (onPathLen_nil hst).mono ?_
    rintro e w3 ⟨rfl, hw3⟩
    subst hw3
    go_wp2
    go_ret
    exact ⟨rfl, hbel1.trans (hbel2.mono hbel1.size)⟩

end Go.Proofs.Qxb6604453a

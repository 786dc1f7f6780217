/-
  THE WALK of FnEnterRecordsEveryKeyAndItsLastPlace (function 4), seat b6604453a.
-/
import Derived.Test.Qxb6604453aBytes
import Derived.Test.Qxb6604453aPlain
namespace Go.Proofs.Qxb6604453a
open Go.RowKit Go.WideMaps Go.Maps Go.WideShapes

theorem St.drewN {w : World} {M : Nat} {ks : List ByteArray} {pv : Value} (h : St w M ks pv) (n : Nat) : St (w.drewN n) M ks pv :=
  ⟨by simpa using h.path, by simpa using h.free, by simpa using h.map, by simpa [World.ownsRow] using h.row, by simpa [World.ownsMap] using h.keys, by simpa using h.top⟩

theorem step_pre {w : World} {M n : Nat} {S : Nat → ByteArray} {pv : Value} (h : St w M (pre S n) pv) (hn : n ≤ 1048576) (i : Nat) (hi : i < n) :
    Calls Try.prog 14 #[.pointer (some ⟨M + 1, 0, none⟩), .int .i64 i] w fun e w' => e = .returned (.tuple #[.string (S i), .int .i64 0]) ∧ ∃ n, w' = w.drewN n := by
  have := step_any h (by rw [pre_length]; exact hn) i (by rw [pre_length]; exact hi)
  rwa [pre_at] at this

theorem eq_bytes {a b : ByteArray} (h : a = b) : (a.toList == b.toList) = true := by rw [h]; simp
theorem ne_bytes {a b : ByteArray} (h : ¬ a = b) : (a.toList == b.toList) = false := by
  rw [ByteArray.toList_eq, ByteArray.toList_eq]
  exact beq_eq_false_iff_ne.2 (fun e => h (bytes_inj e))

theorem onPath_pre {w : World} {M n : Nat} {S : Nat → ByteArray} {pv : Value} (h : St w M (pre S n) pv) (q r : Nat) (hs : (S q).size ≤ maxLen) (hr : r < n) (he : S r = S q) (hl : ∀ t, r < t → t < n → S t ≠ S q) :
    Calls Try.prog 15 #[.pointer (some ⟨M + 1, 0, none⟩), .string (S q)] w fun e w' => e = .returned (.tuple #[.int .i64 r, .bool true]) ∧ w' = w := by
  obtain ⟨h1, h2⟩ := onPath_last S r n hr (fun j h3 h4 => by rw [he]; exact hl j h3 h4)
  rw [he] at h1 h2
  refine (onPath_any h (S q) hs).mono ?_
  rintro e w' ⟨c, rfl, hat, hw⟩
  rw [h2] at hat
  injection hat with hat
  injection hat with _ hat
  rw [h1, ← hat]
  exact ⟨rfl, hw⟩

theorem onPathLen_pre {w : World} {M : Nat} {ks : List ByteArray} {pv : Value} (h : St w M ks pv) :
    Calls Try.prog 16 #[.pointer (some ⟨M + 1, 0, none⟩)] w fun e w' => e = .returned (.int .i64 (cnt ks)) ∧ w' = w := by
  have := onPathLen_any h
  rwa [onPath_size] at this

theorem cnt_last (S : Nat → ByteArray) (q k : Nat) (hq : q < k) (hl : ∀ t, q < t → t < k → S t ≠ S q) : cnt ((pre S k).drop q) = 1 + cnt ((pre S k).drop (q + 1)) := by
  rw [pre_drop S k q hq, cnt]
  have e : isIn (S q) ((pre S k).drop (q + 1)) = false := (isIn_no _ _).2 (fun h => by
    obtain ⟨j, h1, h2, h3⟩ := (mem_drop S k (q + 1) (S q)).1 h
    exact hl j (by omega) h2 h3)
  rw [e]; simp
theorem cnt_more (S : Nat → ByteArray) (q r k : Nat) (hq : q < k) (h1 : q < r) (h2 : r < k) (he : S r = S q) : cnt ((pre S k).drop q) = cnt ((pre S k).drop (q + 1)) := by
  rw [pre_drop S k q hq, cnt]
  have e : isIn (S q) ((pre S k).drop (q + 1)) = true := (isIn_iff _ _).2 ((mem_drop S k (q + 1) (S q)).2 ⟨r, by omega, h2, he⟩)
  rw [e]; simp
theorem cnt_end (S : Nat → ByteArray) (k c : Nat) (h : c + cnt ((pre S k).drop k) = cnt (pre S k)) : c = cnt (pre S k) := by
  rw [List.drop_of_length_le (by rw [pre_length]; exact Nat.le_refl _)] at h
  simpa [cnt] using h

set_option maxHeartbeats 800000 in
set_option maxRecDepth 100000 in
theorem walk4 (b off len cap : Nat) (S : Nat → ByteArray) (w : World) (hl : len ≤ maxLen) (hb : b < w.heap.size) (hc : StrAt w b off len S) :
    Calls Try.prog 4 #[.slice (some ⟨b, off, none⟩) len cap] w fun e w' => e = .returned (.bool true) ∧ Below w.heap.size w w' := by
  have hl' := hl
  unfold maxLen at hl'
  go_enter Try.func4, Try.ntmps4
  go_wp2_with fail
  refine (bytes9_any b off len cap S w hl hc).mono ?_
  rintro e w' ⟨⟨r, rfl⟩, rfl⟩
  cases r with
  | false =>
    go_wp2
    go_ret
    exact ⟨rfl, Below.refl _ _⟩
  | true =>
    by_cases hbig : (4096 : Int) < (len : Int)
    · go_wp2
      go_ret
      exact ⟨rfl, Below.refl _ _⟩
    · go_wp2_with fail
      go_loop [3, 4] (fun n i => ∃ k m : Nat, k ≤ len ∧ m ≤ 1048576 ∧ i = .int .i64 k ∧ n = .int .i64 m) (fun _ i => len - (intOf i).toNat)
      case atStart => exact ⟨0, 0, Nat.zero_le _, by omega, rfl, rfl⟩
      case round =>
        obtain ⟨k, m, hk, hm, rfl, rfl⟩ := hrel
        by_cases hlt : k < len
        · obtain ⟨hcell, hsz⟩ := hc k hlt
          generalize S k = s at hcell hsz
          unfold maxLen at hsz
          go_wp2
          · go_ret
            exact ⟨rfl, Below.refl _ _⟩
          · go_ret
            exact ⟨rfl, Below.refl _ _⟩
          · go_round
            case rel => exact ⟨k + 1, m + (8 + s.size), by omega, by omega, by go_num, by go_num⟩
            case measure => simp [intOf]; omega
        · go_wp2_with fail
          refine (clone_any b off len cap S _ (by omega) hb hc).mono ?_
          rintro e w1 ⟨rfl, hrow, hbel1⟩
          go_wp2_with fail
          refine (new_any _).mono ?_
          rintro e w2 ⟨rfl, hst, hbel2⟩
          go_wp2_with fail
          go_loopw [6] (fun i wr => ∃ (k : Nat) (pv : Value), k ≤ len ∧ i = .int .i64 k ∧ St wr w1.heap.size (pre S k) pv ∧ Below w1.heap.size w1 wr) (fun i _ => len - (intOf i).toNat)
          case atStart => exact ⟨0, _, Nat.zero_le _, rfl, hst, hbel2⟩
          case round =>
            clear hst hbel2
            obtain ⟨k, pv, hk, rfl, hst, hbelk⟩ := hrel
            by_cases hlt : k < len
            · have hcell : wr.cell? ⟨w'.heap.size, k, none⟩ = some (.string (S k)) := (hbelk.cell (p := ⟨w'.heap.size, k, none⟩) hrow.lt).trans (hrow.cell hlt)
              have hsz := (hc k hlt).2
              go_wp2_with fail
              refine (zenter_any hst (by rw [pre_length]; omega) (S k) hsz).mono ?_
              rintro e w3 ⟨rfl, ⟨pv', hst'⟩, hbel3⟩
              rw [← pre_succ] at hst'
              go_wp2
              go_roundw
              case rel => exact ⟨k + 1, pv', by omega, by go_num, hst', hbelk.trans hbel3⟩
              case measure => simp [intOf]; omega
            · have hkl : k = len := by omega
              subst hkl
              go_wp2_with fail
              refine (pathLen_any hst).mono ?_
              rintro e w3 ⟨rfl, hw3⟩
              subst hw3
              rw [pre_length]
              go_wp2
              go_loopw [7, 8] (fun d i wr => ∃ q c : Nat, q ≤ k ∧ c ≤ q ∧ c + cnt ((pre S k).drop q) = cnt (pre S k) ∧ i = .int .i64 q ∧ d = .int .i64 c ∧ St wr w1.heap.size (pre S k) pv ∧ Below w1.heap.size w1 wr) (fun _ i _ => k - (intOf i).toNat)
              case atStart => exact ⟨0, 0, Nat.zero_le _, Nat.le_refl _, by simp, rfl, rfl, hst, hbelk⟩
              case round =>
                clear hst hbelk
                obtain ⟨q, c, hq, hcq, hcnt, rfl, rfl, hst, hbelk⟩ := hrel
                have Hcnt : Hid (c + cnt ((pre S k).drop q) = cnt (pre S k)) := hcnt
                clear hcnt
                by_cases hlt : q < k
                · have hcell : wr.cell? ⟨w'.heap.size, q, none⟩ = some (.string (S q)) := (hbelk.cell (p := ⟨w'.heap.size, q, none⟩) hrow.lt).trans (hrow.cell hlt)
                  have hsz := (hc q hlt).2
                  go_wp2_with fail
                  refine (step_pre hst (by omega) q hlt).mono ?_
                  rintro e w4 ⟨rfl, nq, rfl⟩
                  go_wp2_with fail
                  go_loopw [11, 12] (fun l j wi => ∃ p r : Nat, q < p ∧ p ≤ k ∧ q ≤ r ∧ r < p ∧ S r = S q ∧ (∀ t, r < t → t < p → S t ≠ S q) ∧ j = .int .i64 p ∧ l = .int .i64 r ∧ St wi w1.heap.size (pre S k) pv ∧ Below w1.heap.size w1 wi) (fun _ j _ => k - (intOf j).toNat)
                  case atStart => exact ⟨q + 1, q, by omega, by omega, Nat.le_refl _, by omega, rfl, fun t h1 h2 => by omega, by go_num, rfl, hst.drewN _, hbelk.trans ⟨rfl, rfl, rfl, Nat.le_refl _, fun _ _ => rfl⟩⟩
                  case round =>
                    clear hst hbelk hcell
                    obtain ⟨p, r, hp1, hp2, hr1, hr2, hr3, hr4, rfl, rfl, hst, hbelk⟩ := hrel
                    have Hr : Hid (S r = S q ∧ ∀ t, r < t → t < p → S t ≠ S q) := ⟨hr3, hr4⟩
                    clear hr3 hr4
                    have hcell : wr.cell? ⟨w'.heap.size, q, none⟩ = some (.string (S q)) := (hbelk.cell (p := ⟨w'.heap.size, q, none⟩) hrow.lt).trans (hrow.cell hlt)
                    by_cases hlp : p < k
                    · have hcellp : wr.cell? ⟨w'.heap.size, p, none⟩ = some (.string (S p)) := (hbelk.cell (p := ⟨w'.heap.size, p, none⟩) hrow.lt).trans (hrow.cell hlp)
                      have hi1 : (p : Int) < (k : Int) := by omega
                      have hi2 : (q : Int) < (k : Int) := by omega
                      by_cases he : S p = S q
                      · have hbq := eq_bytes he
                        have He : Hid (S p = S q) := he
                        clear he
                        go_wp2
                        go_quiet (fail)
                        go_wp2
                        go_roundw
                        case rel => exact ⟨p + 1, p, by omega, by omega, by omega, by omega, He.out, fun t h1 h2 => by omega, by go_num, rfl, hst.drewN _, hbelk.trans ⟨rfl, rfl, rfl, Nat.le_refl _, fun _ _ => rfl⟩⟩
                        case measure => simp [intOf]; omega
                      · have hbq := ne_bytes he
                        have He : Hid (¬ S p = S q) := he
                        clear he
                        go_wp2
                        go_quiet (fail)
                        go_wp2
                        go_roundw
                        case rel =>
                          refine ⟨p + 1, r, by omega, by omega, by omega, by omega, Hr.out.1, fun t h1 h2 => ?_, by go_num, rfl, hst.drewN _, hbelk.trans ⟨rfl, rfl, rfl, Nat.le_refl _, fun _ _ => rfl⟩⟩
                          by_cases htp : t = p
                          · subst htp; exact He.out
                          · exact Hr.out.2 t h1 (by omega)
                        case measure => simp [intOf]; omega
                    · have hpk : p = k := by omega
                      subst hpk
                      by_cases hrq : q = r
                      · subst hrq
                        go_wp2_with fail
                        refine (onPath_pre hst q q hsz (by omega) rfl Hr.out.2).mono ?_
                        rintro e w5 ⟨rfl, hw5⟩
                        subst hw5
                        go_wp2
                        go_roundw
                        case rel => exact ⟨q + 1, c + 1, by omega, by omega, by have := Hcnt.out; rw [cnt_last S q p (by omega) Hr.out.2] at this; omega, by go_num, by go_num, hst, hbelk⟩
                        case measure => simp [intOf]; omega
                      · have htest : ((r : Int) == (q : Int)) = false := beq_eq_false_iff_ne.2 (by omega)
                        have hqr : q < r := by omega
                        clear hrq
                        go_wp2_with fail
                        refine (onPath_pre hst q r hsz (by omega) Hr.out.1 Hr.out.2).mono ?_
                        rintro e w5 ⟨rfl, hw5⟩
                        subst hw5
                        go_wp2
                        go_roundw
                        case rel => exact ⟨q + 1, c, by omega, by omega, by have := Hcnt.out; rw [cnt_more S q r p (by omega) hqr (by omega) Hr.out.1] at this; omega, by go_num, rfl, hst, hbelk⟩
                        case measure => simp [intOf]; omega
                · have hqk : q = k := by omega
                  subst hqk
                  obtain rfl := cnt_end S q c Hcnt.out
                  go_wp2_with fail
                  refine (onPathLen_pre hst).mono ?_
                  rintro e w5 ⟨rfl, hw5⟩
                  subst hw5
                  go_wp2
                  go_ret
                  exact ⟨rfl, hbel1.trans (hbelk.mono hbel1.size)⟩

theorem pathLen_nil {w : World} {M : Nat} {pv : Value} (h : St w M [] pv) : Calls Try.prog 13 #[.pointer (some ⟨M + 1, 0, none⟩)] w fun e w' => e = .returned (.int .i64 0) ∧ w' = w := pathLen_any h
theorem onPathLen_nil {w : World} {M : Nat} {pv : Value} (h : St w M [] pv) : Calls Try.prog 16 #[.pointer (some ⟨M + 1, 0, none⟩)] w fun e w' => e = .returned (.int .i64 0) ∧ w' = w := onPathLen_pre h

set_option maxRecDepth 100000 in
/-- No key: the nil slice. -/
theorem walk4_nil (w : World) :
    Calls Try.prog 4 #[.slice none 0 0] w fun e w' => e = .returned (.bool true) ∧ Below w.heap.size w w' := by
  go_enter Try.func4, Try.ntmps4
  go_wp2_with fail
  refine (bytes9_none none 0 w).mono ?_
  rintro e w' ⟨⟨r, rfl⟩, rfl⟩
  cases r with
  | false =>
    go_wp2
    go_ret
    exact ⟨rfl, Below.refl _ _⟩
  | true =>
    go_wp2_with fail
    refine wp_loop_rounds 1 ?_
    rw [rounds_succ]
    go_wp2_with fail
    refine (clone_nil _).mono ?_
    rintro e w1 ⟨rfl, rfl⟩
    go_wp2_with fail
    refine (new_any _).mono ?_
    rintro e w2 ⟨rfl, hst, hbel2⟩
    go_wp2_with fail
    refine wp_loop_rounds 1 ?_
    rw [rounds_succ]
    go_wp2_with fail
    refine (pathLen_nil hst).mono ?_
    rintro e w3 ⟨rfl, hw3⟩
    subst hw3
    go_wp2_with fail
    refine wp_loop_rounds 1 ?_
    rw [rounds_succ]
    go_wp2_with fail
    refine (onPathLen_nil hst).mono ?_
    rintro e w3 ⟨rfl, hw3⟩
    subst hw3
    go_wp2
    go_ret
    exact ⟨rfl, hbel2⟩

set_option maxRecDepth 100000 in
/-- No key: an empty slice that is not nil. -/
theorem walk4_none (x : Addr) (cap : Nat) (w : World) :
    Calls Try.prog 4 #[.slice (some x) 0 cap] w fun e w' => e = .returned (.bool true) ∧ Below w.heap.size w w' := by
  go_enter Try.func4, Try.ntmps4
  go_wp2_with fail
  refine (bytes9_none (some x) cap w).mono ?_
  rintro e w' ⟨⟨r, rfl⟩, rfl⟩
  cases r with
  | false =>
    go_wp2
    go_ret
    exact ⟨rfl, Below.refl _ _⟩
  | true =>
    go_wp2_with fail
    refine wp_loop_rounds 1 ?_
    rw [rounds_succ]
    go_wp2_with fail
    refine (clone_none x cap _).mono ?_
    rintro e w1 ⟨rfl, hbel1, hsz1⟩
    go_wp2_with fail
    refine (new_any _).mono ?_
    rintro e w2 ⟨rfl, hst, hbel2⟩
    go_wp2_with fail
    refine wp_loop_rounds 1 ?_
    rw [rounds_succ]
    go_wp2_with fail
    refine (pathLen_nil hst).mono ?_
    rintro e w3 ⟨rfl, hw3⟩
    subst hw3
    go_wp2_with fail
    refine wp_loop_rounds 1 ?_
    rw [rounds_succ]
    go_wp2_with fail
    refine (onPathLen_nil hst).mono ?_
    rintro e w3 ⟨rfl, hw3⟩
    subst hw3
    go_wp2
    go_ret
    exact ⟨rfl, hbel1.trans (hbel2.mono hbel1.size)⟩

end Go.Proofs.Qxb6604453a

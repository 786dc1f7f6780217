/-
  THE SMALL WALKS of seat b6604541a: the bounds on the input's size (functions 10, 11, 21, 22) and the order of the clock (12).
-/
import Derived.Test.Qxb6604541aRows
import Derived.WalkKit
import Derived.ProofKit
import Derived.WalkSpells
import Derived.WalkLawsBesides
import Derived.Deep.OwnRows
import Derived.Deep.QuietTactic
import Derived.BigQuiet
import Derived.RegionTactic
namespace Go.Proofs.Qxb6604541a
open Go.RowKit Go.WideShapes

/-- It returned a truth value ¦ a number. -/
def Says (e : Ending) : Prop := ∃ r : Bool, e = .returned (.bool r)
def Tells (e : Ending) : Prop := ∃ z : Int, e = .returned (.int .i64 z)

/-- What a slice of dots that came in is: at each place below its length a string and a count lie. -/
def DotAt (w : World) (b off len : Nat) (S : Nat → ByteArray) (N : Nat → Nat) : Prop :=
  ∀ j, j < len → w.cell? ⟨b, off + j * 2, none⟩ = some (.string (S j)) ∧ (S j).size ≤ maxLen ∧ w.cell? ⟨b, off + j * 2 + 1, none⟩ = some (.int .u64 (N j))

theorem add_any (t n : Int) (w : World) : Calls Try.prog 21 #[.int .i64 t, .int .i64 n] w fun e w' => Tells e ∧ w' = w := by
  by_cases h1 : 1048576 < t
  · go_enter Try.func21, Try.ntmps21
    go_wp2
    go_ret
    exact ⟨⟨_, rfl⟩, rfl⟩
  · by_cases h2 : n < 0
    · go_enter Try.func21, Try.ntmps21
      go_wp2
      go_ret
      exact ⟨⟨_, rfl⟩, rfl⟩
    · by_cases h3 : 1048576 < n
      · go_enter Try.func21, Try.ntmps21
        go_wp2
        go_ret
        exact ⟨⟨_, rfl⟩, rfl⟩
      · go_enter Try.func21, Try.ntmps21
        go_wp2
        go_ret
        exact ⟨⟨_, rfl⟩, rfl⟩

theorem dots_none (t : Int) (a : Option Addr) (cap : Nat) (w : World) :
    Calls Try.prog 22 #[.int .i64 t, .slice a 0 cap] w fun e w' => Tells e ∧ w' = w := by
  go_enter Try.func22, Try.ntmps22
  go_wp2_with fail
  refine (add_any _ _ _).mono ?_
  rintro e w1 ⟨⟨z, rfl⟩, hw⟩
  subst hw
  go_wp2_with fail
  refine wp_loop_rounds 1 ?_
  rw [rounds_succ]
  go_wp2
  go_ret
  exact ⟨⟨_, rfl⟩, rfl⟩

theorem dots_any (t : Int) (b off len cap : Nat) (S : Nat → ByteArray) (N : Nat → Nat) (w : World) (hl : len ≤ maxLen) (hc : DotAt w b off len S N) :
    Calls Try.prog 22 #[.int .i64 t, .slice (some ⟨b, off, none⟩) len cap] w fun e w' => Tells e ∧ w' = w := by
  unfold maxLen at hl
  by_cases hbig : (65536 : Int) < (len : Int)
  · go_enter Try.func22, Try.ntmps22
    go_wp2
    go_ret
    exact ⟨⟨_, rfl⟩, rfl⟩
  · go_enter Try.func22, Try.ntmps22
    go_wp2_with fail
    refine (add_any _ _ _).mono ?_
    rintro e w1 ⟨⟨z, rfl⟩, hw⟩
    subst hw
    go_wp2_with fail
    go_loop [0, 5] (fun n i => ∃ (k : Nat) (z : Int), k ≤ len ∧ i = .int .i64 k ∧ n = .int .i64 z) (fun _ i => len - (intOf i).toNat)
    case atStart => exact ⟨0, _, Nat.zero_le _, rfl, rfl⟩
    case round =>
      obtain ⟨k, z, hk, rfl, rfl⟩ := hrel
      by_cases hlt : k < len
      · obtain ⟨hcell, _, _⟩ := hc k hlt
        generalize S k = s at hcell
        go_wp2_with fail
        refine (add_any _ _ _).mono ?_
        rintro e w1 ⟨⟨z', rfl⟩, hw⟩
        subst hw
        go_wp2
        go_round
        case rel => exact ⟨k + 1, z', by omega, by go_num, rfl⟩
        case measure => simp [intOf]; omega
      · go_wp2
        go_ret
        exact ⟨⟨_, rfl⟩, rfl⟩

/-- The slice of dots, whatever its address: without element, or with its address written out. -/
def Dots (w : World) (a : Option Addr) (len : Nat) (S : Nat → ByteArray) (N : Nat → Nat) : Prop :=
  len = 0 ∨ ∃ b off, a = some ⟨b, off, none⟩ ∧ b < w.heap.size ∧ DotAt w b off len S N

theorem dots_all (t : Int) (a : Option Addr) (len cap : Nat) (S : Nat → ByteArray) (N : Nat → Nat) (w : World) (hl : len ≤ maxLen) (hc : Dots w a len S N) :
    Calls Try.prog 22 #[.int .i64 t, .slice a len cap] w fun e w' => Tells e ∧ w' = w := by
  rcases hc with rfl | ⟨b, off, rfl, _, hc⟩
  · exact dots_none t a cap w
  · exact dots_any t b off len cap S N w hl hc

theorem size_all (ab : Option Addr) (lb cb : Nat) (a : Option Addr) (len cap : Nat) (s : ByteArray) (S : Nat → ByteArray) (N : Nat → Nat) (w : World) (hl : len ≤ maxLen) (hc : Dots w a len S N) :
    Calls Try.prog 11 #[.slice ab lb cb, .slice a len cap, .string s] w fun e w' => Tells e ∧ w' = w := by
  go_enter Try.func11, Try.ntmps11
  go_wp2_with fail
  refine (add_any _ _ _).mono ?_
  rintro e w1 ⟨⟨z1, rfl⟩, hw⟩
  subst hw
  go_wp2_with fail
  refine (add_any _ _ _).mono ?_
  rintro e w1 ⟨⟨z2, rfl⟩, hw⟩
  subst hw
  go_wp2_with fail
  refine (dots_all _ a len cap S N _ hl hc).mono ?_
  rintro e w1 ⟨⟨z3, rfl⟩, hw⟩
  subst hw
  go_wp2
  go_ret
  exact ⟨⟨_, rfl⟩, rfl⟩

set_option maxHeartbeats 400000 in
theorem bytes_all (ab : Option Addr) (lb cb : Nat) (a : Option Addr) (len cap : Nat) (s : ByteArray) (n : Int) (S : Nat → ByteArray) (N : Nat → Nat) (w : World) (hlb : lb ≤ maxLen) (hl : len ≤ maxLen) (hs : s.size ≤ maxLen) (hc : Dots w a len S N) :
    Calls Try.prog 10 #[.slice ab lb cb, .slice a len cap, .string s, .int .u64 n] w fun e w' => Says e ∧ w' = w := by
  unfold maxLen at hl hlb hs
  by_cases h1 : (1048576 : Int) < (lb : Int)
  · go_enter Try.func10, Try.ntmps10
    go_wp2
    go_ret
    exact ⟨⟨_, rfl⟩, rfl⟩
  by_cases h2 : (1048576 : Int) < (len : Int)
  · go_enter Try.func10, Try.ntmps10
    go_wp2
    go_ret
    exact ⟨⟨_, rfl⟩, rfl⟩
  by_cases h3 : (1048576 : Int) < (lb : Int) + (len : Int)
  · go_enter Try.func10, Try.ntmps10
    go_wp2
    go_ret
    exact ⟨⟨_, rfl⟩, rfl⟩
  go_enter Try.func10, Try.ntmps10
  go_wp2
  go_loop [9, 10] (fun n i => ∃ k m : Nat, k ≤ len ∧ m ≤ 1048576 ∧ i = .int .i64 k ∧ n = .int .i64 m) (fun _ i => len - (intOf i).toNat)
  case atStart => exact ⟨0, lb + len, Nat.zero_le _, by omega, rfl, by go_num⟩
  case round =>
    obtain ⟨k, m, hk, hm, rfl, rfl⟩ := hrel
    by_cases hlt : k < len
    · rcases hc with h0 | ⟨b, off, rfl, _, hc⟩
      · omega
      obtain ⟨hcell, hsz, _⟩ := hc k hlt
      generalize S k = s at hcell hsz
      unfold maxLen at hsz
      go_wp2
      · go_ret
        exact ⟨⟨_, rfl⟩, rfl⟩
      · go_ret
        exact ⟨⟨_, rfl⟩, rfl⟩
      · go_round
        case rel => exact ⟨k + 1, m + s.size, by omega, by omega, by go_num, by go_num⟩
        case measure => simp [intOf]; omega
    · go_wp2
      all_goals
        go_ret
        exact ⟨⟨_, rfl⟩, rfl⟩

/-- Each writer of the clock below the next. -/
def Asc (len : Nat) (S : Nat → ByteArray) : Prop := ∀ m, m + 1 < len → Op.bytesLess (S m).toList (S (m + 1)).toList = true
def SaysAsc (e : Ending) (len : Nat) (S : Nat → ByteArray) : Prop := ∃ r : Bool, e = .returned (.bool r) ∧ (r = true → Asc len S)

theorem asc_all (a : Option Addr) (len cap : Nat) (S : Nat → ByteArray) (N : Nat → Nat) (w : World) (hl : len ≤ maxLen) (hc : Dots w a len S N) :
    Calls Try.prog 12 #[.slice a len cap] w fun e w' => SaysAsc e len S ∧ ∃ n, w' = w.drewN n := by
  unfold maxLen at hl
  go_enter Try.func12, Try.ntmps12
  go_wp2
  go_loopw [3] (fun i wr => ∃ m nq : Nat, i = .int .i64 (m + 1 : Nat) ∧ (∀ q, q < m → q + 1 < len → Op.bytesLess (S q).toList (S (q + 1)).toList = true) ∧ wr = w.drewN nq) (fun i _ => len - (intOf i).toNat)
  case atStart => exact ⟨0, 0, rfl, fun q h => by omega, rfl⟩
  case round =>
    obtain ⟨m, nq, rfl, hasc, rfl⟩ := hrel
    have Hasc : Hid (∀ q, q < m → q + 1 < len → Op.bytesLess (S q).toList (S (q + 1)).toList = true) := hasc
    clear hasc
    by_cases hlt : m + 1 < len
    · rcases hc with h0 | ⟨b, off, rfl, _, hc⟩
      · omega
      obtain ⟨hc1, _, _⟩ := hc m (by omega)
      obtain ⟨hc2, _, _⟩ := hc (m + 1) hlt
      have i1 : (m : Int) < (len : Int) := by omega
      have i2 : (m : Int) + 1 < (len : Int) := by omega
      cases hless : Op.bytesLess (S m).toList (S (m + 1)).toList
      · go_wp2
        go_quiet (fail)
        go_wp2
        go_ret
        exact ⟨⟨false, rfl, fun h => by cases h⟩, _, World.drewN_drewN _ _ _⟩
      · go_wp2
        go_quiet (fail)
        go_wp2
        go_roundw
        case rel =>
          refine ⟨m + 1, _, by go_num, fun q h1 h2 => ?_, rfl⟩
          by_cases e : q = m
          · subst e; exact hless
          · exact Hasc.out q (by omega) h2
        case measure => simp [intOf]; omega
    · go_wp2
      go_ret
      exact ⟨⟨true, rfl, fun _ q hq => Hasc.out q (by omega) hq⟩, _, rfl⟩

end Go.Proofs.Qxb6604541a

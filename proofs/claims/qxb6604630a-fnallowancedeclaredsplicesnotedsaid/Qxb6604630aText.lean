/-
  allowanceDeclared (9, 13), zzIndex (7), zzHasPrefix (10), the bounds on the input's size (8, 11); seat b6604630a. The texts are given as lists of their bytes.
-/
import Derived.Test.Qxb6604630aRows
import Derived.WalkKit
import Derived.ProofKit
import Derived.WalkSpells
import Derived.WalkLawsBesides
namespace Go.Proofs.Qxb6604630a
open Go.RowKit Go.WideShapes

/-- It returned a truth value. -/
def Says (e : Ending) : Prop := ∃ r : Bool, e = .returned (.bool r)

/-- What stands ahead of the note. -/
def headL : List UInt8 := [97, 108, 108, 111, 119, 97, 110, 99, 101, 32, 110, 117, 109, 101, 114, 105, 99, 91, 93, 32, 58, 61, 32, 110, 117, 108, 108, 105, 102, 40]
/-- What stands behind it. -/
def tailL : List UInt8 := [44, 32, 39, 39, 41, 58, 58, 110, 117, 109, 101, 114, 105, 99, 91, 93, 59, 10, 9, 9, 9, 100, 101, 97, 100, 108, 105, 110, 101, 32, 110, 117, 109, 101, 114, 105, 99, 32, 58, 61, 32, 97, 108, 108, 111, 119, 97, 110, 99, 101, 91, 49, 93, 59, 10, 9, 9, 9, 114, 101, 115, 101, 114, 118, 101, 32, 110, 117, 109, 101, 114, 105, 99, 32, 58, 61, 32, 97, 108, 108, 111, 119, 97, 110, 99, 101, 91, 50, 93, 59]
def headB : ByteArray := ⟨headL.toArray⟩
def tailB : ByteArray := ⟨tailL.toArray⟩
/-- The words that are looked for. -/
def colonL : List UInt8 := [44, 32, 39, 39, 41, 58, 58, 110, 117, 109, 101, 114, 105, 99, 91, 93, 59]
def deadL : List UInt8 := [100, 101, 97, 100, 108, 105, 110, 101, 32, 110, 117, 109, 101, 114, 105, 99, 32, 58, 61, 32, 97, 108, 108, 111, 119, 97, 110, 99, 101, 91, 49, 93, 59]
def resL : List UInt8 := [114, 101, 115, 101, 114, 118, 101, 32, 110, 117, 109, 101, 114, 105, 99, 32, 58, 61, 32, 97, 108, 108, 111, 119, 97, 110, 99, 101, 91, 50, 93, 59]
def nullL : List UInt8 := [110, 117, 108, 108, 105, 102, 40]

theorem decl_any (a : ByteArray) (w : World) (ha : a.size ≤ 1048576) : Calls Try.prog 13 #[.string a] w fun e w' => e = .returned (.string (headB ++ a ++ tailB)) ∧ w' = w := by
  go_enter Try.func13, Try.ntmps13
  go_wp2
  go_ret
  exact ⟨rfl, rfl⟩

theorem zdecl_any (a : ByteArray) (w : World) (ha : a.size ≤ 1048576) : Calls Try.prog 9 #[.string a] w fun e w' => e = .returned (.string (headB ++ a ++ tailB)) ∧ w' = w := by
  go_enter Try.func9, Try.ntmps9
  go_wp2_with fail
  refine (decl_any a w ha).mono ?_
  rintro e w1 ⟨rfl, hw⟩
  subst hw
  go_wp2
  go_ret
  exact ⟨rfl, rfl⟩

/-- zzIndex, where 'sub' is met first at place k. -/
theorem index_hit (s sub : ByteArray) (k : Nat) (w : World) (hs : s.size ≤ 4194304) (hk : k + sub.size ≤ s.size) (hit : ((s.extract k (k + sub.size)).toList == sub.toList) = true)
    (miss : ∀ j, j < k → ((s.extract j (j + sub.size)).toList == sub.toList) = false) :
    Calls Try.prog 7 #[.string s, .string sub] w fun e w' => e = .returned (.int .i64 k) ∧ w' = w := by
  go_enter Try.func7, Try.ntmps7
  go_wp2
  go_loop [5] (fun vi => ∃ q : Nat, q ≤ k ∧ vi = .int .i64 q) (fun vi => s.size - (intOf vi).toNat)
  case atStart => exact ⟨0, Nat.zero_le _, rfl⟩
  case round =>
    obtain ⟨q, hq, rfl⟩ := hrel
    have i1 : (q : Int) + (sub.size : Int) ≤ (s.size : Int) := by omega
    by_cases hlt : q = k
    · subst hlt
      clear miss
      go_wp2
      go_ret
      exact ⟨rfl, rfl⟩
    · have hm := miss q (by omega)
      clear miss hit
      go_wp2
      go_round
      case rel => exact ⟨q + 1, by omega, by go_num⟩
      case measure => simp [intOf]; omega

theorem bytes8_any (a : ByteArray) (w : World) (h : a.size ≤ maxLen) : Calls Try.prog 8 #[.string a] w fun e w' => Says e ∧ w' = w := by
  unfold maxLen at h
  by_cases t1 : (1048576 : Int) < (a.size : Int)
  · go_enter Try.func8, Try.ntmps8
    go_wp2
    go_ret
    exact ⟨⟨_, rfl⟩, rfl⟩
  go_enter Try.func8, Try.ntmps8
  go_wp2
  go_ret
  exact ⟨⟨_, rfl⟩, rfl⟩

theorem bytes11_any (a b : ByteArray) (w : World) (h1 : a.size ≤ maxLen) (h2 : b.size ≤ maxLen) : Calls Try.prog 11 #[.string a, .string b] w fun e w' => Says e ∧ w' = w := by
  unfold maxLen at h1 h2
  by_cases t1 : (1048576 : Int) < (a.size : Int)
  · go_enter Try.func11, Try.ntmps11
    go_wp2
    go_ret
    exact ⟨⟨_, rfl⟩, rfl⟩
  by_cases t2 : (1048576 : Int) < (b.size : Int)
  · go_enter Try.func11, Try.ntmps11
    go_wp2
    go_ret
    exact ⟨⟨_, rfl⟩, rfl⟩
  by_cases t3 : (1048576 : Int) < (a.size : Int) + (b.size : Int)
  · go_enter Try.func11, Try.ntmps11
    go_wp2
    go_ret
    exact ⟨⟨_, rfl⟩, rfl⟩
  go_enter Try.func11, Try.ntmps11
  go_wp2
  go_ret
  exact ⟨⟨_, rfl⟩, rfl⟩

/-- zzHasPrefix, where it says yes. -/
theorem hasPrefix_yes (s p : ByteArray) (w : World) (hl : p.size ≤ s.size) (h : ((s.extract 0 p.size).toList == p.toList) = true) :
    Calls Try.prog 10 #[.string s, .string p] w fun e w' => e = .returned (.bool true) ∧ w' = w := by
  have i1 : (p.size : Int) ≤ (s.size : Int) := by omega
  go_enter Try.func10, Try.ntmps10
  go_wp2
  go_ret
  exact ⟨rfl, rfl⟩

end Go.Proofs.Qxb6604630a

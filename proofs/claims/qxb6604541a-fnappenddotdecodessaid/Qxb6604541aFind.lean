/-
  THE WALKS of the binary search: cmp.isNaN (30), cmp.Compare (28), place's closure (27), slices.BinarySearchFunc (26), place (23), seat b6604541a.
-/
import Derived.Test.Qxb6604541aClone
namespace Go.Proofs.Qxb6604541a
open Go.RowKit Go.WideShapes

theorem nan_any (x : ByteArray) (w : World) : Calls Try.prog 30 #[.string x] w fun e w' => e = .returned (.bool false) ∧ w' = w := by
  go_enter Try.func30, Try.ntmps30
  go_wp2
  go_ret
  exact ⟨rfl, rfl⟩

/-- What cmp.Compare answers of two strings. -/
def cmpS (x y : ByteArray) : Int := if Op.bytesLess x.toList y.toList then -1 else if x.toList == y.toList then 0 else 1

theorem compare_any (x y : ByteArray) (w : World) : Calls Try.prog 28 #[.string x, .string y] w fun e w' => e = .returned (.int .i64 (cmpS x y)) ∧ w' = w := by
  unfold cmpS
  cases h1 : Op.bytesLess x.toList y.toList
  · cases h2 : (x.toList == y.toList)
    · go_enter Try.func28, Try.ntmps28
      go_wp2_with (go_at_call 30; refine (nan_any _ _).mono ?_; rintro e w' ⟨rfl, rfl⟩)
      go_ret
      exact ⟨rfl, rfl⟩
    · go_enter Try.func28, Try.ntmps28
      go_wp2_with (go_at_call 30; refine (nan_any _ _).mono ?_; rintro e w' ⟨rfl, rfl⟩)
      go_ret
      exact ⟨rfl, rfl⟩
  · go_enter Try.func28, Try.ntmps28
    go_wp2_with (go_at_call 30; refine (nan_any _ _).mono ?_; rintro e w' ⟨rfl, rfl⟩)
    go_ret
    exact ⟨rfl, rfl⟩

theorem closure_any (s : ByteArray) (n : Int) (t : ByteArray) (w : World) :
    Calls Try.prog 27 #[.agg #[.string s, .int .u64 n], .string t] w fun e w' => e = .returned (.int .i64 (cmpS s t)) ∧ Below w.heap.size w w' := by
  go_enter Try.func27, Try.ntmps27
  go_wp2_with fail
  refine (compare_any _ _ _).mono ?_
  rintro e w1 ⟨rfl, hw⟩
  subst hw
  go_wp2
  go_ret
  exact ⟨rfl, (Below.refl _ _).alloc (Nat.le_refl _) _⟩

/-! ### the plain order -/
theorem less_trans : ∀ (x y z : List UInt8), Op.bytesLess x y = true → Op.bytesLess y z = true → Op.bytesLess x z = true
  | [], [], _, h, _ => by simp [Op.bytesLess] at h
  | [], _ :: _, [], _, h => by simp [Op.bytesLess] at h
  | [], _ :: _, _ :: _, _, _ => rfl
  | _ :: _, [], _, h, _ => by simp [Op.bytesLess] at h
  | _ :: _, _ :: _, [], _, h => by simp [Op.bytesLess] at h
  | a :: x, b :: y, c :: z, h1, h2 => by
    simp only [Op.bytesLess, Bool.or_eq_true, Bool.and_eq_true, decide_eq_true_eq, beq_iff_eq] at h1 h2 ⊢
    rcases h1 with h1 | ⟨rfl, h1⟩
    · rcases h2 with h2 | ⟨rfl, _⟩
      · exact .inl (UInt8.lt_trans h1 h2)
      · exact .inl h1
    · rcases h2 with h2 | ⟨rfl, h2⟩
      · exact .inl h2
      · exact .inr ⟨rfl, less_trans x y z h1 h2⟩

theorem asc_lt {len : Nat} {S : Nat → ByteArray} (h : Asc len S) : ∀ (d i : Nat), i + d + 1 < len → Op.bytesLess (S i).toList (S (i + d + 1)).toList = true
  | 0, i, hi => h i hi
  | d + 1, i, hi => less_trans _ _ _ (asc_lt h d i (by omega)) (by have := h (i + d + 1) (by omega); exact this)

/-- Below a writer that lies below t every writer does. -/
theorem below_of {len : Nat} {S : Nat → ByteArray} (h : Asc len S) {t : ByteArray} {i j : Nat} (hij : i ≤ j) (hj : j < len) (hl : Op.bytesLess (S j).toList t.toList = true) : Op.bytesLess (S i).toList t.toList = true := by
  by_cases e : i = j
  · subst e; exact hl
  · have := asc_lt h (j - i - 1) i (by omega)
    rw [show i + (j - i - 1) + 1 = j from by omega] at this
    exact less_trans _ _ _ this hl

theorem cmpS_neg (x y : ByteArray) (h : Op.bytesLess x.toList y.toList = true) : cmpS x y = -1 := by simp [cmpS, h]
theorem cmpS_not (x y : ByteArray) (h : Op.bytesLess x.toList y.toList = false) : ¬ cmpS x y < 0 := by
  simp only [cmpS, h]
  simp
  split <;> omega

/-- Where the search ends: all below are less, all from there on are not. -/
def Found (len : Nat) (S : Nat → ByteArray) (t : ByteArray) (p : Nat) : Prop :=
  p ≤ len ∧ (∀ q, q < p → Op.bytesLess (S q).toList t.toList = true) ∧ ∀ q, p ≤ q → q < len → Op.bytesLess (S q).toList t.toList = false

def SaysPlace (e : Ending) (len : Nat) (S : Nat → ByteArray) (t : ByteArray) : Prop := ∃ (p : Nat) (r : Bool), e = .returned (.tuple #[.int .i64 p, .bool r]) ∧ Found len S t p

theorem search_any (a : Option Addr) (len cap : Nat) (S : Nat → ByteArray) (N : Nat → Nat) (t : ByteArray) (w : World) (hl : len ≤ 1048576) (hc : Dots w a len S N) (hasc : Asc len S) :
    Calls Try.prog 26 #[.slice a len cap, .string t, .func (Fn.func 27) #[] #[]] w fun e w' => SaysPlace e len S t ∧ Below w.heap.size w w' := by
  go_enter Try.func26, Try.ntmps26
  go_wp2
  go_loopw [9, 10] (fun vi vj wr => ∃ i j : Nat, i ≤ j ∧ j ≤ len ∧ (∀ q, q < i → Op.bytesLess (S q).toList t.toList = true) ∧ (∀ q, j ≤ q → q < len → Op.bytesLess (S q).toList t.toList = false) ∧ vi = .int .i64 i ∧ vj = .int .i64 j ∧ Below w.heap.size w wr)
    (fun vi vj _ => (intOf vj).toNat - (intOf vi).toNat)
  case atStart => exact ⟨0, len, Nat.zero_le _, Nat.le_refl _, fun q h => by omega, fun q h1 h2 => by omega, rfl, rfl, Below.refl _ _⟩
  case round =>
    obtain ⟨i, j, hij, hj, hlo, hhi, rfl, rfl, hbel⟩ := hrel
    have Hlo : Hid (∀ q, q < i → Op.bytesLess (S q).toList t.toList = true) := hlo
    have Hhi : Hid (∀ q, j ≤ q → q < len → Op.bytesLess (S q).toList t.toList = false) := hhi
    clear hlo hhi
    by_cases hlt : i < j
    · rcases hc with h0 | ⟨b, off, rfl, hb, hc⟩
      · omega
      have hh : (i + j) / 2 < len := by omega
      obtain ⟨c1, _, c2⟩ := hc _ hh
      have hcell := (hbel.cell (p := ⟨b, off + (i + j) / 2 * 2, none⟩) hb).trans c1
      have hcell2 := (hbel.cell (p := ⟨b, off + (i + j) / 2 * 2 + 1, none⟩) hb).trans c2
      clear c1 c2
      cases hless : Op.bytesLess (S ((i + j) / 2)).toList t.toList
      · have hcmp := cmpS_not _ _ hless
        go_wp2_with fail
        refine (closure_any _ _ _ _).mono ?_
        rintro e w1 ⟨rfl, hbel1⟩
        go_wp2
        go_roundw
        case rel =>
          refine ⟨i, (i + j) / 2, by omega, by omega, Hlo.out, fun q h1 h2 => ?_, rfl, by go_num, hbel.trans (hbel1.mono hbel.size)⟩
          cases hq : Op.bytesLess (S q).toList t.toList
          · rfl
          · rw [below_of hasc h1 h2 hq] at hless; cases hless
        case measure => simp [intOf]; omega
      · have hcmp : cmpS (S ((i + j) / 2)) t < 0 := by rw [cmpS_neg _ _ hless]; decide
        go_wp2_with fail
        refine (closure_any _ _ _ _).mono ?_
        rintro e w1 ⟨rfl, hbel1⟩
        go_wp2
        go_roundw
        case rel => exact ⟨(i + j) / 2 + 1, j, by omega, hj, fun q h1 => below_of hasc (by omega) hh hless, Hhi.out, by go_num, rfl, hbel.trans (hbel1.mono hbel.size)⟩
        case measure => simp [intOf]; omega
    · have hji : j = i := by omega
      subst hji
      by_cases hend : j < len
      · rcases hc with h0 | ⟨b, off, rfl, hb, hc⟩
        · omega
        obtain ⟨c1, _, c2⟩ := hc _ hend
        have hcell := (hbel.cell (p := ⟨b, off + j * 2, none⟩) hb).trans c1
        have hcell2 := (hbel.cell (p := ⟨b, off + j * 2 + 1, none⟩) hb).trans c2
        have hi1 : (j : Int) < (len : Int) := by omega
        clear c1 c2
        go_wp2_with fail
        refine (closure_any _ _ _ _).mono ?_
        rintro e w1 ⟨rfl, hbel1⟩
        go_wp2
        go_ret2
        exact ⟨⟨j, _, rfl, hj, Hlo.out, Hhi.out⟩, hbel.trans (hbel1.mono hbel.size)⟩
      · have hd : ¬ (j : Int) < (len : Int) := by omega
        go_wp2
        go_ret2
        exact ⟨⟨j, _, rfl, hj, Hlo.out, Hhi.out⟩, hbel⟩

theorem place_any (a : Option Addr) (len cap : Nat) (S : Nat → ByteArray) (N : Nat → Nat) (t : ByteArray) (w : World) (hl : len ≤ 1048576) (hc : Dots w a len S N) (hasc : Asc len S) :
    Calls Try.prog 23 #[.slice a len cap, .string t] w fun e w' => SaysPlace e len S t ∧ Below w.heap.size w w' := by
  go_enter Try.func23, Try.ntmps23
  go_wp2_with fail
  refine (search_any a len cap S N t w hl hc hasc).mono ?_
  rintro e w1 ⟨⟨p, r, rfl, hf⟩, hbel⟩
  go_wp2
  go_ret2
  exact ⟨⟨p, r, rfl, hf⟩, hbel⟩

end Go.Proofs.Qxb6604541a

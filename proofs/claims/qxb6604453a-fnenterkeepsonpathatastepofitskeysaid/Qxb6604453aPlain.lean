/-
  THE PLAIN LAWS of seat b6604453a: what onPath holds behind the keys S 0 .. S (n - 1); no Go in sight.
-/
import Derived.Test.Qxb6604453aSmall
namespace Go.Proofs.Qxb6604453a
open Go.Maps

def pre (S : Nat → ByteArray) (n : Nat) : List ByteArray := (List.range n).map S
theorem pre_zero (S : Nat → ByteArray) : pre S 0 = [] := rfl
theorem pre_succ (S : Nat → ByteArray) (n : Nat) : pre S (n + 1) = pre S n ++ [S n] := by simp [pre, List.range_succ]
theorem pre_length (S : Nat → ByteArray) (n : Nat) : (pre S n).length = n := by simp [pre]
theorem pre_at (S : Nat → ByteArray) (n i : Nat) (h : i < (pre S n).length) : (pre S n)[i] = S i := by simp [pre]

theorem key_ne {a b : ByteArray} (h : a ≠ b) : Lit.string a.data.toList ≠ Lit.string b.data.toList := fun e => by
  injection e with e
  exact h (ByteArray.ext (Array.toList_inj.1 e))

theorem isKey (a : ByteArray) : WideAt.IsKeyLit (Lit.string a.data.toList) := trivial

theorem fill_isMap (ks : List ByteArray) (D : DataW Unit) (i : Nat) (h : IsMap D) : IsMap (fill D i ks) := by
  induction ks generalizing D i with
  | nil => exact h
  | cons s r ih => exact ih _ _ (h.put _ _)
theorem onPath_isMap (ks : List ByteArray) : IsMap (onPath ks) := fill_isMap ks _ _ isMap_empty
theorem fill_tidy (ks : List ByteArray) (D : DataW Unit) (i : Nat) (h : Tidy D) : Tidy (fill D i ks) := by
  induction ks generalizing D i with
  | nil => exact h
  | cons s r ih => exact ih _ _ (h.put (isKey s) _)
theorem onPath_tidy (ks : List ByteArray) : Tidy (onPath ks) := fill_tidy ks _ _ tidy_empty

theorem onPath_last (S : Nat → ByteArray) (l n : Nat) (hl : l < n) (hlast : ∀ j, l < j → j < n → S j ≠ S l) :
    Maps.has (onPath (pre S n)) (.string (S l).data.toList) = true ∧ ∀ z, (onPath (pre S n)).atKey (.string (S l).data.toList) z = .lit (.int .i64 l) := by
  induction n with
  | zero => omega
  | succ n ih =>
    rw [pre_succ, onPath_snoc, pre_length]
    by_cases e : l = n
    · subst e
      exact ⟨has_put_same (onPath_isMap _) (isKey _) _, fun z => atKey_put_same (onPath_isMap _) (isKey _) _ z⟩
    · have hne := key_ne (hlast n (by omega) (by omega)).symm
      obtain ⟨h1, h2⟩ := ih (by omega) (fun j h h' => hlast j h (by omega))
      exact ⟨by rw [has_put_other hne]; exact h1, fun z => by rw [atKey_put_other hne]; exact h2 z⟩

/-- Is the string among these? -/
def isIn (s : ByteArray) (r : List ByteArray) : Bool := r.any fun x => decide (x.data.toList = s.data.toList)
theorem isIn_iff (s : ByteArray) (r : List ByteArray) : isIn s r = true ↔ s ∈ r := by
  simp only [isIn, List.any_eq_true, decide_eq_true_eq]
  constructor
  · rintro ⟨x, hx, e⟩
    rw [← ByteArray.ext (Array.toList_inj.1 e)]; exact hx
  · intro h; exact ⟨s, h, rfl⟩
theorem isIn_no (s : ByteArray) (r : List ByteArray) : isIn s r = false ↔ ¬ s ∈ r := by
  rw [← isIn_iff]; simp

theorem onPath_out (ks : List ByteArray) (s : ByteArray) : Maps.has (onPath ks) (.string s.data.toList) = isIn s ks := by
  induction h : ks.length generalizing ks with
  | zero => rw [List.length_eq_zero_iff.1 h]; rfl
  | succ n ih =>
    obtain ⟨r, a, rfl⟩ : ∃ r a, ks = r ++ [a] := ⟨ks.dropLast, ks.getLast (by intro e; simp [e] at h), (List.dropLast_concat_getLast _).symm⟩
    rw [onPath_snoc]
    by_cases e : s = a
    · subst e
      rw [has_put_same (onPath_isMap _) (isKey _)]
      simp [isIn]
    · rw [has_put_other (key_ne e), ih r (by simpa using h)]
      have e2 : ¬ a.data.toList = s.data.toList := fun h => key_ne e (by rw [h])
      simp only [isIn, List.any_append, List.any_cons, List.any_nil, Bool.or_false, decide_eq_false e2]

/-- How many different strings. -/
def cnt : List ByteArray → Nat
  | [] => 0
  | s :: r => (if isIn s r then 0 else 1) + cnt r

theorem isIn_snoc (s a : ByteArray) (r : List ByteArray) : isIn s (r ++ [a]) = (isIn s r || decide (a.data.toList = s.data.toList)) := by simp [isIn]
theorem isIn_cons (s a : ByteArray) (r : List ByteArray) : isIn s (a :: r) = (decide (a.data.toList = s.data.toList) || isIn s r) := by simp [isIn]

theorem cnt_snoc (ks : List ByteArray) (s : ByteArray) : cnt (ks ++ [s]) = cnt ks + (if isIn s ks then 0 else 1) := by
  induction ks with
  | nil => simp [cnt, isIn]
  | cons a r ih =>
    simp only [List.cons_append, cnt, ih, isIn_snoc, isIn_cons]
    by_cases h3 : s = a
    · subst h3
      cases h1 : isIn s r
      · simp; omega
      · simp
    · have e1 : decide (s.data.toList = a.data.toList) = false := decide_eq_false (fun h => key_ne h3 (by rw [h]))
      have e2 : decide (a.data.toList = s.data.toList) = false := decide_eq_false (fun h => key_ne h3 (by rw [h]))
      rw [e1, e2, Bool.or_false, Bool.false_or]
      omega

theorem onPath_size (ks : List ByteArray) : Maps.size (onPath ks) = cnt ks := by
  induction h : ks.length generalizing ks with
  | zero => rw [List.length_eq_zero_iff.1 h]; rfl
  | succ n ih =>
    obtain ⟨r, a, rfl⟩ : ∃ r a, ks = r ++ [a] := ⟨ks.dropLast, ks.getLast (by intro e; simp [e] at h), (List.dropLast_concat_getLast _).symm⟩
    rw [onPath_snoc, size_put (onPath_tidy _), onPath_out, ih r (by simpa using h), cnt_snoc]
    cases isIn a r <;> simp

theorem pre_drop (S : Nat → ByteArray) (n m : Nat) (h : m < n) : (pre S n).drop m = S m :: (pre S n).drop (m + 1) := by
  have hm : m < (pre S n).length := by rw [pre_length]; exact h
  rw [List.drop_eq_getElem_cons hm, pre_at]

theorem mem_drop (S : Nat → ByteArray) (n m : Nat) (s : ByteArray) : s ∈ (pre S n).drop m ↔ ∃ j, m ≤ j ∧ j < n ∧ S j = s := by
  constructor
  · intro h
    obtain ⟨i, hi, e⟩ := List.mem_iff_getElem.1 h
    rw [List.length_drop, pre_length] at hi
    rw [List.getElem_drop, pre_at] at e
    exact ⟨m + i, by omega, by omega, e⟩
  · rintro ⟨j, h1, h2, rfl⟩
    refine List.mem_iff_getElem.2 ⟨j - m, by rw [List.length_drop, pre_length]; omega, ?_⟩
    rw [List.getElem_drop, pre_at]
    rw [show m + (j - m) = j from by omega]

theorem cnt_pos (ks : List ByteArray) (h : ks ≠ []) : 0 < cnt ks := by
  induction ks with
  | nil => exact absurd rfl h
  | cons a r ih =>
    simp only [cnt]
    cases e : isIn a r
    · simp
      omega
    · have h2 : r ≠ [] := fun h0 => by rw [h0] at e; cases e
      have := ih h2
      simp
      omega

theorem cnt_le (ks : List ByteArray) : cnt ks ≤ ks.length := by
  induction ks with
  | nil => exact Nat.le_refl _
  | cons a r ih => simp only [cnt, List.length_cons]; split <;> omega

/-- There is a last place of each key. -/
theorem last_is (S : Nat → ByteArray) (i n : Nat) (hi : i < n) : ∃ l, i ≤ l ∧ l < n ∧ S l = S i ∧ ∀ j, l < j → j < n → S j ≠ S l := by
  induction n with
  | zero => omega
  | succ n ih =>
    by_cases e : S n = S i
    · exact ⟨n, by omega, by omega, e, fun j h1 h2 => by omega⟩
    · have hin : i < n := by
        rcases Nat.lt_succ_iff_lt_or_eq.1 hi with h | h
        · exact h
        · subst h; exact absurd rfl e
      obtain ⟨l, h1, h2, h3, h4⟩ := ih hin
      refine ⟨l, h1, by omega, h3, fun j h5 h6 => ?_⟩
      by_cases hj : j = n
      · subst hj; rw [h3]; exact e
      · exact h4 j h5 (by omega)

end Go.Proofs.Qxb6604453a

/-
  txnRecord (28, 37, 43), lawBytesPrefix (32), the bounds on the input's size (27, 31); seat b6604543a.
-/
import Derived.Test.Qxb6604543aVarint
namespace Go.Proofs.Qxb6604543a
open Go.RowKit Go.WideShapes

/-- A string's bytes as numbers. -/
def sb (s : ByteArray) : List Nat := s.data.toList.map UInt8.toNat
theorem sb_length (s : ByteArray) : (sb s).length = s.size := by simp [sb]
theorem bc_sb (s : ByteArray) : Lib.strCells s = bc (sb s) := by simp [Lib.strCells, bc, sb]

/-- The record: the kind's byte, the length's varint, the bytes. -/
def recOf (k : Nat) (s : ByteArray) : List Nat := k :: (encF 9 s.size ++ sb s)
theorem recOf_length (k : Nat) (s : ByteArray) : (recOf k s).length = 1 + (encF 9 s.size).length + s.size := by
  simp only [recOf, List.length_cons, List.length_append, sb_length]; omega

theorem appendString_any (B : Nat) (v : Value) (xs : List Nat) (s : ByteArray) (w : World) (h : w.ownsRow B 5 1 v (bc xs).length (bc xs)) (hB : B ≤ w.heap.size) (hx : xs.length ≤ 1048576) (hs : s.size ≤ 1048576) :
    Calls Try.prog 43 #[v, .string s] w fun e w' => SaysRow e B w' (bc (xs ++ (encF 9 s.size ++ sb s))) ∧ Below B w w' := by
  obtain ⟨i0, hi, hz0, hz1, hz2⟩ := info_parts info5
  have hl := encF_length 9 s.size
  go_enter Try.func43, Try.ntmps43
  go_wp2_with fail
  refine (uvarint_any B s.size (by omega) v (bc xs) w (.inl h) hB (by rw [bc_length]; omega)).mono ?_
  rintro e w1 ⟨⟨v1, rfl, hown⟩, hbel⟩
  rw [← bc_append] at hown
  have hB1 : B ≤ w1.heap.size := Nat.le_trans hB hbel.size
  have hlen : (bc (xs ++ encF 9 s.size)).length ≤ 1048576 + 10 := by rw [bc_length, List.length_append]; omega
  go_wp2_with (at_builtin; refine Lib.wpList_append_own_string _ rfl _ _ 44 9 rfl B 5 i0 Try.underlying44 Try.underlying9 hi hz0 hz1 hz2 _ _ _ rfl hown s rfl ?c3 ?c4 ?c5 ?next)
  case c3 => unfold maxLen; omega
  case c4 => omega
  case c5 => exact hB1
  case next =>
    intro v2 w2 hown2 hgrow _
    have hbel2 : Below B w w2 := hbel.grown hgrow hB1 (fun k hk => (hown.lt k hk).1)
    have e1 : (bc (xs ++ encF 9 s.size)).length + s.size = (bc (xs ++ (encF 9 s.size ++ sb s))).length := by
      simp only [bc_length, List.length_append, sb_length]; omega
    rw [bc_sb, ← bc_append, e1, List.append_assoc] at hown2
    clear hown hgrow hbel
    go_wp2
    go_ret
    exact ⟨⟨v2, rfl, hown2⟩, hbel2⟩

theorem txn_any (k : Nat) (s : ByteArray) (w : World) (hs : s.size ≤ 1048576) :
    Calls Try.prog 37 #[.int .u8 k, .string s] w fun e w' => SaysRow e w.heap.size w' (bc (recOf k s)) ∧ Below w.heap.size w w' := by
  go_enter Try.func37, Try.ntmps37
  go_wp2_with fail
  have hown : (w.alloc (.cells #[.int .u8 k] 5)).ownsRow w.heap.size 5 1 (.slice (some ⟨w.heap.size, 0, none⟩) 1 1) (bc [k]).length (bc [k]) :=
    ⟨rfl, .inr ⟨w.heap.size, 1, #[.int .u8 k], rfl, Nat.le_refl _, heap_alloc_new w _, Nat.le_refl _, by unfold maxLen; omega, rfl, rfl⟩⟩
  refine (appendString_any w.heap.size _ [k] s _ hown (by simp) (by simp) hs).mono ?_
  rintro e w1 ⟨⟨v1, rfl, hown1⟩, hbel⟩
  have hbel1 : Below w.heap.size w w1 := ((Below.refl _ _).alloc (Nat.le_refl _) _).trans hbel
  go_wp2
  go_ret
  exact ⟨⟨v1, rfl, hown1⟩, hbel1⟩

theorem ztxn_any (k : Nat) (s : ByteArray) (w : World) (hs : s.size ≤ 1048576) :
    Calls Try.prog 28 #[.int .u8 k, .string s] w fun e w' => SaysRow e w.heap.size w' (bc (recOf k s)) ∧ Below w.heap.size w w' := by
  go_enter Try.func28, Try.ntmps28
  go_wp2_with fail
  refine (txn_any k s w hs).mono ?_
  rintro e w1 ⟨⟨v1, rfl, hown1⟩, hbel⟩
  go_wp2
  go_ret
  exact ⟨⟨v1, rfl, hown1⟩, hbel⟩

/-- Bytes in memory, from offset o on. -/
def Row (w : World) (g o : Nat) (ys : List Nat) : Prop := ∀ j (h : j < ys.length), w.cell? ⟨g, o + j, none⟩ = some (.int .u8 (ys[j] : Nat))

theorem row_shape {w : World} {B : Nat} {v : Value} {ys : List Nat} (h : w.ownsRow B 5 1 v (bc ys).length (bc ys)) (hne : 0 < ys.length) :
    ∃ g cap, v = .slice (some ⟨g, 0, none⟩) ys.length cap ∧ ys.length ≤ cap ∧ B ≤ g ∧ g < w.heap.size ∧ Row w g 0 ys := by
  have hcells := fun (g : Nat) (hg : v.ownBlock = some g) => h.cells hg
  have hlt := h.lt
  rcases h.2 with ⟨_, h0⟩ | ⟨g, cap, cur, hv, hb, _, hc, _⟩
  · rw [bc_length] at h0; omega
  · rw [bc_length] at hv hc
    refine ⟨g, cap, hv, hc, hb, (hlt g (by rw [hv]; rfl)).2, fun j hj => ?_⟩
    have := hcells g (by rw [hv]; rfl) j (.int .u8 (ys[j] : Nat)) (by simp [bc, hj])
    rwa [add_plain] at this

def SaysPre (e : Ending) (xs ys : List Nat) : Prop := ∃ r : Bool, e = .returned (.bool r) ∧ (r = true ↔ xs <+: ys)

theorem pre_iff (xs ys : List Nat) (hl : xs.length ≤ ys.length) (h : ∀ j (h1 : j < xs.length) (h2 : j < ys.length), xs[j] = ys[j]) : xs <+: ys := by
  rw [List.prefix_iff_eq_take]
  apply List.ext_getElem
  · simp; omega
  · intro j h1 h2
    rw [List.getElem_take]
    exact h j h1 (by omega)
theorem pre_get {xs ys : List Nat} (h : xs <+: ys) (j : Nat) (h1 : j < xs.length) (h2 : j < ys.length) : xs[j] = ys[j] := by
  obtain ⟨t, rfl⟩ := h
  rw [List.getElem_append_left h1]

theorem prefix_any (g1 c1 g2 c2 : Nat) (xs ys : List Nat) (w : World) (h1 : Row w g1 0 xs) (h2 : Row w g2 0 ys) (_l1 : xs.length ≤ 4194304) (_l2 : ys.length ≤ 4194304) :
    Calls Try.prog 32 #[.slice (some ⟨g1, 0, none⟩) xs.length c1, .slice (some ⟨g2, 0, none⟩) ys.length c2] w fun e w' => SaysPre e xs ys ∧ ∃ n, w' = w.drewN n := by
  by_cases hlen : (ys.length : Int) < (xs.length : Int)
  · go_enter Try.func32, Try.ntmps32
    go_wp2
    go_ret
    exact ⟨⟨false, rfl, by simp; intro h; have := h.length_le; omega⟩, 0, rfl⟩
  · go_enter Try.func32, Try.ntmps32
    go_wp2
    go_loopw [5] (fun i wr => ∃ k nq : Nat, k ≤ xs.length ∧ i = .int .i64 k ∧ (∀ j, j < k → ∀ (a : j < xs.length) (b : j < ys.length), xs[j] = ys[j]) ∧ wr = w.drewN nq) (fun i _ => xs.length - (intOf i).toNat)
    case atStart => exact ⟨0, 0, Nat.zero_le _, rfl, fun j h => by omega, rfl⟩
    case round =>
      obtain ⟨k, nq, hk, rfl, hall, rfl⟩ := hrel
      have Hall : Hid (∀ j, j < k → ∀ (a : j < xs.length) (b : j < ys.length), xs[j] = ys[j]) := hall
      clear hall
      by_cases hlt : k < xs.length
      · have hky : k < ys.length := by omega
        have e1 := h1 k hlt
        have e2 := h2 k hky
        rw [Nat.zero_add] at e1 e2
        have i1 : (k : Int) < (xs.length : Int) := by omega
        have i2 : (k : Int) < (ys.length : Int) := by omega
        obtain ⟨x, hx⟩ : ∃ x, x = xs[k] := ⟨_, rfl⟩
        obtain ⟨y, hy⟩ : ∃ y, y = ys[k] := ⟨_, rfl⟩
        rw [← hx] at e1
        rw [← hy] at e2
        have Hxy : Hid (x = xs[k] ∧ y = ys[k]) := ⟨hx, hy⟩
        clear hx hy
        by_cases hxy : x = y
        · have bq : ((x : Int) == (y : Int)) = true := beq_iff_eq.2 (by omega)
          have He : Hid (x = y) := hxy
          clear hxy
          go_wp2
          go_quiet (fail)
          go_wp2
          go_roundw
          case rel =>
            refine ⟨k + 1, _, by omega, by go_num, fun j hj a b => ?_, rfl⟩
            by_cases e : j = k
            · subst e; rw [← Hxy.out.1, ← Hxy.out.2]; exact He.out
            · exact Hall.out j (by omega) a b
          case measure => simp [intOf]; omega
        · have bq : ((x : Int) == (y : Int)) = false := beq_eq_false_iff_ne.2 (by omega)
          have He : Hid (¬ x = y) := hxy
          clear hxy
          go_wp2
          go_quiet (fail)
          go_wp2
          go_ret
          exact ⟨⟨false, rfl, by simp; intro h; exact He.out (by rw [Hxy.out.1, Hxy.out.2]; exact pre_get h k hlt hky)⟩, _, World.drewN_drewN _ _ _⟩
      · go_wp2
        go_ret
        exact ⟨⟨true, rfl, by simp; exact pre_iff xs ys (by omega) (fun j a b => Hall.out j (by omega) a b)⟩, _, rfl⟩

end Go.Proofs.Qxb6604543a

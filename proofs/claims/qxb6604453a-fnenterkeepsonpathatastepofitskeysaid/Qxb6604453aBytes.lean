/-
  THE WALKS of zzBytes_.. (functions 9 and 17) and of zzCloneStrings (function 10), seat b6604453a.
-/
import Derived.Test.Qxb6604453aSmall
import Derived.Deep.OwnRows
namespace Go.Proofs.Qxb6604453a
open Go.RowKit Go.WideMaps Go.Maps Go.WideShapes

/-- What a slice of strings that came in is, as the walks want it: at each place below its length a string lies. -/
def StrAt (w : World) (b off len : Nat) (S : Nat → ByteArray) : Prop :=
  ∀ j, j < len → w.cell? ⟨b, off + j, none⟩ = some (.string (S j)) ∧ (S j).size ≤ maxLen

/-- It returned a truth value. -/
def Says (e : Ending) : Prop := ∃ r : Bool, e = .returned (.bool r)

theorem bytes9_none (a : Option Addr) (cap : Nat) (w : World) :
    Calls Try.prog 9 #[.slice a 0 cap] w fun e w' => Says e ∧ w' = w := by
  go_enter Try.func9, Try.ntmps9
  go_wp2
  refine wp_loop_rounds 1 ?_
  rw [rounds_succ]
  go_wp2
  go_ret
  exact ⟨⟨_, rfl⟩, rfl⟩

theorem bytes9_any (b off len cap : Nat) (S : Nat → ByteArray) (w : World) (hl : len ≤ maxLen) (hc : StrAt w b off len S) :
    Calls Try.prog 9 #[.slice (some ⟨b, off, none⟩) len cap] w fun e w' => Says e ∧ w' = w := by
  unfold maxLen at hl
  by_cases hbig : (1048576 : Int) < (len : Int)
  · go_enter Try.func9, Try.ntmps9
    go_wp2
    go_ret
    exact ⟨⟨_, rfl⟩, rfl⟩
  · go_enter Try.func9, Try.ntmps9
    go_wp2
    go_loop [3, 4] (fun n i => ∃ k m : Nat, k ≤ len ∧ m ≤ 1048576 ∧ i = .int .i64 k ∧ n = .int .i64 m) (fun _ i => len - (intOf i).toNat)
    case atStart => exact ⟨0, len, Nat.zero_le _, by omega, rfl, rfl⟩
    case round =>
      obtain ⟨k, m, hk, hm, rfl, rfl⟩ := hrel
      by_cases hlt : k < len
      · obtain ⟨hcell, hsz⟩ := hc k hlt
        generalize S k = s at hcell hsz
        unfold maxLen at hsz
        go_wp2
        · go_ret
          exact ⟨⟨_, rfl⟩, rfl⟩
        · go_ret
          exact ⟨⟨_, rfl⟩, rfl⟩
        · go_round
          case rel => exact ⟨k + 1, m + s.size, by omega, by omega, by go_num, by go_num⟩
          case measure => simp [intOf]; omega
      · go_wp2
        go_ret
        exact ⟨⟨_, rfl⟩, rfl⟩

theorem bytes17_none (a : Option Addr) (cap : Nat) (w : World) :
    Calls Try.prog 17 #[.slice a 0 cap] w fun e w' => Says e ∧ w' = w := by
  go_enter Try.func17, Try.ntmps17
  go_wp2
  refine wp_loop_rounds 1 ?_
  rw [rounds_succ]
  go_wp2
  go_ret
  exact ⟨⟨_, rfl⟩, rfl⟩

theorem bytes17_any (b off len cap : Nat) (S : Nat → ByteArray) (w : World) (hl : len ≤ maxLen) (hc : StrAt w b off len S) :
    Calls Try.prog 17 #[.slice (some ⟨b, off, none⟩) len cap] w fun e w' => Says e ∧ w' = w := by
  unfold maxLen at hl
  by_cases hbig : (1048576 : Int) < (len : Int)
  · go_enter Try.func17, Try.ntmps17
    go_wp2
    go_ret
    exact ⟨⟨_, rfl⟩, rfl⟩
  · go_enter Try.func17, Try.ntmps17
    go_wp2
    go_loop [3, 4] (fun n i => ∃ k m : Nat, k ≤ len ∧ m ≤ 1048576 ∧ i = .int .i64 k ∧ n = .int .i64 m) (fun _ i => len - (intOf i).toNat)
    case atStart => exact ⟨0, len, Nat.zero_le _, by omega, rfl, rfl⟩
    case round =>
      obtain ⟨k, m, hk, hm, rfl, rfl⟩ := hrel
      by_cases hlt : k < len
      · obtain ⟨hcell, hsz⟩ := hc k hlt
        generalize S k = s at hcell hsz
        unfold maxLen at hsz
        go_wp2
        · go_ret
          exact ⟨⟨_, rfl⟩, rfl⟩
        · go_ret
          exact ⟨⟨_, rfl⟩, rfl⟩
        · go_round
          case rel => exact ⟨k + 1, m + s.size, by omega, by omega, by go_num, by go_num⟩
          case measure => simp [intOf]; omega
      · go_wp2
        go_ret
        exact ⟨⟨_, rfl⟩, rfl⟩


theorem info9 : (Try.prog.info? 9).map (fun i => (i.zero, i.size, i.bytes)) = some (some (.string ByteArray.empty), 1, 16) := by kernel_rfl

theorem clone_nil (w : World) : Calls Try.prog 10 #[.slice none 0 0] w fun e w' => e = .returned (.slice none 0 0) ∧ w' = w := by
  have hn := fun a n c (w : World) => Lib.run_eql_slice_nil (P := Try.prog) w 29 9 a n c 0 0 Try.underlying29
  go_enter Try.func10, Try.ntmps10
  go_wp2
  go_ret
  exact ⟨rfl, rfl⟩

/-- A clone with no element. -/
theorem clone_none (x : Addr) (cap : Nat) (w : World) :
    Calls Try.prog 10 #[.slice (some x) 0 cap] w fun e w' => e = .returned (.slice (some ⟨w.heap.size, 0, none⟩) 0 0) ∧ Below w.heap.size w w' ∧ w.heap.size < w'.heap.size := by
  have hn := fun a n c (w : World) => Lib.run_eql_slice_nil (P := Try.prog) w 29 9 a n c 0 0 Try.underlying29
  have hmk : ∀ w : World, (Instr.makeSlice 29 (.int .i64 0) (.int .i64 0)).run Try.prog w = .ok (.slice (some ⟨w.heap.size, 0, none⟩) 0 0) (w.alloc (.cells (madeCells #[.string ByteArray.empty] 0) 9)) :=
    run_make_row' (P := Try.prog) 29 9 (.string ByteArray.empty) 16 Try.underlying29 info9 rfl .i64 .i64 0 (by omega) (by omega)
  go_enter Try.func10, Try.ntmps10
  go_wp2
  refine wp_loop_rounds 1 ?_
  rw [rounds_succ]
  go_wp2
  go_ret
  exact ⟨rfl, (Below.refl _ _).alloc (Nat.le_refl _) _, by simp⟩

theorem clone_any (b off len cap : Nat) (S : Nat → ByteArray) (w : World) (hl : len ≤ 1048576) (hb : b < w.heap.size) (hc : StrAt w b off len S) :
    Calls Try.prog 10 #[.slice (some ⟨b, off, none⟩) len cap] w fun e w' => e = .returned (.slice (some ⟨w.heap.size, 0, none⟩) len len) ∧ w'.rowIs w.heap.size 9 len (fun j => .string (S j)) ∧ Below w.heap.size w w' := by
  have hn := fun a n c (w : World) => Lib.run_eql_slice_nil (P := Try.prog) w 29 9 a n c 0 0 Try.underlying29
  have hmk := run_make_row' (P := Try.prog) 29 9 (.string ByteArray.empty) 16 Try.underlying29 info9 rfl .i64 .i64 len (by omega) (by omega)
  go_enter Try.func10, Try.ntmps10
  go_wp2
  go_loopw [4] (fun i wr => ∃ k : Nat, k ≤ len ∧ i = .int .i64 k ∧ wr.rowIs w.heap.size 9 len (fun j => if j < k then .string (S j) else .string ByteArray.empty) ∧ Below w.heap.size w wr) (fun i _ => len - (intOf i).toNat)
  case atStart => exact ⟨0, Nat.zero_le _, rfl, (World.rowIs_made w _ len 9).congr (fun j _ => by simp), (Below.refl _ _).alloc (Nat.le_refl _) _⟩
  case round =>
    obtain ⟨k, hk, rfl, hrow, hbel⟩ := hrel
    by_cases hlt : k < len
    · have hcell : wr.cell? ⟨b, off + k, none⟩ = some (.string (S k)) := (hbel.cell (p := ⟨b, off + k, none⟩) hb).trans (hc k hlt).1
      have hold : wr.cell? ⟨w.heap.size, k, none⟩ = some (.string ByteArray.empty) := by rw [hrow.cell hlt]; simp
      have hfz := hrow.frozen k
      have hrow' := (hrow.set k (.string (S k))).congr (g := fun j => if j < k + 1 then .string (S j) else .string ByteArray.empty) (fun j hj => by
        by_cases e : j = k
        · subst e; simp
        · by_cases e2 : j < k
          · rw [if_neg e, if_pos e2, if_pos (by omega)]
          · rw [if_neg e, if_neg e2, if_neg (by omega)])
      generalize S k = s at hcell hrow'
      clear hrow hn hmk
      go_wp2
      go_roundw
      case rel => exact ⟨k + 1, by omega, by go_num, hrow', hbel.setCell (Nat.le_refl _) _⟩
      case measure => simp [intOf]; omega
    · go_wp2
      go_ret
      exact ⟨rfl, hrow.congr (fun j hj => by rw [if_pos (by omega)]), hbel⟩

end Go.Proofs.Qxb6604453a

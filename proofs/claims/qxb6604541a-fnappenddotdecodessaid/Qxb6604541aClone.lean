/-
  THE WALKS of zzCloneBytesB1 (13) and zzClockB1 (14), seat b6604541a.
-/
import Derived.Test.Qxb6604541aSmall
namespace Go.Proofs.Qxb6604541a
open Go.RowKit Go.WideShapes

/-- A slice of bytes, whatever its address: without element, or with its address written out. -/
def Bytes (w : World) (a : Option Addr) (n : Nat) (F : Nat → Nat) : Prop :=
  n = 0 ∨ ∃ b off, a = some ⟨b, off, none⟩ ∧ b < w.heap.size ∧ ∀ j, j < n → w.cell? ⟨b, off + j, none⟩ = some (.int .u8 (F j)) ∧ F j < 256

/-- What a clone is: a slice without room, nil only where it has no element. -/
def Cloned (e : Ending) (w' : World) (n : Nat) (F : Nat → Nat) : Prop :=
  ∃ a, e = .returned (.slice a n n) ∧ Bytes w' a n F ∧ (a = none → n = 0)

theorem info5 : (Try.prog.info? 5).map (fun i => (i.zero, i.size, i.bytes)) = some (some (.int .u8 0), 1, 1) := by kernel_rfl

theorem cloneBytes_nil (F : Nat → Nat) (w : World) : Calls Try.prog 13 #[.slice none 0 0] w fun e w' => Cloned e w' 0 F ∧ Below w.heap.size w w' := by
  have hn := fun a n c (w : World) => Lib.run_eql_slice_nil (P := Try.prog) w 27 5 a n c 0 0 Try.underlying27
  go_enter Try.func13, Try.ntmps13
  go_wp2
  go_ret
  exact ⟨⟨none, rfl, .inl rfl, fun _ => rfl⟩, Below.refl _ _⟩

theorem cloneBytes_any (x : Addr) (len cap : Nat) (F : Nat → Nat) (w : World) (hl : len ≤ 1048576) (hc : Bytes w (some x) len F) :
    Calls Try.prog 13 #[.slice (some x) len cap] w fun e w' => Cloned e w' len F ∧ Below w.heap.size w w' := by
  have hn := fun a n c (w : World) => Lib.run_eql_slice_nil (P := Try.prog) w 27 5 a n c 0 0 Try.underlying27
  have hmk := run_make_row' (P := Try.prog) 27 5 (.int .u8 0) 1 Try.underlying27 info5 rfl .i64 .i64 len (by omega) (by omega)
  go_enter Try.func13, Try.ntmps13
  go_wp2
  go_loopw [4] (fun i wr => ∃ k : Nat, k ≤ len ∧ i = .int .i64 k ∧ wr.rowIs w.heap.size 5 len (fun j => if j < k then .int .u8 (F j) else .int .u8 0) ∧ Below w.heap.size w wr) (fun i _ => len - (intOf i).toNat)
  case atStart => exact ⟨0, Nat.zero_le _, rfl, (World.rowIs_made w _ len 5).congr (fun j _ => by simp), (Below.refl _ _).alloc (Nat.le_refl _) _⟩
  case round =>
    obtain ⟨k, hk, rfl, hrow, hbel⟩ := hrel
    by_cases hlt : k < len
    · rcases hc with h0 | ⟨b, off, hx, hb, hc⟩
      · omega
      obtain rfl : x = ⟨b, off, none⟩ := by simpa using hx
      have hcell : wr.cell? ⟨b, off + k, none⟩ = some (.int .u8 (F k)) := (hbel.cell (p := ⟨b, off + k, none⟩) hb).trans (hc k hlt).1
      have hold : wr.cell? ⟨w.heap.size, k, none⟩ = some (.int .u8 0) := by rw [hrow.cell hlt]; simp
      have hfz := hrow.frozen k
      have hrow' := (hrow.set k (.int .u8 (F k))).congr (g := fun j => if j < k + 1 then .int .u8 (F j) else .int .u8 0) (fun j hj => by
        by_cases e : j = k
        · subst e; simp
        · by_cases e2 : j < k
          · rw [if_neg e, if_pos e2, if_pos (by omega)]
          · rw [if_neg e, if_neg e2, if_neg (by omega)])
      generalize F k = s at hcell hrow'
      clear hrow hn hmk
      go_wp2
      go_roundw
      case rel => exact ⟨k + 1, by omega, by go_num, hrow', hbel.setCell (Nat.le_refl _) _⟩
      case measure => simp [intOf]; omega
    · go_wp2
      go_ret
      refine ⟨⟨_, rfl, ?_, fun h => by cases h⟩, hbel⟩
      rcases hc with h0 | ⟨b, off, hx, hb, hc⟩
      · exact .inl h0
      · exact .inr ⟨_, 0, rfl, hrow.lt, fun j hj => ⟨by rw [Nat.zero_add, hrow.cell hj, if_pos (by omega)], (hc j hj).2⟩⟩

theorem cloneBytes_all (a : Option Addr) (len cap : Nat) (F : Nat → Nat) (w : World) (hl : len ≤ 1048576) (hc : Bytes w a len F) (hnil : a = none → len = 0 ∧ cap = 0) :
    Calls Try.prog 13 #[.slice a len cap] w fun e w' => Cloned e w' len F ∧ Below w.heap.size w w' := by
  cases a with
  | none => obtain ⟨rfl, rfl⟩ := hnil rfl; exact cloneBytes_nil F w
  | some x => exact cloneBytes_any x len cap F w hl hc

/-! ### the clock -/
theorem info39 : (Try.prog.info? 39).map (fun i => (i.zero, i.size, i.bytes)) = some (some (.agg #[.string ByteArray.empty, .int .u64 0]), 2, 24) := by kernel_rfl

def dotCell (S : Nat → ByteArray) (N : Nat → Nat) (i : Nat) : Value := if i % 2 = 0 then .string (S (i / 2)) else .int .u64 (N (i / 2))
def zeroCell (i : Nat) : Value := if i % 2 = 0 then .string ByteArray.empty else .int .u64 0

theorem made_dots (w : World) (n : Nat) : (w.alloc (.cells (madeCells #[.string ByteArray.empty, .int .u64 0] (n * 2)) 39)).rowIs w.heap.size 39 (n * 2) zeroCell :=
  ⟨_, Deep.blk_alloc_new _ _, size_madeCells _ _, fun i hi => by
    have h2 : i % 2 = 0 ∨ i % 2 = 1 := by omega
    rcases h2 with h2 | h2 <;> simp [madeCells, hi, h2, zeroCell]⟩

theorem run_make_dots (n : Nat) (hn : n ≤ 1048576) (w : World) :
    (Instr.makeSlice 35 (.int .i64 (n : Int)) (.int .i64 (n : Int))).run Try.prog w = .ok (.slice (some ⟨w.heap.size, 0, none⟩) n n) (w.alloc (.cells (madeCells #[.string ByteArray.empty, .int .u64 0] (n * 2)) 39)) := by
  obtain ⟨i0, hi, hz0, hz1, hz2⟩ := info_parts info39
  have hr := run_make (P := Try.prog) w 35 39 i0 _ Try.underlying35 hi hz0 .i64 .i64 n n (by omega) (Int.le_refl _) (by rw [hz2]; omega) (by omega)
  rw [hz1] at hr
  simpa [Value.cells] using hr

theorem clock_nil (w : World) : Calls Try.prog 14 #[.slice none 0 0] w fun e w' => e = .returned (.slice none 0 0) ∧ w' = w := by
  have hn := fun a n c (w : World) => Lib.run_eql_slice_nil (P := Try.prog) w 28 41 a n c 0 0 Try.underlying28
  go_enter Try.func14, Try.ntmps14
  go_wp2
  go_ret
  exact ⟨rfl, rfl⟩

theorem clock_any (x : Addr) (len cap : Nat) (S : Nat → ByteArray) (N : Nat → Nat) (w : World) (hl : len ≤ 1048576) (hc : Dots w (some x) len S N) :
    Calls Try.prog 14 #[.slice (some x) len cap] w fun e w' => e = .returned (.slice (some ⟨w.heap.size, 0, none⟩) len len) ∧ w'.rowIs w.heap.size 39 (len * 2) (dotCell S N) ∧ Below w.heap.size w w' := by
  have hn := fun a n c (w : World) => Lib.run_eql_slice_nil (P := Try.prog) w 28 41 a n c 0 0 Try.underlying28
  have hmk := run_make_dots len hl
  go_enter Try.func14, Try.ntmps14
  go_wp2
  go_loopw [4] (fun i wr => ∃ k : Nat, k ≤ len ∧ i = .int .i64 k ∧ wr.rowIs w.heap.size 39 (len * 2) (fun j => if j < k * 2 then dotCell S N j else zeroCell j) ∧ Below w.heap.size w wr) (fun i _ => len - (intOf i).toNat)
  case atStart => exact ⟨0, Nat.zero_le _, rfl, (made_dots w len).congr (fun j _ => by simp), (Below.refl _ _).alloc (Nat.le_refl _) _⟩
  case round =>
    obtain ⟨k, hk, rfl, hrow, hbel⟩ := hrel
    by_cases hlt : k < len
    · rcases hc with h0 | ⟨b, off, hx, hb, hc⟩
      · omega
      obtain rfl : x = ⟨b, off, none⟩ := by simpa using hx
      have hcell : wr.cell? ⟨b, off + k * 2, none⟩ = some (.string (S k)) := (hbel.cell (p := ⟨b, off + k * 2, none⟩) hb).trans (hc k hlt).1
      have hcell2 : wr.cell? ⟨b, off + k * 2 + 1, none⟩ = some (.int .u64 (N k)) := (hbel.cell (p := ⟨b, off + k * 2 + 1, none⟩) hb).trans (hc k hlt).2.2
      have hi1 : (k : Int) < (len : Int) := by omega
      have hold : wr.cell? ⟨w.heap.size, k * 2, none⟩ = some (.string ByteArray.empty) := by rw [hrow.cell (by omega), if_neg (by omega)]; simp [zeroCell]
      have hold2 : wr.cell? ⟨w.heap.size, k * 2 + 1, none⟩ = some (.int .u64 0) := by rw [hrow.cell (by omega), if_neg (by omega)]; simp [zeroCell]
      have hfz := hrow.frozen (k * 2)
      have hfz2 := hrow.frozen (k * 2 + 1)
      have hrow' := ((hrow.set (k * 2) (.string (S k))).set (k * 2 + 1) (.int .u64 (N k))).congr (g := fun j => if j < (k + 1) * 2 then dotCell S N j else zeroCell j) (fun j hj => by
        by_cases e : j = k * 2 + 1
        · subst e
          rw [if_pos rfl, if_pos (by omega), dotCell, if_neg (by omega), show (k * 2 + 1) / 2 = k from by omega]
        · rw [if_neg e]
          by_cases e1 : j = k * 2
          · subst e1
            rw [if_pos rfl, if_pos (by omega), dotCell, if_pos (by omega), show k * 2 / 2 = k from by omega]
          · rw [if_neg e1]
            by_cases e2 : j < k * 2
            · rw [if_pos e2, if_pos (by omega)]
            · rw [if_neg e2, if_neg (by omega)])
      clear hn hmk hrow
      go_wp2
      go_region
      go_wp2
      go_roundw
      case rel => exact ⟨k + 1, by omega, by go_num, hrow', ((hbel.setCell (Nat.le_refl _) _).setCell (Nat.le_refl _) _).drew⟩
      case measure => simp [intOf]; omega
    · go_wp2
      go_ret
      exact ⟨rfl, hrow.congr (fun j hj => by rw [if_pos (by omega)]), hbel⟩

/-- What the clock is: the same dots, in memory of the call's own. -/
def Clocked (e : Ending) (w' : World) (n : Nat) (S : Nat → ByteArray) (N : Nat → Nat) : Prop := ∃ a, e = .returned (.slice a n n) ∧ Dots w' a n S N

theorem clock_all (a : Option Addr) (len cap : Nat) (S : Nat → ByteArray) (N : Nat → Nat) (w : World) (hl : len ≤ 1048576) (hc : Dots w a len S N) (hnil : a = none → len = 0 ∧ cap = 0) :
    Calls Try.prog 14 #[.slice a len cap] w fun e w' => Clocked e w' len S N ∧ Below w.heap.size w w' := by
  cases a with
  | none =>
    obtain ⟨rfl, rfl⟩ := hnil rfl
    refine (clock_nil w).mono ?_
    rintro e w' ⟨rfl, rfl⟩
    exact ⟨⟨none, rfl, .inl rfl⟩, Below.refl _ _⟩
  | some x =>
    refine (clock_any x len cap S N w hl hc).mono ?_
    rintro e w' ⟨rfl, hrow, hbel⟩
    refine ⟨⟨_, rfl, ?_⟩, hbel⟩
    rcases hc with h0 | ⟨b, off, hx, hb, hc⟩
    · exact .inl h0
    · refine .inr ⟨_, 0, rfl, hrow.lt, fun j hj => ⟨?_, (hc j hj).2.1, ?_⟩⟩
      · rw [Nat.zero_add, hrow.cell (by omega), dotCell, if_pos (by omega), show j * 2 / 2 = j from by omega]
      · rw [Nat.zero_add, hrow.cell (by omega), dotCell, if_neg (by omega), show (j * 2 + 1) / 2 = j from by omega]

end Go.Proofs.Qxb6604541a

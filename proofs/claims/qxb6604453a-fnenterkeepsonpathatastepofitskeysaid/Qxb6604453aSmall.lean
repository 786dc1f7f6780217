/-
  THE SMALL WALKS of seat b6604453a: what each helper of the two laws does to the world.
-/
import Derived.Test.Qxb6604453aRows
import Derived.WalkKit
import Derived.ProofKit
import Derived.WalkSpells
import Derived.Maps.OwnSet
import Derived.Maps.AppendAt
import Derived.Deep.QuietTactic
import Derived.BigQuiet
import Derived.RegionTactic
namespace Go.Proofs.Qxb6604453a
open Go.RowKit Go.WideMaps Go.Maps Go.WideShapes

theorem law9 : Keyed Try.prog 9 := string_keyed Try.underlying9
theorem zero3 (w : World) : (zeroValue 3).run Try.prog w = .ok (.int .i64 0) w := by kernel_rfl
theorem info53 : (Try.prog.info? 53).map (fun i => (i.zero, i.size, i.bytes)) = some (some (.agg #[.string ByteArray.empty, .int .i64 0]), 2, 24) := by kernel_rfl

/-- The path's cells: two a step. -/
def steps (ks : List ByteArray) : List Value := ks.flatMap fun s => [.string s, .int .i64 0]

/-- The datum of onPath after the keys 'ks' were entered from place 'i' on. -/
def fill (D : DataW Unit) (i : Nat) : List ByteArray → DataW Unit
  | [] => D
  | s :: r => fill (D.put (.string s.data.toList) (.lit (.int .i64 i))) (i + 1) r
def onPath (ks : List ByteArray) : DataW Unit := fill (.map []) 0 ks

/-- The walk's state in memory: its struct in block M + 1, its map in block M, its path a row of its own from block M + 2 on. -/
structure St (w : World) (M : Nat) (ks : List ByteArray) (pv : Value) : Prop where
  path : w.cell? ⟨M + 1, 1, none⟩ = some pv
  free : w.frozen? ⟨M + 1, 1, none⟩ = false
  map : w.cell? ⟨M + 1, 2, none⟩ = some (.map (some M))
  row : w.ownsRow (M + 2) 53 2 pv ks.length (steps ks)
  keys : w.ownsMap Try.prog 9 (plainElem Try.prog 3) M ks.length (onPath ks)
  top : M + 2 ≤ w.heap.size

theorem new_any (w : World) : Calls Try.prog 11 #[] w fun e w' => e = .returned (.pointer (some ⟨w.heap.size + 1, 0, none⟩)) ∧ St w' w.heap.size [] (.slice none 0 0) ∧ Below w.heap.size w w' := by
  have hmm := @run_makeMap Try.prog
  go_enter Try.func11, Try.ntmps11
  go_wp2
  go_ret
  refine ⟨rfl, ⟨?_, ?_, ?_, ?_, ?_, ?_⟩, ((Below.refl _ _).alloc (Nat.le_refl _) _).alloc (by simp) _⟩
  · go_simp
  · go_simp
  · go_simp
  · exact World.ownsRow_nil _ _ _ _
  · exact (World.ownsMap_made w Try.prog 9 _).alloc _
  · simp

theorem pathLen_any {w : World} {M : Nat} {ks : List ByteArray} {pv : Value} (h : St w M ks pv) :
    Calls Try.prog 13 #[.pointer (some ⟨M + 1, 0, none⟩)] w fun e w' => e = .returned (.int .i64 ks.length) ∧ w' = w := by
  obtain ⟨a, cap, rfl⟩ : ∃ a cap, pv = .slice a ks.length cap := by
    rcases h.row.2 with ⟨rfl, hn⟩ | ⟨g, cap, _, rfl, _⟩
    · exact ⟨none, 0, by rw [hn]⟩
    · exact ⟨_, _, rfl⟩
  have hp := h.path
  go_enter Try.func13, Try.ntmps13
  go_wp2
  go_ret
  exact ⟨rfl, rfl⟩

theorem onPathLen_any {w : World} {M : Nat} {ks : List ByteArray} {pv : Value} (h : St w M ks pv) :
    Calls Try.prog 16 #[.pointer (some ⟨M + 1, 0, none⟩)] w fun e w' => e = .returned (.int .i64 (Maps.size (onPath ks))) ∧ w' = w := by
  have hp := h.map
  have hk := h.keys
  go_enter Try.func16, Try.ntmps16
  go_wp2_with (at_len; refine wpList_len_own _ rfl _ 45 rfl 9 3 Try.underlying45 _ M ks.length _ rfl hk ?_)
  go_ret
  exact ⟨rfl, rfl⟩

theorem onPath_any {w : World} {M : Nat} {ks : List ByteArray} {pv : Value} (h : St w M ks pv) (s : ByteArray) (hs : s.size ≤ maxLen) :
    Calls Try.prog 15 #[.pointer (some ⟨M + 1, 0, none⟩), .string s] w fun e w' => ∃ c : Int, e = .returned (.tuple #[.int .i64 c, .bool (Maps.has (onPath ks) (.string s.data.toList))]) ∧ (onPath ks).atKey (.string s.data.toList) (.lit (.int .i64 0)) = .lit (.int .i64 c) ∧ w' = w := by
  have hp := h.map
  have hk := h.keys
  have hkey : keyOf Try.prog 9 (.string s) = some (.string s.data.toList) := keyOf_string_mk Try.underlying9 hs
  go_enter Try.func15, Try.ntmps15
  go_wp2_with (at_lookup; refine wpList_lookup_own_ok_int _ rfl _ _ 45 rfl 9 3 .i64 law9 Try.underlying45 Try.underlying3 (zero3 _) M ks.length _ rfl hk _ _ rfl hkey ?_; intro c hat hwc)
  go_ret2
  exact ⟨c, rfl, hat, rfl⟩

theorem steps_length (ks : List ByteArray) : (steps ks).length = ks.length * 2 := by
  induction ks with
  | nil => rfl
  | cons s r ih => simp only [steps, List.flatMap_cons, List.length_append, List.length_cons, List.length_nil] at ih ⊢; omega

theorem steps_at (ks : List ByteArray) (i : Nat) (hi : i < ks.length) : (steps ks)[2 * i]? = some (.string ks[i]) ∧ (steps ks)[2 * i + 1]? = some (.int .i64 0) := by
  induction ks generalizing i with
  | nil => simp at hi
  | cons s r ih =>
    cases i with
    | zero => exact ⟨rfl, rfl⟩
    | succ i =>
      have := ih i (by simpa using hi)
      have e : steps (s :: r) = .string s :: .int .i64 0 :: steps r := rfl
      have e1 : 2 * (i + 1) = 2 * i + 1 + 1 := by omega
      rw [e, e1]
      simpa using this

theorem steps_snoc (ks : List ByteArray) (s : ByteArray) : steps (ks ++ [s]) = steps ks ++ [.string s, .int .i64 0] := by simp [steps]

theorem step_any {w : World} {M : Nat} {ks : List ByteArray} {pv : Value} (h : St w M ks pv) (_hm : ks.length ≤ 1048576) (i : Nat) (hi : i < ks.length) :
    Calls Try.prog 14 #[.pointer (some ⟨M + 1, 0, none⟩), .int .i64 i] w fun e w' => e = .returned (.tuple #[.string ks[i], .int .i64 0]) ∧ ∃ n, w' = w.drewN n := by
  obtain ⟨g, cap, rfl⟩ : ∃ g cap, pv = .slice (some ⟨g, 0, none⟩) ks.length cap := by
    rcases h.row.2 with ⟨rfl, hn⟩ | ⟨g, cap, _, rfl, _⟩
    · omega
    · exact ⟨_, _, rfl⟩
  have hp := h.path
  have hc := h.row.cells (g := g) rfl
  have h0 := hc _ _ (steps_at ks i hi).1
  have h1 := hc _ _ (steps_at ks i hi).2
  clear hc
  have hlt : (i : Int) < (ks.length : Int) := by omega
  rw [add_plain, Nat.zero_add, Nat.mul_comm] at h0 h1
  go_enter Try.func14, Try.ntmps14
  go_wp2
  go_quiet (fail)
  go_wp2
  go_ret2
  exact ⟨rfl, _, rfl⟩

theorem fill_snoc (D : DataW Unit) (i : Nat) (ks : List ByteArray) (s : ByteArray) : fill D i (ks ++ [s]) = (fill D i ks).put (.string s.data.toList) (.lit (.int .i64 (i + ks.length : Nat))) := by
  induction ks generalizing D i with
  | nil => rfl
  | cons a r ih =>
    simp only [List.cons_append, fill, ih, List.length_cons]
    rw [show i + 1 + r.length = i + (r.length + 1) from by omega]

theorem onPath_snoc (ks : List ByteArray) (s : ByteArray) : onPath (ks ++ [s]) = (onPath ks).put (.string s.data.toList) (.lit (.int .i64 ks.length)) := by
  rw [onPath, fill_snoc, Nat.zero_add]; rfl

theorem enter_any {w : World} {M : Nat} {ks : List ByteArray} {pv : Value} (h : St w M ks pv) (hm : ks.length ≤ 1048576) (s : ByteArray) (hs : s.size ≤ maxLen) :
    Calls Try.prog 19 #[.pointer (some ⟨M + 1, 0, none⟩), .string s] w fun e w' => e = .returned (.tuple #[]) ∧ (∃ pv', St w' M (ks ++ [s]) pv') ∧ Below M w w' := by
  obtain ⟨a, cap, rfl⟩ : ∃ a cap, pv = .slice a ks.length cap := by
    rcases h.row.2 with ⟨rfl, hn⟩ | ⟨g, cap, _, rfl, _⟩
    · exact ⟨none, 0, by rw [hn]⟩
    · exact ⟨_, _, rfl⟩
  have hkey : keyOf Try.prog 9 (.string s) = some (.string s.data.toList) := keyOf_string_mk Try.underlying9 hs
  obtain ⟨w1, hrun, hk1, hg1⟩ := (World.ownsMap.drew h.keys).update law9 Try.underlying45 (show ks.length < maxLen by unfold maxLen; omega) hkey (plainElem_int Try.underlying3 (a := (ks.length : Int)) (WalkArith.wf_i64 (by omega)))
  have hp := h.path
  have hf := h.free
  have hmap := h.map
  obtain ⟨i0, hi, hz0, hz1, hz2⟩ := info_parts info53
  have hp1 : w1.cell? ⟨M + 1, 1, none⟩ = some (.slice a ks.length cap) := hg1.cell (a := ⟨M + 1, 1, none⟩) hp (by simp)
  have hb1 : w1.heap[M + 1]? = w.heap[M + 1]? := hg1.block (M + 1) (by have := h.top; simp; omega) (by simp)
  have hf1 : w1.frozen? ⟨M + 1, 1, none⟩ = false := (World.frozen?_of_block (a := ⟨M + 1, 1, none⟩) hb1).trans hf
  have hmap1 : w1.cell? ⟨M + 1, 2, none⟩ = some (.map (some M)) := hg1.cell (a := ⟨M + 1, 2, none⟩) hmap (by simp)
  have hlt0 := h.row.lt
  have hrow1 : w1.ownsRow (M + 2) 53 2 (.slice a ks.length cap) ks.length (steps ks) := World.ownsRow.kept (w := w.drew) h.row hg1 (by
    cases a with
    | none => exact .inl rfl
    | some x => refine .inr (fun e => ?_); have := (hlt0 _ e).1; omega)
  have htop1 : M + 2 ≤ w1.heap.size := Nat.le_trans h.top hg1.size
  have hbel1 : Below M w w1 := ⟨hg1.os, hg1.tape, hg1.output, hg1.size, fun k hk => hg1.block k (by have := h.top; simp; omega) (by simp; omega)⟩
  go_enter Try.func19, Try.ntmps19
  go_wp2
  go_region
  clear hrun hg1 hp hf hmap hlt0
  go_wp2_with (at_builtin; refine wpList_append_own_at _ rfl (.tmp 18) (.tmp 21) 47 rfl (M + 2) 53 i0 (.agg #[.string ByteArray.empty, .int .i64 0]) 2 24 Try.underlying47 hi hz0 hz1 hz2 rfl (by decide) _ _ _ rfl (hrow1.alloc _) ⟨w1.heap.size, 0, none⟩ 1 1 [.string s, .int .i64 0] rfl rfl ?c1 ?c2 ?b1 ?b2 ?b3 ?next)
  case c1 =>
    intro j u hj
    match j, hj with
    | 0, hj => simp at hj; subst hj; simp [Addr.add]
    | 1, hj => simp at hj; subst hj; simp [Addr.add]
  case c2 =>
    intro u hu
    simp at hu
    rcases hu with rfl | rfl <;> rfl
  case b1 => unfold maxLen; omega
  case b2 => omega
  case b3 => simp; omega
  case next =>
    intro v' w2 hown hgrow hnil _
    obtain ⟨g, cap', hv⟩ : ∃ g cap', v' = .slice (some ⟨g, 0, none⟩) (ks.length + 1) cap' := by
      rcases hown.2 with ⟨_, hz⟩ | ⟨g, cap', _, hv, _⟩
      · omega
      · exact ⟨g, cap', hv⟩
    have hlt := (hrow1.alloc (.cells #[.string s, .int .i64 0] 53)).lt
    have hne : some (M + 1) ≠ (Value.slice a ks.length cap).ownBlock := fun e => by have := (hlt _ e.symm).1; omega
    have hneM : some M ≠ (Value.slice a ks.length cap).ownBlock := fun e => by have := (hlt _ e.symm).1; omega
    have hb2 : w2.heap[M + 1]? = w1.heap[M + 1]? := (hgrow.block (M + 1) (by simp; omega) hne).trans (Below.heap_alloc w1 _ _ (by omega))
    have hp2 : w2.cell? ⟨M + 1, 1, none⟩ = some (.slice a ks.length cap) := (World.cell?_of_block (a := ⟨M + 1, 1, none⟩) hb2).trans hp1
    have hf2 : w2.frozen? ⟨M + 1, 1, none⟩ = false := (World.frozen?_of_block (a := ⟨M + 1, 1, none⟩) hb2).trans hf1
    have hmap2 : w2.cell? ⟨M + 1, 2, none⟩ = some (.map (some M)) := (World.cell?_of_block (a := ⟨M + 1, 2, none⟩) hb2).trans hmap1
    have hk2 := (hk1.alloc (.cells #[.string s, .int .i64 0] 53)).kept hgrow hneM
    have hbel2 : Below M w w2 := ((hbel1.alloc (by omega) _)).grown hgrow (by simp; omega) (fun k hk => by have := (hlt _ hk).1; omega)
    have hsz2 : M + 2 ≤ w2.heap.size := Nat.le_trans (by simp; omega) hgrow.size
    rw [hv] at hown ⊢
    clear hnil hgrow hlt hne hneM hb2 hk1 hrow1 hp1 hf1 hmap1 hb1 h
    go_wp2
    go_end0
    refine ⟨rfl, ⟨.slice (some ⟨g, 0, none⟩) (ks.length + 1) cap', ?_, ?_, ?_, ?_, ?_, ?_⟩, hbel2.setCell (by simp) _⟩
    · go_simp
    · rw [World.frozen?_setCell]; exact hf2
    · go_simp
    · rw [steps_snoc, List.length_append]
      exact ownsRow_setCell_below hown (by simp) _
    · rw [onPath_snoc, List.length_append]
      exact hk2.setCell (by simp) _
    · simp [World.setCell]; omega

theorem zenter_any {w : World} {M : Nat} {ks : List ByteArray} {pv : Value} (h : St w M ks pv) (hm : ks.length ≤ 1048576) (s : ByteArray) (hs : s.size ≤ maxLen) :
    Calls Try.prog 12 #[.pointer (some ⟨M + 1, 0, none⟩), .string s] w fun e w' => e = .returned (.tuple #[]) ∧ (∃ pv', St w' M (ks ++ [s]) pv') ∧ Below M w w' := by
  go_enter Try.func12, Try.ntmps12
  go_wp2_with fail
  refine (enter_any h hm s hs).mono ?_
  rintro e w' ⟨rfl, hst, hb⟩
  go_wp2
  go_end0
  exact ⟨rfl, hst, hb⟩

end Go.Proofs.Qxb6604453a

/-
  APPENDING TO A SLICE WITHOUT ROOM, OR OF THE CALL's OWN; binary.AppendUvarint (45); seat b6604543a. (The same text serves seat b6604541a at her own numbers.)
-/
import Derived.Test.Qxb6604543aRows
import Derived.WalkKit
import Derived.ProofKit
import Derived.WalkSpells
import Derived.WalkLawsBesides
import Derived.Deep.OwnRows
import Derived.Deep.QuietTactic
import Derived.BigQuiet
import Derived.RegionTactic
import Derived.ArgAppend
import Derived.Lib.Varint
import Derived.Lib.VarintBits
import Derived.Lib.AppendStr
namespace Go.Proofs.Qxb6604543a
open Go.RowKit Go.WideShapes

theorem info5 : (Try.prog.info? 5).map (fun i => (i.zero, i.size, i.bytes)) = some (some (.int .u8 0), 1, 1) := by kernel_rfl
/-- It returned a truth value. -/
def Says (e : Ending) : Prop := ∃ r : Bool, e = .returned (.bool r)

theorem own_mono {w : World} {base base' : Nat} {e : TypeId} {size : Nat} {v : Value} {n : Nat} {xs : List Value} (h : w.ownsRow base e size v n xs) (hb : base' ≤ base) : w.ownsRow base' e size v n xs := by
  refine ⟨h.1, ?_⟩
  rcases h.2 with h | ⟨g, cap, cur, h1, h2, h3⟩
  · exact .inl h
  · exact .inr ⟨g, cap, cur, h1, Nat.le_trans hb h2, h3⟩

/-- APPENDING TO v TURNS NOTHING BELOW B: v is a row of the call's own from block B on, or it has no room. -/
def Apd (B : Nat) (w : World) (v : Value) (xs : List Value) : Prop :=
  w.ownsRow B 5 1 v xs.length xs ∨ ∃ a, v = .slice a xs.length xs.length ∧ (a = none → xs.length = 0) ∧ ∀ p, a = some p → ∀ j u, xs[j]? = some u → w.cell? (p.add j) = some u

theorem Apd.alloc {B : Nat} {w : World} {v : Value} {xs : List Value} (h : Apd B w v xs) (o : Obj) : Apd B (w.alloc o) v xs := by
  rcases h with h | ⟨a, h1, h2, h3⟩
  · exact .inl (h.alloc o)
  · refine .inr ⟨a, h1, h2, fun p hp j u hu => ?_⟩
    have hc := h3 p hp j u hu
    have hlt := World.block_lt_of_cell? w _ hc
    rw [World.cell?_of_block (w := w) (Below.heap_alloc w o _ hlt)]
    exact hc

theorem run_append_apd {B : Nat} {w : World} {v : Value} {xs : List Value} (h : Apd B w v xs) (hB : B ≤ w.heap.size) (ty : TypeId)
    (ad : Addr) (m c : Nat) (news : List Value) (hm : 0 < m) (hl : news.length = m) (hnews : ∀ j u, news[j]? = some u → w.cell? (ad.add j) = some u) (h1 : ∀ u ∈ news, u.oneCell' = true) (hlim : xs.length + m ≤ 140737488355328) :
    ∃ v' w', (Builtin.append_ #[44, 44] ty #[v, .slice (some ad) m c]).run Try.prog w = .ok v' w' ∧ w'.ownsRow B 5 1 v' (xs ++ news).length (xs ++ news) ∧ Below B w w' := by
  obtain ⟨i0, hi, hz0, hz1, hz2⟩ := info_parts info5
  have hmax : xs.length + m ≤ maxLen := by unfold maxLen; omega
  have elen : (xs ++ news).length = xs.length + m := by rw [List.length_append, hl]
  rw [elen]
  rcases h with h | ⟨a, rfl, h2, h3⟩
  · obtain ⟨v', w', hr, ho, hg, _⟩ := run_append_own (P := Try.prog) w B 44 ty 5 i0 (.int .u8 0) 1 1 Try.underlying44 hi hz0 hz1 hz2 rfl (by decide) v xs.length xs h ad m c news (by omega) hnews h1 hmax (by omega) hB
    exact ⟨v', w', hr, ho, (Below.refl _ _).grown hg hB (fun k hk => (h.lt k hk).1)⟩
  · cases a with
    | none =>
      have e0 := h2 rfl
      obtain rfl : xs = [] := List.eq_nil_of_length_eq_zero e0
      obtain ⟨v', w', hr, ho, hg, _⟩ := run_append_own (P := Try.prog) w B 44 ty 5 i0 (.int .u8 0) 1 1 Try.underlying44 hi hz0 hz1 hz2 rfl (by decide) (.slice none 0 0) 0 [] (World.ownsRow_nil _ _ _ _) ad m c news (by omega) hnews h1 (by simpa using hmax) (by simp at hlim; omega) hB
      exact ⟨v', w', hr, ho, (Below.refl _ _).grown hg hB (fun k hk => by cases hk)⟩
    | some p =>
      obtain ⟨v', w', hr, ho, hg⟩ := run_append_arg_grows (P := Try.prog) w 44 ty 5 i0 (.int .u8 0) 1 1 Try.underlying44 hi hz0 hz1 hz2 rfl (by decide) p xs.length xs.length xs (by omega) (h3 p rfl) ad m c news (by omega) hnews (by omega) hmax (by omega)
      exact ⟨v', w', hr, own_mono ho hB, (Below.refl _ _).grown hg hB (fun k hk => by cases hk)⟩

theorem wpList_append_apd {w : World} {ops : Array Oper} {rest : List Oper} {o : Oper} {a : Act} {Q : Exit → Act → World → Prop} (hgd : o.guard = none) (s x : Operand)
    (ho : o.op = .call { callee := .builtin .append, args := #[s, x], argTypes := #[44, 44] })
    (B : Nat) (v : Value) (xs : List Value) (hs : a.eval s = v) (h : Apd B w v xs) (hB : B ≤ w.heap.size)
    (ad : Addr) (m c : Nat) (news : List Value) (hx : a.eval x = .slice (some ad) m c) (hm : 0 < m) (hl : news.length = m) (hnews : ∀ j u, news[j]? = some u → w.cell? (ad.add j) = some u) (h1 : ∀ u ∈ news, u.oneCell' = true) (hlim : xs.length + m ≤ 140737488355328)
    (hK : ∀ v' w', w'.ownsRow B 5 1 v' (xs ++ news).length (xs ++ news) → Below B w w' → wpList Try.prog ops Q rest (a.put o.dst v') w') :
    wpList Try.prog ops Q (o :: rest) a w := by
  refine wpList_plain hgd fun K hK' => ?_
  obtain ⟨v', w', hr, h2, h3⟩ := run_append_apd h hB o.type ad m c news hm hl hnews h1 hlim
  unfold Oper.wp execOp
  simp only [ho, resolve, invoke, builtin, Sem.run_bind, Sem.run_pure, Result.andThen_ok, List.map_toArray, List.map_cons, List.map_nil, hs, hx, hr]
  exact hK' _ _ (hK v' w' h2 h3)

/-! ### the varint, as plain numbers -/
def encF : Nat → Nat → List Nat
  | 0, x => [x]
  | f + 1, x => if x < 128 then [x] else (x % 128 + 128) :: encF f (x / 128)

theorem encF_small {f x : Nat} (h : x < 128) : encF f x = [x] := by
  cases f with
  | zero => rfl
  | succ f => simp [encF, h]
theorem encF_big {f x : Nat} (h : ¬ x < 128) : encF (f + 1) x = (x % 128 + 128) :: encF f (x / 128) := by simp [encF, h]

theorem encF_length : ∀ (f x : Nat), 1 ≤ (encF f x).length ∧ (encF f x).length ≤ f + 1
  | 0, _ => by simp [encF]
  | f + 1, x => by
    by_cases h : x < 128
    · rw [encF_small h]; simp
    · rw [encF_big h, List.length_cons]
      have := encF_length f (x / 128)
      omega

def bc (xs : List Nat) : List Value := xs.map fun c => Value.int .u8 (c : Nat)
theorem bc_append (xs ys : List Nat) : bc (xs ++ ys) = bc xs ++ bc ys := by simp [bc]
theorem bc_length (xs : List Nat) : (bc xs).length = xs.length := by simp [bc]
theorem bc_one (c : Nat) : bc [c] = [Value.int .u8 (c : Nat)] := rfl

def SaysRow (e : Ending) (B : Nat) (w' : World) (xs : List Value) : Prop := ∃ v, e = .returned v ∧ w'.ownsRow B 5 1 v xs.length xs

set_option maxHeartbeats 800000 in
set_option maxRecDepth 100000 in
theorem uvarint_any (B x : Nat) (hx : x < 18446744073709551616) (v : Value) (xs : List Value) (w : World) (h : Apd B w v xs) (hB : B ≤ w.heap.size) (hlim : xs.length + 10 ≤ 140737488355328) :
    Calls Try.prog 45 #[v, .int .u64 x] w fun e w' => SaysRow e B w' (xs ++ bc (encF 9 x)) ∧ Below B w w' := by
  go_enter Try.func45, Try.ntmps45
  go_wp2
  go_loopw [0, 1] (fun vb vx wr => ∃ (y f : Nat) (pre : List Nat), vx = .int .u64 y ∧ y < 128 ^ (f + 1) ∧ y < 18446744073709551616 ∧ pre.length + f = 9 ∧ pre ++ encF f y = encF 9 x ∧ Apd B wr vb (xs ++ bc pre) ∧ Below B w wr)
    (fun _ vx _ => (intOf vx).toNat)
  case atStart => exact ⟨x, 9, [], rfl, Nat.lt_of_lt_of_le hx (by decide), hx, rfl, rfl, by simpa [bc] using h, Below.refl _ _⟩
  case round =>
    obtain ⟨y, f, pre, rfl, hy, hy64, hpl, hsplit, hap, hbel⟩ := hrel
    have Hs : Hid (pre ++ encF f y = encF 9 x) := hsplit
    clear hsplit
    have hws := hbel.size
    by_cases h128 : 128 ≤ y
    · obtain ⟨f, rfl⟩ : ∃ f', f = f' + 1 := by
        cases f with
        | zero => simp at hy; omega
        | succ f => exact ⟨f, rfl⟩
      have hor : bits .or .u8 ((y : Int) % 256) 128 = ((y % 128 + 128 : Nat) : Int) := by
        rw [Lib.u8_or128_any _ (by omega) (by omega)]
        omega
      go_wp2_with (at_builtin; refine wpList_append_apd rfl _ _ rfl B _ (xs ++ bc pre) rfl (hap.alloc _) ?b1 ⟨wr.heap.size, 0, none⟩ 1 1 [Value.int .u8 ((y % 128 + 128 : Nat) : Int)] rfl (by decide) rfl ?c1 ?c2 ?b2 ?next)
      case b1 => simp; omega
      case c1 =>
        intro j u hj
        match j, hj with
        | 0, hj => simp at hj; subst hj; simp [Addr.add]
      case c2 => intro u hu; simp at hu; subst hu; rfl
      case b2 => rw [List.length_append, bc_length]; omega
      case next =>
        intro v' w1 hown hb1
        have ec : ((y % 128 + 128 : Nat) : Int) = (y : Int) % 128 + 128 := by omega
        have hap' : Apd B w1 v' (xs ++ bc (pre ++ [y % 128 + 128])) := by
          rw [bc_append, ← List.append_assoc, bc_one]
          rw [ec]
          exact .inl (by simpa using hown)
        have hbel' : Below B w w1 := (hbel.alloc (by omega) _).trans hb1
        clear hown hb1 hap hbel
        go_wp2
        go_roundw
        case rel =>
          refine ⟨y / 128, f, pre ++ [y % 128 + 128], by go_num, ?_, by omega, by rw [List.length_append]; simp; omega, ?_, hap', hbel'⟩
          · rw [Nat.pow_succ] at hy
            exact Nat.div_lt_of_lt_mul (by rw [Nat.mul_comm]; exact hy)
          · rw [List.append_assoc, List.singleton_append, ← encF_big (by omega)]; exact Hs.out
        case measure => simp [intOf]; omega
    · have hsm := encF_small (f := f) (show y < 128 by omega)
      go_wp2_with (at_builtin; refine wpList_append_apd rfl _ _ rfl B _ (xs ++ bc pre) rfl (hap.alloc _) ?b1 ⟨wr.heap.size, 0, none⟩ 1 1 [Value.int .u8 (y : Int)] rfl (by decide) rfl ?c1 ?c2 ?b2 ?next)
      case b1 => simp; omega
      case c1 =>
        intro j u hj
        match j, hj with
        | 0, hj => simp at hj; subst hj; simp [Addr.add]
      case c2 => intro u hu; simp at hu; subst hu; rfl
      case b2 => rw [List.length_append, bc_length]; omega
      case next =>
        intro v' w1 hown hb1
        have hbel' : Below B w w1 := (hbel.alloc (by omega) _).trans hb1
        have e1 : xs ++ bc (encF 9 x) = xs ++ bc pre ++ [Value.int .u8 (y : Int)] := by rw [← Hs.out, hsm, bc_append, List.append_assoc]; rfl
        clear hb1 hap hbel
        go_wp2
        go_ret
        rw [e1]
        exact ⟨⟨v', rfl, by simpa using hown⟩, hbel'⟩

end Go.Proofs.Qxb6604543a

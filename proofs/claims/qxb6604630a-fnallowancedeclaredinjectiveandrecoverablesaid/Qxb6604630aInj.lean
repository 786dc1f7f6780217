/-
  THE WALK of FnAllowanceDeclaredInjectiveAndRecoverable (5); seat b6604630a.
-/
import Derived.Test.Qxb6604630aText
import Derived.Lib.Strings
namespace Go.Proofs.Qxb6604630a
open Go.RowKit Go.WideShapes

/-- The block's bytes. -/
def gen (a : ByteArray) : ByteArray := headB ++ a ++ tailB
theorem gen_bytes (a : ByteArray) : (gen a).data.toList = headL ++ (a.data.toList ++ tailL) := by
  simp [gen, ByteArray.data_append, headB, tailB]
theorem gen_size (a : ByteArray) : (gen a).size = a.size + 120 := by
  have h := congrArg List.length (gen_bytes a)
  have h1 : headL.length = 30 := rfl
  have h2 : tailL.length = 90 := rfl
  simp only [List.length_append, h1, h2] at h
  have e1 : (gen a).data.toList.length = (gen a).size := by simp
  have e2 : a.data.toList.length = a.size := by simp
  omega
theorem gen_inj {a b : ByteArray} (h : gen a = gen b) : a = b := by
  have h1 := congrArg (fun x : ByteArray => x.data.toList) h
  simp only [gen_bytes, List.append_cancel_left_eq, List.append_cancel_right_eq] at h1
  exact bytes_inj h1

theorem extract_list (s : ByteArray) (i j : Nat) : (s.extract i j).toList = (s.data.toList.drop i).take (j - i) := by
  rw [ByteArray.toList_eq, Lib.extract_data]

/-- The note stands at place 30. -/
theorem gen_note (a : ByteArray) : (((gen a).extract 30 (30 + a.size)).toList == a.toList) = true := by
  rw [extract_list, gen_bytes, ByteArray.toList_eq, List.drop_left' (show headL.length = 30 from rfl), Nat.add_sub_cancel_left, List.take_left' (show a.data.toList.length = a.size by simp)]
  simp

theorem gen_head (a : ByteArray) (j : Nat) (hj : j + 7 ≤ 30) : ((gen a).extract j (j + 7)).toList = (headL.drop j).take 7 := by
  have hl : headL.length = 30 := rfl
  rw [extract_list, gen_bytes, Nat.add_sub_cancel_left, List.drop_append_of_le_length (by omega), List.take_append_of_le_length (by rw [List.length_drop]; omega)]

def nullB : ByteArray := ⟨nullL.toArray⟩
theorem nullB_size : nullB.size = 7 := rfl
theorem nullB_list : nullB.toList = nullL := by rw [ByteArray.toList_eq]; simp [nullB]

theorem head_miss : ∀ j : Fin 23, ((headL.drop j.val).take 7 == nullL) = false := by decide +kernel
theorem gen_miss (a : ByteArray) (j : Nat) (hj : j < 23) : (((gen a).extract j (j + nullB.size)).toList == nullB.toList) = false := by
  rw [nullB_size, nullB_list, gen_head a j (by omega)]
  exact head_miss ⟨j, hj⟩
theorem gen_hit (a : ByteArray) : (((gen a).extract 23 (23 + nullB.size)).toList == nullB.toList) = true := by
  rw [nullB_size, nullB_list, gen_head a 23 (by omega)]
  decide +kernel

theorem eq_bytes {a b : ByteArray} (h : a = b) : (a.toList == b.toList) = true := by rw [h]; simp
theorem ne_bytes {a b : ByteArray} (h : ¬ a = b) : (a.toList == b.toList) = false := by
  rw [ByteArray.toList_eq, ByteArray.toList_eq]
  exact beq_eq_false_iff_ne.2 (fun e => h (bytes_inj e))

theorem gen_calls (a : ByteArray) (w : World) (ha : a.size ≤ 1048576) : Calls Try.prog 9 #[.string a] w fun e w' => e = .returned (.string (gen a)) ∧ w' = w := zdecl_any a w ha

theorem find_null (a : ByteArray) (w : World) (ha : a.size ≤ 1048576) : Calls Try.prog 7 #[.string (gen a), .string nullB] w fun e w' => e = .returned (.int .i64 23) ∧ w' = w :=
  index_hit (gen a) nullB 23 w (by rw [gen_size]; omega) (by rw [gen_size, nullB_size]; omega) (gen_hit a) (gen_miss a)

set_option maxHeartbeats 800000 in
set_option maxRecDepth 100000 in
theorem walk5 (a b : ByteArray) (w : World) (h1 : a.size ≤ maxLen) (h2 : b.size ≤ maxLen) :
    Calls Try.prog 5 #[.string a, .string b] w fun e w' => e = .returned (.bool true) ∧ w' = w := by
  have hl1 := h1
  have hl2 := h2
  unfold maxLen at hl1 hl2
  by_cases t1 : (1048576 : Int) < (a.size : Int)
  · go_enter Try.func5, Try.ntmps5
    go_wp2_with fail
    refine (bytes11_any a b w h1 h2).mono ?_
    rintro e w' ⟨⟨r, rfl⟩, hw⟩
    subst hw
    cases r <;> (go_wp2; go_ret; exact ⟨rfl, rfl⟩)
  by_cases t2 : (1048576 : Int) < (b.size : Int)
  · go_enter Try.func5, Try.ntmps5
    go_wp2_with fail
    refine (bytes11_any a b w h1 h2).mono ?_
    rintro e w' ⟨⟨r, rfl⟩, hw⟩
    subst hw
    cases r <;> (go_wp2; go_ret; exact ⟨rfl, rfl⟩)
  by_cases t3 : (1048576 : Int) < (a.size : Int) + (b.size : Int)
  · go_enter Try.func5, Try.ntmps5
    go_wp2_with fail
    refine (bytes11_any a b w h1 h2).mono ?_
    rintro e w' ⟨⟨r, rfl⟩, hw⟩
    subst hw
    cases r <;> (go_wp2; go_ret; exact ⟨rfl, rfl⟩)
  have ca := fun w => gen_calls a w (by omega)
  have cb := fun w => gen_calls b w (by omega)
  have cf := fun w => find_null a w (by omega)
  have hsa := gen_size a
  have hsb := gen_size b
  have note := gen_note a
  have beq : ((gen a).toList == (gen b).toList) = (a.toList == b.toList) := by
    by_cases h : a = b
    · subst h; rw [eq_bytes rfl, eq_bytes rfl]
    · rw [ne_bytes h, ne_bytes (fun e => h (gen_inj e))]
  obtain ⟨ga, hga⟩ : ∃ g, g = gen a := ⟨_, rfl⟩
  obtain ⟨gb, hgb⟩ : ∃ g, g = gen b := ⟨_, rfl⟩
  rw [← hga] at hsa note beq
  rw [← hgb] at hsb beq
  simp only [← hga] at ca cf
  simp only [← hgb] at cb
  clear hga hgb
  have s1 : (a.size : Int) < (ga.size : Int) := by omega
  have s2 : ((ga.size : Int) - (a.size : Int) != (gb.size : Int) - (b.size : Int)) = false := bne_eq_false_iff_eq.2 (by omega)
  have s6 : ¬ ga.size ≤ a.size := by omega
  have s3 : 30 + (a.size : Int) ≤ (ga.size : Int) := by omega
  have s4 : (ga.size : Int) ≤ 4194304 := by omega
  have s5 : (gb.size : Int) ≤ 4194304 := by omega
  clear hsa hsb
  have Hca : Hid (∀ w, Calls Try.prog 9 #[.string a] w fun e w' => e = .returned (.string ga) ∧ w' = w) := ca
  have Hcb : Hid (∀ w, Calls Try.prog 9 #[.string b] w fun e w' => e = .returned (.string gb) ∧ w' = w) := cb
  have Hcf : Hid (∀ w, Calls Try.prog 7 #[.string ga, .string nullB] w fun e w' => e = .returned (.int .i64 23) ∧ w' = w) := cf
  clear ca cb cf
  go_enter Try.func5, Try.ntmps5
  go_wp2_with fail
  refine (bytes11_any a b w h1 h2).mono ?_
  rintro e w' ⟨⟨r, rfl⟩, hw⟩
  subst hw
  cases r with
  | false => go_wp2; go_ret; exact ⟨rfl, rfl⟩
  | true =>
    go_wp2_with fail
    refine (Hca.out _).mono ?_
    rintro e w1 ⟨rfl, hw⟩
    subst hw
    go_wp2_with fail
    refine (Hcb.out _).mono ?_
    rintro e w1 ⟨rfl, hw⟩
    subst hw
    go_wp2_with fail
    refine (Hcf.out _).mono ?_
    rintro e w1 ⟨rfl, hw⟩
    subst hw
    go_wp2
    go_ret
    exact ⟨rfl, rfl⟩

end Go.Proofs.Qxb6604630a

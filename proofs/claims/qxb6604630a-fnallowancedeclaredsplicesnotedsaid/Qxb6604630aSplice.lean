/-
  THE WALK of FnAllowanceDeclaredSplicesNoted (4); seat b6604630a.
-/
import Derived.Test.Qxb6604630aText
import Derived.Lib.Strings
namespace Go.Proofs.Qxb6604630a
open Go.RowKit Go.WideShapes

theorem ext_list (s : ByteArray) (i j : Nat) : (s.extract i j).toList = (s.data.toList.drop i).take (j - i) := by
  rw [ByteArray.toList_eq, Lib.extract_data]
theorem mk_list (l : List UInt8) : (ByteArray.mk l.toArray).toList = l := by rw [ByteArray.toList_eq]

/-- The block of the empty note. -/
def base0 : ByteArray := headB ++ ByteArray.mk #[] ++ tailB
theorem base0_bytes : base0.data.toList = headL ++ tailL := by simp [base0, ByteArray.data_append, headB, tailB]
theorem base0_size : base0.size = 120 := rfl

theorem base_head : ((base0.extract 0 30).toList == [97, 108, 108, 111, 119, 97, 110, 99, 101, 32, 110, 117, 109, 101, 114, 105, 99, 91, 93, 32, 58, 61, 32, 110, 117, 108, 108, 105, 102, 40]) = true := by
  rw [ext_list, base0_bytes]; decide +kernel
theorem base_tail : base0.extract 30 base0.size = tailB := by
  apply bytes_inj
  rw [Lib.extract_data, base0_bytes, base0_size]
  rfl

def colonB : ByteArray := ⟨colonL.toArray⟩
def deadB : ByteArray := ⟨deadL.toArray⟩
def resB : ByteArray := ⟨resL.toArray⟩
theorem tail_list : tailB.data.toList = tailL := rfl

theorem colon_yes : ((tailB.extract 0 colonB.size).toList == colonB.toList) = true := by
  rw [ext_list, tail_list, colonB, mk_list]; decide +kernel
theorem dead_hit : ((tailB.extract 21 (21 + deadB.size)).toList == deadB.toList) = true := by
  rw [ext_list, tail_list, deadB, mk_list]; decide +kernel
theorem dead_miss0 : ∀ j : Fin 21, ((tailL.drop j.val).take 33 == deadL) = false := by decide +kernel
theorem dead_miss (j : Nat) (hj : j < 21) : ((tailB.extract j (j + deadB.size)).toList == deadB.toList) = false := by
  rw [ext_list, tail_list, Nat.add_sub_cancel_left, show deadB.toList = deadL from mk_list _]
  exact dead_miss0 ⟨j, hj⟩
theorem res_hit : ((tailB.extract 58 (58 + resB.size)).toList == resB.toList) = true := by
  rw [ext_list, tail_list, resB, mk_list]; decide +kernel
theorem res_miss0 : ∀ j : Fin 58, ((tailL.drop j.val).take 32 == resL) = false := by decide +kernel
theorem res_miss (j : Nat) (hj : j < 58) : ((tailB.extract j (j + resB.size)).toList == resB.toList) = false := by
  rw [ext_list, tail_list, Nat.add_sub_cancel_left, show resB.toList = resL from mk_list _]
  exact res_miss0 ⟨j, hj⟩

theorem colon_calls (w : World) : Calls Try.prog 10 #[.string tailB, .string colonB] w fun e w' => e = .returned (.bool true) ∧ w' = w :=
  hasPrefix_yes tailB colonB w (by decide) colon_yes
theorem dead_calls (w : World) : Calls Try.prog 7 #[.string tailB, .string deadB] w fun e w' => e = .returned (.int .i64 21) ∧ w' = w :=
  index_hit tailB deadB 21 w (by decide) (by decide) dead_hit dead_miss
theorem res_calls (w : World) : Calls Try.prog 7 #[.string tailB, .string resB] w fun e w' => e = .returned (.int .i64 58) ∧ w' = w :=
  index_hit tailB resB 58 w (by decide) (by decide) res_hit res_miss
theorem base_calls (w : World) : Calls Try.prog 9 #[.string (ByteArray.mk #[])] w fun e w' => e = .returned (.string base0) ∧ w' = w := zdecl_any (ByteArray.mk #[]) w (by decide)

theorem note_calls (a : ByteArray) (w : World) (ha : a.size ≤ 1048576) : Calls Try.prog 9 #[.string a] w fun e w' => e = .returned (.string (headB ++ a ++ tailB)) ∧ w' = w := zdecl_any a w ha

set_option maxHeartbeats 800000 in
set_option maxRecDepth 100000 in
theorem walk4 (a : ByteArray) (w : World) (h1 : a.size ≤ maxLen) :
    Calls Try.prog 4 #[.string a] w fun e w' => e = .returned (.bool true) ∧ w' = w := by
  have hl1 := h1
  unfold maxLen at hl1
  by_cases t1 : (1048576 : Int) < (a.size : Int)
  · go_enter Try.func4, Try.ntmps4
    go_wp2_with fail
    refine (bytes8_any a w h1).mono ?_
    rintro e w' ⟨⟨r, rfl⟩, hw⟩
    subst hw
    cases r <;> (go_wp2; go_ret; exact ⟨rfl, rfl⟩)
  have hsz := base0_size
  have hhead := base_head
  have htail := base_tail
  have Hbase : Hid (∀ w, Calls Try.prog 9 #[.string (ByteArray.mk #[])] w fun e w' => e = .returned (.string base0) ∧ w' = w) := base_calls
  generalize base0 = bs at hsz hhead htail Hbase
  have z1 : 30 ≤ bs.size := by omega
  have z2 : bs.size ≤ 120 := by omega
  clear hsz
  have ts : tailB.size ≤ 90 := by decide
  go_enter Try.func4, Try.ntmps4
  go_wp2_with fail
  refine (bytes8_any a w h1).mono ?_
  rintro e w' ⟨⟨r, rfl⟩, hw⟩
  subst hw
  cases r with
  | false => go_wp2; go_ret; exact ⟨rfl, rfl⟩
  | true =>
    go_wp2_with fail
    refine (Hbase.out _).mono ?_
    rintro e w1 ⟨rfl, hw⟩
    subst hw
    go_wp2_with fail
    refine (colon_calls _).mono ?_
    rintro e w2 ⟨rfl, hw⟩
    subst hw
    go_wp2_with fail
    refine (dead_calls _).mono ?_
    rintro e w2 ⟨rfl, hw⟩
    subst hw
    go_wp2_with fail
    refine (res_calls _).mono ?_
    rintro e w2 ⟨rfl, hw⟩
    subst hw
    go_wp2_with fail
    refine (note_calls a _ (by omega)).mono ?_
    rintro e w2 ⟨rfl, hw⟩
    subst hw
    go_wp2
    go_ret
    refine ⟨?_, rfl⟩
    show Ending.returned (.bool ((headB ++ a ++ tailB).toList == (headB ++ a ++ tailB).toList)) = .returned (.bool true)
    rw [beq_self_eq_true]

end Go.Proofs.Qxb6604630a

/-
  zzUvarintB1 (16): reading a varint back; seat b6604541a.
-/
import Derived.Test.Qxb6604541aVarint
namespace Go.Proofs.Qxb6604541a
open Go.RowKit Go.WideShapes

/-- Bytes in memory. -/
def Row (w : World) (g : Nat) (ys : List Nat) : Prop := ∀ j (h : j < ys.length), w.cell? ⟨g, j, none⟩ = some (.int .u8 (ys[j] : Nat))

theorem or_low (s A c : Nat) (hs : s ≤ 64) (hA : A < 2 ^ s) (hc : c * 2 ^ s < 18446744073709551616) :
    bits .or .u64 (A : Int) (IntKind.u64.wrap (IntKind.u64.wrap (c : Int) * 2 ^ s)) = ((A + c * 2 ^ s : Nat) : Int) := by
  have hp : 1 ≤ 2 ^ s := Nat.one_le_two_pow
  have hA64 : A < 18446744073709551616 := Nat.lt_of_lt_of_le hA (Nat.pow_le_pow_right (by decide) hs : 2 ^ s ≤ 2 ^ 64)
  have hc' : c < 18446744073709551616 := Nat.lt_of_le_of_lt (Nat.le_mul_of_pos_right c (by omega)) hc
  have e1 : IntKind.u64.wrap (c : Int) = (c : Int) := u64_wrap_id _ (by omega) (by omega)
  have e2 : ((c : Int) * 2 ^ s) = ((c * 2 ^ s : Nat) : Int) := by simp
  rw [e1, e2, u64_wrap_id _ (by omega) (by omega)]
  have hp2 : (2 : Int) ^ s = ((2 ^ s : Nat) : Int) := by simp
  rw [bits_join_low .u64 64 (by decide) wraps_u64 s (A : Int) ((c * 2 ^ s : Nat) : Int) (by omega) (by rw [hp2]; omega) (show (A : Int) < 18446744073709551616 by omega) (by omega) (by rw [hp2]; exact_mod_cast Nat.mul_mod_left c (2 ^ s)) (show ((c * 2 ^ s : Nat) : Int) < 18446744073709551616 by omega)]
  omega

theorem or_low' (s A c : Nat) (hs : s ≤ 64) (hA : A < 2 ^ s) (hc : c * 2 ^ s < 18446744073709551616) :
    bits .or .u64 (A : Int) (IntKind.u64.wrap ((c : Int) * 2 ^ s)) = ((A + c * 2 ^ s : Nat) : Int) := by
  have h := or_low s A c hs hA hc
  have hp : 1 ≤ 2 ^ s := Nat.one_le_two_pow
  have hc' : c < 18446744073709551616 := Nat.lt_of_le_of_lt (Nat.le_mul_of_pos_right c (by omega)) hc
  rwa [u64_wrap_id (c : Int) (by omega) (by omega)] at h

theorem or_step (s A c : Nat) (hs : s ≤ 64) (hA : A < 2 ^ s) (hc256 : c < 256) (hc : c % 128 * 2 ^ s < 18446744073709551616) :
    bits .or .u64 (A : Int) (IntKind.u64.wrap (IntKind.u64.wrap (bits .and .u8 (c : Int) 127) * 2 ^ s)) = ((A + c % 128 * 2 ^ s : Nat) : Int) := by
  rw [u8_and127 _ (by omega) (by omega), show (c : Int) % 128 = ((c % 128 : Nat) : Int) by omega]
  exact or_low s A (c % 128) hs hA hc

theorem drop_head {ys : List Nat} {i : Nat} {c : Nat} {r : List Nat} (h : ys.drop i = c :: r) : ∃ hi : i < ys.length, ys[i] = c ∧ ys.drop (i + 1) = r := by
  have hi : i < ys.length := by
    rcases Nat.lt_or_ge i ys.length with h1 | h1
    · exact h1
    · rw [List.drop_of_length_le h1] at h; cases h
  rw [List.drop_eq_getElem_cons hi] at h
  injection h with h1 h2
  exact ⟨hi, h1, h2⟩

set_option maxHeartbeats 800000 in
set_option maxRecDepth 100000 in
theorem decode_any (g cap at0 x : Nat) (ys rest : List Nat) (w : World) (hx : x < 18446744073709551616) (hr : Row w g ys) (hl : ys.length ≤ 4194304) (hd : ys.drop at0 = encF 9 x ++ rest) :
    Calls Try.prog 16 #[.slice (some ⟨g, 0, none⟩) ys.length cap, .int .i64 at0] w fun e w' => e = .returned (.tuple #[.int .u64 x, .int .i64 (at0 + (encF 9 x).length : Nat), .bool true]) ∧ w' = w := by
  go_enter Try.func16, Try.ntmps16
  go_wp2
  go_loop [7, 8, 9] (fun va vs vk => ∃ k f A y : Nat, k + f = 9 ∧ va = .int .u64 A ∧ vs = .int .u64 (7 * k : Nat) ∧ vk = .int .i64 k ∧ A < 2 ^ (7 * k) ∧ A + y * 2 ^ (7 * k) = x ∧ (0 < k → 0 < y) ∧ y < 128 ^ (f + 1) ∧ ys.drop (at0 + k) = encF f y ++ rest ∧ (encF 9 x).length = k + (encF f y).length) (fun _ _ vk => 10 - (intOf vk).toNat)
  case atStart => exact ⟨0, 9, 0, x, rfl, rfl, rfl, rfl, by simp, by simp, fun h => by omega, Nat.lt_of_lt_of_le hx (by decide), by simpa using hd, by simp⟩
  case round =>
    obtain ⟨k, f, A, y, hkf, rfl, rfl, rfl, hA, hsum, hpos, hy, hdrop, hlen⟩ := hrel
    have hk64 : 7 * k ≤ 64 := by omega
    have hpow : 1 ≤ 2 ^ (7 * k) := Nat.one_le_two_pow
    by_cases h128 : y < 128
    · rw [encF_small h128] at hdrop hlen
      obtain ⟨hin, hc1, hdrop'⟩ := drop_head hdrop
      have hcell := hr (at0 + k) hin
      rw [hc1] at hcell
      have hlim : y * 2 ^ (7 * k) < 18446744073709551616 := by omega
      have hor := or_low' (7 * k) A y hk64 hA hlim
      rw [hsum] at hor
      have hlen1 : (encF 9 x).length = k + 1 := by simpa using hlen
      have Hl : Hid ((encF 9 x).length = k + 1) := hlen1
      clear hlen1
      clear hdrop hlen hc1 hd hdrop' hsum
      have t9 : k = 9 → y ≤ 1 := by
        rintro rfl
        have e : 2 ^ (7 * 9) = 9223372036854775808 := by decide
        rw [e] at hlim
        omega
      have hy256 : y < 256 := by omega
      have fin : Ending.returned (.tuple #[.int .u64 (bits .or .u64 (A : Int) (IntKind.u64.wrap ((y : Int) * 2 ^ (7 * k)))), .int .i64 ((at0 : Int) + (k : Int) + 1), .bool true]) = .returned (.tuple #[.int .u64 x, .int .i64 ((at0 : Int) + ((encF 9 x).length : Int)), .bool true]) := by
        rw [hor, Hl.out, show (at0 : Int) + ((k + 1 : Nat) : Int) = (at0 : Int) + k + 1 by omega]
      have Fin := fin
      clear hor fin
      by_cases hk0 : 0 < k
      · have hyp := hpos hk0
        by_cases hk9 : k = 9
        · have hy1 := t9 hk9
          have b9 : ((k : Int) == 9) = true := beq_iff_eq.2 (by omega)
          clear t9 hpos hk9
          go_wp2
          go_ret3
          exact ⟨Fin, rfl⟩
        · have b9 : ((k : Int) == 9) = false := beq_eq_false_iff_ne.2 (by omega)
          clear t9 hpos hk9
          go_wp2
          go_ret3
          exact ⟨Fin, rfl⟩
      · have b9 : ((k : Int) == 9) = false := beq_eq_false_iff_ne.2 (by omega)
        clear t9 hpos
        go_wp2
        go_ret3
        exact ⟨Fin, rfl⟩
    · have hlim : y * 2 ^ (7 * k) < 18446744073709551616 := by omega
      obtain ⟨f, rfl⟩ : ∃ f', f = f' + 1 := by
        cases f with
        | zero => simp at hy; omega
        | succ f => exact ⟨f, rfl⟩
      rw [encF_big h128] at hdrop hlen
      obtain ⟨hin, hc1, hdrop'⟩ := drop_head hdrop
      have hcell := hr (at0 + k) hin
      rw [hc1] at hcell
      have hmod : (y % 128 + 128) % 128 = y % 128 := by omega
      have hlim2 : (y % 128 + 128) % 128 * 2 ^ (7 * k) < 18446744073709551616 := by
        rw [hmod]
        exact Nat.lt_of_le_of_lt (Nat.mul_le_mul_right _ (Nat.mod_le _ _)) hlim
      have hor := or_step (7 * k) A (y % 128 + 128) hk64 hA (by omega) hlim2
      rw [hmod] at hor
      have hq : 2 ^ (7 * (k + 1)) = 128 * 2 ^ (7 * k) := by rw [show 7 * (k + 1) = 7 + 7 * k by omega, Nat.pow_add]
      have hstep : A + y % 128 * 2 ^ (7 * k) + y / 128 * 2 ^ (7 * (k + 1)) = x := by
        rw [hq, ← hsum, Nat.add_assoc, ← Nat.mul_assoc, ← Nat.add_mul]
        congr 2
        omega
      have hA' : A + y % 128 * 2 ^ (7 * k) < 2 ^ (7 * (k + 1)) := by
        rw [hq]
        have : (y % 128 + 1) * 2 ^ (7 * k) ≤ 128 * 2 ^ (7 * k) := Nat.mul_le_mul_right _ (by omega)
        rw [Nat.add_mul] at this
        omega
      have Hs : Hid (A + y % 128 * 2 ^ (7 * k) + y / 128 * 2 ^ (7 * (k + 1)) = x ∧ A + y % 128 * 2 ^ (7 * k) < 2 ^ (7 * (k + 1)) ∧ ys.drop (at0 + (k + 1)) = encF f (y / 128) ++ rest ∧ (encF 9 x).length = k + 1 + (encF f (y / 128)).length ∧ y / 128 < 128 ^ (f + 1)
          ∧ bits .or .u64 (A : Int) (IntKind.u64.wrap (IntKind.u64.wrap (bits .and .u8 ((y % 128 + 128 : Nat) : Int) 127) * 2 ^ (7 * k))) = ((A + y % 128 * 2 ^ (7 * k) : Nat) : Int)) := by
        refine ⟨hstep, hA', hdrop', ?_, ?_, hor⟩
        · rw [List.length_cons] at hlen; omega
        · rw [Nat.pow_succ] at hy
          exact Nat.div_lt_of_lt_mul (by rw [Nat.mul_comm]; exact hy)
      clear hdrop hlen hc1 hd hdrop' hsum hor hstep hA' hmod hq hlim2
      obtain ⟨c, hc⟩ : ∃ c, c = y % 128 + 128 := ⟨_, rfl⟩
      rw [← hc] at hcell Hs
      have hc1 : 128 ≤ c := by omega
      have hc2 : c < 256 := by omega
      clear hc
      go_wp2
      go_round
      case rel => exact ⟨k + 1, f, A + y % 128 * 2 ^ (7 * k), y / 128, by omega, by rw [Hs.out.2.2.2.2.2], by go_num, by go_num, Hs.out.2.1, Hs.out.1, fun _ => by omega, Hs.out.2.2.2.2.1, Hs.out.2.2.1, Hs.out.2.2.2.1⟩
      case measure => simp [intOf]; omega

end Go.Proofs.Qxb6604541a

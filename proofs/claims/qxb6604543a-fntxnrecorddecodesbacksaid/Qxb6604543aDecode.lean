/-
  lawUvarint (29), lawVarLen (30): reading a varint back, its width; seat b6604543a.
-/
import Derived.Test.Qxb6604543aRecord
namespace Go.Proofs.Qxb6604543a
open Go.RowKit Go.WideShapes

theorem or_low (s A c : Nat) (hs : s ≤ 64) (hA : A < 2 ^ s) (hc : c * 2 ^ s < 18446744073709551616) :
    bits .or .u64 (A : Int) (IntKind.u64.wrap (IntKind.u64.wrap (c : Int) * 2 ^ s)) = ((A + c * 2 ^ s : Nat) : Int) := by
  have hp : 1 ≤ 2 ^ s := Nat.one_le_two_pow
  have hA64 : A < 18446744073709551616 := Nat.lt_of_lt_of_le hA (Nat.pow_le_pow_right (by decide) hs : 2 ^ s ≤ 2 ^ 64)
  have hc' : c < 18446744073709551616 := Nat.lt_of_le_of_lt (Nat.le_mul_of_pos_right c (by omega)) hc
  have e1 : IntKind.u64.wrap (c : Int) = (c : Int) := u64_wrap_id _ (by omega) (by omega)
  have e2 : ((c : Int) * 2 ^ s) = ((c * 2 ^ s : Nat) : Int) := by simp
  rw [e1, e2, u64_wrap_id _ (by omega) (by omega)]
  have hp2 : (2 : Int) ^ s = ((2 ^ s : Nat) : Int) := by simp
  rw [bits_join_low .u64 64 (by decide) wraps_u64 s (A : Int) ((c * 2 ^ s : Nat) : Int) (by omega) (by rw [hp2]; omega) (show (A : Int) < 18446744073709551616 by omega) (by omega) (by rw [hp2]; exact_mod_cast Nat.mul_mod_left c (2 ^ s)) (show ((c * 2 ^ s : Nat) : Int) < 18446744073709551616 by omega)]
  omega

theorem or_low' (s A c : Nat) (hs : s ≤ 64) (hA : A < 2 ^ s) (hc : c * 2 ^ s < 18446744073709551616) :
    bits .or .u64 (A : Int) (IntKind.u64.wrap ((c : Int) * 2 ^ s)) = ((A + c * 2 ^ s : Nat) : Int) := by
  have h := or_low s A c hs hA hc
  have hp : 1 ≤ 2 ^ s := Nat.one_le_two_pow
  have hc' : c < 18446744073709551616 := Nat.lt_of_le_of_lt (Nat.le_mul_of_pos_right c (by omega)) hc
  rwa [u64_wrap_id (c : Int) (by omega) (by omega)] at h

theorem or_step (s A c : Nat) (hs : s ≤ 64) (hA : A < 2 ^ s) (hc256 : c < 256) (hc : c % 128 * 2 ^ s < 18446744073709551616) :
    bits .or .u64 (A : Int) (IntKind.u64.wrap (IntKind.u64.wrap (bits .and .u8 (c : Int) 127) * 2 ^ s)) = ((A + c % 128 * 2 ^ s : Nat) : Int) := by
  rw [u8_and127 _ (by omega) (by omega), show (c : Int) % 128 = ((c % 128 : Nat) : Int) by omega]
  exact or_low s A (c % 128) hs hA hc

theorem drop_head {ys : List Nat} {i : Nat} {c : Nat} {r : List Nat} (h : ys.drop i = c :: r) : ∃ hi : i < ys.length, ys[i] = c ∧ ys.drop (i + 1) = r := by
  have hi : i < ys.length := by
    rcases Nat.lt_or_ge i ys.length with h1 | h1
    · exact h1
    · rw [List.drop_of_length_le h1] at h; cases h
  rw [List.drop_eq_getElem_cons hi] at h
  injection h with h1 h2
  exact ⟨hi, h1, h2⟩

set_option maxHeartbeats 800000 in
set_option maxRecDepth 100000 in
theorem decode_any (g o cap x : Nat) (ys rest : List Nat) (w : World) (hx : x < 18446744073709551616) (hr : Row w g o ys) (_hl : ys.length ≤ 4194304) (hd : ys = encF 9 x ++ rest) :
    Calls Try.prog 29 #[.slice (some ⟨g, o, none⟩) ys.length cap] w fun e w' => e = .returned (.tuple #[.int .u64 x, .int .i64 ((encF 9 x).length : Nat), .bool true]) ∧ w' = w := by
  go_enter Try.func29, Try.ntmps29
  go_wp2
  go_loop [5, 6, 7] (fun va vs vk => ∃ k f A y : Nat, k + f = 9 ∧ va = .int .u64 A ∧ vs = .int .u64 (7 * k : Nat) ∧ vk = .int .i64 k ∧ A < 2 ^ (7 * k) ∧ A + y * 2 ^ (7 * k) = x ∧ y < 128 ^ (f + 1) ∧ ys.drop k = encF f y ++ rest ∧ (encF 9 x).length = k + (encF f y).length) (fun _ _ vk => 10 - (intOf vk).toNat)
  case atStart => exact ⟨0, 9, 0, x, rfl, rfl, rfl, rfl, by simp, by simp, Nat.lt_of_lt_of_le hx (by decide), by simpa using hd, by simp⟩
  case round =>
    obtain ⟨k, f, A, y, hkf, rfl, rfl, rfl, hA, hsum, hy, hdrop, hlen⟩ := hrel
    have hk64 : 7 * k ≤ 64 := by omega
    have hpow : 1 ≤ 2 ^ (7 * k) := Nat.one_le_two_pow
    have hlim : y * 2 ^ (7 * k) < 18446744073709551616 := by omega
    have hk10 : (k : Int) < 10 := by omega
    by_cases h128 : y < 128
    · rw [encF_small h128] at hdrop hlen
      obtain ⟨hin, hc1, hdrop'⟩ := drop_head hdrop
      have hcell := hr k hin
      rw [hc1] at hcell
      have hor := or_step (7 * k) A y hk64 hA (by omega) (by rw [Nat.mod_eq_of_lt h128]; exact hlim)
      rw [Nat.mod_eq_of_lt h128, hsum] at hor
      have hlen1 : (encF 9 x).length = k + 1 := by simpa using hlen
      have hi1 : (k : Int) < (ys.length : Int) := by omega
      have Fin : Ending.returned (.tuple #[.int .u64 (bits .or .u64 (A : Int) (IntKind.u64.wrap (IntKind.u64.wrap (bits .and .u8 (y : Int) 127) * 2 ^ (7 * k)))), .int .i64 ((k : Int) + 1), .bool true]) = .returned (.tuple #[.int .u64 x, .int .i64 ((encF 9 x).length : Int), .bool true]) := by
        rw [hor, hlen1]; rfl
      clear hdrop hlen hc1 hd hdrop' hsum hor hlen1
      go_wp2
      go_ret3
      exact ⟨Fin, rfl⟩
    · obtain ⟨f, rfl⟩ : ∃ f', f = f' + 1 := by
        cases f with
        | zero => simp at hy; omega
        | succ f => exact ⟨f, rfl⟩
      rw [encF_big h128] at hdrop hlen
      obtain ⟨hin, hc1, hdrop'⟩ := drop_head hdrop
      have hcell := hr k hin
      rw [hc1] at hcell
      have hi1 : (k : Int) < (ys.length : Int) := by omega
      have hmod : (y % 128 + 128) % 128 = y % 128 := by omega
      have hlim2 : (y % 128 + 128) % 128 * 2 ^ (7 * k) < 18446744073709551616 := by
        rw [hmod]
        exact Nat.lt_of_le_of_lt (Nat.mul_le_mul_right _ (Nat.mod_le _ _)) hlim
      have hor := or_step (7 * k) A (y % 128 + 128) hk64 hA (by omega) hlim2
      rw [hmod] at hor
      have hq : 2 ^ (7 * (k + 1)) = 128 * 2 ^ (7 * k) := by rw [show 7 * (k + 1) = 7 + 7 * k by omega, Nat.pow_add]
      have hstep : A + y % 128 * 2 ^ (7 * k) + y / 128 * 2 ^ (7 * (k + 1)) = x := by
        rw [hq, ← hsum, Nat.add_assoc, ← Nat.mul_assoc, ← Nat.add_mul]
        congr 2
        omega
      have hA' : A + y % 128 * 2 ^ (7 * k) < 2 ^ (7 * (k + 1)) := by
        rw [hq]
        have : (y % 128 + 1) * 2 ^ (7 * k) ≤ 128 * 2 ^ (7 * k) := Nat.mul_le_mul_right _ (by omega)
        rw [Nat.add_mul] at this
        omega
      have Hs : Hid (A + y % 128 * 2 ^ (7 * k) + y / 128 * 2 ^ (7 * (k + 1)) = x ∧ A + y % 128 * 2 ^ (7 * k) < 2 ^ (7 * (k + 1)) ∧ ys.drop (k + 1) = encF f (y / 128) ++ rest ∧ (encF 9 x).length = k + 1 + (encF f (y / 128)).length ∧ y / 128 < 128 ^ (f + 1)
          ∧ bits .or .u64 (A : Int) (IntKind.u64.wrap (IntKind.u64.wrap (bits .and .u8 ((y % 128 + 128 : Nat) : Int) 127) * 2 ^ (7 * k))) = ((A + y % 128 * 2 ^ (7 * k) : Nat) : Int)) := by
        refine ⟨hstep, hA', hdrop', ?_, ?_, hor⟩
        · rw [List.length_cons] at hlen; omega
        · rw [Nat.pow_succ] at hy
          exact Nat.div_lt_of_lt_mul (by rw [Nat.mul_comm]; exact hy)
      clear hdrop hlen hc1 hd hdrop' hsum hor hstep hA' hmod hq hlim2
      obtain ⟨c, hc⟩ : ∃ c, c = y % 128 + 128 := ⟨_, rfl⟩
      rw [← hc] at hcell Hs
      have hc1 : 128 ≤ c := by omega
      have hc2 : c < 256 := by omega
      clear hc
      go_wp2
      go_round
      case rel => exact ⟨k + 1, f, A + y % 128 * 2 ^ (7 * k), y / 128, by omega, by rw [Hs.out.2.2.2.2.2], by go_num, by go_num, Hs.out.2.1, Hs.out.1, Hs.out.2.2.2.2.1, Hs.out.2.2.1, Hs.out.2.2.2.1⟩
      case measure => simp [intOf]; omega

theorem encF_len1 {x : Nat} (h : x < 128) : (encF 9 x).length = 1 := by rw [encF_small h]; rfl
theorem encF_len2 {x : Nat} (h1 : ¬ x < 128) (h2 : x < 16384) : (encF 9 x).length = 2 := by rw [encF_big h1, List.length_cons, encF_small (by omega)]; rfl
theorem encF_len3 {x : Nat} (h1 : ¬ x < 16384) (h2 : x < 2097152) : (encF 9 x).length = 3 := by
  rw [encF_big (by omega), List.length_cons, encF_big (by omega), List.length_cons, encF_small (by omega)]; rfl

theorem varLen_any (n : Nat) (hn : n ≤ 1048576) (w : World) : Calls Try.prog 30 #[.int .i64 n] w fun e w' => e = .returned (.int .i64 ((encF 9 n).length : Nat)) ∧ w' = w := by
  by_cases h1 : n < 128
  · rw [encF_len1 h1]
    have t1 : (n : Int) < 128 := by omega
    go_enter Try.func30, Try.ntmps30
    go_wp2
    go_ret
    exact ⟨rfl, rfl⟩
  · by_cases h2 : n < 16384
    · rw [encF_len2 h1 h2]
      have t1 : ¬ (n : Int) < 128 := by omega
      have t2 : (n : Int) < 16384 := by omega
      go_enter Try.func30, Try.ntmps30
      go_wp2
      go_ret
      exact ⟨rfl, rfl⟩
    · rw [encF_len3 h2 (by omega)]
      have t1 : ¬ (n : Int) < 128 := by omega
      have t2 : ¬ (n : Int) < 16384 := by omega
      have t3 : (n : Int) < 2097152 := by omega
      go_enter Try.func30, Try.ntmps30
      go_wp2
      go_ret
      exact ⟨rfl, rfl⟩

end Go.Proofs.Qxb6604543a

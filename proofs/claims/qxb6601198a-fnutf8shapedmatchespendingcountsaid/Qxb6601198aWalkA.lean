import Derived.Test.Qxb6601198aProg
import Derived.Test.Qxb6601198aPlain
import Derived.WalkSpells
import Derived.WalkLawsBesides
namespace Go.Proofs.Qxb6601198a
open Go.RowKit

theorem ret_bool {a b : Bool} (h : a = b) : Ending.returned (.bool a) = .returned (.bool b) := by rw [h]

set_option maxHeartbeats 1000000 in
set_option maxRecDepth 100000 in
theorem pending14 (s : ByteArray) (w : World) (hs : s.size ≤ 1048576) :
    Calls Try.prog 14 #[.string s] w fun e w' => e = .returned (.bool (rest s 0 0)) ∧ w' = w := by
  go_enter Try.func14, Try.ntmps14
  go_wp2
  go_loop [3, 4, 5] (fun p i _ => ∃ (k m : Nat), k ≤ s.size ∧ m ≤ 3 ∧ i = .int .i64 k ∧ p = .int .i64 m ∧ rest s m k = rest s 0 0) (fun _ i _ => s.size - (intOf i).toNat)
  case atStart => exact ⟨0, 0, Nat.zero_le _, Nat.zero_le _, rfl, rfl, rfl⟩
  case round =>
    obtain ⟨k, m, hk, hm, rfl, rfl, hr⟩ := hrel
    have HR : Hid (rest s m k = rest s 0 0) := hr
    clear hr
    by_cases hlt : k < s.size
    · obtain ⟨b, hb⟩ : ∃ b, s[k].toNat = b := ⟨_, rfl⟩
      have hb6 : b < 256 := by rw [← hb]; exact s[k].toNat_lt
      by_cases hm0 : m = 0
      · subst hm0
        rcases (show b < 128 ∨ (128 ≤ b ∧ b < 192) ∨ (192 ≤ b ∧ b < 224) ∨ (224 ≤ b ∧ b < 240) ∨ (240 ≤ b ∧ b < 248) ∨ 248 ≤ b from by omega) with h | ⟨h, h'⟩ | ⟨h, h'⟩ | ⟨h, h'⟩ | ⟨h, h'⟩ | h
        · go_wp2
          go_round
          case rel => exact ⟨k + 1, 0, by omega, by omega, by go_num, by first | rfl | go_num, by rw [← HR.out]; exact (rest_0 s k hlt (by omega)).symm⟩
          case measure => simp [intOf]; omega
        · go_wp2
          go_ret
          exact ⟨ret_bool (by rw [← HR.out, rest_no s k hlt (by omega) (by omega)]), rfl⟩
        · go_wp2
          go_round
          case rel => exact ⟨k + 1, 1, by omega, by omega, by go_num, by first | rfl | go_num, by rw [← HR.out]; exact (rest_1 s k hlt (by omega) (by omega)).symm⟩
          case measure => simp [intOf]; omega
        · go_wp2
          go_round
          case rel => exact ⟨k + 1, 2, by omega, by omega, by go_num, by first | rfl | go_num, by rw [← HR.out]; exact (rest_2 s k hlt (by omega) (by omega)).symm⟩
          case measure => simp [intOf]; omega
        · go_wp2
          go_round
          case rel => exact ⟨k + 1, 3, by omega, by omega, by go_num, by first | rfl | go_num, by rw [← HR.out]; exact (rest_3 s k hlt (by omega) (by omega)).symm⟩
          case measure => simp [intOf]; omega
        · go_wp2
          go_ret
          exact ⟨ret_bool (by rw [← HR.out, rest_no s k hlt (by omega) (by omega)]), rfl⟩
      · obtain ⟨p, rfl⟩ : ∃ p, m = p + 1 := ⟨m - 1, by omega⟩
        rcases (show b < 128 ∨ (128 ≤ b ∧ b < 192) ∨ 192 ≤ b from by omega) with h | ⟨h, h'⟩ | h
        · go_wp2
          go_ret
          exact ⟨ret_bool (by rw [← HR.out, rest_bad s p k hlt (by omega)]), rfl⟩
        · go_wp2
          go_round
          case rel => exact ⟨k + 1, p, by omega, by omega, by go_num, by go_num, by rw [← HR.out]; exact (rest_cont s p k hlt (by omega) (by omega)).symm⟩
          case measure => simp [intOf]; omega
        · go_wp2
          go_ret
          exact ⟨ret_bool (by rw [← HR.out, rest_bad s p k hlt (by omega)]), rfl⟩
    · have hkn : k = s.size := by omega
      go_wp2
      go_ret
      refine ⟨ret_bool ?_, rfl⟩
      rw [← HR.out, rest_end s m k (by omega), Bool.eq_iff_iff]
      simp

end Go.Proofs.Qxb6601198a

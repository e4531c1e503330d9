import Derived.Test.Qxb6601198aWalkA
namespace Go.Proofs.Qxb6601198a
open Go.RowKit

theorem and_all : ∀ b : Fin 256, (b.val &&& 224 == 192) = decide (192 ≤ b.val ∧ b.val < 224) ∧ (b.val &&& 240 == 224) = decide (224 ≤ b.val ∧ b.val < 240) ∧ (b.val &&& 248 == 240) = decide (240 ≤ b.val ∧ b.val < 248) ∧ (b.val &&& 192 == 128) = decide (128 ≤ b.val ∧ b.val < 192) := by decide +kernel

theorem nat_beq (a b : Nat) : (((a : Nat) : Int) == ((b : Nat) : Int)) = (a == b) := by
  rw [Bool.eq_iff_iff]; simp; omega

theorem and224 (b : Nat) (h : b < 256) : (bits .and .u8 (b : Int) 224 == 192) = decide (192 ≤ b ∧ b < 224) := by
  rw [show (224 : Int) = ((224 : Nat) : Int) from rfl, u8_and_nat b 224 h (by decide), show (192 : Int) = ((192 : Nat) : Int) from rfl, nat_beq]
  exact (and_all ⟨b, h⟩).1
theorem and240 (b : Nat) (h : b < 256) : (bits .and .u8 (b : Int) 240 == 224) = decide (224 ≤ b ∧ b < 240) := by
  rw [show (240 : Int) = ((240 : Nat) : Int) from rfl, u8_and_nat b 240 h (by decide), show (224 : Int) = ((224 : Nat) : Int) from rfl, nat_beq]
  exact (and_all ⟨b, h⟩).2.1
theorem and248 (b : Nat) (h : b < 256) : (bits .and .u8 (b : Int) 248 == 240) = decide (240 ≤ b ∧ b < 248) := by
  rw [show (248 : Int) = ((248 : Nat) : Int) from rfl, u8_and_nat b 248 h (by decide), show (240 : Int) = ((240 : Nat) : Int) from rfl, nat_beq]
  exact (and_all ⟨b, h⟩).2.2.1
theorem and192 (b : Nat) (h : b < 256) : (bits .and .u8 (b : Int) 192 == 128) = decide (128 ≤ b ∧ b < 192) := by
  rw [show (192 : Int) = ((192 : Nat) : Int) from rfl, u8_and_nat b 192 h (by decide), show (128 : Int) = ((128 : Nat) : Int) from rfl, nat_beq]
  exact (and_all ⟨b, h⟩).2.2.2

theorem cont24 (b : Nat) (h : b < 256) (w : World) :
    Calls Try.prog 24 #[.int .u8 (b : Int)] w fun e w' => e = .returned (.bool (decide (128 ≤ b ∧ b < 192))) ∧ w' = w := by
  have h1 := and192 b h
  rw [← h1]
  clear h1
  go_enter Try.func24, Try.ntmps24
  go_wp2
  go_ret
  exact ⟨rfl, rfl⟩

set_option maxHeartbeats 1000000 in
set_option maxRecDepth 100000 in
theorem shaped21 (s : ByteArray) (w : World) (hs : s.size ≤ 1048576) :
    Calls Try.prog 21 #[.string s] w fun e w' => e = .returned (.bool (rest s 0 0)) ∧ w' = w := by
  go_enter Try.func21, Try.ntmps21
  go_wp2
  go_loop [3, 4, 5, 6] (fun i _ _ _ => ∃ k : Nat, k ≤ s.size ∧ i = .int .i64 k ∧ rest s 0 k = rest s 0 0) (fun i _ _ _ => s.size - (intOf i).toNat)
  case atStart => exact ⟨0, Nat.zero_le _, rfl, rfl⟩
  case round =>
    obtain ⟨k, hk, rfl, hr⟩ := hrel
    have HR : Hid (rest s 0 k = rest s 0 0) := hr
    clear hr
    by_cases hlt : k < s.size
    · obtain ⟨b, hb⟩ : ∃ b, s[k].toNat = b := ⟨_, rfl⟩
      have hb6 : b < 256 := by rw [← hb]; exact s[k].toNat_lt
      rcases (show b < 128 ∨ (128 ≤ b ∧ b < 192) ∨ (192 ≤ b ∧ b < 224) ∨ (224 ≤ b ∧ b < 240) ∨ (240 ≤ b ∧ b < 248) ∨ 248 ≤ b from by omega) with h | ⟨h, h'⟩ | ⟨h, h'⟩ | ⟨h, h'⟩ | ⟨h, h'⟩ | h
      · go_wp2
        have HR1 : Hid (rest s 0 (k + 1) = rest s 0 0) := by rw [← HR.out]; exact (rest_0 s k hlt (by omega)).symm
        go_loop [6] (fun jv => ∃ j : Nat, k + 1 ≤ j ∧ j ≤ k + 1 ∧ jv = .int .i64 j ∧ rest s (k + 1 - j) j = rest s 0 0) (fun jv => k + 1 - (intOf jv).toNat)
        case atStart => exact ⟨k + 1, by omega, by omega, by go_num, by rw [show k + 1 - (k + 1) = 0 from by omega]; exact HR1.out⟩
        case round =>
          obtain ⟨j, hj1, hj2, rfl, hrj⟩ := hrel
          have HJ : Hid (rest s (k + 1 - j) j = rest s 0 0) := hrj
          clear hrj
          by_cases hj : j < k + 1
          · omega
          · have hje : j = k + 1 := by omega
            subst hje
            go_wp2
            go_round
            case rel => exact ⟨k + 1, by omega, by go_num, by rw [← HJ.out, Nat.sub_self]⟩
            case measure => simp [intOf]; omega
      · have k1 : (bits .and .u8 (b : Int) 224 == 192) = false := by rw [and224 b hb6]; simp; omega
        have k2 : (bits .and .u8 (b : Int) 240 == 224) = false := by rw [and240 b hb6]; simp; omega
        have k3 : (bits .and .u8 (b : Int) 248 == 240) = false := by rw [and248 b hb6]; simp; omega
        go_wp2
        go_ret
        exact ⟨ret_bool (by rw [← HR.out, rest_no s k hlt (by omega) (by omega)]), rfl⟩
      · have k1 : (bits .and .u8 (b : Int) 224 == 192) = true := by rw [and224 b hb6]; simp; omega
        go_wp2
        · go_ret
          refine ⟨ret_bool ?_, rfl⟩
          rw [← HR.out, rest_1 s k hlt (by omega) (by omega), rest_short s 1 (k + 1) (by omega) (by omega)]
        have HR1 : Hid (rest s 1 (k + 1) = rest s 0 0) := by rw [← HR.out]; exact (rest_1 s k hlt (by omega) (by omega)).symm
        go_loop [6] (fun jv => ∃ j : Nat, k + 1 ≤ j ∧ j ≤ k + 2 ∧ jv = .int .i64 j ∧ rest s (k + 2 - j) j = rest s 0 0) (fun jv => k + 2 - (intOf jv).toNat)
        case atStart => exact ⟨k + 1, by omega, by omega, by go_num, by rw [show k + 2 - (k + 1) = 1 from by omega]; exact HR1.out⟩
        case round =>
          obtain ⟨j, hj1, hj2, rfl, hrj⟩ := hrel
          have HJ : Hid (rest s (k + 2 - j) j = rest s 0 0) := hrj
          clear hrj
          by_cases hj : j < k + 2
          · have hjs : j < s.size := by omega
            obtain ⟨c, hc⟩ : ∃ c, s[j].toNat = c := ⟨_, rfl⟩
            have hc6 : c < 256 := by rw [← hc]; exact s[j].toNat_lt
            by_cases hcc : 128 ≤ c ∧ c < 192
            · have hcon := cont24 c hc6 w
              rw [decide_eq_true hcc] at hcon
              have HC : Hid (128 ≤ c ∧ c < 192) := hcc
              clear hcc
              go_wp2_with (go_at_call 24; refine hcon.mono ?_; rintro e w' ⟨rfl, hw⟩; obtain rfl := hw.symm)
              go_round
              case rel =>
                refine ⟨j + 1, by omega, by omega, by go_num, ?_⟩
                have := HC.out
                rw [← HJ.out, show k + 2 - j = k + 2 - (j + 1) + 1 from by omega]
                exact (rest_cont s _ j hjs (by omega) (by omega)).symm
              case measure => simp [intOf]; omega
            · have hcon := cont24 c hc6 w
              rw [decide_eq_false hcc] at hcon
              have HC : Hid (¬ (128 ≤ c ∧ c < 192)) := hcc
              clear hcc
              go_wp2_with (go_at_call 24; refine hcon.mono ?_; rintro e w' ⟨rfl, hw⟩; obtain rfl := hw.symm)
              go_ret
              refine ⟨ret_bool ?_, rfl⟩
              have := HC.out
              rw [← HJ.out, show k + 2 - j = k + 2 - (j + 1) + 1 from by omega, rest_bad s _ j hjs (by omega)]
          · have hje : j = k + 2 := by omega
            subst hje
            go_wp2
            go_round
            case rel => exact ⟨k + 2, by omega, by go_num, by rw [← HJ.out, Nat.sub_self]⟩
            case measure => simp [intOf]; omega
      · have k1 : (bits .and .u8 (b : Int) 224 == 192) = false := by rw [and224 b hb6]; simp; omega
        have k2 : (bits .and .u8 (b : Int) 240 == 224) = true := by rw [and240 b hb6]; simp; omega
        go_wp2
        · go_ret
          refine ⟨ret_bool ?_, rfl⟩
          rw [← HR.out, rest_2 s k hlt (by omega) (by omega), rest_short s 2 (k + 1) (by omega) (by omega)]
        have HR1 : Hid (rest s 2 (k + 1) = rest s 0 0) := by rw [← HR.out]; exact (rest_2 s k hlt (by omega) (by omega)).symm
        go_loop [6] (fun jv => ∃ j : Nat, k + 1 ≤ j ∧ j ≤ k + 3 ∧ jv = .int .i64 j ∧ rest s (k + 3 - j) j = rest s 0 0) (fun jv => k + 3 - (intOf jv).toNat)
        case atStart => exact ⟨k + 1, by omega, by omega, by go_num, by rw [show k + 3 - (k + 1) = 2 from by omega]; exact HR1.out⟩
        case round =>
          obtain ⟨j, hj1, hj2, rfl, hrj⟩ := hrel
          have HJ : Hid (rest s (k + 3 - j) j = rest s 0 0) := hrj
          clear hrj
          by_cases hj : j < k + 3
          · have hjs : j < s.size := by omega
            obtain ⟨c, hc⟩ : ∃ c, s[j].toNat = c := ⟨_, rfl⟩
            have hc6 : c < 256 := by rw [← hc]; exact s[j].toNat_lt
            by_cases hcc : 128 ≤ c ∧ c < 192
            · have hcon := cont24 c hc6 w
              rw [decide_eq_true hcc] at hcon
              have HC : Hid (128 ≤ c ∧ c < 192) := hcc
              clear hcc
              go_wp2_with (go_at_call 24; refine hcon.mono ?_; rintro e w' ⟨rfl, hw⟩; obtain rfl := hw.symm)
              go_round
              case rel =>
                refine ⟨j + 1, by omega, by omega, by go_num, ?_⟩
                have := HC.out
                rw [← HJ.out, show k + 3 - j = k + 3 - (j + 1) + 1 from by omega]
                exact (rest_cont s _ j hjs (by omega) (by omega)).symm
              case measure => simp [intOf]; omega
            · have hcon := cont24 c hc6 w
              rw [decide_eq_false hcc] at hcon
              have HC : Hid (¬ (128 ≤ c ∧ c < 192)) := hcc
              clear hcc
              go_wp2_with (go_at_call 24; refine hcon.mono ?_; rintro e w' ⟨rfl, hw⟩; obtain rfl := hw.symm)
              go_ret
              refine ⟨ret_bool ?_, rfl⟩
              have := HC.out
              rw [← HJ.out, show k + 3 - j = k + 3 - (j + 1) + 1 from by omega, rest_bad s _ j hjs (by omega)]
          · have hje : j = k + 3 := by omega
            subst hje
            go_wp2
            go_round
            case rel => exact ⟨k + 3, by omega, by go_num, by rw [← HJ.out, Nat.sub_self]⟩
            case measure => simp [intOf]; omega
      · have k1 : (bits .and .u8 (b : Int) 224 == 192) = false := by rw [and224 b hb6]; simp; omega
        have k2 : (bits .and .u8 (b : Int) 240 == 224) = false := by rw [and240 b hb6]; simp; omega
        have k3 : (bits .and .u8 (b : Int) 248 == 240) = true := by rw [and248 b hb6]; simp; omega
        go_wp2
        · go_ret
          refine ⟨ret_bool ?_, rfl⟩
          rw [← HR.out, rest_3 s k hlt (by omega) (by omega), rest_short s 3 (k + 1) (by omega) (by omega)]
        have HR1 : Hid (rest s 3 (k + 1) = rest s 0 0) := by rw [← HR.out]; exact (rest_3 s k hlt (by omega) (by omega)).symm
        go_loop [6] (fun jv => ∃ j : Nat, k + 1 ≤ j ∧ j ≤ k + 4 ∧ jv = .int .i64 j ∧ rest s (k + 4 - j) j = rest s 0 0) (fun jv => k + 4 - (intOf jv).toNat)
        case atStart => exact ⟨k + 1, by omega, by omega, by go_num, by rw [show k + 4 - (k + 1) = 3 from by omega]; exact HR1.out⟩
        case round =>
          obtain ⟨j, hj1, hj2, rfl, hrj⟩ := hrel
          have HJ : Hid (rest s (k + 4 - j) j = rest s 0 0) := hrj
          clear hrj
          by_cases hj : j < k + 4
          · have hjs : j < s.size := by omega
            obtain ⟨c, hc⟩ : ∃ c, s[j].toNat = c := ⟨_, rfl⟩
            have hc6 : c < 256 := by rw [← hc]; exact s[j].toNat_lt
            by_cases hcc : 128 ≤ c ∧ c < 192
            · have hcon := cont24 c hc6 w
              rw [decide_eq_true hcc] at hcon
              have HC : Hid (128 ≤ c ∧ c < 192) := hcc
              clear hcc
              go_wp2_with (go_at_call 24; refine hcon.mono ?_; rintro e w' ⟨rfl, hw⟩; obtain rfl := hw.symm)
              go_round
              case rel =>
                refine ⟨j + 1, by omega, by omega, by go_num, ?_⟩
                have := HC.out
                rw [← HJ.out, show k + 4 - j = k + 4 - (j + 1) + 1 from by omega]
                exact (rest_cont s _ j hjs (by omega) (by omega)).symm
              case measure => simp [intOf]; omega
            · have hcon := cont24 c hc6 w
              rw [decide_eq_false hcc] at hcon
              have HC : Hid (¬ (128 ≤ c ∧ c < 192)) := hcc
              clear hcc
              go_wp2_with (go_at_call 24; refine hcon.mono ?_; rintro e w' ⟨rfl, hw⟩; obtain rfl := hw.symm)
              go_ret
              refine ⟨ret_bool ?_, rfl⟩
              have := HC.out
              rw [← HJ.out, show k + 4 - j = k + 4 - (j + 1) + 1 from by omega, rest_bad s _ j hjs (by omega)]
          · have hje : j = k + 4 := by omega
            subst hje
            go_wp2
            go_round
            case rel => exact ⟨k + 4, by omega, by go_num, by rw [← HJ.out, Nat.sub_self]⟩
            case measure => simp [intOf]; omega
      · have k1 : (bits .and .u8 (b : Int) 224 == 192) = false := by rw [and224 b hb6]; simp; omega
        have k2 : (bits .and .u8 (b : Int) 240 == 224) = false := by rw [and240 b hb6]; simp; omega
        have k3 : (bits .and .u8 (b : Int) 248 == 240) = false := by rw [and248 b hb6]; simp; omega
        go_wp2
        go_ret
        exact ⟨ret_bool (by rw [← HR.out, rest_no s k hlt (by omega) (by omega)]), rfl⟩
    · go_wp2
      go_ret
      exact ⟨ret_bool (by rw [← HR.out, rest_end s 0 k (by omega)]; rfl), rfl⟩

end Go.Proofs.Qxb6601198a

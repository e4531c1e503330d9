import Derived.Test.Qxb6601198aDoorPlainC
namespace Go.Proofs.Qxb6601198aDoor
open Go.RowKit

/-- A call that answers some bool. -/
def SomeBool (e : Ending) : Prop := ∃ b : Bool, e = .returned (.bool b)

theorem bytes12 (s : ByteArray) (_hs : s.size ≤ 9223372036854775807) (w : World) :
    Calls Tryd.prog 12 #[.string s] w fun e w' => SomeBool e ∧ w' = w := by
  go_enter Tryd.func12, Tryd.ntmps12
  go_wp2
  all_goals (go_ret; exact ⟨⟨_, rfl⟩, rfl⟩)

set_option maxHeartbeats 2000000 in
set_option maxRecDepth 100000 in
theorem law4 (s : ByteArray) (w0 : s.size ≤ 9223372036854775807) (w : World) (hg : Gl w) :
    Calls Tryd.prog 4 #[.string s] w fun e w' => e = .returned (.bool true) ∧ Below w.heap.size w w' := by
  have h12 := bytes12 s w0 w
  by_cases h : s.size ≤ 1048576
  · go_enter Tryd.func4, Tryd.ntmps4
    go_wp2_with (go_at_call 12; refine h12.mono ?_; rintro e w' ⟨⟨z, rfl⟩, hw⟩; obtain rfl := hw.symm; cases z)
    · go_ret
      exact ⟨rfl, Below.refl _ _⟩
    · clear h12
      go_loop [3] (fun i => ∃ k : Nat, k ≤ s.size ∧ i = .int .i64 k ∧ Hid (∀ j (hj : j < s.size), j < k → s[j].toNat ≠ 95)) (fun i => s.size - (intOf i).toNat)
      case atStart => exact ⟨0, Nat.zero_le _, rfl, fun j _ h => absurd h (Nat.not_lt_zero _)⟩
      case round =>
        obtain ⟨k, hk, rfl, hh⟩ := hrel
        by_cases hlt : k < s.size
        · obtain ⟨c, hb⟩ : ∃ c, s[k].toNat = c := ⟨_, rfl⟩
          by_cases hc : c = 95
          · subst hc
            go_wp2
            go_ret
            exact ⟨rfl, Below.refl _ _⟩
          · have hcb : ((c : Int) == 95) = false := by simp; omega
            have HN : Hid (∀ j (hj : j < s.size), j < k + 1 → s[j].toNat ≠ 95) := by
              intro j hj hlt'
              rcases Nat.lt_or_ge j k with h' | h'
              · exact hh.out j hj h'
              · obtain rfl : j = k := by omega
                rw [hb]; exact hc
            go_wp2
            go_round
            case rel => exact ⟨k + 1, by omega, by go_num, HN⟩
            case measure => simp [intOf]; omega
        · have hus : ∀ c ∈ s.data.toList, c.toNat ≠ 95 := by
            intro c hc
            obtain ⟨j, hj, rfl⟩ := List.getElem_of_mem hc
            have hj' : j < s.size := by rw [Lib.size_eq]; exact hj
            have := hh.out j hj' (by omega)
            exact this
          have h11 := zzInteger11 s (by omega) hus w hg
          have h13 := fun W => model13 s (by omega) W
          rw [intG_eq] at h11
          obtain ⟨x, hx⟩ : ∃ x, x = modelG s.data.toList := ⟨_, rfl⟩
          rw [← hx] at h11
          simp only [← hx] at h13
          obtain ⟨a, b, c⟩ := x
          clear hx hus hh
          have h11' : Calls Tryd.prog 11 #[.string s] w fun e w' => e = .returned (.tuple #[.int .i64 a, .int .u64 b, .bool c]) ∧ Below w.heap.size w w' := h11
          have h13' : ∀ W, Calls Tryd.prog 13 #[.string s] W fun e w' => e = .returned (.tuple #[.int .i64 a, .int .u64 b, .bool c]) ∧ w' = W := h13
          clear h11 h13
          have hkk : k = s.size := by omega
          go_wp2_with (first
            | (go_at_call 11; refine h11'.mono ?_; rintro e w1 ⟨rfl, hb1⟩)
            | (go_at_call 13; refine (h13' _).mono ?_; rintro e w' ⟨rfl, hw⟩; obtain rfl := hw.symm))
          go_ret
          exact ⟨rfl, hb1⟩
  · have h' : (1048576 : Int) < s.size := by omega
    go_enter Tryd.func4, Tryd.ntmps4
    go_wp2_with (go_at_call 12; refine h12.mono ?_; rintro e w' ⟨⟨z, rfl⟩, hw⟩; obtain rfl := hw.symm; cases z)
    all_goals (go_ret; exact ⟨rfl, Below.refl _ _⟩)

end Go.Proofs.Qxb6601198aDoor

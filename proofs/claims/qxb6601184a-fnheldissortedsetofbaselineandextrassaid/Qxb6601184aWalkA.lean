import Derived.Test.Qxb6601184aProg
import Derived.Test.Qxb6601184aBase
import Derived.WalkSpells
import Derived.WalkLawsBesides
namespace Go.Proofs.Qxb6601184a
open Go.RowKit

set_option maxHeartbeats 400000 in
theorem spendStrings_pos (b off n c : Nat) (S : Nat → ByteArray) (z : Int) (w : World) (hn : n ≤ 8796093022208)
    (hc : ∀ i, i < n → w.cell? ⟨b, off + i, none⟩ = some (.string (S i))) :
    Calls Try.prog 22 #[.slice (some ⟨b, off, none⟩) n c, .int .i64 z] w fun e w' => SomeInt e ∧ w' = w := by
  by_cases hz : z < 0
  · go_enter Try.func22, Try.ntmps22
    go_wp2
    go_ret
    exact ⟨⟨_, rfl⟩, rfl⟩
  · have hz' : 0 ≤ z := by omega
    go_enter Try.func22, Try.ntmps22
    go_wp2
    · go_ret
      exact ⟨⟨_, rfl⟩, rfl⟩
    · go_loop [1, 5] (fun t i => ∃ (k : Nat) (z1 : Int), k ≤ n ∧ i = .int .i64 k ∧ t = .int .i64 z1) (fun _ i => n - (intOf i).toNat)
      case atStart => exact ⟨0, _, Nat.zero_le _, rfl, rfl⟩
      case round =>
        obtain ⟨k, z1, hk, rfl, rfl⟩ := hrel
        by_cases hlt : k < n
        · have hcell := hc k hlt
          go_wp2
          · go_ret
            exact ⟨⟨_, rfl⟩, rfl⟩
          · go_round
            case rel => exact ⟨k + 1, _, by omega, by go_num, rfl⟩
            case measure => simp [intOf]; omega
        · go_wp2
          go_ret
          exact ⟨⟨_, rfl⟩, rfl⟩

set_option maxHeartbeats 400000 in
theorem spendStrings_zero (ao : Option Addr) (c : Nat) (z : Int) (w : World) :
    Calls Try.prog 22 #[.slice ao 0 c, .int .i64 z] w fun e w' => SomeInt e ∧ w' = w := by
  by_cases hz : z < 0
  · go_enter Try.func22, Try.ntmps22
    go_wp2
    go_ret
    exact ⟨⟨_, rfl⟩, rfl⟩
  · have hz' : 0 ≤ z := by omega
    go_enter Try.func22, Try.ntmps22
    go_wp2
    · go_ret
      exact ⟨⟨_, rfl⟩, rfl⟩
    · refine wp_loop_rounds 1 ?_; rw [rounds_succ]
      go_wp2
      go_ret
      exact ⟨⟨_, rfl⟩, rfl⟩

theorem spendStrings_any {B : Nat} {ao : Option Addr} {n : Nat} {S : Nat → ByteArray} (c : Nat) (z : Int) (w : World) (hn : n ≤ 8796093022208)
    (hc : StrsFrom B w ao n S) :
    Calls Try.prog 22 #[.slice ao n c, .int .i64 z] w fun e w' => SomeInt e ∧ w' = w := by
  rcases hc with rfl | ⟨b, off, rfl, _, _, hc⟩
  · exact spendStrings_zero ao c z w
  · exact spendStrings_pos b off n c S z w hn hc

set_option maxHeartbeats 400000 in
theorem spendRows_pos (B b off n c : Nat) (Sc : Nat → ByteArray) (RL : Nat → Nat) (RS : Nat → Nat → ByteArray) (z : Int) (w : World) (hn : n ≤ 3518437208883)
    (hr : ∀ i, i < n → RowAt B w b off i Sc RL RS) (hs : ∀ i, i < n → RL i ≤ 8796093022208) :
    Calls Try.prog 8 #[.slice (some ⟨b, off, none⟩) n c, .int .i64 z] w fun e w' => SomeInt e ∧ w' = w := by
  by_cases hz : z < 0
  · go_enter Try.func8, Try.ntmps8
    go_wp2
    go_ret
    exact ⟨⟨_, rfl⟩, rfl⟩
  · have hz' : 0 ≤ z := by omega
    go_enter Try.func8, Try.ntmps8
    go_wp2
    · go_ret
      exact ⟨⟨_, rfl⟩, rfl⟩
    · go_loop [1, 5] (fun t i => ∃ (k : Nat) (z1 : Int), k ≤ n ∧ i = .int .i64 k ∧ t = .int .i64 z1) (fun _ i => n - (intOf i).toNat)
      case atStart => exact ⟨0, _, Nat.zero_le _, rfl, rfl⟩
      case round =>
        obtain ⟨k, z1, hk, rfl, rfl⟩ := hrel
        by_cases hlt : k < n
        · obtain ⟨hcell, ra, rc, hcell1, hrk⟩ := hr k hlt
          have hsk := hs k hlt
          clear hr hs
          go_wp2_with (go_at_call 22; refine (spendStrings_any _ _ _ hsk hrk).mono ?_; rintro e w' ⟨⟨z', rfl⟩, rfl⟩)
          · go_ret
            exact ⟨⟨_, rfl⟩, rfl⟩
          · go_ret
            exact ⟨⟨_, rfl⟩, rfl⟩
          · go_round
            case rel => exact ⟨k + 1, _, by omega, by go_num, rfl⟩
            case measure => simp [intOf]; omega
        · go_wp2
          go_ret
          exact ⟨⟨_, rfl⟩, rfl⟩

set_option maxHeartbeats 400000 in
theorem spendRows_zero (ao : Option Addr) (c : Nat) (z : Int) (w : World) :
    Calls Try.prog 8 #[.slice ao 0 c, .int .i64 z] w fun e w' => SomeInt e ∧ w' = w := by
  by_cases hz : z < 0
  · go_enter Try.func8, Try.ntmps8
    go_wp2
    go_ret
    exact ⟨⟨_, rfl⟩, rfl⟩
  · have hz' : 0 ≤ z := by omega
    go_enter Try.func8, Try.ntmps8
    go_wp2
    · go_ret
      exact ⟨⟨_, rfl⟩, rfl⟩
    · refine wp_loop_rounds 1 ?_; rw [rounds_succ]
      go_wp2
      go_ret
      exact ⟨⟨_, rfl⟩, rfl⟩

theorem spendRows_any {B : Nat} {ao : Option Addr} {n : Nat} {Sc : Nat → ByteArray} {RL : Nat → Nat} {RS : Nat → Nat → ByteArray} (c : Nat) (z : Int) (w : World) (hn : n ≤ 3518437208883)
    (h : RowsFrom B w ao n Sc RL RS) (hs : ∀ i, i < n → RL i ≤ 8796093022208) :
    Calls Try.prog 8 #[.slice ao n c, .int .i64 z] w fun e w' => SomeInt e ∧ w' = w := by
  rcases h with rfl | ⟨b, off, rfl, _, _, hr⟩
  · exact spendRows_zero ao c z w
  · exact spendRows_pos B b off n c Sc RL RS z w hn hr hs

set_option maxHeartbeats 1000000 in
set_option maxRecDepth 100000 in
theorem bytes7_pos (B b off n c : Nat) (Sc : Nat → ByteArray) (RL : Nat → Nat) (RS : Nat → Nat → ByteArray) (w : World) (hn : n ≤ 3518437208883)
    (hr : ∀ i, i < n → RowAt B w b off i Sc RL RS) (hs : ∀ i, i < n → RL i ≤ 8796093022208) :
    Calls Try.prog 7 #[.slice (some ⟨b, off, none⟩) n c] w fun e w' => SomeBool e ∧ w' = w := by
  go_enter Try.func7, Try.ntmps7
  go_wp2
  · go_ret
    exact ⟨⟨_, rfl⟩, rfl⟩
  go_loop [3, 4, 5] (fun t i _ => ∃ (k : Nat) (z1 : Int), k ≤ n ∧ i = .int .i64 k ∧ t = .int .i64 z1) (fun _ i _ => n - (intOf i).toNat)
  case atStart => exact ⟨0, _, Nat.zero_le _, rfl, rfl⟩
  case round =>
    obtain ⟨k, z1, hk, rfl, rfl⟩ := hrel
    by_cases hlt : k < n
    · obtain ⟨hcell, ra, rc, hcell1, hrk⟩ := hr k hlt
      have hsk := hs k hlt
      clear hr hs
      generalize RL k = rl at hcell1 hrk hsk
      generalize RS k = rs at hrk
      rcases hrk with rfl | ⟨rb, ro, rfl, _, _, hrc⟩
      · go_wp2
        · go_ret
          exact ⟨⟨_, rfl⟩, rfl⟩
        · go_ret
          exact ⟨⟨_, rfl⟩, rfl⟩
        · go_ret
          exact ⟨⟨_, rfl⟩, rfl⟩
        · refine wp_loop_rounds 1 ?_; rw [rounds_succ]
          go_wp2
          go_round
          case rel => exact ⟨k + 1, _, by omega, by go_num, rfl⟩
          case measure => simp [intOf]; omega
      · go_wp2
        · go_ret
          exact ⟨⟨_, rfl⟩, rfl⟩
        · go_ret
          exact ⟨⟨_, rfl⟩, rfl⟩
        · go_ret
          exact ⟨⟨_, rfl⟩, rfl⟩
        · go_ret
          exact ⟨⟨_, rfl⟩, rfl⟩
        · go_loop [3, 5] (fun t j => ∃ (m : Nat) (z2 : Int), m ≤ rl ∧ j = .int .i64 m ∧ t = .int .i64 z2) (fun _ j => rl - (intOf j).toNat)
          case atStart => exact ⟨0, _, Nat.zero_le _, rfl, rfl⟩
          case round =>
            obtain ⟨m, z2, hm, rfl, rfl⟩ := hrel
            by_cases hml : m < rl
            · have hcm := hrc m hml
              go_wp2
              · go_ret
                exact ⟨⟨_, rfl⟩, rfl⟩
              · go_ret
                exact ⟨⟨_, rfl⟩, rfl⟩
              · go_round
                case rel => exact ⟨m + 1, _, by omega, by go_num, rfl⟩
                case measure => simp [intOf]; omega
            · go_wp2
              go_round
              case rel => exact ⟨k + 1, _, by omega, by go_num, rfl⟩
              case measure => simp [intOf]; omega
    · go_wp2
      go_ret
      exact ⟨⟨_, rfl⟩, rfl⟩

set_option maxHeartbeats 400000 in
set_option maxRecDepth 100000 in
theorem bytes7_zero (ao : Option Addr) (c : Nat) (w : World) :
    Calls Try.prog 7 #[.slice ao 0 c] w fun e w' => SomeBool e ∧ w' = w := by
  go_enter Try.func7, Try.ntmps7
  go_wp2
  refine wp_loop_rounds 1 ?_; rw [rounds_succ]
  go_wp2
  go_ret
  exact ⟨⟨_, rfl⟩, rfl⟩

theorem bytes7_any {B : Nat} {ao : Option Addr} {n : Nat} {Sc : Nat → ByteArray} {RL : Nat → Nat} {RS : Nat → Nat → ByteArray} (c : Nat) (w : World) (hn : n ≤ 3518437208883)
    (h : RowsFrom B w ao n Sc RL RS) (hs : ∀ i, i < n → RL i ≤ 8796093022208) :
    Calls Try.prog 7 #[.slice ao n c] w fun e w' => SomeBool e ∧ w' = w := by
  rcases h with rfl | ⟨b, off, rfl, _, _, hr⟩
  · exact bytes7_zero ao c w
  · exact bytes7_pos B b off n c Sc RL RS w hn hr hs

end Go.Proofs.Qxb6601184a

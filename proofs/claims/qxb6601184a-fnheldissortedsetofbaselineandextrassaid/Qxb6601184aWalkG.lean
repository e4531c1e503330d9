import Derived.Test.Qxb6601184aWalkA
namespace Go.Proofs.Qxb6601184a
open Go.RowKit

set_option maxHeartbeats 1600000 in
set_option maxRecDepth 100000 in
theorem bytes21_pos (B b off n c : Nat) (Sc : Nat → ByteArray) (RL : Nat → Nat) (RS : Nat → Nat → ByteArray) (role : ByteArray) (w : World) (_hro : role.size ≤ 9223372036854775807) (hn : n ≤ 3518437208883)
    (hr : ∀ i, i < n → RowAt B w b off i Sc RL RS) (hs : ∀ i, i < n → RL i ≤ 8796093022208) :
    Calls Try.prog 21 #[.slice (some ⟨b, off, none⟩) n c, .string role] w fun e w' => SomeBool e ∧ w' = w := by
  go_enter Try.func21, Try.ntmps21
  go_wp2
  · go_ret
    exact ⟨⟨_, rfl⟩, rfl⟩
  go_loop [5, 6, 7] (fun t i _ => ∃ (k : Nat) (z1 : Int), k ≤ n ∧ i = .int .i64 k ∧ t = .int .i64 z1) (fun _ i _ => n - (intOf i).toNat)
  case atStart => exact ⟨0, _, Nat.zero_le _, rfl, rfl⟩
  case round =>
    obtain ⟨k, z1, hk, rfl, rfl⟩ := hrel
    by_cases hlt : k < n
    · obtain ⟨hcell, ra, rc, hcell1, hrk⟩ := hr k hlt
      have hsk := hs k hlt
      clear hr hs
      generalize RL k = rl at hcell1 hrk hsk
      generalize RS k = rs at hrk
      rcases hrk with rfl | ⟨rb, ro, rfl, _, _, hrc⟩
      · go_wp2
        · go_ret
          exact ⟨⟨_, rfl⟩, rfl⟩
        · go_ret
          exact ⟨⟨_, rfl⟩, rfl⟩
        · go_ret
          exact ⟨⟨_, rfl⟩, rfl⟩
        · refine wp_loop_rounds 1 ?_; rw [rounds_succ]
          go_wp2
          go_round
          case rel => exact ⟨k + 1, _, by omega, by go_num, rfl⟩
          case measure => simp [intOf]; omega
      · go_wp2
        · go_ret
          exact ⟨⟨_, rfl⟩, rfl⟩
        · go_ret
          exact ⟨⟨_, rfl⟩, rfl⟩
        · go_ret
          exact ⟨⟨_, rfl⟩, rfl⟩
        · go_ret
          exact ⟨⟨_, rfl⟩, rfl⟩
        · go_loop [5, 7] (fun t j => ∃ (m : Nat) (z2 : Int), m ≤ rl ∧ j = .int .i64 m ∧ t = .int .i64 z2) (fun _ j => rl - (intOf j).toNat)
          case atStart => exact ⟨0, _, Nat.zero_le _, rfl, rfl⟩
          case round =>
            obtain ⟨m, z2, hm, rfl, rfl⟩ := hrel
            by_cases hml : m < rl
            · have hcm := hrc m hml
              go_wp2
              · go_ret
                exact ⟨⟨_, rfl⟩, rfl⟩
              · go_ret
                exact ⟨⟨_, rfl⟩, rfl⟩
              · go_round
                case rel => exact ⟨m + 1, _, by omega, by go_num, rfl⟩
                case measure => simp [intOf]; omega
            · go_wp2
              go_round
              case rel => exact ⟨k + 1, _, by omega, by go_num, rfl⟩
              case measure => simp [intOf]; omega
    · clear hr hs
      go_wp2
      all_goals (go_ret; exact ⟨⟨_, rfl⟩, rfl⟩)

set_option maxHeartbeats 1600000 in
set_option maxRecDepth 100000 in
theorem bytes21_zero (ao : Option Addr) (c : Nat) (role : ByteArray) (w : World) (_hro : role.size ≤ 9223372036854775807) :
    Calls Try.prog 21 #[.slice ao 0 c, .string role] w fun e w' => SomeBool e ∧ w' = w := by
  go_enter Try.func21, Try.ntmps21
  go_wp2
  refine wp_loop_rounds 1 ?_; rw [rounds_succ]
  go_wp2
  all_goals (go_ret; exact ⟨⟨_, rfl⟩, rfl⟩)

set_option maxHeartbeats 1600000 in
set_option maxRecDepth 100000 in
theorem bytes13_pp (B b off n c : Nat) (Sc : Nat → ByteArray) (RL : Nat → Nat) (RS : Nat → Nat → ByteArray) (role : ByteArray) (eb eo en ec : Nat) (ES : Nat → ByteArray) (w : World) (_hro : role.size ≤ 9223372036854775807) (hn : n ≤ 3518437208883)
    (hr : ∀ i, i < n → RowAt B w b off i Sc RL RS) (hs : ∀ i, i < n → RL i ≤ 8796093022208) (hen : en ≤ 8796093022208) (hec : ∀ i, i < en → w.cell? ⟨eb, eo + i, none⟩ = some (.string (ES i))) :
    Calls Try.prog 13 #[.slice (some ⟨b, off, none⟩) n c, .string role, .slice (some ⟨eb, eo, none⟩) en ec] w fun e w' => SomeBool e ∧ w' = w := by
  go_enter Try.func13, Try.ntmps13
  go_wp2
  · go_ret
    exact ⟨⟨_, rfl⟩, rfl⟩
  go_loop [7, 8, 9] (fun t i _ => ∃ (k : Nat) (z1 : Int), k ≤ n ∧ i = .int .i64 k ∧ t = .int .i64 z1) (fun _ i _ => n - (intOf i).toNat)
  case atStart => exact ⟨0, _, Nat.zero_le _, rfl, rfl⟩
  case round =>
    obtain ⟨k, z1, hk, rfl, rfl⟩ := hrel
    by_cases hlt : k < n
    · obtain ⟨hcell, ra, rc, hcell1, hrk⟩ := hr k hlt
      have hsk := hs k hlt
      clear hr hs
      generalize RL k = rl at hcell1 hrk hsk
      generalize RS k = rs at hrk
      rcases hrk with rfl | ⟨rb, ro, rfl, _, _, hrc⟩
      · go_wp2
        · go_ret
          exact ⟨⟨_, rfl⟩, rfl⟩
        · go_ret
          exact ⟨⟨_, rfl⟩, rfl⟩
        · go_ret
          exact ⟨⟨_, rfl⟩, rfl⟩
        · refine wp_loop_rounds 1 ?_; rw [rounds_succ]
          go_wp2
          go_round
          case rel => exact ⟨k + 1, _, by omega, by go_num, rfl⟩
          case measure => simp [intOf]; omega
      · go_wp2
        · go_ret
          exact ⟨⟨_, rfl⟩, rfl⟩
        · go_ret
          exact ⟨⟨_, rfl⟩, rfl⟩
        · go_ret
          exact ⟨⟨_, rfl⟩, rfl⟩
        · go_ret
          exact ⟨⟨_, rfl⟩, rfl⟩
        · go_loop [7, 9] (fun t j => ∃ (m : Nat) (z2 : Int), m ≤ rl ∧ j = .int .i64 m ∧ t = .int .i64 z2) (fun _ j => rl - (intOf j).toNat)
          case atStart => exact ⟨0, _, Nat.zero_le _, rfl, rfl⟩
          case round =>
            obtain ⟨m, z2, hm, rfl, rfl⟩ := hrel
            by_cases hml : m < rl
            · have hcm := hrc m hml
              go_wp2
              · go_ret
                exact ⟨⟨_, rfl⟩, rfl⟩
              · go_ret
                exact ⟨⟨_, rfl⟩, rfl⟩
              · go_round
                case rel => exact ⟨m + 1, _, by omega, by go_num, rfl⟩
                case measure => simp [intOf]; omega
            · go_wp2
              go_round
              case rel => exact ⟨k + 1, _, by omega, by go_num, rfl⟩
              case measure => simp [intOf]; omega
    · clear hr hs
      go_wp2
      · go_ret
        exact ⟨⟨_, rfl⟩, rfl⟩
      · go_ret
        exact ⟨⟨_, rfl⟩, rfl⟩
      · go_ret
        exact ⟨⟨_, rfl⟩, rfl⟩
      · go_ret
        exact ⟨⟨_, rfl⟩, rfl⟩
      · go_loop [7, 10] (fun t i => ∃ (m : Nat) (z1 : Int), m ≤ en ∧ i = .int .i64 m ∧ t = .int .i64 z1) (fun _ i => en - (intOf i).toNat)
        case atStart => exact ⟨0, _, Nat.zero_le _, rfl, rfl⟩
        case round =>
          obtain ⟨m, z1, hm, rfl, rfl⟩ := hrel
          by_cases hml : m < en
          · have hcm := hec m hml
            go_wp2
            · go_ret
              exact ⟨⟨_, rfl⟩, rfl⟩
            · go_ret
              exact ⟨⟨_, rfl⟩, rfl⟩
            · go_round
              case rel => exact ⟨m + 1, _, by omega, by go_num, rfl⟩
              case measure => simp [intOf]; omega
          · go_wp2
            go_ret
            exact ⟨⟨_, rfl⟩, rfl⟩

set_option maxHeartbeats 1600000 in
set_option maxRecDepth 100000 in
theorem bytes13_pz (B b off n c : Nat) (Sc : Nat → ByteArray) (RL : Nat → Nat) (RS : Nat → Nat → ByteArray) (role : ByteArray) (eao : Option Addr) (ec : Nat) (w : World) (_hro : role.size ≤ 9223372036854775807) (hn : n ≤ 3518437208883)
    (hr : ∀ i, i < n → RowAt B w b off i Sc RL RS) (hs : ∀ i, i < n → RL i ≤ 8796093022208) :
    Calls Try.prog 13 #[.slice (some ⟨b, off, none⟩) n c, .string role, .slice eao 0 ec] w fun e w' => SomeBool e ∧ w' = w := by
  go_enter Try.func13, Try.ntmps13
  go_wp2
  · go_ret
    exact ⟨⟨_, rfl⟩, rfl⟩
  go_loop [7, 8, 9] (fun t i _ => ∃ (k : Nat) (z1 : Int), k ≤ n ∧ i = .int .i64 k ∧ t = .int .i64 z1) (fun _ i _ => n - (intOf i).toNat)
  case atStart => exact ⟨0, _, Nat.zero_le _, rfl, rfl⟩
  case round =>
    obtain ⟨k, z1, hk, rfl, rfl⟩ := hrel
    by_cases hlt : k < n
    · obtain ⟨hcell, ra, rc, hcell1, hrk⟩ := hr k hlt
      have hsk := hs k hlt
      clear hr hs
      generalize RL k = rl at hcell1 hrk hsk
      generalize RS k = rs at hrk
      rcases hrk with rfl | ⟨rb, ro, rfl, _, _, hrc⟩
      · go_wp2
        · go_ret
          exact ⟨⟨_, rfl⟩, rfl⟩
        · go_ret
          exact ⟨⟨_, rfl⟩, rfl⟩
        · go_ret
          exact ⟨⟨_, rfl⟩, rfl⟩
        · refine wp_loop_rounds 1 ?_; rw [rounds_succ]
          go_wp2
          go_round
          case rel => exact ⟨k + 1, _, by omega, by go_num, rfl⟩
          case measure => simp [intOf]; omega
      · go_wp2
        · go_ret
          exact ⟨⟨_, rfl⟩, rfl⟩
        · go_ret
          exact ⟨⟨_, rfl⟩, rfl⟩
        · go_ret
          exact ⟨⟨_, rfl⟩, rfl⟩
        · go_ret
          exact ⟨⟨_, rfl⟩, rfl⟩
        · go_loop [7, 9] (fun t j => ∃ (m : Nat) (z2 : Int), m ≤ rl ∧ j = .int .i64 m ∧ t = .int .i64 z2) (fun _ j => rl - (intOf j).toNat)
          case atStart => exact ⟨0, _, Nat.zero_le _, rfl, rfl⟩
          case round =>
            obtain ⟨m, z2, hm, rfl, rfl⟩ := hrel
            by_cases hml : m < rl
            · have hcm := hrc m hml
              go_wp2
              · go_ret
                exact ⟨⟨_, rfl⟩, rfl⟩
              · go_ret
                exact ⟨⟨_, rfl⟩, rfl⟩
              · go_round
                case rel => exact ⟨m + 1, _, by omega, by go_num, rfl⟩
                case measure => simp [intOf]; omega
            · go_wp2
              go_round
              case rel => exact ⟨k + 1, _, by omega, by go_num, rfl⟩
              case measure => simp [intOf]; omega
    · clear hr hs
      go_wp2
      · go_ret
        exact ⟨⟨_, rfl⟩, rfl⟩
      · go_ret
        exact ⟨⟨_, rfl⟩, rfl⟩
      · go_ret
        exact ⟨⟨_, rfl⟩, rfl⟩
      · refine wp_loop_rounds 1 ?_; rw [rounds_succ]
        go_wp2
        go_ret
        exact ⟨⟨_, rfl⟩, rfl⟩

set_option maxHeartbeats 1600000 in
set_option maxRecDepth 100000 in
theorem bytes13_zp (ao : Option Addr) (c : Nat) (role : ByteArray) (eb eo en ec : Nat) (ES : Nat → ByteArray) (w : World) (_hro : role.size ≤ 9223372036854775807) (hen : en ≤ 8796093022208) (hec : ∀ i, i < en → w.cell? ⟨eb, eo + i, none⟩ = some (.string (ES i))) :
    Calls Try.prog 13 #[.slice ao 0 c, .string role, .slice (some ⟨eb, eo, none⟩) en ec] w fun e w' => SomeBool e ∧ w' = w := by
  go_enter Try.func13, Try.ntmps13
  go_wp2
  refine wp_loop_rounds 1 ?_; rw [rounds_succ]
  go_wp2
  · go_ret
    exact ⟨⟨_, rfl⟩, rfl⟩
  · go_ret
    exact ⟨⟨_, rfl⟩, rfl⟩
  · go_ret
    exact ⟨⟨_, rfl⟩, rfl⟩
  · go_loop [7, 10] (fun t i => ∃ (m : Nat) (z1 : Int), m ≤ en ∧ i = .int .i64 m ∧ t = .int .i64 z1) (fun _ i => en - (intOf i).toNat)
    case atStart => exact ⟨0, _, Nat.zero_le _, rfl, rfl⟩
    case round =>
      obtain ⟨m, z1, hm, rfl, rfl⟩ := hrel
      by_cases hml : m < en
      · have hcm := hec m hml
        go_wp2
        · go_ret
          exact ⟨⟨_, rfl⟩, rfl⟩
        · go_ret
          exact ⟨⟨_, rfl⟩, rfl⟩
        · go_round
          case rel => exact ⟨m + 1, _, by omega, by go_num, rfl⟩
          case measure => simp [intOf]; omega
      · go_wp2
        go_ret
        exact ⟨⟨_, rfl⟩, rfl⟩

set_option maxHeartbeats 1600000 in
set_option maxRecDepth 100000 in
theorem bytes13_zz (ao : Option Addr) (c : Nat) (role : ByteArray) (eao : Option Addr) (ec : Nat) (w : World) (_hro : role.size ≤ 9223372036854775807) :
    Calls Try.prog 13 #[.slice ao 0 c, .string role, .slice eao 0 ec] w fun e w' => SomeBool e ∧ w' = w := by
  go_enter Try.func13, Try.ntmps13
  go_wp2
  refine wp_loop_rounds 1 ?_; rw [rounds_succ]
  go_wp2
  · go_ret
    exact ⟨⟨_, rfl⟩, rfl⟩
  · refine wp_loop_rounds 1 ?_; rw [rounds_succ]
    go_wp2
    go_ret
    exact ⟨⟨_, rfl⟩, rfl⟩

theorem bytes21_any {B : Nat} {ao : Option Addr} {n : Nat} {Sc : Nat → ByteArray} {RL : Nat → Nat} {RS : Nat → Nat → ByteArray} (c : Nat) (role : ByteArray) (w : World) (hro : role.size ≤ 9223372036854775807) (hn : n ≤ 3518437208883)
    (h : RowsFrom B w ao n Sc RL RS) (hs : ∀ i, i < n → RL i ≤ 8796093022208) :
    Calls Try.prog 21 #[.slice ao n c, .string role] w fun e w' => SomeBool e ∧ w' = w := by
  rcases h with rfl | ⟨b, off, rfl, _, _, hr⟩
  · exact bytes21_zero ao c role w hro
  · exact bytes21_pos B b off n c Sc RL RS role w hro hn hr hs

theorem bytes13_any {B E : Nat} {ao eao : Option Addr} {n en : Nat} {Sc ES : Nat → ByteArray} {RL : Nat → Nat} {RS : Nat → Nat → ByteArray} (c ec : Nat) (role : ByteArray) (w : World) (hro : role.size ≤ 9223372036854775807) (hn : n ≤ 3518437208883) (hen : en ≤ 8796093022208)
    (h : RowsFrom B w ao n Sc RL RS) (hs : ∀ i, i < n → RL i ≤ 8796093022208) (he : StrsFrom E w eao en ES) :
    Calls Try.prog 13 #[.slice ao n c, .string role, .slice eao en ec] w fun e w' => SomeBool e ∧ w' = w := by
  rcases h with rfl | ⟨b, off, rfl, _, _, hr⟩ <;> rcases he with rfl | ⟨eb, eo, rfl, _, _, hec⟩
  · exact bytes13_zz ao c role eao ec w hro
  · exact bytes13_zp ao c role eb eo en ec ES w hro hen hec
  · exact bytes13_pz B b off n c Sc RL RS role eao ec w hro hn hr hs
  · exact bytes13_pp B b off n c Sc RL RS role eb eo en ec ES w hro hn hr hs hen hec

set_option maxHeartbeats 400000 in
theorem budget_any {B E : Nat} {ao eao : Option Addr} {n en : Nat} {Sc ES : Nat → ByteArray} {RL : Nat → Nat} {RS : Nat → Nat → ByteArray} (c ec : Nat) (role : ByteArray) (w : World) (hn : n ≤ 3518437208883) (hen : en ≤ 8796093022208)
    (h : RowsFrom B w ao n Sc RL RS) (hs : ∀ i, i < n → RL i ≤ 8796093022208) (he : StrsFrom E w eao en ES) :
    Calls Try.prog 14 #[.slice ao n c, .string role, .slice eao en ec] w fun e w' => SomeInt e ∧ w' = w := by
  have H8 := spendRows_any c 1048576 w hn h hs
  have H22 := fun z => spendStrings_any ec z w hen he
  go_enter Try.func14, Try.ntmps14
  go_wp2_with (first
    | (go_at_call 8; refine H8.mono ?_; rintro e w' ⟨⟨z, rfl⟩, hw⟩; obtain rfl := hw.symm)
    | (go_at_call 22; refine (H22 _).mono ?_; rintro e w' ⟨⟨z2, rfl⟩, hw⟩; obtain rfl := hw.symm))
  all_goals (go_ret; exact ⟨⟨_, rfl⟩, rfl⟩)

end Go.Proofs.Qxb6601184a

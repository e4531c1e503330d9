import Derived.Test.Qxb6000947aProg
import Derived.Test.Qxb6000947aPlain
import Derived.WalkSpells
import Derived.WalkLawsBesides
namespace Go.Proofs.Qxb6000947a
open Go.RowKit

set_option maxHeartbeats 1000000 in
set_option maxRecDepth 100000 in
theorem trim23 (s : ByteArray) (w : World) (hs : s.size ≤ 1048576) :
    Calls Try.prog 23 #[.string s] w fun e w' => (∃ E, Inv s s.size E ∧ e = .returned (.string (s.extract 0 E))) ∧ w' = w := by
  go_enter Try.func23, Try.ntmps23
  go_wp2
  go_loop [3, 4] (fun ev iv => ∃ i e : Nat, i ≤ s.size ∧ e ≤ i ∧ iv = .int .i64 i ∧ ev = .int .i64 e ∧ Inv s i e) (fun _ iv => s.size - (intOf iv).toNat)
  case atStart => exact ⟨0, 0, Nat.zero_le _, Nat.le_refl _, rfl, rfl, Inv.start s⟩
  case round =>
    obtain ⟨i, e, hi, hei, rfl, rfl, hinv⟩ := hrel
    by_cases hlt : i < s.size
    · have hb := bt_eq s i hlt
      obtain ⟨c, hc⟩ : ∃ c, c = bt s i := ⟨_, rfl⟩
      rw [← hc] at hb
      have HC : Hid (c = bt s i) := hc
      clear hc
      by_cases h92 : c = 92
      · have k1 : ((c : Int) == 92) = true := by simp; omega
        have HC9 : Hid (c = 92) := h92
        clear h92
        by_cases hn : i + 1 < s.size
        · go_wp2
          go_round
          case rel => exact ⟨i + 2, i + 2, by omega, by omega, by go_num, by go_num, hinv.pair hn (by rw [← HC.out]; exact HC9.out)⟩
          case measure => simp [intOf]; omega
        · have k2 : ((c : Int) != 32) = true := by have := HC9.out; simp; omega
          go_wp2
          go_round
          case rel => exact ⟨i + 1, i + 1, by omega, by omega, by go_num, by go_num, hinv.last (by omega) (by rw [← HC.out]; have := HC9.out; omega)⟩
          case measure => simp [intOf]; omega
      · have k1 : ((c : Int) == 92) = false := by simp; omega
        by_cases h32 : c = 32
        · have k2 : ((c : Int) != 32) = false := by simp; omega
          have HC3 : Hid (c = 32) := h32
          clear h92 h32
          go_wp2
          go_round
          case rel => exact ⟨i + 1, e, by omega, by omega, by go_num, rfl, hinv.space hlt (by rw [← HC.out]; exact HC3.out)⟩
          case measure => simp [intOf]; omega
        · have k2 : ((c : Int) != 32) = true := by simp; omega
          go_wp2
          go_round
          case rel => exact ⟨i + 1, i + 1, by omega, by omega, by go_num, by go_num, hinv.other hlt (by rw [← HC.out]; omega) (by rw [← HC.out]; omega)⟩
          case measure => simp [intOf]; omega
    · have hin : i = s.size := by omega
      have hinv' : Inv s s.size e := by rw [← hin]; exact hinv
      clear hinv hin
      go_wp2
      go_ret
      exact ⟨⟨e, hinv', rfl⟩, rfl⟩

theorem extract00 (s : ByteArray) : s.extract 0 0 = ByteArray.empty := by
  apply ByteArray.ext
  simp

set_option maxHeartbeats 1000000 in
set_option maxRecDepth 100000 in
theorem model10 (s : ByteArray) (w : World) (hs : s.size ≤ 1048576) :
    Calls Try.prog 10 #[.string s] w fun e w' => (∃ k, k ≤ s.size ∧ (∀ j, k ≤ j → j < s.size → bt s j = 32) ∧ (k = 0 ∨ bt s (k - 1) ≠ 32) ∧ e = .returned (.string (s.extract 0 (if run s k % 2 = 1 ∧ k < s.size then k + 1 else k)))) ∧ w' = w := by
  go_enter Try.func10, Try.ntmps10
  go_wp2
  go_loop [3] (fun kv => ∃ k : Nat, k ≤ s.size ∧ kv = .int .i64 k ∧ ∀ j, k ≤ j → j < s.size → bt s j = 32) (fun kv => (intOf kv).toNat)
  case atStart => exact ⟨s.size, Nat.le_refl _, rfl, fun j h1 h2 => by omega⟩
  case round =>
    obtain ⟨k, hk, rfl, hsp⟩ := hrel
    have HSP : Hid (∀ j, k ≤ j → j < s.size → bt s j = 32) := hsp
    clear hsp
    by_cases hk0 : k = 0
    · subst hk0
      go_wp2
      refine wp_loop_rounds 1 ?_; rw [rounds_succ]
      go_wp2
      go_ret
      refine ⟨⟨0, Nat.zero_le _, HSP.out, .inl rfl, ?_⟩, rfl⟩
      rw [if_neg (by simp [run]), extract00]
      rfl
    · have hk1 : k - 1 < s.size := by omega
      have hb := bt_eq s (k - 1) hk1
      obtain ⟨c, hc⟩ : ∃ c, c = bt s (k - 1) := ⟨_, rfl⟩
      rw [← hc] at hb
      have HC : Hid (c = bt s (k - 1)) := hc
      clear hc
      by_cases h32 : c = 32
      · have k1 : ((c : Int) == 32) = true := by simp; omega
        have HC3 : Hid (c = 32) := h32
        clear h32
        go_wp2
        go_round
        case rel =>
          refine ⟨k - 1, by omega, by go_num, fun j h1 h2 => ?_⟩
          by_cases e : j = k - 1
          · subst e; rw [← HC.out]; exact HC3.out
          · exact HSP.out j (by omega) h2
        case measure => simp [intOf]; omega
      · have k1 : ((c : Int) == 32) = false := by simp; omega
        go_wp2
        have HLAST : Hid (k = 0 ∨ bt s (k - 1) ≠ 32) := .inr (by rw [← HC.out]; exact h32)
        clear h32 k1 hb HC
        go_loop [4] (fun rv => ∃ r : Nat, r ≤ k ∧ rv = .int .i64 r ∧ ∀ j, k - r ≤ j → j < k → bt s j = 92) (fun rv => k - (intOf rv).toNat)
        case atStart => exact ⟨0, Nat.zero_le _, rfl, fun j h1 h2 => by omega⟩
        case round =>
          obtain ⟨r, hr, rfl, hbs⟩ := hrel
          have HBS : Hid (∀ j, k - r ≤ j → j < k → bt s j = 92) := hbs
          clear hbs
          by_cases hrk : r < k
          · have hk2 : k - 1 - r < s.size := by omega
            have hb := bt_eq s (k - 1 - r) hk2
            obtain ⟨d, hd⟩ : ∃ d, d = bt s (k - 1 - r) := ⟨_, rfl⟩
            rw [← hd] at hb
            have HD : Hid (d = bt s (k - 1 - r)) := hd
            clear hd
            by_cases h92 : d = 92
            · have k2 : ((d : Int) == 92) = true := by simp; omega
              have HD9 : Hid (d = 92) := h92
              clear h92
              go_wp2
              go_round
              case rel =>
                refine ⟨r + 1, by omega, by go_num, fun j h1 h2 => ?_⟩
                by_cases e : j = k - 1 - r
                · subst e; rw [← HD.out]; exact HD9.out
                · exact HBS.out j (by omega) h2
              case measure => simp [intOf]; omega
            · have k2 : ((d : Int) == 92) = false := by simp; omega
              have HRUN : Hid (run s k = r) := run_is s r k hr HBS.out (.inr (by rw [← HD.out]; exact h92))
              by_cases hodd : r % 2 = 1
              · have km : ((r : Int) % 2 == 1) = true := by simp; omega
                have HOD : Hid (r % 2 = 1) := hodd
                clear hodd
                by_cases hkn : k < s.size
                · go_wp2
                  go_ret
                  refine ⟨⟨k, hk, HSP.out, HLAST.out, ?_⟩, rfl⟩
                  rw [HRUN.out, if_pos ⟨HOD.out, hkn⟩]
                  rfl
                · go_wp2
                  go_ret
                  refine ⟨⟨k, hk, HSP.out, HLAST.out, ?_⟩, rfl⟩
                  rw [if_neg (by omega)]
                  rfl
              · have km : ((r : Int) % 2 == 1) = false := by simp; omega
                have HOD : Hid (¬ r % 2 = 1) := hodd
                clear hodd
                go_wp2
                go_ret
                refine ⟨⟨k, hk, HSP.out, HLAST.out, ?_⟩, rfl⟩
                rw [HRUN.out, if_neg (fun h => HOD.out h.1)]
                rfl
          · have hre : r = k := by omega
            have HRUN : Hid (run s k = r) := run_is s r k hr HBS.out (.inl hre)
            clear hre
            have hrk' : ¬ (r : Int) < (k : Int) := by omega
            by_cases hodd : r % 2 = 1
            · have km : ((r : Int) % 2 == 1) = true := by simp; omega
              have HOD : Hid (r % 2 = 1) := hodd
              clear hodd
              by_cases hkn : k < s.size
              · go_wp2
                go_ret
                refine ⟨⟨k, hk, HSP.out, HLAST.out, ?_⟩, rfl⟩
                rw [HRUN.out, if_pos ⟨HOD.out, hkn⟩]
                rfl
              · go_wp2
                go_ret
                refine ⟨⟨k, hk, HSP.out, HLAST.out, ?_⟩, rfl⟩
                rw [if_neg (by omega)]
                rfl
            · have km : ((r : Int) % 2 == 1) = false := by simp; omega
              have HOD : Hid (¬ r % 2 = 1) := hodd
              clear hodd
              go_wp2
              go_ret
              refine ⟨⟨k, hk, HSP.out, HLAST.out, ?_⟩, rfl⟩
              rw [HRUN.out, if_neg (fun h => HOD.out h.1)]
              rfl

end Go.Proofs.Qxb6000947a

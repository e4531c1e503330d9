import Derived.Test.Qxb6601198aDoorMg
namespace Go.Proofs.Qxb6601198aDoor
open Go.RowKit

set_option maxHeartbeats 8000000 in
set_option maxRecDepth 100000 in
theorem mag2 (s : ByteArray) (hmax : s.size ≤ 1048600) (w : World) :
    Calls Tryd.prog 9 #[.string s, .int .u64 2] w fun e w' => ∃ r, e = .returned r ∧ MOK (pu 2 0 s.data.toList) r ∧ w' = w := by
  obtain ⟨l, hL⟩ : ∃ l, l = s.data.toList := ⟨_, rfl⟩
  have hLn : l.length = s.size := by rw [hL]; exact (Lib.size_eq _).symm
  have HLT : Hid (∀ (k : Nat) (h : k < s.size) (h' : k < l.length), s[k] = l[k]) := by
    intro k h h'
    subst hL
    rfl
  rw [← hL]
  clear hL
  go_enter Tryd.func9, Tryd.ntmps9
  go_wp2
  go_loop [7, 8, 9, 10, 11] (fun vm vf vi _ _ => ∃ k : Nat, k ≤ s.size ∧ vi = .int .i64 k ∧ MR 2 l k vm vf) (fun _ _ vi _ _ => s.size - (intOf vi).toNat)
  case atStart => exact ⟨0, Nat.zero_le _, rfl, .inl ⟨0, 0, rfl, rfl, rfl, by omega, rfl⟩⟩
  case round =>
    obtain ⟨k, hk, rfl, hmr⟩ := hrel
    by_cases hlt : k < s.size
    · have hdrop : l.drop k = l[k]'(by omega) :: l.drop (k + 1) := List.drop_eq_getElem_cons (by omega)
      have hget : s[k] = l[k]'(by omega) := HLT.out k hlt (by omega)
      have HDROP : Hid (l.drop k = s[k] :: l.drop (k + 1)) := by rw [Hid, hdrop, hget]
      clear hdrop hget
      obtain ⟨c, hb⟩ : ∃ c, s[k].toNat = c := ⟨_, rfl⟩
      have HCC : Hid (s[k].toNat = c) := hb
      have hc256 : c < 256 := by rw [← hb]; exact s[k].toNat_lt
      rcases hmr with ⟨acc, a, rfl, rfl, hh⟩ | ⟨a, a0, a1, rfl, rfl, hn⟩
      · obtain ⟨ha, hacc, hdec⟩ := hh.out
        clear hh
        have a0 : 0 ≤ a := by omega
        have a1 : a < 18446744073709551616 := by omega
        rw [HDROP.out] at hdec
        have HD : Hid (pu 2 0 l = pu 2 acc (s[k] :: l.drop (k + 1))) := hdec
        have HA : Hid (a = (acc : Int)) := ha
        have HAC : Hid (acc < 18446744073709551616) := hacc
        clear hdec ha hacc HDROP
        by_cases hdig : 48 ≤ c ∧ c ≤ 57
        · obtain ⟨hl0, hl1⟩ := hdig
          by_cases hdb : c < 50
          · skip
            by_cases hov : 18446744073709551616 ≤ a * 2 + ((c : Int) - 48)
            · have HF : Hid (pu 2 0 l = none) := by
                have h1 := HA.out
                rw [Hid, HD.out, pu_over (by rw [HCC.out, dv_dig hl0 hl1]; omega)]
              have hq : (18446744073709551615 - ((c : Int) - 48)) / 2 < a := by omega
              go_wp2
              go_round
              case rel => exact ⟨k + 1, by omega, by go_num, .inr ⟨a, a0, a1, rfl, rfl, HF.out⟩⟩
              case measure => simp [intOf]; omega
            · have HN : Hid (a * 2 + ((c : Int) - 48) = ((acc * 2 + (c - 48) : Nat) : Int) ∧ acc * 2 + (c - 48) < 18446744073709551616 ∧ pu 2 0 l = pu 2 (acc * 2 + (c - 48)) (l.drop (k + 1))) := by
                have h1 := HA.out
                refine ⟨by omega, by omega, ?_⟩
                rw [HD.out, pu_step (by rw [HCC.out, dv_dig hl0 hl1]; omega) (by rw [HCC.out, dv_dig hl0 hl1]; omega), HCC.out, dv_dig hl0 hl1]
              have hq : a ≤ (18446744073709551615 - ((c : Int) - 48)) / 2 := by omega
              have iov : a * 2 + ((c : Int) - 48) < 18446744073709551616 := by omega
              clear hov
              go_wp2
              go_round
              case rel => exact ⟨k + 1, by omega, by go_num, .inl ⟨acc * 2 + (c - 48), a * 2 + ((c : Int) - 48), by go_num, rfl, HN⟩⟩
              case measure => simp [intOf]; omega
          · skip
            have HF : Hid (pu 2 0 l = none) := by rw [Hid, HD.out, pu_bad (by rw [HCC.out, dv_dig hl0 hl1]; omega)]
            go_wp2
            go_ret3
            exact ⟨_, rfl, by rw [HF.out]; exact ⟨_, _, rfl⟩, rfl⟩
        · skip
          by_cases hlow : 97 ≤ c ∧ c ≤ 122
          · obtain ⟨hl0, hl1⟩ := hlow
            have HF : Hid (pu 2 0 l = none) := by rw [Hid, HD.out, pu_bad (by rw [HCC.out, dv_low hl0 hl1]; omega)]
            go_wp2
            go_ret3
            exact ⟨_, rfl, by rw [HF.out]; exact ⟨_, _, rfl⟩, rfl⟩
          · skip
            by_cases hup : 65 ≤ c ∧ c ≤ 90
            · obtain ⟨hl0, hl1⟩ := hup
              have HF : Hid (pu 2 0 l = none) := by rw [Hid, HD.out, pu_bad (by rw [HCC.out, dv_up hl0 hl1]; omega)]
              go_wp2
              go_ret3
              exact ⟨_, rfl, by rw [HF.out]; exact ⟨_, _, rfl⟩, rfl⟩
            · skip
              have HF : Hid (pu 2 0 l = none) := by rw [Hid, HD.out, pu_bad (by rw [HCC.out, dv_no hdig hlow hup]; omega)]
              rcases (show c < 48 ∨ (57 < c ∧ c < 65) ∨ (90 < c ∧ c < 97) ∨ 122 < c from by omega) with h | ⟨h, h'⟩ | ⟨h, h'⟩ | h
              all_goals
                clear hdig hlow hup
                go_wp2
                go_ret3
                exact ⟨_, rfl, by rw [HF.out]; exact ⟨_, _, rfl⟩, rfl⟩
      · clear HDROP
        by_cases hdig : 48 ≤ c ∧ c ≤ 57
        · obtain ⟨hl0, hl1⟩ := hdig
          by_cases hdb : c < 50
          · skip
            have HF : Hid (pu 2 0 l = none) := hn
            clear hn
            go_wp2
            go_round
            case rel => exact ⟨k + 1, by omega, by go_num, .inr ⟨a, a0, a1, rfl, rfl, HF.out⟩⟩
            case measure => simp [intOf]; omega
          · skip
            have HF : Hid (pu 2 0 l = none) := by exact hn
            clear hn
            go_wp2
            go_ret3
            exact ⟨_, rfl, by rw [HF.out]; exact ⟨_, _, rfl⟩, rfl⟩
        · skip
          by_cases hlow : 97 ≤ c ∧ c ≤ 122
          · obtain ⟨hl0, hl1⟩ := hlow
            have HF : Hid (pu 2 0 l = none) := by exact hn
            clear hn
            go_wp2
            go_ret3
            exact ⟨_, rfl, by rw [HF.out]; exact ⟨_, _, rfl⟩, rfl⟩
          · skip
            by_cases hup : 65 ≤ c ∧ c ≤ 90
            · obtain ⟨hl0, hl1⟩ := hup
              have HF : Hid (pu 2 0 l = none) := by exact hn
              clear hn
              go_wp2
              go_ret3
              exact ⟨_, rfl, by rw [HF.out]; exact ⟨_, _, rfl⟩, rfl⟩
            · skip
              have HF : Hid (pu 2 0 l = none) := by exact hn
              clear hn
              rcases (show c < 48 ∨ (57 < c ∧ c < 65) ∨ (90 < c ∧ c < 97) ∨ 122 < c from by omega) with h | ⟨h, h'⟩ | ⟨h, h'⟩ | h
              all_goals
                clear hdig hlow hup
                go_wp2
                go_ret3
                exact ⟨_, rfl, by rw [HF.out]; exact ⟨_, _, rfl⟩, rfl⟩
    · have hkk : k = s.size := by omega
      rcases hmr with ⟨acc, a, rfl, rfl, hh⟩ | ⟨a, a0, a1, rfl, rfl, hn⟩
      · obtain ⟨ha, hacc, hdec⟩ := hh.out
        have HF : Hid (pu 2 0 l = some acc) := by
          rw [Hid, hdec, List.drop_eq_nil_of_le (by omega)]; rfl
        have HAC : Hid (acc < 18446744073709551616) := hacc
        subst ha
        clear hh hdec hacc
        go_wp2
        go_ret3
        exact ⟨_, rfl, by rw [HF.out]; exact ⟨HAC.out, rfl⟩, rfl⟩
      · have HF : Hid (pu 2 0 l = none) := hn
        clear hn
        go_wp2
        go_ret3
        exact ⟨_, rfl, by rw [HF.out]; exact ⟨_, _, rfl⟩, rfl⟩

end Go.Proofs.Qxb6601198aDoor

import Derived.Test.Qxb6601198aDoorWalkA
namespace Go.Proofs.Qxb6601198aDoor
open Go.RowKit

set_option maxHeartbeats 8000000 in
set_option maxRecDepth 100000 in
theorem pu_dec (s : ByteArray) (h0 : 0 < s.size) (hb0 : s[0].toNat ≠ 48) (hne : s.size ≠ 0) (hmax : s.size ≤ 1048600) (hus : ∀ c ∈ s.data.toList, c.toNat ≠ 95) (w : World) :
    Calls Tryd.prog 27 #[.string s, .int .i64 0, .int .i64 64] w fun e w' => ∃ r, e = .returned r ∧ UOK (pu 10 0 (s).data.toList) r ∧ Below w.heap.size w w' := by
  have hemp : s.toList.isEmpty = false := by
    rw [← decide_eq_emptyBytes]
    exact decide_eq_false (fun h => hne (by rw [h]; rfl))
  have hcv := Lib.run_convert_string_bytes (P := Tryd.prog) w 9 37 5 (s) (u := .string) Tryd.underlying9 Tryd.underlying37 Tryd.underlying5
  have hB : ∀ j, j < (s).size → (Lib.bytesWorld w 5 (s)).cell? ⟨w.heap.size, j, none⟩ = some (.int .u8 ((s).data.toList.getD j 0).toNat) := fun j hj => Lib.bytesWorld_cell w 5 (s) j hj
  have hbel : Below w.heap.size w (Lib.bytesWorld w 5 (s)) := Lib.bytesWorld_below w 5 _
  obtain ⟨W1, hW1⟩ : ∃ W1, W1 = Lib.bytesWorld w 5 (s) := ⟨_, rfl⟩
  rw [← hW1] at hcv hB hbel
  clear hW1
  obtain ⟨bs, hL⟩ : ∃ bs, bs = (s).data.toList := ⟨_, rfl⟩
  obtain ⟨tn, htn⟩ : ∃ tn, tn = (s).size := ⟨_, rfl⟩
  have hLn : bs.length = tn := by rw [hL, htn]; exact (Lib.size_eq _).symm
  have hub : ∀ c ∈ bs, c.toNat ≠ 95 := by rw [hL]; exact hus
  have htm : tn ≤ 1048600 := by rw [htn]; exact hmax
  skip
  rw [← hL, ← htn] at hB
  rw [← hL]
  rw [← htn] at hcv
  have HLT : Hid (bs = (s).data.toList) := hL
  clear hL htn
  have hmv : IntKind.u64.wrap (IntKind.u64.wrap 18446744073709551616 - 1) = 18446744073709551615 := by
    rw [IntKind.wrap_u64, IntKind.wrap_u64]
    decide
  obtain ⟨b0, hb⟩ : ∃ b, s[0].toNat = b := ⟨_, rfl⟩
  rw [hb] at hb0
  have hk0 : ((b0 : Int) == 48) = false := by simp; omega
  clear hb0
  go_enter Tryd.func27, Tryd.ntmps27
  go_wp2
  go_loop [12, 13, 15, 16, 17, 101] (fun vu vn _ _ _ vi => ∃ (k acc : Nat) (a : Int), vu = .bool false ∧ vn = .int .u64 a ∧ vi = .int .i64 k ∧ k ≤ tn ∧ Hid (a = (acc : Int) ∧ acc < 18446744073709551616 ∧ pu 10 0 bs = pu 10 acc (bs.drop k)))
    (fun _ _ _ _ _ vi => tn - (intOf vi).toNat)
  case atStart => exact ⟨0, 0, 0, rfl, rfl, rfl, by omega, rfl, by omega, rfl⟩
  case round =>
    obtain ⟨k, acc, a, rfl, rfl, rfl, hk, hh⟩ := hrel
    obtain ⟨ha, hacc, hdec⟩ := hh.out
    clear hh
    have a0 : 0 ≤ a := by omega
    have a1 : a < 18446744073709551616 := by omega
    by_cases hkn : k < tn
    · have hc := hB k hkn
      have hdrop : bs.drop k = bs[k]'(by omega) :: bs.drop (k + 1) := List.drop_eq_getElem_cons (by omega)
      have hget : bs.getD k 0 = bs[k]'(by omega) := by simp [List.getD, List.getElem?_eq_getElem (show k < bs.length by omega)]
      have hcu : (bs[k]'(by omega)).toNat ≠ 95 := hub _ (List.getElem_mem _)
      rw [hdrop] at hdec
      rw [hget] at hc
      generalize bs[k]'(by omega) = ch at hc hdec hcu
      have hc256 : ch.toNat < 256 := ch.toNat_lt
      clear hB hdrop hget hub
      obtain ⟨c, hcc⟩ : ∃ c, c = ch.toNat := ⟨_, rfl⟩
      rw [← hcc] at hc hc256 hcu
      have HCC : Hid (c = ch.toNat) := hcc
      clear hcc
      have HD : Hid (pu 10 0 bs = pu 10 acc (ch :: bs.drop (k + 1))) := hdec
      have HA : Hid (a = (acc : Int)) := ha
      have HAC : Hid (acc < 18446744073709551616) := hacc
      clear hdec ha hacc
      have hu95 : ((c : Int) == 95) = false := by simp; omega
      have hlow := fun W => lower33 c hc256 W
      have h32 := or32 ⟨c, hc256⟩
      simp only at h32
      obtain ⟨h32a, h32b, h32c, h32d⟩ := h32
      by_cases hdig : 48 ≤ c ∧ c ≤ 57
      · obtain ⟨hd0, hd1⟩ := hdig
        clear h32a h32b h32c h32d hlow
        by_cases hcut : 1844674407370955162 ≤ a
        · have HF : Hid (pu 10 0 bs = none) := by
            have h1 := HA.out
            rw [Hid, HD.out, pu_over (by rw [← HCC.out, dv_dig hd0 hd1]; omega)]
          go_wp2
          go_ret2
          exact ⟨_, rfl, by rw [HF.out]; exact .inr rfl, hbel⟩
        · by_cases hov : 18446744073709551616 ≤ a * 10 + ((c : Int) - 48)
          · have HF : Hid (pu 10 0 bs = none) := by
              have h1 := HA.out
              rw [Hid, HD.out, pu_over (by rw [← HCC.out, dv_dig hd0 hd1]; omega)]
            have icut : a < 1844674407370955162 := by omega
            have hwr : IntKind.u64.wrap (a * 10 + ((c : Int) - 48)) = a * 10 + ((c : Int) - 48) - 18446744073709551616 := by
              rw [IntKind.wrap_u64]; omega
            clear hcut
            go_wp2
            go_ret2
            exact ⟨_, rfl, by rw [HF.out]; exact .inr rfl, hbel⟩
          · have HN : Hid (a * 10 + ((c : Int) - 48) = ((acc * 10 + (c - 48) : Nat) : Int) ∧ acc * 10 + (c - 48) < 18446744073709551616 ∧ pu 10 0 bs = pu 10 (acc * 10 + (c - 48)) (bs.drop (k + 1))) := by
              have h1 := HA.out
              refine ⟨by omega, by omega, ?_⟩
              rw [HD.out, pu_step (by rw [← HCC.out, dv_dig hd0 hd1]; omega) (by rw [← HCC.out, dv_dig hd0 hd1]; omega), ← HCC.out, dv_dig hd0 hd1]
            have icut : a < 1844674407370955162 := by omega
            have iov : a * 10 + ((c : Int) - 48) < 18446744073709551616 := by omega
            clear hcut hov
            go_wp2
            go_round
            case rel => exact ⟨k + 1, acc * 10 + (c - 48), a * 10 + ((c : Int) - 48), rfl, (by go_num), (by go_num), by omega, HN⟩
            case measure => simp [intOf]; omega
      · by_cases hlo : 97 ≤ c ∧ c ≤ 122
        · obtain ⟨hl0, hl1⟩ := hlo
          have e := h32b hl0 hl1
          rw [e] at hlow
          clear e h32a h32b h32c h32d
          have HF : Hid (pu 10 0 bs = none) := by
            rw [Hid, HD.out, pu_bad (by rw [← HCC.out, dv_low hl0 hl1]; omega)]
          go_wp2_with (go_at_call 33; refine (hlow _).mono ?_; rintro e w' ⟨rfl, hw⟩; obtain rfl := hw.symm)
          go_ret2
          exact ⟨_, rfl, by rw [HF.out]; exact .inl rfl, hbel⟩
        · by_cases hup : 65 ≤ c ∧ c ≤ 90
          · obtain ⟨hl0, hl1⟩ := hup
            have e := h32c hl0 hl1
            rw [e, show (((c + 32 : Nat) : Int)) = (c : Int) + 32 from by omega] at hlow
            clear e h32a h32b h32c h32d
            have HF : Hid (pu 10 0 bs = none) := by
              rw [Hid, HD.out, pu_bad (by rw [← HCC.out, dv_up hl0 hl1]; omega)]
            go_wp2_with (go_at_call 33; refine (hlow _).mono ?_; rintro e w' ⟨rfl, hw⟩; obtain rfl := hw.symm)
            go_ret2
            exact ⟨_, rfl, by rw [HF.out]; exact .inl rfl, hbel⟩
          · obtain ⟨v, hv⟩ : ∃ v, v = (c ||| 32) := ⟨_, rfl⟩
            rw [← hv] at hlow h32a h32d
            have hvn : v < 97 ∨ 122 < v := by
              rcases Nat.lt_or_ge v 97 with h | h
              · exact .inl h
              · rcases Nat.lt_or_ge 122 v with h' | h'
                · exact .inr h'
                · rcases h32d h h' with h'' | h''
                  · exact absurd h'' hlo
                  · exact absurd h'' hup
            have HF : Hid (pu 10 0 bs = none) := by
              rw [Hid, HD.out, pu_bad (by rw [← HCC.out, dv_no hdig hlo hup]; omega)]
            have hdig' : c < 48 ∨ 57 < c := by omega
            clear hv h32b h32c h32d hdig hlo hup
            rcases hvn with hvn | hvn <;> rcases hdig' with hdig' | hdig'
            all_goals
              go_wp2_with (go_at_call 33; refine (hlow _).mono ?_; rintro e w' ⟨rfl, hw⟩; obtain rfl := hw.symm)
              go_ret2
              exact ⟨_, rfl, by rw [HF.out]; exact .inl rfl, hbel⟩
    · have hkk : k = tn := by omega
      subst hkk
      have HF : Hid (pu 10 0 bs = some acc) := by
        rw [Hid, hdec, List.drop_eq_nil_of_le (by omega)]; rfl
      have HAC : Hid (acc < 18446744073709551616) := hacc
      subst ha
      clear hdec hacc a0 a1
      go_wp2
      go_ret2
      exact ⟨_, rfl, by rw [HF.out]; exact ⟨HAC.out, rfl⟩, hbel⟩

end Go.Proofs.Qxb6601198aDoor

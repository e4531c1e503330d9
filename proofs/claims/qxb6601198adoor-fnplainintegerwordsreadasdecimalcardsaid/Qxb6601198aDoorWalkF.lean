import Derived.Test.Qxb6601198aDoorWalkE
namespace Go.Proofs.Qxb6601198aDoor
open Go.RowKit

theorem readAs_none {f : List UInt8 → Option Nat} {x : Nat × List UInt8} (h : f x.2 = none) : readAs f x = (0, 0, false) := by rw [readAs, h]
theorem readAs_some {f : List UInt8 → Option Nat} {x : Nat × List UInt8} {m : Nat} (h : f x.2 = some m) : readAs f x = expI m x.1 := by rw [readAs, h]
theorem modelG_no {l : List UInt8} (h : (readAs u0 (sgn l)).2.2 = false) : modelG l = second l := by rw [modelG, h]; simp
theorem modelG_yes {l : List UInt8} (h : (readAs u0 (sgn l)).2.2 = true) : modelG l = readAs u0 (sgn l) := by rw [modelG, if_pos h]
theorem nil_of {s : ByteArray} (h : ¬ 0 < s.size) : s.data.toList = [] := List.eq_nil_of_length_eq_zero (by rw [← Lib.size_eq]; omega)
theorem ne_nil_of {s : ByteArray} (h : 0 < s.size) : s.data.toList ≠ [] := fun hh => by rw [Lib.size_eq, hh] at h; exact absurd h (by simp)

/-- "0b" or "0o" ahead. -/
def pfx (s : ByteArray) : Bool := decide (∃ h : 2 ≤ s.size, s[0].toNat = 48 ∧ (s[1].toNat = 98 ∨ s[1].toNat = 111))

theorem pre2 {s : ByteArray} (h2 : 2 ≤ s.size) (x : UInt8) : Lib.hasPrefix s.data.toList [48, x] = true ↔ s[0].toNat = 48 ∧ s[1].toNat = x.toNat := by
  obtain ⟨c0, r, hL⟩ := cons_of (s := s) (by omega)
  have hs0 : s[0] = c0 := by have := Lib.getD_at s 0 (by omega); rw [hL] at this; exact this
  have hz : r.length + 1 = s.size := by rw [Lib.size_eq, hL]; rfl
  match r, hz, hL with
  | [], hz, _ => simp at hz; omega
  | c1 :: r2, _, hL =>
    have hs1 : s[1] = c1 := by have := Lib.getD_at s 1 (by omega); rw [hL] at this; exact this
    rw [hL, hs0, hs1, Lib.hasPrefix]
    have e0 : (48 : UInt8) = c0 ↔ c0.toNat = 48 := ⟨fun h => by rw [← h]; rfl, fun h => UInt8.toNat_inj.mp h.symm⟩
    have e1 : x = c1 ↔ c1.toNat = x.toNat := ⟨fun h => by rw [h], fun h => UInt8.toNat_inj.mp h.symm⟩
    simp [List.isPrefixOf, e0, e1]
theorem pre_short {s : ByteArray} (h2 : ¬ 2 ≤ s.size) (x : UInt8) : ¬ Lib.hasPrefix s.data.toList [48, x] = true := by
  intro h
  have := (List.isPrefixOf_iff_prefix.mp h).length_le
  rw [← Lib.size_eq] at this
  exact h2 this

theorem second_none {s : ByteArray} (h : pfx s = false) : second s.data.toList = (0, 0, false) := by
  have hn := of_decide_eq_false h
  by_cases h2 : 2 ≤ s.size
  · rw [second, if_neg (fun hh => hn ⟨h2, ((pre2 h2 98).mp hh).1, .inl ((pre2 h2 98).mp hh).2⟩), if_neg (fun hh => hn ⟨h2, ((pre2 h2 111).mp hh).1, .inr ((pre2 h2 111).mp hh).2⟩)]
  · rw [second, if_neg (pre_short h2 _), if_neg (pre_short h2 _)]
theorem second_b {s : ByteArray} (h2 : 2 ≤ s.size) (h0 : s[0].toNat = 48) (h1 : s[1].toNat = 98) : second s.data.toList = readAs (ub 2) (sgn (s.data.toList.drop 2)) := by
  rw [second, if_pos ((pre2 h2 98).mpr ⟨h0, h1⟩)]
theorem second_o {s : ByteArray} (h2 : 2 ≤ s.size) (h0 : s[0].toNat = 48) (h1 : s[1].toNat = 111) : second s.data.toList = readAs (ub 8) (sgn (s.data.toList.drop 2)) := by
  rw [second, if_neg (fun hh => by have := ((pre2 h2 98).mp hh).2; rw [h1] at this; exact absurd this (by decide)), if_pos ((pre2 h2 111).mpr ⟨h0, h1⟩)]

theorem ub_eq (b : Nat) (l : List UInt8) (h : l ≠ []) : ub b l = pu b 0 l := by
  cases l with
  | nil => exact absurd rfl h
  | cons c r => rfl

set_option maxHeartbeats 8000000 in
set_option maxRecDepth 100000 in
theorem model13 (s : ByteArray) (hmax : s.size ≤ 1048600) (w : World) :
    Calls Tryd.prog 13 #[.string s] w fun e w' => e = .returned (three (modelG s.data.toList)) ∧ w' = w := by
  go_enter Tryd.func13, Tryd.ntmps13
  go_upto_region 3 with fail
  go_cut [30] from 30 to 30 (fun st wx => wx = w ∧ st = .bool (firstIs s 43))
  case first =>
    by_cases h0 : 0 < s.size
    · obtain ⟨c, hb⟩ : ∃ c, s[0].toNat = c := ⟨_, rfl⟩
      by_cases hc : c = 43
      · subst hc
        have hf : firstIs s 43 = true := firstIs_true h0 hb
        go_wp2
        go_meet
        exact ⟨rfl, by rw [hf]⟩
      · have hf : firstIs s 43 = false := firstIs_false (fun _ => by rw [hb]; exact hc)
        have hcb : ((c : Int) == 43) = false := by simp; omega
        go_wp2
        go_meet
        exact ⟨rfl, by rw [hf]⟩
    · have hf : firstIs s 43 = false := firstIs_false (fun h => absurd h h0)
      have hz : s.size = 0 := by omega
      go_wp2
      go_meet
      exact ⟨rfl, by rw [hf]⟩
  case rest =>
  obtain ⟨hw, rfl⟩ := hcut
  subst hw
  go_upto_if 30 with fail
  go_cut [5, 6] from 30 to 30 (fun sa sb wx => wx = wc ∧ ∃ (sg : Nat) (body : ByteArray), sa = .int .i64 sg ∧ sb = .string body ∧ body.size ≤ s.size ∧ (sg = 0 ∨ sg = 1 ∨ sg = 2) ∧ Hid (sgn s.data.toList = (sg, body.data.toList)))
  case first =>
    cases hp : firstIs s 43
    case true =>
      obtain ⟨h0, hc⟩ := of_decide_eq_true hp
      have HS : Hid _ := sgn_plus h0 hc
      clear hp hc
      go_wp2
      go_meet
      exact ⟨rfl, 1, _, rfl, rfl, by simp, by omega, HS⟩
    case false =>
      have HP : Hid (¬ firstIs s 43 = true) := Bool.eq_false_iff.mp hp
      clear hp
      by_cases h0 : 0 < s.size
      · obtain ⟨c, hb⟩ : ∃ c, s[0].toNat = c := ⟨_, rfl⟩
        have HC : Hid (c ≠ 43) := fun h => HP.out (firstIs_true h0 (by rw [hb, h]))
        have HB : Hid (s[0].toNat = c) := hb
        by_cases hc : c = 45
        · subst hc
          have HS : Hid _ := sgn_minus h0 hb
          go_wp2
          go_meet
          exact ⟨rfl, 2, _, rfl, rfl, by simp, by omega, HS⟩
        · have HS : Hid _ := sgn_none (s := s) (fun _ => by rw [hb]; exact ⟨HC.out, hc⟩)
          have hcb : ((c : Int) == 45) = false := by simp; omega
          go_wp2
          go_meet
          exact ⟨rfl, 0, s, rfl, rfl, Nat.le_refl _, by omega, HS⟩
      · have HS : Hid _ := sgn_none (s := s) (fun h => absurd h h0)
        have hz : s.size = 0 := by omega
        go_wp2
        go_meet
        exact ⟨rfl, 0, s, rfl, rfl, Nat.le_refl _, by omega, HS⟩
  case rest =>
  obtain ⟨hw, sg, body, rfl, rfl, hbs, hsg, HS⟩ := hcut
  subst hw
  go_upto_if 45 with fail
  go_cut [] from 43 to 45 (fun wx => wx = wc ∧ Hid (modelG s.data.toList = second s.data.toList))
  case first =>
    by_cases hz : 0 < body.size
    · have hbm : body.size ≤ 1048600 := by omega
      clear hbs hmax
      go_upto_if 49 with fail
      go_cut [7, 8] from 43 to 49 (fun s7 s8 wx => wx = wc ∧ ∃ (bb : Nat) (dg : ByteArray), s7 = .int .u64 bb ∧ s8 = .string dg ∧ dg.size ≤ body.size ∧ (bb = 2 ∨ bb = 8 ∨ bb = 10 ∨ bb = 16) ∧ Hid (eff body.data.toList = (bb, dg.data.toList)))
      case first =>
        obtain ⟨c, hb⟩ : ∃ c, body[0].toNat = c := ⟨_, rfl⟩
        by_cases h48 : c = 48
        · subst h48
          by_cases h3 : 3 ≤ body.size
          · obtain ⟨d, hd⟩ : ∃ d, body[1].toNat = d := ⟨_, rfl⟩
            have HE0 := eff_long h3 hb
            rw [hd] at HE0
            have hd6 : d < 256 := by rw [← hd]; exact body[1].toNat_lt
            by_cases e1 : d = 98 ∨ d = 66
            · have HE : Hid (eff body.data.toList = (2, (body.extract 2 body.size).data.toList)) := by rw [Hid, HE0, if_pos e1]
              clear HE0 hd6
              rcases e1 with rfl | rfl
              all_goals
                go_wp2
                go_meet
                exact ⟨rfl, 2, _, rfl, rfl, by simp, by omega, HE⟩
            · rw [if_neg e1] at HE0
              have e1a : ((d : Int) == 98) = false := by simp; omega
              have e1b : ((d : Int) == 66) = false := by simp; omega
              clear e1
              by_cases e2 : d = 111 ∨ d = 79
              · have HE : Hid (eff body.data.toList = (8, (body.extract 2 body.size).data.toList)) := by rw [Hid, HE0, if_pos e2]
                clear HE0 hd6
                rcases e2 with rfl | rfl
                all_goals
                  go_wp2
                  go_meet
                  exact ⟨rfl, 8, _, rfl, rfl, by simp, by omega, HE⟩
              · rw [if_neg e2] at HE0
                have e2a : ((d : Int) == 111) = false := by simp; omega
                have e2b : ((d : Int) == 79) = false := by simp; omega
                clear e2
                by_cases e3 : d = 120 ∨ d = 88
                · have HE : Hid (eff body.data.toList = (16, (body.extract 2 body.size).data.toList)) := by rw [Hid, HE0, if_pos e3]
                  clear HE0 hd6
                  rcases e3 with rfl | rfl
                  all_goals
                    go_wp2
                    go_meet
                    exact ⟨rfl, 16, _, rfl, rfl, by simp, by omega, HE⟩
                · have HE : Hid (eff body.data.toList = (8, (body.extract 1 body.size).data.toList)) := by rw [Hid, HE0, if_neg e3]
                  have e3a : ((d : Int) == 120) = false := by simp; omega
                  have e3b : ((d : Int) == 88) = false := by simp; omega
                  clear e3 HE0 hd6
                  go_wp2
                  go_meet
                  exact ⟨rfl, 8, _, rfl, rfl, by simp, by omega, HE⟩
          · have HE : Hid _ := eff_short hz hb (by omega)
            have h3' : (body.size : Int) < 3 := by omega
            clear h3
            go_wp2
            go_meet
            exact ⟨rfl, 8, _, rfl, rfl, by simp, by omega, HE⟩
        · have HE : Hid _ := eff_dec hz (by rw [hb]; exact h48)
          have hcb : ((c : Int) == 48) = false := by simp; omega
          go_wp2
          go_meet
          exact ⟨rfl, 10, body, rfl, rfl, Nat.le_refl _, by omega, HE⟩
      case rest =>
        obtain ⟨hw, bb, dg, rfl, rfl, hds, hbb, HE⟩ := hcut
        subst hw
        have hm9 := mag9 bb hbb dg (by omega) wc
        have HU : Hid (u0 body.data.toList = pu bb 0 dg.data.toList) := by rw [Hid, u0_eq _ (ne_nil_of hz), HE.out]
        clear hz hbm hds hbb HE
        cases hpu : pu bb 0 dg.data.toList with
        | none =>
          have HF : Hid (modelG s.data.toList = second s.data.toList) := by
            rw [Hid, modelG_no]
            rw [HS.out, readAs_none (by rw [HU.out]; exact hpu)]
          rw [hpu] at hm9
          clear hpu HU
          have hm9' : Calls Tryd.prog 9 #[.string dg, .int .u64 bb] wc fun e w' => (∃ (m : Int) (x : Bool), e = .returned (.tuple #[.int .u64 m, .bool x, .bool false])) ∧ w' = wc := hm9.mono (by rintro e w' ⟨r, rfl, ⟨m, x, rfl⟩, rfl⟩; exact ⟨⟨m, x, rfl⟩, rfl⟩)
          clear hm9
          go_wp2_with (go_at_call 9; refine hm9'.mono ?_; rintro e w' ⟨⟨m, x, rfl⟩, hw⟩; obtain rfl := hw.symm; cases x)
          all_goals
            go_meet
            exact ⟨rfl, HF⟩
        | some m =>
          rw [hpu] at hm9
          have hm9' : Calls Tryd.prog 9 #[.string dg, .int .u64 bb] wc fun e w' => (e = .returned (.tuple #[.int .u64 m, .bool true, .bool true]) ∧ m < 18446744073709551616) ∧ w' = wc := hm9.mono (by rintro e w' ⟨r, rfl, ⟨hm, rfl⟩, rfl⟩; exact ⟨⟨rfl, hm⟩, rfl⟩)
          have HR : Hid (readAs u0 (sgn s.data.toList) = expI m sg) := by rw [Hid, HS.out, readAs_some (by rw [HU.out]; exact hpu)]
          clear hm9 hpu HU
          have hx := fun hm => exp10 m sg hm hsg wc
          obtain ⟨i, u, ok, hxe⟩ : ∃ i u ok, expI m sg = (i, u, ok) := ⟨_, _, _, rfl⟩
          rw [hxe] at hx HR
          clear hxe hsg
          have hx' : m < 18446744073709551616 → Calls Tryd.prog 10 #[.int .u64 m, .int .i64 sg] wc fun e w' => e = .returned (.tuple #[.int .i64 i, .int .u64 u, .bool ok]) ∧ w' = wc := hx
          clear hx
          cases ok with
          | true =>
            have HF : Hid (modelG s.data.toList = (i, u, true)) := by
              rw [Hid, modelG_yes (by rw [HR.out]), HR.out]
            go_wp2_with (first
              | (go_at_call 9; refine hm9'.mono ?_; rintro e w' ⟨⟨rfl, hm⟩, hw⟩; obtain rfl := hw.symm; have hx := hx' hm; clear hm hx')
              | (go_at_call 10; refine hx.mono ?_; rintro e w' ⟨rfl, hw⟩; obtain rfl := hw.symm))
            go_ret3
            exact ⟨by rw [HF.out]; rfl, rfl⟩
          | false =>
            have HF : Hid (modelG s.data.toList = second s.data.toList) := by
              rw [Hid, modelG_no (by rw [HR.out])]
            go_wp2_with (first
              | (go_at_call 9; refine hm9'.mono ?_; rintro e w' ⟨⟨rfl, hm⟩, hw⟩; obtain rfl := hw.symm; have hx := hx' hm; clear hm hx')
              | (go_at_call 10; refine hx.mono ?_; rintro e w' ⟨rfl, hw⟩; obtain rfl := hw.symm))
            go_meet
            exact ⟨rfl, HF⟩
    · have HF : Hid (modelG s.data.toList = second s.data.toList) := by
        rw [Hid, modelG_no]
        rw [HS.out, readAs_none (by rw [nil_of hz]; rfl)]
      have hz' : body.size = 0 := by omega
      go_wp2
      go_meet
      exact ⟨rfl, HF⟩
  case rest =>
  obtain ⟨hw, HM⟩ := hcut
  subst hw
  clear HS hsg hbs
  go_upto_region 30 with fail
  go_cut [119] from 119 to 119 (fun st wx => wx = wc ∧ st = .bool (pfx s))
  case first =>
    clear HM
    by_cases h2 : 2 ≤ s.size
    · obtain ⟨c, hb⟩ : ∃ c, s[0].toNat = c := ⟨_, rfl⟩
      obtain ⟨d, hd⟩ : ∃ d, s[1].toNat = d := ⟨_, rfl⟩
      by_cases h48 : c = 48
      · subst h48
        by_cases h98 : d = 98
        · subst h98
          have hf : pfx s = true := decide_eq_true ⟨h2, hb, .inl hd⟩
          have HF : Hid (pfx s = true) := hf
          clear hf
          go_wp2
          go_meet
          exact ⟨rfl, by rw [HF.out]⟩
        · have e1 : ((d : Int) == 98) = false := by simp; omega
          by_cases h111 : d = 111
          · subst h111
            have HF : Hid (pfx s = true) := decide_eq_true ⟨h2, hb, .inr hd⟩
            go_wp2
            go_meet
            exact ⟨rfl, by rw [HF.out]⟩
          · have e2 : ((d : Int) == 111) = false := by simp; omega
            have HF : Hid (pfx s = false) := decide_eq_false (by rintro ⟨_, _, h | h⟩ <;> omega)
            clear h98 h111
            go_wp2
            go_meet
            exact ⟨rfl, by rw [HF.out]⟩
      · have e0 : ((c : Int) == 48) = false := by simp; omega
        have HF : Hid (pfx s = false) := decide_eq_false (by rintro ⟨_, h, _⟩; omega)
        clear h48
        go_wp2
        go_meet
        exact ⟨rfl, by rw [HF.out]⟩
    · have HF : Hid (pfx s = false) := decide_eq_false (by rintro ⟨h, _⟩; exact h2 h)
      have h2' : (s.size : Int) < 2 := by omega
      clear h2
      go_wp2
      go_meet
      exact ⟨rfl, by rw [HF.out]⟩
  case rest =>
  obtain ⟨hw, rfl⟩ := hcut
  subst hw
  cases hp : pfx s
  case false =>
    have HF : Hid (modelG s.data.toList = (0, 0, false)) := by rw [Hid, HM.out, second_none hp]
    clear hp HM
    go_wp2
    go_ret3
    exact ⟨by rw [HF.out]; rfl, rfl⟩
  case true =>
  obtain ⟨h2, h48, h98⟩ := of_decide_eq_true hp
  clear hp
  go_upto_if 122 with fail
  go_cut [16] from 119 to 122 (fun st wx => wx = wc ∧ ∃ bb : Nat, st = .int .u64 bb ∧ (bb = 2 ∨ bb = 8) ∧ Hid (modelG s.data.toList = readAs (ub bb) (sgn (s.data.toList.drop 2))))
  case first =>
    rcases h98 with h98 | h98
    · have HF : Hid (modelG s.data.toList = readAs (ub 2) (sgn (s.data.toList.drop 2))) := by rw [Hid, HM.out, second_b h2 h48 h98]
      clear HM
      go_wp2
      go_meet
      exact ⟨rfl, 2, rfl, .inl rfl, HF⟩
    · have HF : Hid (modelG s.data.toList = readAs (ub 8) (sgn (s.data.toList.drop 2))) := by rw [Hid, HM.out, second_o h2 h48 h98]
      clear HM
      go_wp2
      go_meet
      exact ⟨rfl, 8, rfl, .inr rfl, HF⟩
  case rest =>
  obtain ⟨hw, bb, rfl, hbb, HB⟩ := hcut
  subst hw
  clear HM h98 h48
  go_upto_region 34 with fail
  go_cut [17] from 123 to 124 (fun st wx => wx = wc ∧ ∃ r : ByteArray, st = .string r ∧ r.size ≤ s.size ∧ Hid (modelG s.data.toList = readAs (ub bb) (sgn r.data.toList)))
  case first =>
    have HF : Hid (modelG s.data.toList = readAs (ub bb) (sgn (s.extract 2 s.size).data.toList)) := by rw [Hid, HB.out, Lib.extract_to_end]
    clear HB
    go_wp2
    go_meet
    exact ⟨rfl, _, rfl, by simp, HF⟩
  case rest =>
  obtain ⟨hw, r, rfl, hrs, HR⟩ := hcut
  subst hw
  clear HB h2
  go_upto_region 36 with fail
  go_cut [132] from 132 to 132 (fun st wx => wx = wc ∧ st = .bool (firstIs r 43))
  case first =>
    by_cases h0 : 0 < r.size
    · obtain ⟨c, hb⟩ : ∃ c, r[0].toNat = c := ⟨_, rfl⟩
      by_cases hc : c = 43
      · subst hc
        have hf : firstIs r 43 = true := firstIs_true h0 hb
        go_wp2
        go_meet
        exact ⟨rfl, by rw [hf]⟩
      · have hf : firstIs r 43 = false := firstIs_false (fun _ => by rw [hb]; exact hc)
        have hcb : ((c : Int) == 43) = false := by simp; omega
        go_wp2
        go_meet
        exact ⟨rfl, by rw [hf]⟩
    · have hf : firstIs r 43 = false := firstIs_false (fun h => absurd h h0)
      have hz : r.size = 0 := by omega
      go_wp2
      go_meet
      exact ⟨rfl, by rw [hf]⟩
  case rest =>
  obtain ⟨hw, rfl⟩ := hcut
  subst hw
  go_upto_if 132 with fail
  go_cut [17, 18] from 132 to 132 (fun sa sb wx => wx = wc ∧ ∃ (sg : Nat) (body : ByteArray), sb = .int .i64 sg ∧ sa = .string body ∧ body.size ≤ r.size ∧ (sg = 0 ∨ sg = 1 ∨ sg = 2) ∧ Hid (sgn r.data.toList = (sg, body.data.toList)))
  case first =>
    cases hp : firstIs r 43
    case true =>
      obtain ⟨h0, hc⟩ := of_decide_eq_true hp
      have HS : Hid _ := sgn_plus h0 hc
      clear hp hc
      go_wp2
      go_meet
      exact ⟨rfl, 1, _, rfl, rfl, by simp, by omega, HS⟩
    case false =>
      have HP : Hid (¬ firstIs r 43 = true) := Bool.eq_false_iff.mp hp
      clear hp
      by_cases h0 : 0 < r.size
      · obtain ⟨c, hb⟩ : ∃ c, r[0].toNat = c := ⟨_, rfl⟩
        have HC : Hid (c ≠ 43) := fun h => HP.out (firstIs_true h0 (by rw [hb, h]))
        have HB : Hid (r[0].toNat = c) := hb
        by_cases hc : c = 45
        · subst hc
          have HS : Hid _ := sgn_minus h0 hb
          go_wp2
          go_meet
          exact ⟨rfl, 2, _, rfl, rfl, by simp, by omega, HS⟩
        · have HS : Hid _ := sgn_none (s := r) (fun _ => by rw [hb]; exact ⟨HC.out, hc⟩)
          have hcb : ((c : Int) == 45) = false := by simp; omega
          go_wp2
          go_meet
          exact ⟨rfl, 0, r, rfl, rfl, Nat.le_refl _, by omega, HS⟩
      · have HS : Hid _ := sgn_none (s := r) (fun h => absurd h h0)
        have hz : r.size = 0 := by omega
        go_wp2
        go_meet
        exact ⟨rfl, 0, r, rfl, rfl, Nat.le_refl _, by omega, HS⟩
  case rest =>
  obtain ⟨hw, sg, body, rfl, rfl, hbs, hsg, HS⟩ := hcut
  subst hw
  have HQ : Hid (modelG s.data.toList = readAs (ub bb) (sg, body.data.toList)) := by rw [Hid, HR.out, HS.out]
  clear HR HS
  have hm9 := mag9 bb (by omega) body (by omega) wc
  by_cases hz : 0 < body.size
  · cases hpu : pu bb 0 body.data.toList with
    | none =>
      have HF : Hid (modelG s.data.toList = (0, 0, false)) := by rw [Hid, HQ.out, readAs_none (by rw [ub_eq _ _ (ne_nil_of hz)]; exact hpu)]
      rw [hpu] at hm9
      clear hpu HQ
      have hm9' : Calls Tryd.prog 9 #[.string body, .int .u64 bb] wc fun e w' => (∃ (m : Int) (x : Bool), e = .returned (.tuple #[.int .u64 m, .bool x, .bool false])) ∧ w' = wc := hm9.mono (by rintro e w' ⟨r, rfl, ⟨m, x, rfl⟩, rfl⟩; exact ⟨⟨m, x, rfl⟩, rfl⟩)
      clear hm9
      go_wp2_with (go_at_call 9; refine hm9'.mono ?_; rintro e w' ⟨⟨m, x, rfl⟩, hw⟩; obtain rfl := hw.symm; cases x)
      all_goals
        go_ret3
        exact ⟨by rw [HF.out]; rfl, rfl⟩
    | some m =>
      rw [hpu] at hm9
      have hm9' : Calls Tryd.prog 9 #[.string body, .int .u64 bb] wc fun e w' => (e = .returned (.tuple #[.int .u64 m, .bool true, .bool true]) ∧ m < 18446744073709551616) ∧ w' = wc := hm9.mono (by rintro e w' ⟨r, rfl, ⟨hm, rfl⟩, rfl⟩; exact ⟨⟨rfl, hm⟩, rfl⟩)
      have HE : Hid (modelG s.data.toList = expI m sg) := by rw [Hid, HQ.out, readAs_some (by rw [ub_eq _ _ (ne_nil_of hz)]; exact hpu)]
      clear hm9 hpu HQ
      have hx := fun hm => exp10 m sg hm hsg wc
      obtain ⟨i, u, ok, hxe⟩ : ∃ i u ok, expI m sg = (i, u, ok) := ⟨_, _, _, rfl⟩
      rw [hxe] at hx HE
      clear hxe hsg
      have hx' : m < 18446744073709551616 → Calls Tryd.prog 10 #[.int .u64 m, .int .i64 sg] wc fun e w' => e = .returned (.tuple #[.int .i64 i, .int .u64 u, .bool ok]) ∧ w' = wc := hx
      clear hx
      go_wp2_with (first
        | (go_at_call 9; refine hm9'.mono ?_; rintro e w' ⟨⟨rfl, hm⟩, hw⟩; obtain rfl := hw.symm; have hx := hx' hm; clear hm hx')
        | (go_at_call 10; refine hx.mono ?_; rintro e w' ⟨rfl, hw⟩; obtain rfl := hw.symm))
      go_ret3
      exact ⟨by rw [HE.out]; rfl, rfl⟩
  · have HF : Hid (modelG s.data.toList = (0, 0, false)) := by
      rw [Hid, HQ.out, readAs_none (by rw [nil_of hz]; rfl)]
    have hz' : body.size = 0 := by omega
    clear hm9 HQ
    go_wp2
    go_ret3
    exact ⟨by rw [HF.out]; rfl, rfl⟩

end Go.Proofs.Qxb6601198aDoor

import Derived.Test.Qxb6601198aDoorPlP
import Derived.Test.Qxb6601198aDoorShelf
import Derived.Deep.DeepCutAuto
import Derived.BigQuiet
import Derived.Deep.QuietTactic
import Derived.Below
import Derived.Deep.CutBlock
namespace Go.Proofs.Qxb6601198aDoor
open Go.RowKit

def PlainRes (e : Ending) : Prop := ∃ (word : ByteArray) (ok : Bool), e = .returned (.tuple #[.string word, .bool ok]) ∧ (ok = true → Good word.data.toList) ∧ word.size ≤ 1048600

theorem res_no : PlainRes (.returned (.tuple #[.string ⟨#[]⟩, .bool false])) := ⟨_, false, rfl, fun h => (by cases h), by decide⟩

/-- The world of plain's receiver. -/
def Rcv (B : Nat) (pos : Nat) (w wx : World) : Prop := Below B w wx ∧ wx.cell? ⟨B, 1, none⟩ = some (.int .i64 pos) ∧ wx.frozen? ⟨B, 1, none⟩ = false

theorem has19 (d p : ByteArray) (w : World) : Calls Tryd.prog 19 #[.string d, .string p] w fun e w' => e = .returned (.bool (Lib.hasPrefix d.data.toList p.data.toList)) ∧ w' = w := Any.strings_HasPrefix Tryd.lays99 d p w

def headIs (d : ByteArray) (c : Nat) : Bool := decide (∃ h : 0 < d.size, d[0].toNat = c)
theorem headIs_true {s : ByteArray} {c : Nat} (h0 : 0 < s.size) (h : s[0].toNat = c) : headIs s c = true := decide_eq_true ⟨h0, h⟩
theorem headIs_false {s : ByteArray} {c : Nat} (h : ∀ h0 : 0 < s.size, s[0].toNat ≠ c) : headIs s c = false := decide_eq_false (fun ⟨h0, h1⟩ => h h0 h1)

theorem take_list (s : ByteArray) (k : Nat) : (s.extract 0 k).data.toList = s.data.toList.take k := by simp
theorem ext_size (s : ByteArray) (k : Nat) : (s.extract 0 k).size ≤ s.size := by simp; omega

/-- Byte c at i. -/
def atIs (d : ByteArray) (i : Nat) (c : Nat) : Bool := decide (∃ h : i < d.size, d[i].toNat = c)
/-- One of two bytes at i. -/
def atOne (d : ByteArray) (i : Nat) (c c' : Nat) : Bool := decide (∃ h : i < d.size, d[i].toNat = c ∨ d[i].toNat = c')

theorem cell_set {w : World} {B i : Nat} {x : Value} (h : w.cell? ⟨B, i, none⟩ = some x) (v : Value) : (w.setCell ⟨B, i, none⟩ v).cell? ⟨B, i, none⟩ = some v := by
  go_simp

set_option maxHeartbeats 4000000 in
set_option maxRecDepth 100000 in
theorem plain16 (data : ByteArray) (pos B : Nat) (hds : data.size ≤ 1048576) (hp : pos ≤ data.size) (w : World) (hc0 : w.cell? ⟨B, 0, none⟩ = some (.string data)) (hc1 : w.cell? ⟨B, 1, none⟩ = some (.int .i64 pos)) (hf : w.frozen? ⟨B, 1, none⟩ = false) :
    Calls Tryd.prog 16 #[.pointer (some ⟨B, 0, none⟩)] w fun e w' => PlainRes e ∧ Below B w w' ∧ ∃ v : Int, w'.cell? ⟨B, 1, none⟩ = some (.int .i64 v) := by
  have i0 : ∀ w, (Instr.index 44 (.agg #[.string ⟨#[116, 114, 117, 101]⟩, .string ⟨#[102, 97, 108, 115, 101]⟩, .string ⟨#[110, 117, 108, 108]⟩]) (.int .i64 0)).run Tryd.prog w = .ok (.string ⟨#[116, 114, 117, 101]⟩) w := fun _ => by kernel_rfl
  have i1 : ∀ w, (Instr.index 44 (.agg #[.string ⟨#[116, 114, 117, 101]⟩, .string ⟨#[102, 97, 108, 115, 101]⟩, .string ⟨#[110, 117, 108, 108]⟩]) (.int .i64 1)).run Tryd.prog w = .ok (.string ⟨#[102, 97, 108, 115, 101]⟩) w := fun _ => by kernel_rfl
  have i2 : ∀ w, (Instr.index 44 (.agg #[.string ⟨#[116, 114, 117, 101]⟩, .string ⟨#[102, 97, 108, 115, 101]⟩, .string ⟨#[110, 117, 108, 108]⟩]) (.int .i64 2)).run Tryd.prog w = .ok (.string ⟨#[110, 117, 108, 108]⟩) w := fun _ => by kernel_rfl
  go_enter Tryd.func16, Tryd.ntmps16
  go_upto_region 1 with fail
  go_cut [4] from 10 to 18 (fun s4 wx => (∃ d : ByteArray, s4 = .string d ∧ d.size ≤ 1048576) ∧ Rcv B pos w wx)
  case first =>
    go_quiet (fail)
    go_wp2
    go_meet
    exact ⟨⟨_, rfl, by simp; omega⟩, below_drewN (Below.refl _ _) _, hc1, hf⟩
  case rest =>
  obtain ⟨⟨d, rfl, hd⟩, hbel, hc, hz⟩ := hcut
  clear hc0 hc1 hf hp hds
  go_wp2
  go_loop [6, 20] (fun _ i => ∃ k : Nat, k ≤ 3 ∧ i = .int .i64 k) (fun _ i => 3 - (intOf i).toNat)
  case atStart => exact ⟨0, by omega, rfl⟩
  case round =>
  obtain ⟨k, hk, rfl⟩ := hrel
  rcases (show k = 0 ∨ k = 1 ∨ k = 2 ∨ k = 3 from by omega) with rfl | rfl | rfl | rfl
  · have h19 := fun W => has19 d ⟨#[116, 114, 117, 101]⟩ W
    cases hb : Lib.hasPrefix d.data.toList [116, 114, 117, 101] with
    | true =>
      have h19' : ∀ W, Calls Tryd.prog 19 #[.string d, .string ⟨#[116, 114, 117, 101]⟩] W fun e w' => e = .returned (.bool true) ∧ w' = W := by
        intro W
        have := h19 W
        rw [show Lib.hasPrefix d.data.toList (ByteArray.mk #[116, 114, 117, 101]).data.toList = true from hb] at this
        exact this
      clear h19 hb
      go_wp2_with (go_at_call 19; refine (h19' _).mono ?_; rintro e w' ⟨rfl, hw⟩; obtain rfl := hw.symm)
      go_ret2
      exact ⟨⟨_, true, rfl, fun _ => .inl rfl, by decide⟩, hbel.setCell (Nat.le_refl _) _, _, cell_set hc _⟩
    | false =>
      have h19' : ∀ W, Calls Tryd.prog 19 #[.string d, .string ⟨#[116, 114, 117, 101]⟩] W fun e w' => e = .returned (.bool false) ∧ w' = W := by
        intro W
        have := h19 W
        rw [show Lib.hasPrefix d.data.toList (ByteArray.mk #[116, 114, 117, 101]).data.toList = false from hb] at this
        exact this
      clear h19 hb
      go_wp2_with (go_at_call 19; refine (h19' _).mono ?_; rintro e w' ⟨rfl, hw⟩; obtain rfl := hw.symm)
      go_round
      case rel => exact ⟨1, by omega, by go_num⟩
      case measure => simp [intOf]
  · have h19 := fun W => has19 d ⟨#[102, 97, 108, 115, 101]⟩ W
    cases hb : Lib.hasPrefix d.data.toList [102, 97, 108, 115, 101] with
    | true =>
      have h19' : ∀ W, Calls Tryd.prog 19 #[.string d, .string ⟨#[102, 97, 108, 115, 101]⟩] W fun e w' => e = .returned (.bool true) ∧ w' = W := by
        intro W
        have := h19 W
        rw [show Lib.hasPrefix d.data.toList (ByteArray.mk #[102, 97, 108, 115, 101]).data.toList = true from hb] at this
        exact this
      clear h19 hb
      go_wp2_with (go_at_call 19; refine (h19' _).mono ?_; rintro e w' ⟨rfl, hw⟩; obtain rfl := hw.symm)
      go_ret2
      exact ⟨⟨_, true, rfl, fun _ => .inr (.inl rfl), by decide⟩, hbel.setCell (Nat.le_refl _) _, _, cell_set hc _⟩
    | false =>
      have h19' : ∀ W, Calls Tryd.prog 19 #[.string d, .string ⟨#[102, 97, 108, 115, 101]⟩] W fun e w' => e = .returned (.bool false) ∧ w' = W := by
        intro W
        have := h19 W
        rw [show Lib.hasPrefix d.data.toList (ByteArray.mk #[102, 97, 108, 115, 101]).data.toList = false from hb] at this
        exact this
      clear h19 hb
      go_wp2_with (go_at_call 19; refine (h19' _).mono ?_; rintro e w' ⟨rfl, hw⟩; obtain rfl := hw.symm)
      go_round
      case rel => exact ⟨2, by omega, by go_num⟩
      case measure => simp [intOf]
  · have h19 := fun W => has19 d ⟨#[110, 117, 108, 108]⟩ W
    cases hb : Lib.hasPrefix d.data.toList [110, 117, 108, 108] with
    | true =>
      have h19' : ∀ W, Calls Tryd.prog 19 #[.string d, .string ⟨#[110, 117, 108, 108]⟩] W fun e w' => e = .returned (.bool true) ∧ w' = W := by
        intro W
        have := h19 W
        rw [show Lib.hasPrefix d.data.toList (ByteArray.mk #[110, 117, 108, 108]).data.toList = true from hb] at this
        exact this
      clear h19 hb
      go_wp2_with (go_at_call 19; refine (h19' _).mono ?_; rintro e w' ⟨rfl, hw⟩; obtain rfl := hw.symm)
      go_ret2
      exact ⟨⟨_, true, rfl, fun _ => .inr (.inr (.inl rfl)), by decide⟩, hbel.setCell (Nat.le_refl _) _, _, cell_set hc _⟩
    | false =>
      have h19' : ∀ W, Calls Tryd.prog 19 #[.string d, .string ⟨#[110, 117, 108, 108]⟩] W fun e w' => e = .returned (.bool false) ∧ w' = W := by
        intro W
        have := h19 W
        rw [show Lib.hasPrefix d.data.toList (ByteArray.mk #[110, 117, 108, 108]).data.toList = false from hb] at this
        exact this
      clear h19 hb
      go_wp2_with (go_at_call 19; refine (h19' _).mono ?_; rintro e w' ⟨rfl, hw⟩; obtain rfl := hw.symm)
      go_round
      case rel => exact ⟨3, by omega, by go_num⟩
      case measure => simp [intOf]
  clear i0 i1 i2 hk
  go_upto_region 10 with fail
  go_cut [46] from 46 to 46 (fun st wx => wx = wc ∧ st = .bool (headIs d 45))
  case first =>
    by_cases h0 : 0 < d.size
    · obtain ⟨c, hb⟩ : ∃ c, d[0].toNat = c := ⟨_, rfl⟩
      by_cases hc : c = 45
      · subst hc
        have HF : Hid (headIs d 45 = true) := headIs_true h0 hb
        go_wp2
        go_meet
        exact ⟨rfl, by rw [HF.out]⟩
      · have HF : Hid (headIs d 45 = false) := headIs_false (fun _ => by rw [hb]; exact hc)
        have hcb : ((c : Int) == 45) = false := by simp; omega
        go_wp2
        go_meet
        exact ⟨rfl, by rw [HF.out]⟩
    · have HF : Hid (headIs d 45 = false) := headIs_false (fun h => absurd h h0)
      have hz0 : d.size = 0 := by omega
      go_wp2
      go_meet
      exact ⟨rfl, by rw [HF.out]⟩
  case rest =>
  obtain ⟨hw, rfl⟩ := hcut
  subst hw
  go_upto_if 46 with fail
  go_cut [7] from 46 to 46 (fun s7 wx => wx = wc ∧ ∃ i : Nat, s7 = .int .i64 i ∧ i ≤ d.size ∧ i ≤ 1 ∧ Hid (SgnAt d i))
  case first =>
    cases hp : headIs d 45
    case true =>
      obtain ⟨h0, hcc⟩ := of_decide_eq_true hp
      have HS : Hid (SgnAt d 1) := .inr ⟨rfl, h0, hcc⟩
      clear hp hcc
      go_wp2
      go_meet
      exact ⟨rfl, 1, rfl, by omega, by omega, HS⟩
    case false =>
      clear hp
      go_wp2
      go_meet
      exact ⟨rfl, 0, rfl, by omega, by omega, .inl rfl⟩
  case rest =>
  obtain ⟨hw, i, rfl, hi, hi1, HS⟩ := hcut
  subst hw
  have hdm : d.size ≤ 1048600 := by omega
  go_upto_block 2 with fail
  go_cut [7] from 49 to 49 (fun s7 wx => wx = wc ∧ ∃ i : Nat, s7 = .int .i64 i ∧ i ≤ d.size ∧ Hid (NumAt d i))
  case first =>
    by_cases hlt : i < d.size
    · obtain ⟨c, hb⟩ : ∃ c, d[i].toNat = c := ⟨_, rfl⟩
      rcases (show c < 48 ∨ c = 48 ∨ (49 ≤ c ∧ c ≤ 57) ∨ 57 < c from by omega) with h | h | ⟨h, h'⟩ | h
      · have e48 : ((c : Int) == 48) = false := by simp; omega
        go_wp2
        go_ret2
        exact ⟨res_no, hbel, _, hc⟩
      · subst h
        have HN : Hid (NumAt d (i + 1)) := num_zero HS.out hlt hb
        go_wp2
        go_meet
        exact ⟨rfl, i + 1, by go_num, by omega, HN⟩
      · have e48 : ((c : Int) == 48) = false := by simp; omega
        have h20 := fun W => digits20 d i hdm hi W
        have HB : Hid (49 ≤ d[i].toNat ∧ d[i].toNat ≤ 57) := by rw [Hid, hb]; exact ⟨h, h'⟩
        go_wp2_with (go_at_call 20; refine (h20 _).mono ?_; rintro e w' ⟨⟨k, rfl, hik, hk, hdg, hst⟩, hw⟩; obtain rfl := hw.symm; have HN : Hid (NumAt d k) := num_digits HS.out hlt HB.out.1 HB.out.2 hik hk hdg hst; clear hdg hst)
        go_meet
        exact ⟨rfl, k, rfl, hk, HN⟩
      · have e48 : ((c : Int) == 48) = false := by simp; omega
        go_wp2
        go_ret2
        exact ⟨res_no, hbel, _, hc⟩
    · have hii : i = d.size := by omega
      have HH : Hid (i = d.size) := hii
      have hge : (d.size : Int) ≤ i := by omega
      clear hii
      go_wp2
      go_ret2
      exact ⟨res_no, hbel, _, hc⟩
  case rest =>
  clear HS hi hi1
  obtain ⟨hw, i, rfl, hi, HN⟩ := hcut
  subst hw
  -- the fraction
  go_upto_region 17 with fail
  go_cut [91] from 91 to 91 (fun st wx => wx = wc ∧ st = .bool (atIs d i 46))
  case first =>
    by_cases h0 : i < d.size
    · obtain ⟨c, hb⟩ : ∃ c, d[i].toNat = c := ⟨_, rfl⟩
      by_cases hcc : c = 46
      · subst hcc
        have HF : Hid (atIs d i 46 = true) := decide_eq_true ⟨h0, hb⟩
        go_wp2
        go_meet
        exact ⟨rfl, by rw [HF.out]⟩
      · have HF : Hid (atIs d i 46 = false) := decide_eq_false (by rintro ⟨_, h⟩; rw [hb] at h; exact hcc h)
        have hcb : ((c : Int) == 46) = false := by simp; omega
        go_wp2
        go_meet
        exact ⟨rfl, by rw [HF.out]⟩
    · have HF : Hid (atIs d i 46 = false) := decide_eq_false (by rintro ⟨h, _⟩; exact h0 h)
      have hge : (d.size : Int) ≤ i := by omega
      clear h0
      go_wp2
      go_meet
      exact ⟨rfl, by rw [HF.out]⟩
  case rest =>
  obtain ⟨hw, rfl⟩ := hcut
  subst hw
  go_upto_if 91 with fail
  go_cut [7] from 91 to 91 (fun s7 wx => wx = wc ∧ ∃ i : Nat, s7 = .int .i64 i ∧ i ≤ d.size ∧ Hid (NumOr d i))
  case first =>
    cases hp : atIs d i 46
    case true =>
      obtain ⟨h0, hcc⟩ := of_decide_eq_true hp
      have HM : Hid (∀ k, i < k → NumOr d k) := fun k hk => numOr_mark h0 hk (.inl hcc)
      have h20 : ∀ W, Calls Tryd.prog 20 #[.string d, .int .i64 ((i : Int) + 1)] W fun e w' => (∃ k : Nat, e = .returned (.int .i64 k) ∧ i + 1 ≤ k ∧ k ≤ d.size) ∧ w' = W := by
        intro W
        rw [show ((i : Int) + 1) = ((i + 1 : Nat) : Int) from by omega]
        refine (digits20 d (i + 1) hdm (by omega) W).mono ?_
        rintro e w' ⟨⟨k, rfl, hik, hk, _, _⟩, hw⟩
        exact ⟨⟨k, rfl, hik, hk⟩, hw⟩
      clear hp hcc HN
      go_upto_if 99 with (go_at_call 20; refine (h20 _).mono ?_; rintro e w' ⟨⟨k, rfl, hik, hk⟩, hw⟩; obtain rfl := hw.symm)
      by_cases hkk : k = i + 1
      · have e1 : ((k : Int) == (i : Int) + 1) = true := by simp; omega
        go_wp2
        go_ret2
        exact ⟨res_no, hbel, _, hc⟩
      · have e1 : ((k : Int) == (i : Int) + 1) = false := by simp; omega
        go_wp2
        go_meet
        exact ⟨rfl, k, rfl, hk, HM.out k (by omega)⟩
    case false =>
      clear hp
      go_wp2
      go_meet
      exact ⟨rfl, i, rfl, hi, numOr_of HN.out⟩
  case rest =>
  clear HN hi
  obtain ⟨hw, i, rfl, hi, HN⟩ := hcut
  subst hw
  -- the exponent
  go_upto_region 22 with fail
  go_cut [116] from 116 to 116 (fun st wx => wx = wc ∧ st = .bool (atOne d i 101 69))
  case first =>
    by_cases h0 : i < d.size
    · obtain ⟨c, hb⟩ : ∃ c, d[i].toNat = c := ⟨_, rfl⟩
      by_cases hcc : c = 101
      · subst hcc
        have HF : Hid (atOne d i 101 69 = true) := decide_eq_true ⟨h0, .inl hb⟩
        go_wp2
        go_meet
        exact ⟨rfl, by rw [HF.out]⟩
      · have hcb : ((c : Int) == 101) = false := by simp; omega
        by_cases hcd : c = 69
        · subst hcd
          have HF : Hid (atOne d i 101 69 = true) := decide_eq_true ⟨h0, .inr hb⟩
          go_wp2
          go_meet
          exact ⟨rfl, by rw [HF.out]⟩
        · have HF : Hid (atOne d i 101 69 = false) := decide_eq_false (by rintro ⟨_, h⟩; rw [hb] at h; omega)
          have hcb2 : ((c : Int) == 69) = false := by simp; omega
          go_wp2
          go_meet
          exact ⟨rfl, by rw [HF.out]⟩
    · have HF : Hid (atOne d i 101 69 = false) := decide_eq_false (by rintro ⟨h, _⟩; exact h0 h)
      have hge : (d.size : Int) ≤ i := by omega
      clear h0
      go_wp2
      go_meet
      exact ⟨rfl, by rw [HF.out]⟩
  case rest =>
  obtain ⟨hw, rfl⟩ := hcut
  subst hw
  go_upto_if 116 with fail
  go_cut [7] from 116 to 116 (fun s7 wx => wx = wc ∧ ∃ i : Nat, s7 = .int .i64 i ∧ i ≤ d.size ∧ Hid (NumOr d i))
  case first =>
    cases hp : atOne d i 101 69
    case true =>
      obtain ⟨h0, hcc⟩ := of_decide_eq_true hp
      have HM : Hid (∀ k, i < k → NumOr d k) := fun k hk => numOr_mark h0 hk (by rcases hcc with h | h; exact .inr (.inl h); exact .inr (.inr h))
      clear hp hcc HN
      obtain ⟨m, hm⟩ : ∃ m : Nat, m = i + 1 := ⟨_, rfl⟩
      have hmi : (i : Int) + 1 = m := by omega
      have hml : m ≤ d.size := by omega
      have HI : Hid (i < m) := by rw [Hid]; omega
      clear hm h0 hi
      go_upto_region 24 with fail
      go_cut [134] from 134 to 134 (fun st wx => wx = wc ∧ st = .bool (atOne d m 43 45))
      case first =>
        by_cases h0 : m < d.size
        · obtain ⟨c, hb⟩ : ∃ c, d[m].toNat = c := ⟨_, rfl⟩
          by_cases hcc : c = 43
          · subst hcc
            have HF : Hid (atOne d m 43 45 = true) := decide_eq_true ⟨h0, .inl hb⟩
            go_wp2
            go_meet
            exact ⟨rfl, by rw [HF.out]⟩
          · have hcb : ((c : Int) == 43) = false := by simp; omega
            by_cases hcd : c = 45
            · subst hcd
              have HF : Hid (atOne d m 43 45 = true) := decide_eq_true ⟨h0, .inr hb⟩
              go_wp2
              go_meet
              exact ⟨rfl, by rw [HF.out]⟩
            · have HF : Hid (atOne d m 43 45 = false) := decide_eq_false (by rintro ⟨_, h⟩; rw [hb] at h; omega)
              have hcb2 : ((c : Int) == 45) = false := by simp; omega
              go_wp2
              go_meet
              exact ⟨rfl, by rw [HF.out]⟩
        · have HF : Hid (atOne d m 43 45 = false) := decide_eq_false (by rintro ⟨h, _⟩; exact h0 h)
          have hge : (d.size : Int) ≤ m := by omega
          clear h0
          go_wp2
          go_meet
          exact ⟨rfl, by rw [HF.out]⟩
      case rest =>
      obtain ⟨hw, rfl⟩ := hcut
      subst hw
      go_upto_if 134 with fail
      go_cut [7] from 134 to 134 (fun s7 wx => wx = wc ∧ ∃ n : Nat, s7 = .int .i64 n ∧ n ≤ d.size ∧ Hid (m ≤ n))
      case first =>
        cases hp : atOne d m 43 45
        case true =>
          obtain ⟨h0, _⟩ := of_decide_eq_true hp
          clear hp
          go_wp2
          go_meet
          exact ⟨rfl, m + 1, by go_num, by omega, Nat.le_succ _⟩
        case false =>
          clear hp
          go_wp2
          go_meet
          exact ⟨rfl, m, rfl, hml, Nat.le_refl _⟩
      case rest =>
      clear hmi
      obtain ⟨hw, n, rfl, hn, HMN⟩ := hcut
      subst hw
      have h20 : ∀ W, Calls Tryd.prog 20 #[.string d, .int .i64 n] W fun e w' => (∃ k : Nat, e = .returned (.int .i64 k) ∧ n ≤ k ∧ k ≤ d.size) ∧ w' = W := by
        intro W
        refine (digits20 d n hdm hn W).mono ?_
        rintro e w' ⟨⟨k, rfl, hik, hk, _, _⟩, hw⟩
        exact ⟨⟨k, rfl, hik, hk⟩, hw⟩
      go_upto_if 142 with (go_at_call 20; refine (h20 _).mono ?_; rintro e w' ⟨⟨k, rfl, hik, hk⟩, hw⟩; obtain rfl := hw.symm)
      by_cases hkk : k = n
      · have e1 : ((k : Int) == (n : Int)) = true := by simp; omega
        have HH : Hid (k = n) := hkk
        clear hkk
        go_wp2
        go_ret2
        exact ⟨res_no, hbel, _, hc⟩
      · have e1 : ((k : Int) == (n : Int)) = false := by simp; omega
        go_wp2
        go_meet
        exact ⟨rfl, k, rfl, hk, HM.out k (by have := HMN.out; have := HI.out; omega)⟩
    case false =>
      clear hp
      go_wp2
      go_meet
      exact ⟨rfl, i, rfl, hi, HN⟩
  case rest =>
  clear HN hi
  obtain ⟨hw, i, rfl, hi, HN⟩ := hcut
  subst hw
  go_wp2
  go_ret2
  exact ⟨⟨_, true, rfl, fun _ => by rw [take_list]; exact good_of HN.out, by have := ext_size d i; omega⟩, hbel.setCell (Nat.le_refl _) _, _, cell_set hc _⟩

end Go.Proofs.Qxb6601198aDoor

import Derived.Test.Qxb6601198aDoorWalkD
import Derived.Test.Qxb6601198aDoorMg2
import Derived.Test.Qxb6601198aDoorMg8
import Derived.Test.Qxb6601198aDoorMg10
import Derived.Test.Qxb6601198aDoorMg16
import Derived.Deep.DeepCutAuto
namespace Go.Proofs.Qxb6601198aDoor
open Go.RowKit

/-- expectedInteger. -/
def expI (m sg : Nat) : Int × Nat × Bool :=
  if sg = 0 then (if m < 9223372036854775808 then ((m : Int), 0, true) else (0, m, true))
  else if sg = 1 then (if m < 9223372036854775808 then ((m : Int), 0, true) else (0, 0, false))
  else (if m ≤ 9223372036854775808 then (-(m : Int), 0, true) else (0, 0, false))

/-- A sign ahead: 0 none, 1 '+', 2 '-'; and what follows. -/
def sgn : List UInt8 → Nat × List UInt8
  | [] => (0, [])
  | c :: r => if c.toNat = 43 then (1, r) else if c.toNat = 45 then (2, r) else (0, c :: r)

def readAs (f : List UInt8 → Option Nat) (x : Nat × List UInt8) : Int × Nat × Bool := match f x.2 with
  | some m => expI m x.1
  | none => (0, 0, false)

def second (l : List UInt8) : Int × Nat × Bool :=
  if Lib.hasPrefix l [48, 98] = true then readAs (ub 2) (sgn (l.drop 2))
  else if Lib.hasPrefix l [48, 111] = true then readAs (ub 8) (sgn (l.drop 2))
  else (0, 0, false)

/-- integerModel. -/
def modelG (l : List UInt8) : Int × Nat × Bool := if (readAs u0 (sgn l)).2.2 = true then readAs u0 (sgn l) else second l

theorem mag9 (bb : Nat) (hbb : bb = 2 ∨ bb = 8 ∨ bb = 10 ∨ bb = 16) (s : ByteArray) (hmax : s.size ≤ 1048600) (w : World) :
    Calls Tryd.prog 9 #[.string s, .int .u64 bb] w fun e w' => ∃ r, e = .returned r ∧ MOK (pu bb 0 s.data.toList) r ∧ w' = w := by
  rcases hbb with rfl | rfl | rfl | rfl
  · exact mag2 s hmax w
  · exact mag8 s hmax w
  · exact mag10 s hmax w
  · exact mag16 s hmax w

set_option maxHeartbeats 1000000 in
set_option maxRecDepth 100000 in
theorem exp10 (m sg : Nat) (hm : m < 18446744073709551616) (hsg : sg = 0 ∨ sg = 1 ∨ sg = 2) (w : World) :
    Calls Tryd.prog 10 #[.int .u64 m, .int .i64 sg] w fun e w' => e = .returned (three (expI m sg)) ∧ w' = w := by
  rcases hsg with rfl | rfl | rfl
  · by_cases h : m < 9223372036854775808
    · have HF : Hid (expI m 0 = ((m : Int), 0, true)) := by rw [Hid, expI, if_pos rfl, if_pos h]
      have hi : (m : Int) < 9223372036854775808 := by omega
      clear h
      go_enter Tryd.func10, Tryd.ntmps10
      go_wp2
      go_ret3
      exact ⟨by rw [HF.out]; rfl, rfl⟩
    · have HF : Hid (expI m 0 = (0, m, true)) := by rw [Hid, expI, if_pos rfl, if_neg h]
      obtain ⟨a, ha⟩ : ∃ a : Int, a = (m : Int) := ⟨_, rfl⟩
      have hi : 9223372036854775808 ≤ a := by omega
      have hi' : a < 18446744073709551616 := by omega
      rw [HF.out, ← ha]
      have HA : Hid (a = (m : Int)) := ha
      clear h ha HF hm
      go_enter Tryd.func10, Tryd.ntmps10
      go_wp2
      go_ret3
      exact ⟨by rw [three, ← HA.out]; rfl, rfl⟩
  · by_cases h : m < 9223372036854775808
    · have HF : Hid (expI m 1 = ((m : Int), 0, true)) := by rw [Hid, expI, if_neg (by omega), if_pos rfl, if_pos h]
      have hi : (m : Int) < 9223372036854775808 := by omega
      clear h
      go_enter Tryd.func10, Tryd.ntmps10
      go_wp2
      go_ret3
      exact ⟨by rw [HF.out]; rfl, rfl⟩
    · have HF : Hid (expI m 1 = (0, 0, false)) := by rw [Hid, expI, if_neg (by omega), if_pos rfl, if_neg h]
      obtain ⟨a, ha⟩ : ∃ a : Int, a = (m : Int) := ⟨_, rfl⟩
      have hi : 9223372036854775808 ≤ a := by omega
      have hi' : a < 18446744073709551616 := by omega
      rw [HF.out, ← ha]
      have HA : Hid (a = (m : Int)) := ha
      clear h ha HF hm
      go_enter Tryd.func10, Tryd.ntmps10
      go_wp2
      go_ret3
      exact ⟨rfl, rfl⟩
  · by_cases h : m ≤ 9223372036854775808
    · have HF : Hid (expI m 2 = (-(m : Int), 0, true)) := by rw [Hid, expI, if_neg (by omega), if_neg (by omega), if_pos h]
      have hw : wrap64 (IntKind.u64.wrap (-(m : Int))) = -(m : Int) := by
        rw [IntKind.wrap_u64, wrap64]
        omega
      go_enter Tryd.func10, Tryd.ntmps10
      go_wp2
      go_ret3
      exact ⟨by rw [HF.out]; exact congrArg (fun z => Ending.returned (.tuple #[.int .i64 z, .int .u64 0, .bool true])) hw, rfl⟩
    · have HF : Hid (expI m 2 = (0, 0, false)) := by rw [Hid, expI, if_neg (by omega), if_neg (by omega), if_neg h]
      go_enter Tryd.func10, Tryd.ntmps10
      go_wp2
      go_ret3
      exact ⟨by rw [HF.out]; rfl, rfl⟩

theorem sgn_plus {s : ByteArray} (h0 : 0 < s.size) (h : s[0].toNat = 43) : sgn s.data.toList = (1, (s.extract 1 s.size).data.toList) := by
  obtain ⟨c0, r, hL⟩ := cons_of (s := s) (by omega)
  have hs0 : s[0] = c0 := by have := Lib.getD_at s 0 h0; rw [hL] at this; exact this
  rw [Lib.extract_to_end, hL, sgn, if_pos (by rw [← hs0]; exact h)]; rfl
theorem sgn_minus {s : ByteArray} (h0 : 0 < s.size) (h : s[0].toNat = 45) : sgn s.data.toList = (2, (s.extract 1 s.size).data.toList) := by
  obtain ⟨c0, r, hL⟩ := cons_of (s := s) (by omega)
  have hs0 : s[0] = c0 := by have := Lib.getD_at s 0 h0; rw [hL] at this; exact this
  rw [Lib.extract_to_end, hL, sgn, if_neg (by rw [← hs0]; omega), if_pos (by rw [← hs0]; exact h)]; rfl
theorem sgn_none {s : ByteArray} (h : ∀ h0 : 0 < s.size, s[0].toNat ≠ 43 ∧ s[0].toNat ≠ 45) : sgn s.data.toList = (0, s.data.toList) := by
  by_cases hz : s.size = 0
  · have hl : s.data.toList = [] := List.eq_nil_of_length_eq_zero (by rw [← Lib.size_eq]; exact hz)
    rw [hl, sgn]
  · obtain ⟨c0, r, hL⟩ := cons_of (s := s) hz
    have h0 : 0 < s.size := by omega
    have hs0 : s[0] = c0 := by have := Lib.getD_at s 0 h0; rw [hL] at this; exact this
    have hh := h h0
    rw [hs0] at hh
    rw [hL, sgn, if_neg hh.1, if_neg hh.2]

theorem u0_eq (l : List UInt8) (h : l ≠ []) : u0 l = pu (eff l).1 0 (eff l).2 := by
  cases l with
  | nil => exact absurd rfl h
  | cons c r => rfl

def firstIs (s : ByteArray) (c : Nat) : Bool := decide (∃ h : 0 < s.size, s[0].toNat = c)
theorem firstIs_true {s : ByteArray} {c : Nat} (h0 : 0 < s.size) (h : s[0].toNat = c) : firstIs s c = true := decide_eq_true ⟨h0, h⟩
theorem firstIs_false {s : ByteArray} {c : Nat} (h : ∀ h0 : 0 < s.size, s[0].toNat ≠ c) : firstIs s c = false := decide_eq_false (fun ⟨h0, h1⟩ => h h0 h1)

theorem or32b : ∀ c : Fin 256, ((c.val ||| 32) = 98 ↔ c.val = 98 ∨ c.val = 66) ∧ ((c.val ||| 32) = 111 ↔ c.val = 111 ∨ c.val = 79) ∧ ((c.val ||| 32) = 120 ↔ c.val = 120 ∨ c.val = 88) := by decide +kernel

theorem eff_dec {s : ByteArray} (h0 : 0 < s.size) (h : s[0].toNat ≠ 48) : eff s.data.toList = (10, s.data.toList) := by
  obtain ⟨c0, r, hL⟩ := cons_of (s := s) (by omega)
  have hs0 : s[0] = c0 := by have := Lib.getD_at s 0 h0; rw [hL] at this; exact this
  rw [hs0] at h
  rw [hL]
  cases r with
  | nil => simp [eff, h]
  | cons c1 r => cases r <;> simp [eff, h]
theorem eff_short {s : ByteArray} (h0 : 0 < s.size) (h : s[0].toNat = 48) (h3 : s.size < 3) : eff s.data.toList = (8, (s.extract 1 s.size).data.toList) := by
  obtain ⟨c0, r, hL⟩ := cons_of (s := s) (by omega)
  have hs0 : s[0] = c0 := by have := Lib.getD_at s 0 h0; rw [hL] at this; exact this
  have hz : r.length + 1 = s.size := by rw [Lib.size_eq, hL]; rfl
  rw [Lib.extract_to_end, hL]
  rw [hs0] at h
  match r, hz with
  | [], _ => simp [eff, h]
  | [_], _ => simp [eff, h]
  | _ :: _ :: _, hz => simp at hz; omega
theorem eff_long {s : ByteArray} (h3 : 3 ≤ s.size) (h : s[0].toNat = 48) : eff s.data.toList = if (s[1].toNat = 98 ∨ s[1].toNat = 66) then (2, (s.extract 2 s.size).data.toList) else if (s[1].toNat = 111 ∨ s[1].toNat = 79) then (8, (s.extract 2 s.size).data.toList) else if (s[1].toNat = 120 ∨ s[1].toNat = 88) then (16, (s.extract 2 s.size).data.toList) else (8, (s.extract 1 s.size).data.toList) := by
  obtain ⟨c0, r, hL⟩ := cons_of (s := s) (by omega)
  have hs0 : s[0] = c0 := by have := Lib.getD_at s 0 (by omega); rw [hL] at this; exact this
  have hz : r.length + 1 = s.size := by rw [Lib.size_eq, hL]; rfl
  match r, hz, hL with
  | [], hz, _ => simp at hz; omega
  | [_], hz, _ => simp at hz; omega
  | c1 :: c2 :: r2, _, hL =>
    have hs1 : s[1] = c1 := by have := Lib.getD_at s 1 (by omega); rw [hL] at this; exact this
    have h32 := or32b ⟨c1.toNat, c1.toNat_lt⟩
    simp only at h32
    rw [Lib.extract_to_end, Lib.extract_to_end, hL, eff, if_pos (by rw [← hs0]; exact h), hs1]
    simp only [h32.1, h32.2.1, h32.2.2]
    rfl

end Go.Proofs.Qxb6601198aDoor

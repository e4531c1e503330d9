import Derived.Test.Qxb6601198aDoorWalkA
import Derived.Test.Qxb6601198aDoorPlainB
import Derived.Lib.IfaceNeq
import Derived.Lib.ItoaWalk
namespace Go.Proofs.Qxb6601198aDoor
open Go.RowKit

theorem Tryd.comp58 : (Tryd.prog.info? 58).map (·.comparable) = some true := by kernel_rfl

set_option maxRecDepth 100000 in
theorem uint27_empty (s : ByteArray) (he : s.size = 0) (bse : Int) (w : World) :
    Calls Tryd.prog 27 #[.string s, .int .i64 bse, .int .i64 64] w fun e w' => ∃ r, e = .returned r ∧ UOK none r ∧ Below w.heap.size w w' := by
  have hemp : s.toList.isEmpty = true := by
    rw [Lib.toList_data, List.isEmpty_iff]
    exact List.eq_nil_of_length_eq_zero (by rw [← Lib.size_eq]; exact he)
  go_enter Tryd.func27, Tryd.ntmps27
  go_wp2
  go_ret2
  exact ⟨_, rfl, .inl rfl, Below.refl _ _⟩

/-- The unsigned reader, as its callers see it. -/
def Reads27 (bse : Int) (f : List UInt8 → Option Nat) : Prop := ∀ (t : ByteArray) (W : World), t.size ≤ 1048600 → (∀ c ∈ t.data.toList, c.toNat ≠ 95) →
  Calls Tryd.prog 27 #[.string t, .int .i64 bse, .int .i64 64] W fun e w' => ∃ r, e = .returned r ∧ UOK (f t.data.toList) r ∧ Below W.heap.size W w'

set_option maxHeartbeats 1000000 in
set_option maxRecDepth 100000 in
theorem int25 (bse : Int) (f : List UInt8 → Option Nat) (H : Reads27 bse f) (s : ByteArray) (hmax : s.size ≤ 1048600) (hus : ∀ c ∈ s.data.toList, c.toNat ≠ 95) (w : World) :
    Calls Tryd.prog 25 #[.string s, .int .i64 bse, .int .i64 64] w fun e w' => ∃ r, e = .returned r ∧ IOK (pI f s.data.toList) r ∧ Below w.heap.size w w' := by
  by_cases hne : s.size = 0
  · have hemp : s.toList.isEmpty = true := by
      rw [Lib.toList_data, List.isEmpty_iff]
      exact List.eq_nil_of_length_eq_zero (by rw [← Lib.size_eq]; exact hne)
    have hl : s.data.toList = [] := by rw [← Lib.toList_data]; exact List.isEmpty_iff.1 hemp
    rw [hl]
    clear H hl
    go_enter Tryd.func25, Tryd.ntmps25
    go_wp2
    go_ret2
    exact ⟨_, rfl, ⟨_, .inl rfl⟩, Below.refl _ _⟩
  have hemp : s.toList.isEmpty = false := by
    rw [← decide_eq_emptyBytes]
    exact decide_eq_false (fun h => hne (by rw [h]; rfl))
  have hpos : 0 < s.size := by omega
  obtain ⟨c0, r, hL⟩ : ∃ c0 r, s.data.toList = c0 :: r := by
    cases h : s.data.toList with
    | nil => exact absurd (by rw [Lib.size_eq, h]; rfl) hne
    | cons c0 r => exact ⟨c0, r, rfl⟩
  have hs0 : s[0]'hpos = c0 := by have := Lib.getD_at s 0 hpos; rw [hL] at this; exact this
  have htl : (s.extract 1 s.size).data.toList = r := by rw [Lib.extract_to_end, hL]; rfl
  have hts : (s.extract 1 s.size).size ≤ 1048600 := by simp; omega
  have hu1 := H (s.extract 1 s.size) w hts (by rw [htl]; intro c hc; exact hus c (by rw [hL]; exact List.mem_cons_of_mem _ hc))
  have hu0 := H s w hmax hus
  rw [htl] at hu1
  rw [hL] at hu0
  have hsl : ∀ W, (Instr.slice 9 (.string s) (some (.int .i64 1)) none none).run Tryd.prog W = .ok (.string (s.extract 1 s.size)) W := fun W => by
    rw [run_slice_string_from_if W 9 s .i64 _ Tryd.underlying9, if_pos ⟨by omega, by omega⟩]
    rfl
  generalize s.extract 1 s.size = t at hsl hu1
  have hq2 : ∀ W, (binOp .neq 48 (.iface 58 (.int .i64 2)) (.iface 58 (.int .i64 1))).run Tryd.prog W = .ok (.bool true) W := fun W => Lib.run_neq_iface_int W 2 1 Tryd.underlying48 Tryd.comp58 Tryd.underlying58
  have hq1 : ∀ W, (binOp .neq 48 (.iface 58 (.int .i64 1)) (.iface 58 (.int .i64 1))).run Tryd.prog W = .ok (.bool false) W := fun W => Lib.run_neq_iface_int W 1 1 Tryd.underlying48 Tryd.comp58 Tryd.underlying58
  obtain ⟨b0, hb⟩ : ∃ b, s[0].toNat = b := ⟨_, rfl⟩
  have hb0 : c0.toNat = b0 := by rw [← hs0]; exact hb
  have hmin : wrap64 (-wrap64 9223372036854775808) = -9223372036854775808 := by
    unfold wrap64
    omega
  have hneg : ∀ a : Int, 0 ≤ a → a ≤ 9223372036854775808 → wrap64 (-wrap64 a) = -a := by
    intro a h0 h1
    unfold wrap64
    omega
  rw [hL]
  clear H hus hL hs0
  by_cases h43 : b0 = 43
  · have k1 : ((b0 : Int) == 43) = true := by simp; omega
    have hp : pI f (c0 :: r) = small (f r) := by rw [pI, if_pos (by omega)]
    rw [hp]
    clear hp hu0 h43 hb0
    cases hE : f (r) with
    | none =>
      rw [hE] at hu1
      have HS : small none = none := rfl
      rw [HS]
      clear hE HS
      go_enter Tryd.func25, Tryd.ntmps25
      go_wp2_with (go_at_call 27; refine hu1.mono ?_; rintro e w1 ⟨rr, rfl, hr, hb1⟩; rcases hr with rfl | rfl)
      all_goals go_ret2
      all_goals exact ⟨_, rfl, ⟨_, by first | exact .inl rfl | exact .inr rfl⟩, hb1⟩
    | some u =>
      rw [hE] at hu1
      obtain ⟨a, ha⟩ : ∃ a : Int, a = (u : Int) := ⟨_, rfl⟩
      have hu' : Calls Tryd.prog 27 #[.string t, .int .i64 bse, .int .i64 64] w fun e w' => (e = .returned (.tuple #[.int .u64 a, .nilIface]) ∧ a < 18446744073709551616) ∧ Below w.heap.size w w' := by
        refine hu1.mono ?_
        rintro e w1 ⟨rr, rfl, ⟨hr1, rfl⟩, hb1⟩
        rw [ha]
        exact ⟨⟨rfl, by omega⟩, hb1⟩
      have a0 : 0 ≤ a := by omega
      by_cases hin : u < 9223372036854775808
      · have HS : small (some u) = some (a) := by rw [ha]; simp [small, hin]
        rw [HS]
        have iin : a < 9223372036854775808 := by omega
        clear hu1 hE HS hin ha
        go_enter Tryd.func25, Tryd.ntmps25
        go_wp2_with (go_at_call 27; refine hu'.mono ?_; rintro e w1 ⟨⟨rfl, a1⟩, hb1⟩)
        go_ret2
        exact ⟨_, rfl, rfl, hb1⟩
      · have HS : small (some u) = none := by simp [small, hin]
        rw [HS]
        have iin : 9223372036854775808 ≤ a := by omega
        clear hu1 hE HS hin ha
        go_enter Tryd.func25, Tryd.ntmps25
        go_wp2_with (go_at_call 27; refine hu'.mono ?_; rintro e w1 ⟨⟨rfl, a1⟩, hb1⟩)
        go_ret2
        exact ⟨_, rfl, ⟨_, .inr rfl⟩, hb1⟩
  have k1 : ((b0 : Int) == 43) = false := by simp; omega
  by_cases h45 : b0 = 45
  · have k2 : ((b0 : Int) == 45) = true := by simp; omega
    have hp : pI f (c0 :: r) = smallNeg (f r) := by rw [pI, if_neg (by omega), if_pos (by omega)]
    rw [hp]
    clear hp hu0 h43 h45 hb0
    cases hE : f (r) with
    | none =>
      rw [hE] at hu1
      have HS : smallNeg none = none := rfl
      rw [HS]
      clear hE HS
      go_enter Tryd.func25, Tryd.ntmps25
      go_wp2_with (go_at_call 27; refine hu1.mono ?_; rintro e w1 ⟨rr, rfl, hr, hb1⟩; rcases hr with rfl | rfl)
      all_goals go_ret2
      all_goals exact ⟨_, rfl, ⟨_, by first | exact .inl rfl | exact .inr rfl⟩, hb1⟩
    | some u =>
      rw [hE] at hu1
      obtain ⟨a, ha⟩ : ∃ a : Int, a = (u : Int) := ⟨_, rfl⟩
      have hu' : Calls Tryd.prog 27 #[.string t, .int .i64 bse, .int .i64 64] w fun e w' => (e = .returned (.tuple #[.int .u64 a, .nilIface]) ∧ a < 18446744073709551616) ∧ Below w.heap.size w w' := by
        refine hu1.mono ?_
        rintro e w1 ⟨rr, rfl, ⟨hr1, rfl⟩, hb1⟩
        rw [ha]
        exact ⟨⟨rfl, by omega⟩, hb1⟩
      have a0 : 0 ≤ a := by omega
      by_cases hin : u ≤ 9223372036854775808
      · have HS : smallNeg (some u) = some (-a) := by rw [ha]; simp [smallNeg, hin]
        rw [HS]
        have iin : a ≤ 9223372036854775808 := by omega
        clear hu1 hE HS hin ha
        go_enter Tryd.func25, Tryd.ntmps25
        go_wp2_with (go_at_call 27; refine hu'.mono ?_; rintro e w1 ⟨⟨rfl, a1⟩, hb1⟩)
        go_ret2
        exact ⟨_, rfl, by rw [hneg a a0 iin]; rfl, hb1⟩
      · have HS : smallNeg (some u) = none := by simp [smallNeg, hin]
        rw [HS]
        have iin : 9223372036854775808 < a := by omega
        clear hu1 hE HS hin ha
        go_enter Tryd.func25, Tryd.ntmps25
        go_wp2_with (go_at_call 27; refine hu'.mono ?_; rintro e w1 ⟨⟨rfl, a1⟩, hb1⟩)
        go_ret2
        exact ⟨_, rfl, ⟨_, .inr rfl⟩, hb1⟩
  have k2 : ((b0 : Int) == 45) = false := by simp; omega
  have hp : pI f (c0 :: r) = small (f (c0 :: r)) := by rw [pI, if_neg (by omega), if_neg (by omega)]
  rw [hp]
  clear hp hu1 hsl h43 h45 hb0
  cases hE : f (c0 :: r) with
  | none =>
    rw [hE] at hu0
    have HS : small none = none := rfl
    rw [HS]
    clear hE HS
    go_enter Tryd.func25, Tryd.ntmps25
    go_wp2_with (go_at_call 27; refine hu0.mono ?_; rintro e w1 ⟨rr, rfl, hr, hb1⟩; rcases hr with rfl | rfl)
    all_goals go_ret2
    all_goals exact ⟨_, rfl, ⟨_, by first | exact .inl rfl | exact .inr rfl⟩, hb1⟩
  | some u =>
    rw [hE] at hu0
    obtain ⟨a, ha⟩ : ∃ a : Int, a = (u : Int) := ⟨_, rfl⟩
    have hu' : Calls Tryd.prog 27 #[.string s, .int .i64 bse, .int .i64 64] w fun e w' => (e = .returned (.tuple #[.int .u64 a, .nilIface]) ∧ a < 18446744073709551616) ∧ Below w.heap.size w w' := by
      refine hu0.mono ?_
      rintro e w1 ⟨rr, rfl, ⟨hr1, rfl⟩, hb1⟩
      rw [ha]
      exact ⟨⟨rfl, by omega⟩, hb1⟩
    have a0 : 0 ≤ a := by omega
    by_cases hin : u < 9223372036854775808
    · have HS : small (some u) = some (a) := by rw [ha]; simp [small, hin]
      rw [HS]
      have iin : a < 9223372036854775808 := by omega
      clear hu0 hE HS hin ha
      go_enter Tryd.func25, Tryd.ntmps25
      go_wp2_with (go_at_call 27; refine hu'.mono ?_; rintro e w1 ⟨⟨rfl, a1⟩, hb1⟩)
      go_ret2
      exact ⟨_, rfl, rfl, hb1⟩
    · have HS : small (some u) = none := by simp [small, hin]
      rw [HS]
      have iin : 9223372036854775808 ≤ a := by omega
      clear hu0 hE HS hin ha
      go_enter Tryd.func25, Tryd.ntmps25
      go_wp2_with (go_at_call 27; refine hu'.mono ?_; rintro e w1 ⟨⟨rfl, a1⟩, hb1⟩)
      go_ret2
      exact ⟨_, rfl, ⟨_, .inr rfl⟩, hb1⟩

end Go.Proofs.Qxb6601198aDoor

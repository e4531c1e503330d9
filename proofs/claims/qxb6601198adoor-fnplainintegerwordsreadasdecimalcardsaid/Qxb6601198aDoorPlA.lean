import Derived.Test.Qxb6601198aDoorProg
import Derived.WalkKit
import Derived.WalkSpells
import Derived.WalkLawsBesides
namespace Go.Proofs.Qxb6601198aDoor
open Go.RowKit

/-- Digits from i up to k. -/
def Digs (d : ByteArray) (i k : Nat) : Prop := ∀ j, i ≤ j → (hj : j < d.size) → j < k → 48 ≤ d[j].toNat ∧ d[j].toNat ≤ 57

theorem Digs.step {d : ByteArray} {i k : Nat} (h : Digs d i k) (hk : k < d.size) (h0 : 48 ≤ d[k].toNat) (h1 : d[k].toNat ≤ 57) : Digs d i (k + 1) := by
  intro j hij hj hlt
  rcases Nat.lt_or_ge j k with h' | h'
  · exact h j hij hj h'
  · obtain rfl : j = k := by omega
    exact ⟨h0, h1⟩

/-- No digit at k. -/
def Stops (d : ByteArray) (k : Nat) : Prop := ∀ h : k < d.size, d[k].toNat < 48 ∨ 57 < d[k].toNat

set_option maxHeartbeats 1000000 in
set_option maxRecDepth 100000 in
theorem digits20 (d : ByteArray) (i : Nat) (hd : d.size ≤ 1048600) (hi : i ≤ d.size) (w : World) :
    Calls Tryd.prog 20 #[.string d, .int .i64 i] w fun e w' => (∃ k : Nat, e = .returned (.int .i64 k) ∧ i ≤ k ∧ k ≤ d.size ∧ Digs d i k ∧ Stops d k) ∧ w' = w := by
  go_enter Tryd.func20, Tryd.ntmps20
  go_wp2
  go_loop [1] (fun v => ∃ k : Nat, i ≤ k ∧ k ≤ d.size ∧ v = .int .i64 k ∧ Hid (Digs d i k)) (fun v => d.size - (intOf v).toNat)
  case atStart => exact ⟨i, Nat.le_refl _, hi, rfl, fun j h _ h' => absurd h' (by omega)⟩
  case round =>
    obtain ⟨k, hik, hk, rfl, hh⟩ := hrel
    by_cases hlt : k < d.size
    · obtain ⟨c, hb⟩ : ∃ c, d[k].toNat = c := ⟨_, rfl⟩
      rcases (show c < 48 ∨ 57 < c ∨ (48 ≤ c ∧ c ≤ 57) from by omega) with h | h | ⟨h, h'⟩
      · have HT : Hid (Stops d k) := fun _ => .inl (by rw [hb]; exact h)
        go_wp2
        go_ret
        exact ⟨⟨k, rfl, hik, hk, hh.out, HT.out⟩, rfl⟩
      · have HT : Hid (Stops d k) := fun _ => .inr (by rw [hb]; exact h)
        go_wp2
        go_ret
        exact ⟨⟨k, rfl, hik, hk, hh.out, HT.out⟩, rfl⟩
      · have HN : Hid (Digs d i (k + 1)) := hh.out.step hlt (by rw [hb]; exact h) (by rw [hb]; exact h')
        go_wp2
        go_round
        case rel => exact ⟨k + 1, by omega, by omega, by go_num, HN⟩
        case measure => simp [intOf]; omega
    · have hkk : k = d.size := by omega
      go_wp2
      go_ret
      exact ⟨⟨d.size, rfl, hi, Nat.le_refl _, by rw [← hkk]; exact hh.out, fun h => absurd h (by omega)⟩, rfl⟩

end Go.Proofs.Qxb6601198aDoor

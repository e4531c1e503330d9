import Derived.Test.Qxb6601184aProg
import Derived.Test.Qxb6601184aBase
import Derived.WalkSpells
import Derived.WalkLawsBesides
import Derived.BigQuiet
import Derived.Deep.QuietTactic
namespace Go.Proofs.Qxb6601184a
open Go.RowKit

set_option maxHeartbeats 400000 in
/-- zzSame on two slices of the same strings: true. -/
theorem same_any (g1 g2 n c1 c2 : Nat) (T : Nat → ByteArray) (w : World) (hn : n ≤ 3518437208883)
    (h1 : ∀ i, i < n → w.cell? ⟨g1, i, none⟩ = some (.string (T i))) (h2 : ∀ i, i < n → w.cell? ⟨g2, i, none⟩ = some (.string (T i))) :
    Calls Try.prog 11 #[.slice (some ⟨g1, 0, none⟩) n c1, .slice (some ⟨g2, 0, none⟩) n c2] w fun e w' => e = .returned (.bool true) ∧ ∃ q, w' = w.drewN q := by
  go_enter Try.func11, Try.ntmps11
  go_wp2
  go_loopw [5] (fun i wr => ∃ k q : Nat, k ≤ n ∧ i = .int .i64 k ∧ wr = w.drewN q) (fun i _ => n - (intOf i).toNat)
  case atStart => exact ⟨0, 0, Nat.zero_le _, rfl, rfl⟩
  case round =>
    obtain ⟨k, q, hk, rfl, rfl⟩ := hrel
    by_cases hlt : k < n
    · have a1 := h1 k hlt
      have a2 := h2 k hlt
      have hlt' : (k : Int) < (n : Int) := by omega
      clear h1 h2
      go_wp2
      go_quiet (fail)
      go_wp2
      go_roundw
      case rel => exact ⟨k + 1, q + nq, by omega, by go_num, rfl⟩
      case measure => simp [intOf]; omega
    · go_wp2
      go_ret
      exact ⟨rfl, q, rfl⟩

end Go.Proofs.Qxb6601184a

import Derived.Test.Qxb6601184aWalkH
import Derived.Test.Qxb6601184aPlain2
import Derived.BigQuiet
import Derived.Deep.QuietTactic
namespace Go.Proofs.Qxb6601184a
open Go.RowKit

theorem ret_bool {a b : Bool} (h : a = b) : Ending.returned (.bool a) = .returned (.bool b) := by rw [h]

theorem ba_ext {x y : ByteArray} (h : x.toList = y.toList) : x = y := by
  rw [Lib.toList_data, Lib.toList_data] at h
  cases x; cases y
  simp only [ByteArray.mk.injEq]
  exact Array.ext' h

set_option maxHeartbeats 400000 in
theorem has15 {B : Nat} {ao : Option Addr} {n : Nat} {S : Nat → ByteArray} (c : Nat) (x : ByteArray) (w : World) (hn : n ≤ 8796093022208) (h : StrsFrom B w ao n S) :
    Calls Try.prog 15 #[.slice ao n c, .string x] w fun e w' => e = .returned (.bool (Lib.containsS ((List.range n).map S) x)) ∧ w' = w := by
  obtain ⟨r, hr⟩ : ∃ r, r = Lib.containsS ((List.range n).map S) x := ⟨_, rfl⟩
  have HR : Hid (r = Lib.containsS ((List.range n).map S) x) := hr
  rw [← hr]
  clear hr
  go_enter Try.func15, Try.ntmps15
  go_wp2
  go_loop [5] (fun i => ∃ k : Nat, k ≤ n ∧ i = .int .i64 k ∧ ∀ j, j < k → S j ≠ x) (fun i => n - (intOf i).toNat)
  case atStart => exact ⟨0, Nat.zero_le _, rfl, fun j hj => absurd hj (Nat.not_lt_zero _)⟩
  case round =>
    obtain ⟨k, hk, rfl, hno⟩ := hrel
    have HN : Hid (∀ j, j < k → S j ≠ x) := hno
    clear hno
    by_cases hlt : k < n
    · rcases h with h0 | ⟨b, off, hao, _, _, hc⟩
      · omega
      subst hao
      have hck := hc k hlt
      clear hc
      by_cases hx : S k = x
      · have hx' : ((S k).toList == x.toList) = true := by rw [hx]; simp
        have hr : r = true := by rw [HR.out, Lib.containsS_iff]; exact List.mem_map.2 ⟨k, List.mem_range.2 hlt, hx⟩
        have HRT : Hid (r = true) := hr
        clear hr hx
        go_wp2
        go_ret
        exact ⟨ret_bool HRT.out.symm, rfl⟩
      · have hx' : ((S k).toList == x.toList) = false := by
          rw [beq_eq_false_iff_ne]; exact fun e => hx (ba_ext e)
        have HX : Hid (¬ S k = x) := hx
        clear hx
        go_wp2
        go_round
        case rel =>
          refine ⟨k + 1, by omega, by go_num, fun j hj => ?_⟩
          by_cases e : j = k
          · subst e; exact HX.out
          · exact HN.out j (by omega)
        case measure => simp [intOf]; omega
    · have hr : r = false := by
        rw [HR.out, ← Bool.not_eq_true, Lib.containsS_iff]
        intro hm
        obtain ⟨j, hj, e⟩ := List.mem_map.1 hm
        exact HN.out j (by have := List.mem_range.1 hj; omega) e
      have HRT : Hid (r = false) := hr
      clear hr
      go_wp2
      go_ret
      exact ⟨ret_bool HRT.out.symm, rfl⟩

end Go.Proofs.Qxb6601184a

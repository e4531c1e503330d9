import Derived.Test.Qxb6601198aDoorRdA
namespace Go.Proofs.Qxb6601198aDoor
open Go.RowKit

set_option maxHeartbeats 2000000 in
set_option maxRecDepth 100000 in
theorem rd16u (u : Nat) (hu : u < 18446744073709551616) (w : World) :
    Calls Tryd.prog 18 #[.int .u64 u, .int .u64 16, .bool true] w fun e w' => (∃ r : ByteArray, e = .returned (.string r) ∧ r.data.toList = rdf 16 true 64 u) ∧ Below w.heap.size w w' := by
  go_enter Tryd.func18, Tryd.ntmps18
  go_wp2
  go_loopw [0, 8, 9] (fun v0 v8 _ wr => ∃ (i n : Nat) (cs : Array Value), v0 = .int .u64 n ∧ v8 = .int .i64 i ∧ i ≤ 64 ∧ wr = w.alloc (Obj.cells cs 56) ∧ Hid (RD 16 true u i n cs)) (fun _ v8 _ _ => (intOf v8).toNat)
  case atStart => exact ⟨64, u, _, rfl, rfl, by omega, rfl, Nat.lt_of_lt_of_le hu (by decide), .inr rfl, rfl, [], rfl, fun j hj => absurd hj (Nat.not_lt_zero _), by simp⟩
  case round =>
    obtain ⟨i, n, cs, rfl, rfl, hi, rfl, hh⟩ := hrel
    have hn := hh.out.lt hi
    obtain ⟨m, rfl⟩ : ∃ m, i = m + 1 := ⟨i - 1, by have := hh.out.pos; omega⟩
    obtain ⟨x, hx⟩ : ∃ x, cs[m]? = some x := ⟨_, Array.getElem?_eq_getElem (by have := hh.out.2.2.1; omega)⟩
    have hm : m < 64 := by omega
    by_cases hd : n % 16 < 10
    · skip
      by_cases hq : n / 16 = 0
      · have hdc : dch true (n % 16) = 48 + n % 16 := by rw [dch, if_pos hd]
        obtain ⟨hlen, hcell⟩ := hh.out.last hm (by rw [hdc]; omega) hq
        rw [hdc] at hcell
        have hsl := slice56 w.heap.size m hm (w.alloc (Obj.cells (cs.setIfInBounds m (.int .u8 (48 + (n : Int) % 16))) 56))
        have hcv := conv56 w.heap.size m (rdf 16 true 64 u) hlen (w.alloc (Obj.cells (cs.setIfInBounds m (.int .u8 (48 + (n : Int) % 16))) 56)) (fun j hj => by rw [cell_alloc]; rw [show (48 + (n : Int) % 16 : Int) = ((48 + n % 16 : Nat) : Int) from by omega]; exact hcell j hj)
        clear hdc hh hu hlen hcell
        go_wp2
        go_ret
        exact ⟨⟨_, rfl, by simp⟩, (Below.refl _ _).alloc (Nat.le_refl _) _⟩
      · have hdc : dch true (n % 16) = 48 + n % 16 := by rw [dch, if_pos hd]
        have HL : Hid _ := hh.out.step (by omega) hm (by rw [hdc]; omega) hq
        rw [hdc] at HL
        have hqi : (((n / 16 : Nat) : Int) == 0) = false := by simp; omega
        clear hdc hh hu
        go_wp2
        go_roundw
        case rel => exact ⟨m, n / 16, cs.setIfInBounds m (.int .u8 ((48 + n % 16 : Nat) : Int)), by go_num, rfl, by omega, by congr 4, HL⟩
        case measure => simp [intOf]
    · skip
      by_cases hq : n / 16 = 0
      · have hdc : dch true (n % 16) = 55 + n % 16 := by rw [dch, if_neg hd, if_pos rfl]
        obtain ⟨hlen, hcell⟩ := hh.out.last hm (by rw [hdc]; omega) hq
        rw [hdc] at hcell
        have hsl := slice56 w.heap.size m hm (w.alloc (Obj.cells (cs.setIfInBounds m (.int .u8 (65 + (n : Int) % 16 - 10))) 56))
        have hcv := conv56 w.heap.size m (rdf 16 true 64 u) hlen (w.alloc (Obj.cells (cs.setIfInBounds m (.int .u8 (65 + (n : Int) % 16 - 10))) 56)) (fun j hj => by rw [cell_alloc]; rw [show (65 + (n : Int) % 16 - 10 : Int) = ((55 + n % 16 : Nat) : Int) from by omega]; exact hcell j hj)
        clear hdc hh hu hlen hcell
        go_wp2
        go_ret
        exact ⟨⟨_, rfl, by simp⟩, (Below.refl _ _).alloc (Nat.le_refl _) _⟩
      · have hdc : dch true (n % 16) = 55 + n % 16 := by rw [dch, if_neg hd, if_pos rfl]
        have HL : Hid _ := hh.out.step (by omega) hm (by rw [hdc]; omega) hq
        rw [hdc] at HL
        have hqi : (((n / 16 : Nat) : Int) == 0) = false := by simp; omega
        clear hdc hh hu
        go_wp2
        go_roundw
        case rel => exact ⟨m, n / 16, cs.setIfInBounds m (.int .u8 ((55 + n % 16 : Nat) : Int)), by go_num, rfl, by omega, by congr 4; omega, HL⟩
        case measure => simp [intOf]

end Go.Proofs.Qxb6601198aDoor

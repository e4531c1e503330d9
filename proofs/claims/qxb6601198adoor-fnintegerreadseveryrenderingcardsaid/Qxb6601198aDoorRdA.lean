import Derived.Test.Qxb6601198aDoorProg
import Derived.WalkKit
import Derived.WalkSpells
import Derived.WalkLawsBesides
namespace Go.Proofs.Qxb6601198aDoor
open Go.RowKit

/-- A digit as renderDigits writes it. -/
def dch (up : Bool) (d : Nat) : Nat := if d < 10 then 48 + d else if up = true then 55 + d else 87 + d

/-- renderDigits, with room for f digits. -/
def rdf (b : Nat) (up : Bool) : Nat → Nat → List UInt8
  | 0, _ => []
  | f + 1, n => if n / b = 0 then [UInt8.ofNat (dch up (n % b))] else rdf b up f (n / b) ++ [UInt8.ofNat (dch up (n % b))]

/-- The loop ahead of a round: i cells are still free. -/
def RD (b : Nat) (up : Bool) (u i n : Nat) (cs : Array Value) : Prop :=
  n < 2 ^ i ∧ (0 < n ∨ i = 64) ∧ cs.size = 64 ∧ ∃ ds : List UInt8, ds.length = 64 - i ∧ (∀ j (hj : j < ds.length), cs[i + j]? = some (.int .u8 (ds[j].toNat : Int))) ∧ rdf b up 64 u = rdf b up i n ++ ds

theorem RD.pos {b : Nat} {up : Bool} {u i n : Nat} {cs : Array Value} (h : RD b up u i n cs) : 1 ≤ i := by
  obtain ⟨h1, h2, _⟩ := h
  rcases Nat.eq_zero_or_pos i with rfl | hp
  · rcases h2 with h2 | h2
    · simp at h1; omega
    · omega
  · exact hp

theorem RD.lt {b : Nat} {up : Bool} {u i n : Nat} {cs : Array Value} (h : RD b up u i n cs) (hi : i ≤ 64) : n < 18446744073709551616 :=
  Nat.lt_of_lt_of_le h.1 (Nat.le_trans (Nat.pow_le_pow_right (by omega) hi) (by decide))

theorem RD.step {b : Nat} (hb : 2 ≤ b) {up : Bool} {u m n : Nat} {cs : Array Value} (h : RD b up u (m + 1) n cs) (hm : m < 64) (hd : dch up (n % b) < 256) (hq : n / b ≠ 0) :
    RD b up u m (n / b) (cs.setIfInBounds m (.int .u8 (dch up (n % b) : Int))) := by
  obtain ⟨h1, h2, h3, ds, h4, h5, h6⟩ := h
  refine ⟨?_, .inl (Nat.pos_of_ne_zero hq), by simp [h3], UInt8.ofNat (dch up (n % b)) :: ds, by simp [h4]; omega, ?_, ?_⟩
  · rw [Nat.pow_succ] at h1
    exact Nat.div_lt_of_lt_mul (Nat.lt_of_lt_of_le h1 (by rw [Nat.mul_comm]; exact Nat.mul_le_mul_right _ hb))
  · intro j hj
    cases j with
    | zero =>
      simp only [Nat.add_zero, List.getElem_cons_zero]
      rw [Array.getElem?_setIfInBounds_self_of_lt (by omega)]
      simp [Nat.mod_eq_of_lt hd]
    | succ j =>
      rw [Array.getElem?_setIfInBounds_ne (by omega)]
      have := h5 j (by simpa using hj)
      rw [show m + (j + 1) = m + 1 + j from by omega, this]
      rfl
  · rw [h6, rdf, if_neg hq]
    simp

theorem RD.last {b : Nat} {up : Bool} {u m n : Nat} {cs : Array Value} (h : RD b up u (m + 1) n cs) (hm : m < 64) (hd : dch up (n % b) < 256) (hq : n / b = 0) :
    (rdf b up 64 u).length = 64 - m ∧ ∀ j (hj : j < (rdf b up 64 u).length), (cs.setIfInBounds m (.int .u8 (dch up (n % b) : Int)))[m + j]? = some (.int .u8 ((rdf b up 64 u)[j].toNat : Int)) := by
  obtain ⟨h1, h2, h3, ds, h4, h5, h6⟩ := h
  have e : rdf b up 64 u = UInt8.ofNat (dch up (n % b)) :: ds := by
    rw [h6, rdf, if_pos hq]
    rfl
  rw [e]
  refine ⟨by simp [h4]; omega, ?_⟩
  intro j hj
  cases j with
  | zero =>
    simp only [Nat.add_zero, List.getElem_cons_zero]
    rw [Array.getElem?_setIfInBounds_self_of_lt (by omega)]
    simp [Nat.mod_eq_of_lt hd]
  | succ j =>
    rw [Array.getElem?_setIfInBounds_ne (by omega)]
    have := h5 j (by simpa using hj)
    rw [show m + (j + 1) = m + 1 + j from by omega, this]
    rfl

theorem slice56 (B m : Nat) (hm : m < 64) (W : World) : (Instr.sliceAt 56 (.pointer (some ⟨B, 0, none⟩)) (some (.int .i64 (m : Int))) none none).run Tryd.prog W = .ok (.slice (some ⟨B, m, none⟩) (64 - m) (64 - m)) W := by
  have e : Tryd.prog.arrayLen 56 = 64 := by kernel_rfl
  rw [run_sliceAt_array_l W 56 ⟨B, 0, none⟩ (by kernel_rfl) .i64 (m : Int) (by omega) (by rw [e]; omega), e]
  have e5 : Tryd.prog.elem 56 = 5 := by kernel_rfl
  have z5 : (sizeOf 5).run Tryd.prog W = .ok 1 W := by kernel_rfl
  rw [e5, z5]
  have hne : ¬ (64 = m) := by omega
  simp [Result.andThen, slicedAt, hne, Addr.add]
  exact fun h => h.symm

theorem conv56 (B m : Nat) (L : List UInt8) (hL : L.length = 64 - m) (W : World) (hc : ∀ j (hj : j < L.length), W.cell? ⟨B, m + j, none⟩ = some (.int .u8 (L[j].toNat : Int))) :
    (convert 37 9 (.slice (some ⟨B, m, none⟩) (64 - m) (64 - m))).run Tryd.prog W = .ok (.string ⟨L.toArray⟩) W := by
  rw [← hL]
  exact run_convert_bytes_back W 37 9 5 ⟨B, m, none⟩ L.length L Tryd.underlying37 Tryd.underlying5 Tryd.underlying9 (fun j hj => by
    have e : (⟨B, m, none⟩ : Addr).add j = ⟨B, m + j, none⟩ := by unfold Addr.add; split <;> simp_all
    rw [e]
    exact hc j hj)

theorem cell_alloc (w : World) (C : Array Value) (t : TypeId) (j : Nat) : (w.alloc (.cells C t)).cell? ⟨w.heap.size, j, none⟩ = C[j]? := World.cell?_alloc_mark w C t (0, 0) j

end Go.Proofs.Qxb6601198aDoor

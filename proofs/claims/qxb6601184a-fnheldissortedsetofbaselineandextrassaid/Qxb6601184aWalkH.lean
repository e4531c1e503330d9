import Derived.Test.Qxb6601184aWalkD
import Derived.Deep.LoopGhost
namespace Go.Proofs.Qxb6601184a
open Go.RowKit Go.Sort

/-- Is the role among the row's roles? -/
def inRow (role : ByteArray) (RL : Nat → Nat) (RS : Nat → Nat → ByteArray) (i : Nat) : Bool := Lib.containsS ((List.range (RL i)).map (RS i)) role

/-- slices.Contains. -/
theorem contains27 {B : Nat} {ra : Option Addr} {rl : Nat} {rs : Nat → ByteArray} (rc : Nat) (role : ByteArray) (w : World) (hl : rl ≤ 8796093022208) (h : StrsFrom B w ra rl rs) :
    Calls Try.prog 27 #[.slice ra rl rc, .string role] w fun e w' => e = .returned (.bool (Lib.containsS ((List.range rl).map rs) role)) ∧ w' = w := by
  rcases h with rfl | ⟨b, off, rfl, _, _, hc⟩
  · exact AnyG.slices_Contains_string_empty Try.lContains ra rc role w
  · have h := AnyG.slices_Contains_string Try.lContains b off rl rc ((List.range rl).map rs) role w (by simp) (by omega) (by
      intro j hj
      have hj' : j < rl := by simpa using hj
      rw [hc j hj', getD_lt _ _ hj]
      simp)
    have e : ((List.range rl).map rs).take rl = (List.range rl).map rs := List.take_of_length_le (by simp)
    rw [e] at h
    exact h

/-- slices.Clone. -/
theorem clone26 {B : Nat} {xo : Option Addr} {xn : Nat} {ES : Nat → ByteArray} (xc : Nat) (w : World) (hl : xn ≤ 8796093022208) (h : StrsFrom B w xo xn ES) :
    Calls Try.prog 26 #[.slice xo xn xc] w fun e w' => ∃ v, e = .returned v ∧ w'.ownsRow w.heap.size 46 1 v xn ((strs ES xn).map encStr) ∧ (v = .slice none 0 0 ↔ xo = none) ∧ Below w.heap.size w w' := by
  cases xo with
  | none =>
    have := h.nil0 rfl
    subst this
    have hc : Calls Try.prog 26 #[.slice none 0 xc] w fun e w' => e = .returned (.slice none 0 0) ∧ w' = w := AnyG.slices_Clone_string_nil Try.lClone 0 xc w
    refine hc.mono ?_
    rintro e w' ⟨rfl, rfl⟩
    exact ⟨_, rfl, World.ownsRow_nil _ _ _ _, by simp, Below.refl _ _⟩
  | some a =>
    rcases h with rfl | ⟨b, off, e, _, _, hc⟩
    · have hc : Calls Try.prog 26 #[.slice (some a) 0 xc] w fun e w' => ∃ v', e = .returned v' ∧ w'.ownsRow w.heap.size 46 1 v' 0 [] ∧ v' ≠ .slice none 0 0 ∧ Below w.heap.size w w' := AnyG.slices_Clone_string_zero Try.lClone a xc w
      refine hc.mono ?_
      rintro e w' ⟨v, rfl, ho, hv, hb⟩
      exact ⟨v, rfl, ho, by simp [hv], hb⟩
    · obtain rfl := Option.some.inj e
      have hc : Calls Try.prog 26 #[.slice (some ⟨b, off, none⟩) xn xc] w fun e w' => ∃ v', e = .returned v' ∧ w'.ownsRow w.heap.size 46 1 v' xn ((((List.range xn).map ES).take xn).map (Value.string)) ∧ v' ≠ .slice none 0 0 ∧ Below w.heap.size w w' :=
        AnyG.slices_Clone_string Try.lClone b off xn xc ((List.range xn).map ES) w (by simp) (by omega) (by
          intro j hj
          have hj' : j < xn := by simpa using hj
          rw [hc j hj', getD_lt _ _ hj]
          simp)
      refine hc.mono ?_
      rintro e w' ⟨v, rfl, ho, hv, hb⟩
      refine ⟨v, rfl, ?_, by simp [hv], hb⟩
      have e : (((List.range xn).map ES).take xn).map Value.string = (strs ES xn).map encStr := by
        rw [List.take_of_length_le (by simp)]; simp [strs, encStr, Function.comp_def]
      rw [← e]; exact ho

/-- slices.Compact on a slice of the call's own. -/
theorem compact28 {base g n cap : Nat} {zs : List (List UInt8)} (w : World) (hown : w.ownsRow base 46 1 (.slice (some ⟨g, 0, none⟩) n cap) n (zs.map encStr)) (hn : n < 4611686018427387904) :
    Calls Try.prog 28 #[.slice (some ⟨g, 0, none⟩) n cap] w fun e w' => e = .returned (.slice (some ⟨g, 0, none⟩) (Lib.compact zs).length cap) ∧ w'.ownsRow base 46 1 (.slice (some ⟨g, 0, none⟩) (Lib.compact zs).length cap) (Lib.compact zs).length ((Lib.compact zs).map encStr) ∧ w.grownBy w' (some g) := by
  obtain ⟨g', cap', hv, hb, hlt, hnc, hcm, hlen, hH⟩ := Lib.holds_of_ownsRow hown (by simp)
  cases hv
  subst hlen
  have hc : Calls Try.prog 28 #[.slice (some ⟨g, 0, none⟩) zs.length cap] w fun e w' => e = .returned (.slice (some ⟨g, 0, none⟩) (Lib.compact zs).length cap) ∧ ∃ q, w' = putRow encStr (Sort.ahead w q) g 0 (Lib.compact zs ++ List.replicate (zs.length - (Lib.compact zs).length) []).toArray :=
    AnyG.slices_Compact_string Try.lCompact g 0 cap zs w hH (by omega) hnc
  refine hc.mono ?_
  rintro e w' ⟨rfl, q, rfl⟩
  have hle := Lib.compact_length_le zs
  have ho := Lib.ownsRow_putRow (q := q) (k := (Lib.compact zs).length) (ys := Lib.compact zs ++ List.replicate (zs.length - (Lib.compact zs).length) []) hown (by simp; omega) (by omega)
  rw [List.take_left] at ho
  refine ⟨rfl, ho, ⟨rfl, rfl, rfl, by simp [putRow, mapBlock, Sort.ahead], fun k hk hne => ?_⟩⟩
  have : g ≠ k := fun e => hne (by rw [e])
  simp [putRow, mapBlock, Sort.ahead, Array.getElem?_modify, this]

theorem sort25_nil (w : World) : Calls Try.prog 25 #[.slice none 0 0] w fun e w' => e = .returned (.tuple #[]) ∧ w' = w :=
  AnyM.slices_Sort_string_none Try.lSort none 0 w
theorem compact28_nil (w : World) : Calls Try.prog 28 #[.slice none 0 0] w fun e w' => e = .returned (.slice none 0 0) ∧ w' = w :=
  AnyG.slices_Compact_string_empty Try.lCompact none 0 w

/-- The scopes of those of the first k rows that name the role. -/
def hits (role : ByteArray) (Sc : Nat → ByteArray) (RL : Nat → Nat) (RS : Nat → Nat → ByteArray) (k : Nat) : List (List UInt8) := ((List.range k).filter (inRow role RL RS)).map fun i => (Sc i).data.toList
theorem hits_yes {role : ByteArray} {Sc : Nat → ByteArray} {RL : Nat → Nat} {RS : Nat → Nat → ByteArray} {k : Nat} (h : inRow role RL RS k = true) : hits role Sc RL RS (k + 1) = hits role Sc RL RS k ++ [(Sc k).data.toList] := by
  simp [hits, List.range_succ, List.filter_append, h]
theorem hits_no {role : ByteArray} {Sc : Nat → ByteArray} {RL : Nat → Nat} {RS : Nat → Nat → ByteArray} {k : Nat} (h : inRow role RL RS k = false) : hits role Sc RL RS (k + 1) = hits role Sc RL RS k := by
  simp [hits, List.range_succ, List.filter_append, h]
theorem hits_le (role : ByteArray) (Sc : Nat → ByteArray) (RL : Nat → Nat) (RS : Nat → Nat → ByteArray) (k : Nat) : (hits role Sc RL RS k).length ≤ k := by
  have := List.length_filter_le (inRow role RL RS) (List.range k)
  simpa [hits] using this

end Go.Proofs.Qxb6601184a

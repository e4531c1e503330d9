import Derived.Test.Qxb6601184aRows
import Derived.Test.Qxb6601184aBase
import Derived.ProofKit
import Derived.SizedLaws
import Derived.OpenShut
import Derived.Deep.Strs
import Derived.Deep.SlicePairs
namespace Go.Proofs.Qxb6601184a
open Go.ChangeShapes Go.WideShapes Go.ChangeAt Go.RowKit

theorem Try.own : ownKnob Try.prog.godebug = none := by kernel_rfl
theorem Try.laidOut : laidOutB Try.prog = true := by kernel_rfl
theorem Try.cells9 : Try.prog.cellsOf 9 = 1 := by kernel_rfl
theorem Try.cells31 : Try.prog.cellsOf 31 = 1 := by kernel_rfl
theorem Try.cells33 : Try.prog.cellsOf 33 = 2 := by kernel_rfl
theorem Try.bytes9 : Try.prog.bytesOf 9 = 16 := by kernel_rfl
theorem Try.bytes33 : Try.prog.bytesOf 33 = 40 := by kernel_rfl

section
variable {H : Type} {enc : TypeId × Value → H} {W : World} {fuel : Nat}

/-- A slice of strings that is read as data, as the walks see it. -/
theorem strs_of_trod {cs : List Value} {d : DataW H} {pl : List MemPlace} (h : DataW.trod enc Try.prog W 0 (fun _ => true) true fuel 31 cs = some (d, pl)) (hw : ∀ x ∈ d.weights Try.prog 31, x ≤ reachBytes) :
    ∃ ao len cap S, cs = [.slice ao len cap] ∧ StrsFrom 0 W ao len S ∧ len ≤ 8796093022208 ∧ (ao = none → cap = 0) := by
  rcases Go.Deep.open_strs Try.underlying31 Try.underlying9 Try.cells9 h with ⟨rfl, hx⟩ | ⟨a, len, cap, m, S, rfl, _, hl, hm, hmm, hx, hcell⟩
  · exact ⟨none, 0, 0, fun _ => ByteArray.empty, rfl, .inl rfl, by omega, fun _ => rfl⟩
  · refine ⟨some a, len, cap, S, rfl, ?_, ?_, fun e => by cases e⟩
    · by_cases h0 : len = 0
      · exact .inl h0
      · simp only [if_true] at hmm
        obtain ⟨b, off, spot⟩ := a
        have hspot : spot = none := by simpa [Addr.add] using World.cell?_spot (hcell 0 (by omega)).1
        subst hspot
        have hc : ∀ i, i < len → W.cell? ⟨b, off + i, none⟩ = some (.string (S i)) := fun i hi => by rw [← add_plain]; exact (hcell i (by omega)).1
        exact .inr ⟨b, off, rfl, Nat.zero_le _, World.block_lt_of_cell? W _ (hc 0 (by omega)), hc⟩
    · simp only [Prod.mk.injEq] at hx
      obtain ⟨rfl, _⟩ := hx
      have := hw _ (by simp only [DataW.weights, Try.underlying31]; exact List.mem_cons_self)
      rw [Try.bytes9] at this
      simp only [List.length_map, List.length_range, reachBytes] at this
      omega

theorem mem_weightsAll {P : Program} {e : TypeId} {l : List (DataW H)} {d : DataW H} (hd : d ∈ l) {x : Nat} (hx : x ∈ d.weights P e) : x ∈ DataW.weightsAll P e l := by
  induction l with
  | nil => cases hd
  | cons y r ih =>
    rw [DataW.weightsAll]
    rcases List.mem_cons.1 hd with rfl | hd
    · exact List.mem_append_left _ hx
    · exact List.mem_append_right _ (ih hd)

/-- A slice of rows that is read as data, as the walks see it. -/
theorem rows_of_trod {cs : List Value} {d : DataW H} {pl : List MemPlace} (h : DataW.trod enc Try.prog W 0 (fun _ => true) true fuel 22 cs = some (d, pl)) (hw : ∀ x ∈ d.weights Try.prog 22, x ≤ reachBytes) :
    ∃ ao len cap Sc RL RS, cs = [.slice ao len cap] ∧ RowsFrom 0 W ao len Sc RL RS ∧ len ≤ 3518437208883 ∧ ∀ i, i < len → RL i ≤ 8796093022208 := by
  rcases Go.Deep.open_slice_pairs Try.underlying22 Try.underlying33 Try.cells33 rfl rfl Try.cells9 Try.cells31 h with ⟨rfl, hx⟩ | ⟨a, len, cap, m, n, V0, V1, D0, D1, P0, P1, rfl, _, hl, hm, hmm, hx, hcell⟩
  · exact ⟨none, 0, 0, fun _ => ByteArray.empty, fun _ => 0, fun _ _ => ByteArray.empty, rfl, .inl rfl, by omega, fun i hi => by omega⟩
  · simp only [if_true] at hmm
    simp only [Prod.mk.injEq] at hx
    obtain ⟨rfl, _⟩ := hx
    have hlen : len ≤ 3518437208883 := by
      have := hw _ (by simp only [DataW.weights, Try.underlying22]; exact List.mem_cons_self)
      rw [Try.bytes33] at this
      simp only [List.length_map, List.length_range, reachBytes] at this
      omega
    have hD1 : ∀ i, i < len → ∀ x ∈ (D1 i).weights Try.prog 31, x ≤ reachBytes := by
      intro i hi x hx
      refine hw x ?_
      simp only [DataW.weights, Try.underlying22]
      refine List.mem_cons_of_mem _ (List.mem_append_left _ (mem_weightsAll (d := .agg [D0 i, D1 i]) (List.mem_map.2 ⟨i, List.mem_range.2 hi, rfl⟩) ?_))
      simp only [DataW.weights, Try.underlying33, List.map_cons, List.map_nil, DataW.weightsEach]
      simp [hx]
    have hstr : ∀ i, i < len → ∃ s : ByteArray, V0 i = .string s := fun i hi => by
      obtain ⟨s, h1, _⟩ := DataW.trod_string Try.underlying9 (hcell i (by omega)).2.2.1
      exact ⟨s, by simpa using h1⟩
    have hrl : ∀ i, i < len → ∃ q : Option Addr × Nat × Nat × (Nat → ByteArray), V1 i = .slice q.1 q.2.1 q.2.2.1 ∧ StrsFrom 0 W q.1 q.2.1 q.2.2.2 ∧ q.2.1 ≤ 8796093022208 := fun i hi => by
      obtain ⟨ao, l, c, S, h1, h2, h3, _⟩ := strs_of_trod (hcell i (by omega)).2.2.2 (hD1 i hi)
      exact ⟨(ao, l, c, S), by simpa using h1, h2, h3⟩
    obtain ⟨Sc, hSc⟩ := Go.Deep.choose_lt hstr
    obtain ⟨q, hq⟩ := Go.Deep.choose_lt hrl
    refine ⟨some a, len, cap, Sc, fun i => (q i).2.1, fun i => (q i).2.2.2, rfl, ?_, hlen, fun i hi => (hq i hi).2.2⟩
    by_cases h0 : len = 0
    · exact .inl h0
    · obtain ⟨b, off, spot⟩ := a
      have hspot : spot = none := by simpa [Addr.add] using World.cell?_spot (hcell 0 (by omega)).1
      subst hspot
      refine .inr ⟨b, off, rfl, Nat.zero_le _, ?_, fun i hi => ⟨?_, (q i).1, (q i).2.2.1, ?_, (hq i hi).2.1⟩⟩
      · exact World.block_lt_of_cell? W ⟨b, off, none⟩ (by have := (hcell 0 (by omega)).1; rw [add_plain] at this; simpa using this)
      · rw [← add_plain, (hcell i (by omega)).1, hSc i hi]
      · have := (hcell i (by omega)).2.1
        rw [add_plain] at this
        rw [Nat.add_assoc, this, (hq i hi).1]

end
end Go.Proofs.Qxb6601184a

import Derived.WalkKit
namespace Go.Proofs.Qxb6601184a
open Go.RowKit

/-- The strings of a slice of strings, as they lie in the world, in blocks from B on. -/
def StrsFrom (B : Nat) (w : World) (ao : Option Addr) (n : Nat) (S : Nat → ByteArray) : Prop :=
  n = 0 ∨ ∃ b off, ao = some ⟨b, off, none⟩ ∧ B ≤ b ∧ b < w.heap.size ∧ ∀ i, i < n → w.cell? ⟨b, off + i, none⟩ = some (.string (S i))

/-- Row i of a slice of rows: its scope, and its roles. -/
def RowAt (B : Nat) (w : World) (b off i : Nat) (Sc : Nat → ByteArray) (RL : Nat → Nat) (RS : Nat → Nat → ByteArray) : Prop :=
  w.cell? ⟨b, off + i * 2, none⟩ = some (.string (Sc i)) ∧ ∃ ra rc, w.cell? ⟨b, off + i * 2 + 1, none⟩ = some (.slice ra (RL i) rc) ∧ StrsFrom B w ra (RL i) (RS i)

/-- The rows of a slice of rows. -/
def RowsFrom (B : Nat) (w : World) (ao : Option Addr) (n : Nat) (Sc : Nat → ByteArray) (RL : Nat → Nat) (RS : Nat → Nat → ByteArray) : Prop :=
  n = 0 ∨ ∃ b off, ao = some ⟨b, off, none⟩ ∧ B ≤ b ∧ b < w.heap.size ∧ ∀ i, i < n → RowAt B w b off i Sc RL RS

/-- A call that answers some bool ¦ some int. -/
def SomeBool (e : Ending) : Prop := ∃ b : Bool, e = .returned (.bool b)
def SomeInt (e : Ending) : Prop := ∃ z : Int, e = .returned (.int .i64 z)

theorem StrsFrom.below {B : Nat} {w w' : World} {ao : Option Addr} {n : Nat} {S : Nat → ByteArray} (h : StrsFrom B w ao n S) (hb : Below w.heap.size w w') : StrsFrom B w' ao n S := by
  rcases h with h | ⟨b, off, e, h0, h1, h2⟩
  · exact .inl h
  · exact .inr ⟨b, off, e, h0, Nat.lt_of_lt_of_le h1 hb.size, fun i hi => (hb.cell (p := ⟨b, off + i, none⟩) h1).trans (h2 i hi)⟩

theorem StrsFrom.mono {B B' : Nat} {w : World} {ao : Option Addr} {n : Nat} {S : Nat → ByteArray} (h : StrsFrom B w ao n S) (hb : B' ≤ B) : StrsFrom B' w ao n S := by
  rcases h with h | ⟨b, off, e, h0, h1, h2⟩
  · exact .inl h
  · exact .inr ⟨b, off, e, Nat.le_trans hb h0, h1, h2⟩

theorem RowsFrom.below {B : Nat} {w w' : World} {ao : Option Addr} {n : Nat} {Sc : Nat → ByteArray} {RL : Nat → Nat} {RS : Nat → Nat → ByteArray} (h : RowsFrom B w ao n Sc RL RS) (hb : Below w.heap.size w w') : RowsFrom B w' ao n Sc RL RS := by
  rcases h with h | ⟨b, off, e, h0, h1, h2⟩
  · exact .inl h
  · refine .inr ⟨b, off, e, h0, Nat.lt_of_lt_of_le h1 hb.size, fun i hi => ?_⟩
    obtain ⟨c0, ra, rc, c1, hs⟩ := h2 i hi
    exact ⟨(hb.cell (p := ⟨b, off + i * 2, none⟩) h1).trans c0, ra, rc, (hb.cell (p := ⟨b, off + i * 2 + 1, none⟩) h1).trans c1, hs.below hb⟩

theorem ownsRow_below {w w' : World} {base : Nat} {e : TypeId} {size : Nat} {v : Value} {n : Nat} {xs : List Value} (h : w.ownsRow base e size v n xs) (hb : Below w.heap.size w w') : w'.ownsRow base e size v n xs := by
  obtain ⟨h1, h2⟩ := h
  refine ⟨h1, ?_⟩
  rcases h2 with h2 | ⟨g, cap, cur, hv, hg, hh, r⟩
  · exact .inl h2
  · refine .inr ⟨g, cap, cur, hv, hg, ?_, r⟩
    have hlt : g < w.heap.size := by
      rcases Nat.lt_or_ge g w.heap.size with h' | h'
      · exact h'
      · rw [Array.getElem?_eq_none h'] at hh; cases hh
    rw [hb.block g hlt]; exact hh

theorem StrsFrom.setCell {B : Nat} {w : World} {ao : Option Addr} {n : Nat} {S : Nat → ByteArray} (h : StrsFrom B w ao n S) (p : Addr) (hp : p.block < B) (u : Value) : StrsFrom B (w.setCell p u) ao n S := by
  rcases h with h | ⟨b, off, e, h0, h1, h2⟩
  · exact .inl h
  · refine .inr ⟨b, off, e, h0, by simpa [World.setCell] using h1, fun i hi => ?_⟩
    rw [World.cell?_setCell_other]
    · exact h2 i hi
    · intro e; subst e; simp at hp; omega

theorem StrsFrom.nil0 {B : Nat} {w : World} {ao : Option Addr} {n : Nat} {S : Nat → ByteArray} (h : StrsFrom B w ao n S) : ao = none → n = 0 := by
  rintro rfl
  rcases h with h | ⟨b, off, e, _⟩
  · exact h
  · cases e

theorem table_step {N : Nat} {wr w2 : World} {n k : Nat} {xs : List Value} {Sc : Nat → ByteArray} {RL : Nat → Nat} {RS : Nat → Nat → ByteArray} {ao2 : Option Addr} {c2 : Nat}
    (hown : wr.ownsRow (N + 1) 51 2 (.slice (some ⟨N + 1, 0, none⟩) n n) n xs)
    (hxs : ∀ j, j < k → xs[j * 2]? = some (.string (Sc j)) ∧ ∃ ra rc, xs[j * 2 + 1]? = some (.slice ra (RL j) rc) ∧ StrsFrom (N + 2) wr ra (RL j) (RS j))
    (hk : k < n) (hsz : N + 1 < wr.heap.size) (hb2 : Below wr.heap.size wr w2) (hst : StrsFrom wr.heap.size w2 ao2 (RL k) (RS k)) :
    ∃ xs', ((w2.setCell ⟨N + 1, k * 2, none⟩ (.string (Sc k))).setCell ⟨N + 1, k * 2 + 1, none⟩ (.slice ao2 (RL k) c2)).ownsRow (N + 1) 51 2 (.slice (some ⟨N + 1, 0, none⟩) n n) n xs' ∧
      ∀ j, j < k + 1 → xs'[j * 2]? = some (.string (Sc j)) ∧ ∃ ra rc, xs'[j * 2 + 1]? = some (.slice ra (RL j) rc) ∧ StrsFrom (N + 2) ((w2.setCell ⟨N + 1, k * 2, none⟩ (.string (Sc k))).setCell ⟨N + 1, k * 2 + 1, none⟩ (.slice ao2 (RL k) c2)) ra (RL j) (RS j) := by
  have h2 := ownsRow_below hown hb2
  have h3 := ((h2.stored (k * 2) (.string (Sc k))).1.stored (k * 2 + 1) (.slice ao2 (RL k) c2)).1
  have hl : xs.length = n * 2 := by simpa using hown.1
  refine ⟨_, h3, fun j hj => ?_⟩
  rw [List.getElem?_set, if_neg (by omega), List.getElem?_set, List.getElem?_set]
  by_cases e : k = j
  · subst e
    rw [if_pos rfl, if_pos (by omega), if_pos rfl, if_pos (by simp; omega)]
    exact ⟨rfl, ao2, c2, rfl, ((hst.mono (by omega)).setCell _ (by simp) _).setCell _ (by simp) _⟩
  · obtain ⟨h4, ra, rc, h5, h6⟩ := hxs j (by omega)
    rw [if_neg (by omega), if_neg (by omega), List.getElem?_set, if_neg (by omega)]
    exact ⟨h4, ra, rc, h5, ((h6.below hb2).setCell _ (by simp) _).setCell _ (by simp) _⟩

theorem ownsRow_mono {w : World} {base base' : Nat} {e : TypeId} {size : Nat} {v : Value} {n : Nat} {xs : List Value} (h : w.ownsRow base e size v n xs) (hb : base' ≤ base) : w.ownsRow base' e size v n xs := by
  obtain ⟨h1, h2⟩ := h
  refine ⟨h1, ?_⟩
  rcases h2 with h2 | ⟨g, cap, cur, hv, hg, r⟩
  · exact .inl h2
  · exact .inr ⟨g, cap, cur, hv, Nat.le_trans hb hg, r⟩

theorem bcell {W w1 : World} (hb : Below W.heap.size W w1) : (∀ b o, b < W.heap.size → w1.cell? ⟨b, o, none⟩ = W.cell? ⟨b, o, none⟩) ∧ (∀ b o, b < W.heap.size → w1.frozen? ⟨b, o, none⟩ = W.frozen? ⟨b, o, none⟩) :=
  ⟨fun b o h => hb.cell (p := ⟨b, o, none⟩) h, fun b o h => hb.frozen (p := ⟨b, o, none⟩) h⟩

end Go.Proofs.Qxb6601184a

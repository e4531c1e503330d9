import Derived.Test.Qxb6601198aDoorPlA
import Derived.Lib.Strings
namespace Go.Proofs.Qxb6601198aDoor
open Go.RowKit

/-- A JSON integer. -/
def Nonneg (l : List UInt8) : Prop := l = [48] ∨ ∃ c r, l = c :: r ∧ 49 ≤ c.toNat ∧ c.toNat ≤ 57 ∧ ∀ x ∈ r, 48 ≤ x.toNat ∧ x.toNat ≤ 57
def Jint (l : List UInt8) : Prop := Nonneg l ∨ ∃ r, l = 45 :: r ∧ Nonneg r
def Marked (c : UInt8) : Prop := c.toNat = 46 ∨ c.toNat = 101 ∨ c.toNat = 69

/-- A word that plain accepts. -/
def Good (l : List UInt8) : Prop := l = [116, 114, 117, 101] ∨ l = [102, 97, 108, 115, 101] ∨ l = [110, 117, 108, 108] ∨ (∃ c ∈ l, Marked c) ∨ Jint l

/-- Behind the sign. -/
def SgnAt (d : ByteArray) (i : Nat) : Prop := i = 0 ∨ (i = 1 ∧ ∃ h : 0 < d.size, d[0].toNat = 45)

def NumAt (d : ByteArray) (i : Nat) : Prop := Jint (d.data.toList.take i)
def NumOr (d : ByteArray) (i : Nat) : Prop := Jint (d.data.toList.take i) ∨ ∃ c ∈ d.data.toList.take i, Marked c

theorem byte_eq {c : UInt8} {n : UInt8} (h : c.toNat = n.toNat) : c = n := UInt8.toNat_inj.mp h
theorem get_list (d : ByteArray) (i : Nat) (h : i < d.size) : ∃ h' : i < d.data.toList.length, d.data.toList[i] = d[i] := ⟨by rw [← Lib.size_eq]; exact h, rfl⟩

theorem num_of {d : ByteArray} {i k : Nat} (hs : SgnAt d i) (hik : i < k) (h : Nonneg ((d.data.toList.drop i).take (k - i))) : NumAt d k := by
  rcases hs with rfl | ⟨rfl, h0, hc⟩
  · exact .inl (by simpa using h)
  · obtain ⟨h', e⟩ := get_list d 0 h0
    cases hl : d.data.toList with
    | nil => rw [hl] at h'; simp at h'
    | cons c r =>
      have hcc : c = 45 := byte_eq (by
        have : d.data.toList[0] = c := by simp [hl]
        rw [← this, e]; exact hc)
      obtain ⟨m, rfl⟩ : ∃ m, k = m + 1 := ⟨k - 1, by omega⟩
      refine .inr ⟨r.take m, ?_, ?_⟩
      · rw [hl, hcc]; rfl
      · rw [hl] at h
        simpa using h

theorem drop_at (d : ByteArray) (i : Nat) (h : i < d.size) : d.data.toList.drop i = d[i] :: d.data.toList.drop (i + 1) := by
  obtain ⟨h', e⟩ := get_list d i h
  rw [← e]
  exact List.drop_eq_getElem_cons h'

theorem num_zero {d : ByteArray} {i : Nat} (hs : SgnAt d i) (h : i < d.size) (hc : d[i].toNat = 48) : NumAt d (i + 1) := by
  refine num_of hs (by omega) (.inl ?_)
  rw [drop_at d i h, show i + 1 - i = 0 + 1 from by omega, List.take_succ_cons]
  rw [show d[i] = 48 from byte_eq hc]
  rfl

theorem num_digits {d : ByteArray} {i k : Nat} (hs : SgnAt d i) (h : i < d.size) (h0 : 49 ≤ d[i].toNat) (h1 : d[i].toNat ≤ 57) (hik : i ≤ k) (hk : k ≤ d.size) (hd : Digs d i k) (hst : Stops d k) : NumAt d k := by
  have hlt : i < k := by
    rcases Nat.lt_or_ge i k with h' | h'
    · exact h'
    · obtain rfl : k = i := by omega
      have := hst h
      omega
  refine num_of hs hlt (.inr ⟨d[i], (d.data.toList.drop (i + 1)).take (k - i - 1), ?_, h0, h1, ?_⟩)
  · rw [drop_at d i h, show k - i = (k - i - 1) + 1 from by omega, List.take_succ_cons]
    simp
  · intro x hx
    obtain ⟨j, hj, rfl⟩ := List.getElem_of_mem hx
    simp only [List.length_take, List.length_drop] at hj
    rw [List.getElem_take, List.getElem_drop]
    exact hd (i + 1 + j) (by omega) (by omega) (by omega)

theorem numOr_of {d : ByteArray} {k : Nat} (h : NumAt d k) : NumOr d k := .inl h
theorem numOr_mark {d : ByteArray} {i k : Nat} (h : i < d.size) (hik : i < k) (hc : Marked d[i]) : NumOr d k := by
  obtain ⟨h', e⟩ := get_list d i h
  refine .inr ⟨d[i], ?_, hc⟩
  rw [← e]
  exact List.mem_iff_getElem.mpr ⟨i, by simp only [List.length_take]; omega, by rw [List.getElem_take]⟩

theorem good_of {d : ByteArray} {k : Nat} (h : NumOr d k) : Good (d.data.toList.take k) := by
  rcases h with h | h
  · exact .inr (.inr (.inr (.inr h)))
  · exact .inr (.inr (.inr (.inl h)))

end Go.Proofs.Qxb6601198aDoor

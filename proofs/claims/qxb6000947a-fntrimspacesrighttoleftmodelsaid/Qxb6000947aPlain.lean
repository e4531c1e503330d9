import Derived.WalkKit
namespace Go.Proofs.Qxb6000947a

/-- The byte at place i (0 beyond the end). -/
def bt (s : ByteArray) (i : Nat) : Nat := if h : i < s.size then s[i].toNat else 0
theorem bt_eq (s : ByteArray) (i : Nat) (h : i < s.size) : s[i].toNat = bt s i := by simp [bt, h]
theorem bt_lt (s : ByteArray) (i : Nat) : bt s i < 256 := by
  unfold bt; split
  · exact s[i].toNat_lt
  · omega

/-- The length of the run of backslashes that ends at place i. -/
def run (s : ByteArray) : Nat → Nat
  | 0 => 0
  | i + 1 => if bt s i = 92 then run s i + 1 else 0

theorem run_yes {s : ByteArray} {i : Nat} (h : bt s i = 92) : run s (i + 1) = run s i + 1 := by rw [run, if_pos h]
theorem run_no {s : ByteArray} {i : Nat} (h : bt s i ≠ 92) : run s (i + 1) = 0 := by rw [run, if_neg h]

theorem run_is (s : ByteArray) : ∀ (r k : Nat), r ≤ k → (∀ j, k - r ≤ j → j < k → bt s j = 92) → (r = k ∨ bt s (k - 1 - r) ≠ 92) → run s k = r
  | 0, 0, _, _, _ => rfl
  | 0, k + 1, _, _, h2 => by
    rcases h2 with h2 | h2
    · omega
    · exact run_no (by simpa using h2)
  | r + 1, 0, h, _, _ => by omega
  | r + 1, k + 1, h, h1, h2 => by
    rw [run_yes (h1 k (by omega) (by omega)), run_is s r k (by omega) (fun j hj1 hj2 => h1 j (by omega) (by omega))]
    rcases h2 with h2 | h2
    · left; omega
    · right
      rw [show k - 1 - r = k + 1 - 1 - (r + 1) from by omega]
      exact h2

/-- e is where the text ends that is kept of the first i bytes; i is no escaped place. -/
structure Inv (s : ByteArray) (i e : Nat) : Prop where
  ei : e ≤ i
  iN : i ≤ s.size
  sp : ∀ j, e ≤ j → j < i → bt s j = 32
  ti : run s i % 2 = 0 ∨ i = s.size
  te : run s e % 2 = 0 ∨ e = s.size
  pe : e = 0 ∨ bt s (e - 1) ≠ 32 ∨ run s (e - 1) % 2 = 1

theorem Inv.start (s : ByteArray) : Inv s 0 0 := ⟨Nat.le_refl _, Nat.zero_le _, fun j _ h => by omega, .inl rfl, .inl rfl, .inl rfl⟩

theorem Inv.pair {s : ByteArray} {i e : Nat} (h : Inv s i e) (hi : i + 1 < s.size) (hb : bt s i = 92) : Inv s (i + 2) (i + 2) := by
  have hr : run s i % 2 = 0 := h.ti.resolve_right (by omega)
  have h1 := run_yes hb
  have t : run s (i + 2) % 2 = 0 := by
    by_cases hc : bt s (i + 1) = 92
    · rw [run_yes hc, h1]; omega
    · rw [run_no hc]
  refine ⟨Nat.le_refl _, by omega, fun j _ h => by omega, .inl t, .inl t, .inr (.inr ?_)⟩
  show run s (i + 1) % 2 = 1
  rw [h1]; omega

theorem Inv.last {s : ByteArray} {i e : Nat} (_h : Inv s i e) (hi : i + 1 = s.size) (hb : bt s i ≠ 32) : Inv s (i + 1) (i + 1) :=
  ⟨Nat.le_refl _, by omega, fun j _ h => by omega, .inr hi, .inr hi, .inr (.inl (by simpa using hb))⟩

theorem Inv.other {s : ByteArray} {i e : Nat} (_h : Inv s i e) (hi : i < s.size) (hb : bt s i ≠ 32) (hc : bt s i ≠ 92) : Inv s (i + 1) (i + 1) :=
  ⟨Nat.le_refl _, by omega, fun j _ h => by omega, .inl (by rw [run_no hc]), .inl (by rw [run_no hc]), .inr (.inl (by simpa using hb))⟩

theorem Inv.space {s : ByteArray} {i e : Nat} (h : Inv s i e) (hi : i < s.size) (hb : bt s i = 32) : Inv s (i + 1) e :=
  ⟨by have := h.ei; omega, by omega, fun j h1 h2 => by
    by_cases e : j = i
    · subst e; exact hb
    · exact h.sp j h1 (by omega), .inl (by rw [run_no (by omega)]), h.te, h.pe⟩

/-- THE PLAIN LAW: from the left and from the right one place. -/
theorem same_end {s : ByteArray} {E k : Nat} (h : Inv s s.size E) (hk : k ≤ s.size) (hsp : ∀ j, k ≤ j → j < s.size → bt s j = 32) (hlast : k = 0 ∨ bt s (k - 1) ≠ 32) :
    E = if run s k % 2 = 1 ∧ k < s.size then k + 1 else k := by
  have hEn := h.ei
  by_cases hP : 0 < E ∧ bt s (E - 1) = 32
  · obtain ⟨hE0, hb⟩ := hP
    have hr : run s (E - 1) % 2 = 1 := by
      rcases h.pe with h0 | h1 | h2
      · omega
      · exact absurd hb h1
      · exact h2
    obtain ⟨m, hm⟩ : ∃ m, E - 1 = m + 1 := by
      rcases Nat.eq_zero_or_pos (E - 1) with h0 | h0
      · rw [h0] at hr; simp [run] at hr
      · exact ⟨E - 2, by omega⟩
    have h92 : bt s m = 92 := by
      refine Decidable.byContradiction fun hc => ?_
      rw [hm, run_no hc] at hr
      omega
    have hkE : k = E - 1 := by
      rcases Nat.lt_trichotomy k (E - 1) with hlt | heq | hgt
      · have := hsp m (by omega) (by omega); omega
      · exact heq
      · rcases hlast with h0 | h1
        · omega
        · by_cases e : k - 1 = E - 1
          · rw [e] at h1; exact absurd hb h1
          · exact absurd (h.sp (k - 1) (by omega) (by omega)) h1
    rw [hkE, if_pos ⟨hr, by omega⟩]
    omega
  · have hkE : k = E := by
      rcases Nat.lt_trichotomy k E with hlt | heq | hgt
      · exact absurd ⟨by omega, hsp (E - 1) (by omega) (by omega)⟩ hP
      · exact heq
      · rcases hlast with h0 | h1
        · omega
        · exact absurd (h.sp (k - 1) (by omega) (by omega)) h1
    rw [hkE, if_neg]
    intro hh
    rcases h.te with h1 | h1 <;> omega

end Go.Proofs.Qxb6000947a

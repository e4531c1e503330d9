import Derived.Test.Qxb6601198aDoorRend
import Derived.Test.Qxb6601198aDoorPlainB
namespace Go.Proofs.Qxb6601198aDoor
open Go.RowKit

theorem pu_append (b : Nat) : ∀ (xs ys : List UInt8) (a : Nat), pu b a (xs ++ ys) = (pu b a xs).bind (fun m => pu b m ys)
  | [], ys, a => rfl
  | c :: xs, ys, a => by
    rw [List.cons_append, pu, pu]
    split
    · split
      · exact pu_append b xs ys _
      · rfl
    · rfl

theorem dch_all : ∀ (up : Bool) (d : Fin 16), dv (dch up d.val) = d.val ∧ dch up d.val < 256 ∧ ((48 ≤ dch up d.val ∧ dch up d.val ≤ 57) ∨ (65 ≤ dch up d.val ∧ dch up d.val ≤ 70) ∨ (97 ≤ dch up d.val ∧ dch up d.val ≤ 102)) ∧ (d.val ≠ 0 → dch up d.val ≠ 48) ∧ (d.val < 8 → dch up d.val ≤ 55) := by decide

theorem dch_of (up : Bool) (d : Nat) (h : d < 16) : dv (dch up d) = d ∧ dch up d < 256 ∧ ((48 ≤ dch up d ∧ dch up d ≤ 57) ∨ (65 ≤ dch up d ∧ dch up d ≤ 70) ∨ (97 ≤ dch up d ∧ dch up d ≤ 102)) ∧ (d ≠ 0 → dch up d ≠ 48) ∧ (d < 8 → dch up d ≤ 55) := dch_all up ⟨d, h⟩

theorem dch_nat (up : Bool) (d : Nat) (h : d < 16) : (UInt8.ofNat (dch up d)).toNat = dch up d := by
  have := (dch_of up d h).2.1
  simp
  omega

theorem pu_rdf (b : Nat) (hb : 2 ≤ b) (hb' : b ≤ 16) (up : Bool) : ∀ f n, n < 2 ^ (f + 1) → n < 18446744073709551616 → pu b 0 (rdf b up (f + 1) n) = some n := by
  intro f
  induction f with
  | zero =>
    intro n hn h64
    have hq : n / b = 0 := Nat.div_eq_of_lt (by omega)
    have hm : n % b = n := Nat.mod_eq_of_lt (by omega)
    have hd := (dch_of up n (by omega)).1
    rw [rdf, if_pos hq, hm, pu_step (by rw [dch_nat up n (by omega), hd]; omega) (by rw [dch_nat up n (by omega), hd]; omega), dch_nat up n (by omega), hd]
    simp [pu]
  | succ f ih =>
    intro n hn h64
    have hlt : n % b < b := Nat.mod_lt _ (by omega)
    have hd := (dch_of up (n % b) (by omega)).1
    rw [rdf]
    split
    · rename_i hq
      have hdm := Nat.div_add_mod n b
      rw [hq, Nat.mul_zero, Nat.zero_add] at hdm
      rw [pu_step (by rw [dch_nat up _ (by omega), hd]; exact hlt) (by rw [dch_nat up _ (by omega), hd]; omega), dch_nat up _ (by omega), hd]
      simp [pu, hdm]
    · have hdm := Nat.div_add_mod n b
      rw [Nat.mul_comm] at hdm
      have h1 : n / b < 2 ^ (f + 1) := by
        rw [Nat.pow_succ 2 (f + 1)] at hn
        exact Nat.div_lt_of_lt_mul (Nat.lt_of_lt_of_le hn (by rw [Nat.mul_comm]; exact Nat.mul_le_mul_right _ hb))
      have h2 : n / b ≤ n := Nat.div_le_self _ _
      rw [pu_append, ih (n / b) h1 (by omega)]
      show pu b (n / b) [_] = _
      rw [pu_step (by rw [dch_nat up _ (by omega), hd]; exact hlt) (by rw [dch_nat up _ (by omega), hd, hdm]; exact h64), dch_nat up _ (by omega), hd, hdm]
      rfl

theorem rdf_mem (b : Nat) (hb : 2 ≤ b) (hb' : b ≤ 16) (up : Bool) : ∀ f n c, c ∈ rdf b up f n → ((48 ≤ c.toNat ∧ c.toNat ≤ 57) ∨ (65 ≤ c.toNat ∧ c.toNat ≤ 70) ∨ (97 ≤ c.toNat ∧ c.toNat ≤ 102)) ∧ (b ≤ 8 → c.toNat ≤ 55) := by
  intro f
  induction f with
  | zero => intro n c hc; simp [rdf] at hc
  | succ f ih =>
    intro n c hc
    have hlt : n % b < b := Nat.mod_lt _ (by omega)
    have hd := dch_of up (n % b) (by omega)
    have one : c = UInt8.ofNat (dch up (n % b)) → ((48 ≤ c.toNat ∧ c.toNat ≤ 57) ∨ (65 ≤ c.toNat ∧ c.toNat ≤ 70) ∨ (97 ≤ c.toNat ∧ c.toNat ≤ 102)) ∧ (b ≤ 8 → c.toNat ≤ 55) := by
      rintro rfl
      rw [dch_nat up _ (by omega)]
      exact ⟨hd.2.2.1, fun h8 => hd.2.2.2.2 (by omega)⟩
    rw [rdf] at hc
    split at hc
    · exact one (by simpa using hc)
    · rcases List.mem_append.mp hc with h | h
      · exact ih _ _ h
      · exact one (by simpa using h)

theorem rdf_cons (b : Nat) (up : Bool) (f n : Nat) : ∃ c r, rdf b up (f + 1) n = c :: r := by
  rw [rdf]
  split
  · exact ⟨_, _, rfl⟩
  · cases h : rdf b up f (n / b) with
    | nil => exact ⟨_, _, rfl⟩
    | cons c r => exact ⟨_, _, rfl⟩

theorem rdf_head (b : Nat) (hb : 2 ≤ b) (hb' : b ≤ 16) (up : Bool) : ∀ f n, 0 < n → n < 2 ^ (f + 1) → ∃ c r, rdf b up (f + 1) n = c :: r ∧ c.toNat ≠ 48 := by
  intro f
  induction f with
  | zero =>
    intro n h0 hn
    have hq : n / b = 0 := Nat.div_eq_of_lt (by omega)
    have hm : n % b = n := Nat.mod_eq_of_lt (by omega)
    refine ⟨_, [], by rw [rdf, if_pos hq], ?_⟩
    rw [hm, dch_nat up n (by omega)]
    exact (dch_of up n (by omega)).2.2.2.1 (by omega)
  | succ f ih =>
    intro n h0 hn
    have hlt : n % b < b := Nat.mod_lt _ (by omega)
    by_cases hq : n / b = 0
    · have hdm := Nat.div_add_mod n b
      rw [hq, Nat.mul_zero, Nat.zero_add] at hdm
      refine ⟨_, [], by rw [rdf, if_pos hq], ?_⟩
      rw [dch_nat up _ (by omega)]
      exact (dch_of up (n % b) (by omega)).2.2.2.1 (by omega)
    · have h1 : n / b < 2 ^ (f + 1) := by
        rw [Nat.pow_succ 2 (f + 1)] at hn
        exact Nat.div_lt_of_lt_mul (Nat.lt_of_lt_of_le hn (by rw [Nat.mul_comm]; exact Nat.mul_le_mul_right _ hb))
      obtain ⟨c, r, h, hc⟩ := ih (n / b) (Nat.pos_of_ne_zero hq) h1
      exact ⟨c, r ++ [_], by rw [rdf, if_neg hq, h]; rfl, hc⟩

end Go.Proofs.Qxb6601198aDoor

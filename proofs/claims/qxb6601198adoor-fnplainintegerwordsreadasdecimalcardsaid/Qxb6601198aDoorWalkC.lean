import Derived.Test.Qxb6601198aDoorWalkB
import Derived.Test.Qxb6601198aDoorShelf
import Derived.Test.Qxb6601198aDoorPuA
import Derived.Test.Qxb6601198aDoorPuB
import Derived.Test.Qxb6601198aDoorPuC
import Derived.Test.Qxb6601198aDoorPuD
import Derived.Test.Qxb6601198aDoorPuE
import Derived.Test.Qxb6601198aDoorPuF
import Derived.Test.Qxb6601198aDoorPuG
import Derived.Test.Qxb6601198aDoorPuH
namespace Go.Proofs.Qxb6601198aDoor
open Go.RowKit

theorem cons_of {s : ByteArray} (h : s.size ≠ 0) : ∃ c0 r, s.data.toList = c0 :: r := by
  cases h' : s.data.toList with
  | nil => exact absurd (by rw [Lib.size_eq, h']; rfl) h
  | cons c0 r => exact ⟨c0, r, rfl⟩

theorem reads0 : Reads27 0 u0 := by
  intro s W hmax hus
  by_cases hne : s.size = 0
  · have hl : s.data.toList = [] := List.eq_nil_of_length_eq_zero (by rw [← Lib.size_eq]; exact hne)
    rw [hl]
    exact uint27_empty s hne 0 W
  obtain ⟨c0, r, hL⟩ := cons_of hne
  have hsz : s.size = r.length + 1 := by rw [Lib.size_eq, hL]; rfl
  have h0 : 0 < s.size := by omega
  have hs0 : s[0] = c0 := by have := Lib.getD_at s 0 h0; rw [hL] at this; exact this
  have e1 : (s.extract 1 s.size).data.toList = r := by rw [Lib.extract_to_end, hL]; rfl
  by_cases h48 : c0.toNat = 48
  · match hr : r with
    | [] =>
      have hp : u0 s.data.toList = pu 8 0 (s.extract 1 s.size).data.toList := by rw [hL, e1, u0]; simp [eff, h48]
      rw [hp]
      exact pu_0s s h0 (by simp at hsz; omega) (by rw [hs0]; exact h48) hne hmax hus W
    | [c1] =>
      have hp : u0 s.data.toList = pu 8 0 (s.extract 1 s.size).data.toList := by rw [hL, e1, u0]; simp [eff, h48]
      rw [hp]
      exact pu_0s s h0 (by simp at hsz; omega) (by rw [hs0]; exact h48) hne hmax hus W
    | c1 :: c2 :: r2 =>
      have h3 : 3 ≤ s.size := by simp at hsz; omega
      have hs1 : s[1] = c1 := by have := Lib.getD_at s 1 (by omega); rw [hL] at this; exact this
      have e2 : (s.extract 2 s.size).data.toList = c2 :: r2 := by rw [Lib.extract_to_end, hL]; rfl
      by_cases hb : (c1.toNat ||| 32) = 98
      · have hp : u0 s.data.toList = pu 2 0 (s.extract 2 s.size).data.toList := by rw [hL, e2, u0, eff, if_pos h48]; simp only [hb, if_true]
        rw [hp]
        exact pu_0b s h3 (by rw [hs0]; exact h48) (by rw [hs1]; exact hb) hne hmax hus W
      · by_cases ho : (c1.toNat ||| 32) = 111
        · have hp : u0 s.data.toList = pu 8 0 (s.extract 2 s.size).data.toList := by rw [hL, e2, u0, eff, if_pos h48]; simp [ho]
          rw [hp]
          exact pu_0o s h3 (by rw [hs0]; exact h48) (by rw [hs1]; exact ho) hne hmax hus W
        · by_cases hx : (c1.toNat ||| 32) = 120
          · have hp : u0 s.data.toList = pu 16 0 (s.extract 2 s.size).data.toList := by rw [hL, e2, u0, eff, if_pos h48]; simp [hx]
            rw [hp]
            exact pu_0x s h3 (by rw [hs0]; exact h48) (by rw [hs1]; exact hx) hne hmax hus W
          · have hp : u0 s.data.toList = pu 8 0 (s.extract 1 s.size).data.toList := by rw [hL, e1, u0, eff, if_pos h48]; simp [hb, ho, hx]
            rw [hp]
            exact pu_0l s h3 (by rw [hs0]; exact h48) (by rw [hs1]; exact hb) (by rw [hs1]; exact ho) (by rw [hs1]; exact hx) hne hmax hus W
  · have hp : u0 s.data.toList = pu 10 0 s.data.toList := by
      rw [hL, u0]
      cases r with
      | nil => simp [eff, h48]
      | cons c1 r => cases r <;> simp [eff, h48]
    rw [hp]
    exact pu_dec s h0 (by rw [hs0]; exact h48) hne hmax hus W

theorem reads2 : Reads27 2 (ub 2) := by
  intro s W hmax hus
  by_cases hne : s.size = 0
  · have hl : s.data.toList = [] := List.eq_nil_of_length_eq_zero (by rw [← Lib.size_eq]; exact hne)
    rw [hl]
    exact uint27_empty s hne 2 W
  obtain ⟨c0, r, hL⟩ := cons_of hne
  have hp : ub 2 s.data.toList = pu 2 0 s.data.toList := by rw [hL, ub]
  rw [hp]
  exact pu_b2 s hne hmax hus W

theorem reads8 : Reads27 8 (ub 8) := by
  intro s W hmax hus
  by_cases hne : s.size = 0
  · have hl : s.data.toList = [] := List.eq_nil_of_length_eq_zero (by rw [← Lib.size_eq]; exact hne)
    rw [hl]
    exact uint27_empty s hne 8 W
  obtain ⟨c0, r, hL⟩ := cons_of hne
  have hp : ub 8 s.data.toList = pu 8 0 s.data.toList := by rw [hL, ub]
  rw [hp]
  exact pu_b8 s hne hmax hus W

/-- The two variables of strconv's hold errors. -/
def Gl (w : World) : Prop := (∃ te pe, w.cell? ⟨0, 0, none⟩ = some (.iface te pe)) ∧ (∃ te pe, w.cell? ⟨1, 0, none⟩ = some (.iface te pe)) ∧ 1 < w.heap.size
theorem Gl.below {w w' : World} (h : Gl w) (hb : Below w.heap.size w w') : Gl w' := by
  obtain ⟨⟨t0, p0, h0⟩, ⟨t1, p1, h1⟩, hl⟩ := h
  exact ⟨⟨t0, p0, (hb.cell (p := ⟨0, 0, none⟩) (by show 0 < _; omega)).trans h0⟩, ⟨t1, p1, (hb.cell (p := ⟨1, 0, none⟩) hl).trans h1⟩, Nat.lt_of_lt_of_le hl hb.size⟩

/-- strconv.toError at ErrSyntax and ErrRange. -/
theorem toErr (fn s : ByteArray) (base bits : Int) (k : Int) (hk : k = 2 ∨ k = 1) (w : World) (hg : Gl w) (hlim : s.size ≤ 1048600) :
    Calls Tryd.prog 26 #[.string fn, .string s, .int .i64 base, .int .i64 bits, .iface 58 (.int .i64 k)] w fun e w' => (∃ te pe, e = .returned (.iface te pe)) ∧ Below w.heap.size w w' := by
  obtain ⟨⟨t0, p0, h0⟩, ⟨t1, p1, h1⟩, hl⟩ := hg
  rcases hk with rfl | rfl
  · have h : Calls Tryd.prog 26 #[.string fn, .string s, .int .i64 base, .int .i64 bits, .iface 58 (.int .i64 2)] w fun e w' => ∃ N, e = .returned (.iface 60 (.pointer (some ⟨N, 0, none⟩))) ∧ w.heap.size ≤ N ∧ w'.heap[N]? = some (.cells #[.string fn, .string s, .iface t0 p0] 66 (0, 0)) ∧ Below w.heap.size w w' :=
      Any.strconv_toError_syntax Tryd.laysC245 fn s base bits (.iface t0 p0) w (by omega) h0 (.inr ⟨_, _, rfl⟩)
    refine h.mono ?_
    rintro e w' ⟨N, rfl, _, _, hb⟩
    exact ⟨⟨_, _, rfl⟩, hb⟩
  · have h : Calls Tryd.prog 26 #[.string fn, .string s, .int .i64 base, .int .i64 bits, .iface 58 (.int .i64 1)] w fun e w' => ∃ N, e = .returned (.iface 60 (.pointer (some ⟨N, 0, none⟩))) ∧ w.heap.size ≤ N ∧ w'.heap[N]? = some (.cells #[.string fn, .string s, .iface t1 p1] 66 (0, 0)) ∧ Below w.heap.size w w' :=
      Any.strconv_toError_range Tryd.laysC245 fn s base bits (.iface t1 p1) w (by omega) h1 (.inr ⟨_, _, rfl⟩)
    refine h.mono ?_
    rintro e w' ⟨N, rfl, _, _, hb⟩
    exact ⟨⟨_, _, rfl⟩, hb⟩

/-- What strconv.ParseInt ¦ ParseUint hand back. -/
def SI (o : Option Int) (r : Value) : Prop := match o with
  | some v => r = .tuple #[.int .i64 v, .nilIface]
  | none => ∃ (x : Int) (te : TypeId) (pe : Value), r = .tuple #[.int .i64 x, .iface te pe]
def SU (o : Option Nat) (r : Value) : Prop := match o with
  | some v => v < 18446744073709551616 ∧ r = .tuple #[.int .u64 v, .nilIface]
  | none => ∃ (x : Int) (te : TypeId) (pe : Value), r = .tuple #[.int .u64 x, .iface te pe]

set_option maxHeartbeats 400000 in
theorem pInt21 (bse : Int) (f : List UInt8 → Option Nat) (H : Reads27 bse f) (s : ByteArray) (hmax : s.size ≤ 1048600) (hus : ∀ c ∈ s.data.toList, c.toNat ≠ 95) (w : World) (hg : Gl w) :
    Calls Tryd.prog 21 #[.string s, .int .i64 bse, .int .i64 64] w fun e w' => ∃ r, e = .returned r ∧ SI (pI f s.data.toList) r ∧ Below w.heap.size w w' := by
  have h25 := int25 bse f H s hmax hus w
  cases ho : pI f s.data.toList with
  | some v =>
    rw [ho] at h25
    clear H ho
    go_enter Tryd.func21, Tryd.ntmps21
    go_wp2_with (go_at_call 25; refine h25.mono ?_; rintro e w1 ⟨rr, rfl, hr, hb1⟩; obtain rfl := hr)
    go_ret2
    exact ⟨_, rfl, rfl, hb1⟩
  | none =>
    rw [ho] at h25
    clear H ho
    have h25' : Calls Tryd.prog 25 #[.string s, .int .i64 bse, .int .i64 64] w fun e w' => ∃ x k : Int, (k = 2 ∨ k = 1) ∧ e = .returned (.tuple #[.int .i64 x, .iface 58 (.int .i64 k)]) ∧ Below w.heap.size w w' := by
      refine h25.mono ?_
      rintro e w1 ⟨rr, rfl, ⟨x, hr⟩, hb1⟩
      rcases hr with rfl | rfl
      · exact ⟨x, 2, .inl rfl, rfl, hb1⟩
      · exact ⟨x, 1, .inr rfl, rfl, hb1⟩
    clear h25
    go_enter Tryd.func21, Tryd.ntmps21
    go_wp2_with (first
      | (go_at_call 25; refine h25'.mono ?_; rintro e w1 ⟨x, k, hk, rfl, hb1⟩; have h26 := fun fn => toErr fn s bse 64 k hk w1 (hg.below hb1) hmax; clear hk)
      | (go_at_call 26; refine (h26 _).mono ?_; rintro e w2 ⟨⟨te, pe, rfl⟩, hb2⟩))
    go_ret2
    exact ⟨_, rfl, ⟨_, _, _, rfl⟩, hb1.trans (hb2.mono hb1.size)⟩

set_option maxHeartbeats 400000 in
theorem pUint22 (bse : Int) (f : List UInt8 → Option Nat) (H : Reads27 bse f) (s : ByteArray) (hmax : s.size ≤ 1048600) (hus : ∀ c ∈ s.data.toList, c.toNat ≠ 95) (w : World) (hg : Gl w) :
    Calls Tryd.prog 22 #[.string s, .int .i64 bse, .int .i64 64] w fun e w' => ∃ r, e = .returned r ∧ SU (f s.data.toList) r ∧ Below w.heap.size w w' := by
  have h27 := H s w hmax hus
  cases ho : f s.data.toList with
  | some v =>
    rw [ho] at h27
    clear H ho
    have h27' : Calls Tryd.prog 27 #[.string s, .int .i64 bse, .int .i64 64] w fun e w' => (v < 18446744073709551616 ∧ e = .returned (.tuple #[.int .u64 v, .nilIface])) ∧ Below w.heap.size w w' := by
      refine h27.mono ?_
      rintro e w1 ⟨rr, rfl, ⟨hv, rfl⟩, hb1⟩
      exact ⟨⟨hv, rfl⟩, hb1⟩
    go_enter Tryd.func22, Tryd.ntmps22
    go_wp2_with (go_at_call 27; refine h27'.mono ?_; rintro e w1 ⟨⟨hv, rfl⟩, hb1⟩)
    go_ret2
    exact ⟨_, rfl, ⟨hv, rfl⟩, hb1⟩
  | none =>
    rw [ho] at h27
    clear H ho
    have h27' : Calls Tryd.prog 27 #[.string s, .int .i64 bse, .int .i64 64] w fun e w' => ∃ x k : Int, (k = 2 ∨ k = 1) ∧ e = .returned (.tuple #[.int .u64 x, .iface 58 (.int .i64 k)]) ∧ Below w.heap.size w w' := by
      refine h27.mono ?_
      rintro e w1 ⟨rr, rfl, hr, hb1⟩
      rcases hr with rfl | rfl
      · exact ⟨_, 2, .inl rfl, rfl, hb1⟩
      · exact ⟨_, 1, .inr rfl, rfl, hb1⟩
    clear h27
    go_enter Tryd.func22, Tryd.ntmps22
    go_wp2_with (first
      | (go_at_call 27; refine h27'.mono ?_; rintro e w1 ⟨x, k, hk, rfl, hb1⟩; have h26 := fun fn => toErr fn s bse 64 k hk w1 (hg.below hb1) hmax; clear hk)
      | (go_at_call 26; refine (h26 _).mono ?_; rintro e w2 ⟨⟨te, pe, rfl⟩, hb2⟩))
    go_ret2
    exact ⟨_, rfl, ⟨_, _, _, rfl⟩, hb1.trans (hb2.mono hb1.size)⟩

end Go.Proofs.Qxb6601198aDoor

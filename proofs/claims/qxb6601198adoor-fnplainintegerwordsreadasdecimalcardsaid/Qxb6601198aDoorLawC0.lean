import Derived.Test.Qxb6601198aDoorPlC
import Derived.Test.Qxb6601198aDoorMgD
import Derived.Lib.IndexBytes
namespace Go.Proofs.Qxb6601198aDoor
open Go.RowKit

def SomeBool7 (e : Ending) : Prop := ∃ b : Bool, e = .returned (.bool b)
theorem bytes7 (s : ByteArray) (p : Int) (_hs : s.size ≤ 9223372036854775807) (w : World) :
    Calls Tryd.prog 7 #[.string s, .int .i64 p] w fun e w' => SomeBool7 e ∧ w' = w := by
  go_enter Tryd.func7, Tryd.ntmps7
  go_wp2
  all_goals (go_ret; exact ⟨⟨_, rfl⟩, rfl⟩)

/-- A JSON integer's sign and digits. -/
def Split (l : List UInt8) (sg : Nat) (D : List UInt8) : Prop := ((sg = 0 ∧ l = D) ∨ (sg = 2 ∧ l = 45 :: D)) ∧ Nonneg D

theorem nonneg_digits {l : List UInt8} (h : Nonneg l) : ∀ c ∈ l, 48 ≤ c.toNat ∧ c.toNat ≤ 57 := by
  intro c hc
  rcases h with rfl | ⟨x, r, rfl, h0, h1, hr⟩
  · simp at hc
    subst hc
    decide
  · rcases List.mem_cons.mp hc with rfl | hc
    · exact ⟨by omega, h1⟩
    · exact hr c hc
theorem nonneg_ne {l : List UInt8} (h : Nonneg l) : l ≠ [] := by
  rcases h with rfl | ⟨x, r, rfl, _⟩ <;> simp
theorem nonneg_head {l : List UInt8} (h : Nonneg l) : ∃ c r, l = c :: r ∧ 48 ≤ c.toNat := by
  rcases h with rfl | ⟨x, r, rfl, h0, _⟩
  · exact ⟨48, [], rfl, by decide⟩
  · exact ⟨x, r, rfl, by omega⟩

theorem jint_of {l : List UInt8} (h : Good l) (h1 : l ≠ [116, 114, 117, 101]) (h2 : l ≠ [102, 97, 108, 115, 101]) (h3 : l ≠ [110, 117, 108, 108]) (hm : ∀ c ∈ l, ¬ Marked c) : Jint l := by
  rcases h with h | h | h | ⟨c, hc, hmc⟩ | h
  · exact absurd h h1
  · exact absurd h h2
  · exact absurd h h3
  · exact absurd hmc (hm c hc)
  · exact h

/-- What the callees make of it. -/
structure Callees (E : Nat → Nat → Int × Nat × Bool) (J : List UInt8 → Int × Nat × Bool) (G : World → Prop) : Prop where
  below : ∀ w w', G w → Below w.heap.size w w' → G w'
  exp : ∀ m sg, m < 18446744073709551616 → (sg = 0 ∨ sg = 1 ∨ sg = 2) → ∀ W, Calls Tryd.prog 10 #[.int .u64 (m : Nat), .int .i64 (sg : Nat)] W fun e w' => e = .returned (.tuple #[.int .i64 (E m sg).1, .int .u64 (E m sg).2.1, .bool (E m sg).2.2]) ∧ w' = W
  int : ∀ s : ByteArray, s.size ≤ 1048600 → (∀ c ∈ s.data.toList, c.toNat ≠ 95) → ∀ W, G W → Calls Tryd.prog 11 #[.string s] W fun e w' => e = .returned (.tuple #[.int .i64 (J s.data.toList).1, .int .u64 (J s.data.toList).2.1, .bool (J s.data.toList).2.2]) ∧ Below W.heap.size W w'
  law : ∀ l sg D, Split l sg D → J l = match pu 10 0 D with
    | some v => E v sg
    | none => (0, 0, false)

set_option maxHeartbeats 4000000 in
set_option maxRecDepth 100000 in
theorem law3 {E : Nat → Nat → Int × Nat × Bool} {J : List UInt8 → Int × Nat × Bool} {G : World → Prop} (HC : Callees E J G) (data : ByteArray) (p : Int) (w0 : data.size ≤ 9223372036854775807) (w : World) (hg : G w) :
    Calls Tryd.prog 3 #[.string data, .int .i64 p] w fun e w' => e = .returned (.bool true) ∧ Below w.heap.size w w' := by
  have h7 := bytes7 data p w0 w
  by_cases hbig : (1048576 : Int) < data.size
  · go_enter Tryd.func3, Tryd.ntmps3
    go_wp2_with (go_at_call 7; refine h7.mono ?_; rintro e w' ⟨⟨z, rfl⟩, hw⟩; obtain rfl := hw.symm; cases z)
    all_goals (go_ret; exact ⟨rfl, Below.refl _ _⟩)
  by_cases hneg : p < 0
  · go_enter Tryd.func3, Tryd.ntmps3
    go_wp2_with (go_at_call 7; refine h7.mono ?_; rintro e w' ⟨⟨z, rfl⟩, hw⟩; obtain rfl := hw.symm; cases z)
    all_goals (go_ret; exact ⟨rfl, Below.refl _ _⟩)
  by_cases hpast : (data.size : Int) < p
  · go_enter Tryd.func3, Tryd.ntmps3
    go_wp2_with (go_at_call 7; refine h7.mono ?_; rintro e w' ⟨⟨z, rfl⟩, hw⟩; obtain rfl := hw.symm; cases z)
    all_goals (go_ret; exact ⟨rfl, Below.refl _ _⟩)
  obtain ⟨pos, rfl⟩ : ∃ n : Nat, p = n := ⟨p.toNat, by omega⟩
  have h8 := zzPlain8 data pos (by omega) (by omega) w
  have h8' : Calls Tryd.prog 8 #[.string data, .int .i64 pos] w fun e w' => (∃ (word : ByteArray) (ok : Bool) (v : Int), e = .returned (.tuple #[.string word, .bool ok, .int .i64 v]) ∧ Hid ((ok = true → Good word.data.toList) ∧ word.size ≤ 1048600)) ∧ Below w.heap.size w w' := h8
  clear h8
  go_enter Tryd.func3, Tryd.ntmps3
  go_upto_region 8 with (first
    | (go_at_call 7; refine h7.mono ?_; rintro e w' ⟨⟨z, rfl⟩, hw⟩; obtain rfl := hw.symm; cases z)
    | (go_at_call 8; refine h8'.mono ?_; rintro e w1 ⟨⟨word, ok, v, rfl, hword⟩, hb1⟩))
  · go_ret
    exact ⟨rfl, Below.refl _ _⟩
  clear h7 h8'
  cases ok
  case false =>
    go_wp2
    go_ret
    exact ⟨rfl, hb1⟩
  case true =>
  obtain ⟨hgood, hws⟩ := hword.out
  have HG : Hid (Good word.data.toList) := hgood rfl
  clear hgood hword hbig hneg hpast
  have HG1 : G w1 := HC.below _ _ hg hb1
  by_cases t1 : word.toList = [116, 114, 117, 101]
  · have b1 : (word.toList == [116, 114, 117, 101]) = true := by simp [t1]
    go_wp2
    go_ret
    exact ⟨rfl, hb1⟩
  by_cases t2 : word.toList = [102, 97, 108, 115, 101]
  · have b1 : (word.toList == [116, 114, 117, 101]) = false := by simp [t1]
    have b2 : (word.toList == [102, 97, 108, 115, 101]) = true := by simp [t2]
    go_wp2
    go_ret
    exact ⟨rfl, hb1⟩
  by_cases t3 : word.toList = [110, 117, 108, 108]
  · have b1 : (word.toList == [116, 114, 117, 101]) = false := by simp [t1]
    have b2 : (word.toList == [102, 97, 108, 115, 101]) = false := by simp [t2]
    have b3 : (word.toList == [110, 117, 108, 108]) = true := by simp [t3]
    go_wp2
    go_ret
    exact ⟨rfl, hb1⟩
  have b1 : (word.toList == [116, 114, 117, 101]) = false := by simp [t1]
  have b2 : (word.toList == [102, 97, 108, 115, 101]) = false := by simp [t2]
  have b3 : (word.toList == [110, 117, 108, 108]) = false := by simp [t3]
  rw [Lib.toList_data] at t1 t2 t3
  have HJ : Hid ((∀ c ∈ word.data.toList, ¬ Marked c) → Jint word.data.toList) := fun hm => jint_of HG.out t1 t2 t3 hm
  clear t1 t2 t3 HG
  go_wp2
  go_loop [8] (fun i => ∃ k : Nat, k ≤ word.size ∧ i = .int .i64 k ∧ Hid (∀ j (hj : j < word.size), j < k → ¬ Marked word[j])) (fun i => word.size - (intOf i).toNat)
  case atStart => exact ⟨0, Nat.zero_le _, rfl, fun j _ h => absurd h (Nat.not_lt_zero _)⟩
  case round =>
  obtain ⟨k, hk, rfl, hh⟩ := hrel
  clear b1 b2 b3
  by_cases hlt : k < word.size
  · obtain ⟨c, hb⟩ : ∃ c, word[k].toNat = c := ⟨_, rfl⟩
    by_cases c1 : c = 46
    · subst c1
      go_wp2
      go_ret
      exact ⟨rfl, hb1⟩
    have d1 : ((c : Int) == 46) = false := by simp; omega
    by_cases c2 : c = 101
    · subst c2
      go_wp2
      go_ret
      exact ⟨rfl, hb1⟩
    have d2 : ((c : Int) == 101) = false := by simp; omega
    by_cases c3 : c = 69
    · subst c3
      go_wp2
      go_ret
      exact ⟨rfl, hb1⟩
    have d3 : ((c : Int) == 69) = false := by simp; omega
    have HN : Hid (∀ j (hj : j < word.size), j < k + 1 → ¬ Marked word[j]) := by
      intro j hj hlt'
      rcases Nat.lt_or_ge j k with h' | h'
      · exact hh.out j hj h'
      · obtain rfl : j = k := by omega
        rintro (h | h | h) <;> rw [hb] at h <;> omega
    clear c1 c2 c3
    go_wp2
    go_round
    case rel => exact ⟨k + 1, by omega, by go_num, HN⟩
    case measure => simp [intOf]; omega
  have hkk : k = word.size := by omega
  have hj : Jint word.data.toList := HJ.out (by
    intro c hc
    obtain ⟨j, hj, rfl⟩ := List.getElem_of_mem hc
    have hj' : j < word.size := by rw [Lib.size_eq]; exact hj
    exact hh.out j hj' (by omega))
  clear hh HJ hlt
  subst hkk
  have hus : ∀ c ∈ word.data.toList, c.toNat ≠ 95 := by
    intro c hc
    rcases hj with h | ⟨r, hr, h⟩
    · have := nonneg_digits h c hc; omega
    · rw [hr] at hc
      rcases List.mem_cons.mp hc with rfl | hc
      · decide
      · have := nonneg_digits h c hc; omega
  have h11 := fun W (hG : G W) => HC.int word hws hus W hG
  clear hus
  have hsz : 0 < word.size := by
    rw [Lib.size_eq]
    rcases hj with h | ⟨r, hr, h⟩
    · exact List.length_pos_iff.mpr (nonneg_ne h)
    · rw [hr]; simp
  have hcase : ((word[0].toNat == 45) = true ∧ Split word.data.toList 2 (word.extract 1 word.size).data.toList) ∨ (word[0].toNat ≠ 45 ∧ Split word.data.toList 0 word.data.toList) := by
    obtain ⟨h', e⟩ := get_list word 0 hsz
    rcases hj with h | ⟨r, hr, h⟩
    · obtain ⟨c, r, hl, hc⟩ := nonneg_head h
      refine .inr ⟨?_, .inl ⟨rfl, rfl⟩, h⟩
      rw [← e]
      simp only [hl, List.getElem_cons_zero]
      omega
    · refine .inl ⟨?_, .inr ⟨rfl, ?_⟩, ?_⟩
      · rw [← e]
        simp only [hr, List.getElem_cons_zero]
        rfl
      · rw [Lib.extract_to_end, hr]; rfl
      · rw [Lib.extract_to_end, hr]; exact h
  clear hj
  have HCASE : Hid _ := hcase
  clear hcase
  go_upto_if 86 with fail
  go_cut [9, 10] from 78 to 86 (fun sa sb wx => wx = w1 ∧ ∃ (sg : Nat) (dg : ByteArray), sa = .int .i64 sg ∧ sb = .string dg ∧ dg.size ≤ word.size ∧ (sg = 0 ∨ sg = 1 ∨ sg = 2) ∧ Hid (Split word.data.toList sg dg.data.toList))
  case first =>
    obtain ⟨c, hb⟩ : ∃ c, word[0].toNat = c := ⟨_, rfl⟩
    rcases HCASE.out with ⟨h45, hs⟩ | ⟨h45, hs⟩
    · have hcc : c = 45 := by rw [hb] at h45; simpa using h45
      subst hcc
      have HSP : Hid (Split word.data.toList 2 (word.extract 1 word.size).data.toList) := hs
      clear hs h45
      go_wp2
      go_meet
      exact ⟨rfl, 2, _, rfl, rfl, by simp, by omega, HSP⟩
    · rw [hb] at h45
      have e45 : ((c : Int) == 45) = false := by simp; omega
      have HSP : Hid (Split word.data.toList 0 word.data.toList) := hs
      clear hs h45
      go_wp2
      go_meet
      exact ⟨rfl, 0, word, rfl, rfl, Nat.le_refl _, by omega, HSP⟩
  case rest =>
  obtain ⟨hw, sg, dg, rfl, rfl, hdz, hsg, HSP⟩ := hcut
  subst hw
  have hdp : 0 < dg.size := by
    rw [Lib.size_eq]
    exact List.length_pos_iff.mpr (nonneg_ne HSP.out.2)
  have h9 := magD dg (by omega) (nonneg_digits HSP.out.2) wc
  have hl := HC.law _ _ _ HSP.out
  clear HCASE HSP hsz hdz
  have h11' := h11 wc HG1
  clear h11
  rw [hl] at h11'
  clear hl
  cases hpu : pu 10 0 dg.data.toList with
  | none =>
    rw [hpu] at h9
    simp only [hpu] at h11'
    clear hpu
    have h9' : Calls Tryd.prog 9 #[.string dg, .int .u64 10] wc fun e w' => (∃ m : Int, e = .returned (.tuple #[.int .u64 m, .bool true, .bool false])) ∧ w' = wc := h9.mono (by rintro e w' ⟨r, rfl, ⟨m, rfl⟩, rfl⟩; exact ⟨⟨m, rfl⟩, rfl⟩)
    clear h9
    go_wp2_with (first
      | (go_at_call 9; refine h9'.mono ?_; rintro e w' ⟨⟨m, rfl⟩, hw⟩; obtain rfl := hw.symm)
      | (go_at_call 11; refine h11'.mono ?_; rintro e w2 ⟨rfl, hb2⟩))
    go_ret
    exact ⟨rfl, hb1.trans (hb2.mono hb1.size)⟩
  | some m =>
    rw [hpu] at h9
    simp only [hpu] at h11'
    clear hpu
    have h9' : Calls Tryd.prog 9 #[.string dg, .int .u64 10] wc fun e w' => (e = .returned (.tuple #[.int .u64 m, .bool true, .bool true]) ∧ m < 18446744073709551616) ∧ w' = wc := h9.mono (by rintro e w' ⟨r, rfl, ⟨hm, rfl⟩, rfl⟩; exact ⟨⟨rfl, hm⟩, rfl⟩)
    clear h9
    have hx := fun hm => HC.exp m sg hm hsg wc
    obtain ⟨i, u, ok, hxe⟩ : ∃ i u ok, E m sg = (i, u, ok) := ⟨_, _, _, rfl⟩
    simp only [hxe] at hx h11'
    clear hxe
    go_wp2_with (first
      | (go_at_call 9; refine h9'.mono ?_; rintro e w' ⟨⟨rfl, hm⟩, hw⟩; obtain rfl := hw.symm; have hx' := hx hm; clear hm hx)
      | (go_at_call 10; refine hx'.mono ?_; rintro e w' ⟨rfl, hw⟩; obtain rfl := hw.symm)
      | (go_at_call 11; refine h11'.mono ?_; rintro e w2 ⟨rfl, hb2⟩))
    go_ret
    exact ⟨rfl, hb1.trans (hb2.mono hb1.size)⟩

end Go.Proofs.Qxb6601198aDoor

import Derived.Test.Qxb6601184aWalkA
import Derived.Test.Qxb6601184aWalkC
import Derived.Test.Qxb6601184aWalkD
import Derived.Test.Qxb6601184aWalkE
import Derived.Test.Qxb6601184aWalkF
namespace Go.Proofs.Qxb6601184a
open Go.RowKit Go.Sort

/-- What a row of strings of the call's own holds, cell by cell. -/
theorem cells_of_own {w : World} {base g cap n : Nat} {e : TypeId} {l : List (List UInt8)} (h : w.ownsRow base e 1 (.slice (some ⟨g, 0, none⟩) n cap) n (l.map encStr)) :
    ∀ i, i < n → w.cell? ⟨g, i, none⟩ = some (.string ⟨(l.getD i []).toArray⟩) := by
  intro i hi
  have hl : l.length = n := by simpa using h.1
  rw [h.cellAt i (by omega), List.getElem?_map, List.getElem?_eq_getElem (by omega), getD_lt _ _ (by omega)]
  rfl

/-- zzSame on two slices of the call's own that hold the same strings: true. -/
theorem same_own {w : World} {b1 b2 g1 g2 c1 c2 n : Nat} {e1 e2 : TypeId} {l : List (List UInt8)} (hn : n ≤ 3518437208883)
    (h1 : w.ownsRow b1 e1 1 (.slice (some ⟨g1, 0, none⟩) n c1) n (l.map encStr)) (h2 : w.ownsRow b2 e2 1 (.slice (some ⟨g2, 0, none⟩) n c2) n (l.map encStr)) :
    Calls Try.prog 11 #[.slice (some ⟨g1, 0, none⟩) n c1, .slice (some ⟨g2, 0, none⟩) n c2] w fun e w' => e = .returned (.bool true) ∧ ∃ q, w' = w.drewN q :=
  same_any g1 g2 n c1 c2 _ w hn (cells_of_own h1) (cells_of_own h2)

set_option maxHeartbeats 1000000 in
set_option maxRecDepth 100000 in
theorem law3_pos (B b off n c : Nat) (Sc : Nat → ByteArray) (RL : Nat → Nat) (RS : Nat → Nat → ByteArray) (w : World) (hn : n ≤ 3518437208883) (hb : b < w.heap.size)
    (hr : ∀ i, i < n → RowAt B w b off i Sc RL RS) (hrows : RowsFrom B w (some ⟨b, off, none⟩) n Sc RL RS) (hs : ∀ i, i < n → RL i ≤ 8796093022208) :
    Calls Try.prog 3 #[.slice (some ⟨b, off, none⟩) n c] w fun e w' => e = .returned (.bool true) ∧ Below w.heap.size w w' := by
  have q : ∀ (w : World) (a : Option Addr) (n c n' c' : Nat), (binOp .eql 25 (.slice a n c) (.slice none n' c')).run Try.prog w = .ok (.bool a.isNone) w := fun w a n c n' c' => Lib.run_eql_slice_nil w _ _ a n c n' c' Try.underlying25
  obtain ⟨i0, hi, hz0, hz1, hz2⟩ := info_parts Try.info9
  have H7 := bytes7_any c w hn hrows hs
  have H8 := spendRows_any c 1048576 w hn hrows hs
  have H9 := table_any c w hn hrows hs
  go_enter Try.func3, Try.ntmps3
  go_wp2_with (first
    | (go_at_call 7; refine H7.mono ?_; rintro e w' ⟨⟨z, rfl⟩, hw⟩; obtain rfl := hw.symm)
    | (go_at_call 8; refine H8.mono ?_; rintro e w' ⟨⟨z, rfl⟩, hw⟩; obtain rfl := hw.symm)
    | (go_at_call 9; refine H9.mono ?_; rintro e w1 ⟨ao1, c1, rfl, hrows1, hb1⟩)
    | (go_at_call 10; refine (all_any _ _ hn hrows1).mono ?_; rintro e w2 ⟨g, cap, rfl, hown2, hb2⟩)
    | (at_make; refine wpList_make_full _ rfl _ _ 31 rfl w2.heap.size 9 i0 (.string ⟨#[]⟩) 1 Try.underlying31 hi hz0 hz1 _ _ _ _ n rfl rfl rfl rfl ?b1 ?b2 ?b3 ?_))
  · go_ret
    exact ⟨rfl, Below.refl _ _⟩
  · go_ret
    exact ⟨rfl, Below.refl _ _⟩
  · go_ret
    exact ⟨rfl, Below.refl _ _⟩
  case b1 => rw [hz2]; omega
  case b2 => unfold maxLen; omega
  case b3 => exact Nat.le_refl _
  intro w3 hown3 hgrow3
  have hb3 : Below w2.heap.size w2 w3 := (Below.refl _ _).grown hgrow3 (Nat.le_refl _) (by intro k hk; cases hk)
  clear hgrow3 H7 H8 H9
  have hw12 : w.heap.size ≤ w2.heap.size := Nat.le_trans hb1.size hb2.size
  have hB2 : Below w.heap.size w w2 := hb1.trans (hb2.mono hb1.size)
  have HO2 : Hid (w2.ownsRow w1.heap.size 46 1 (.slice (some ⟨g, 0, none⟩) n cap) n ((srt (strs Sc n)).map encStr)) := hown2
  clear hown2 hb1 hb2 hrows1
  go_wp2
  go_loopw [5] (fun i wr => ∃ (k : Nat) (xs : List Value), k ≤ n ∧ i = .int .i64 k ∧ wr.ownsRow w2.heap.size 9 1 (.slice (some ⟨w2.heap.size, 0, none⟩) n n) n xs ∧ (∀ j, j < k → xs[j]? = some (.string (Sc j))) ∧ Below w2.heap.size w2 wr) (fun i _ => n - (intOf i).toNat)
  case atStart => exact ⟨0, _, Nat.zero_le _, rfl, hown3, fun j hj => absurd hj (Nat.not_lt_zero _), hb3⟩
  case round =>
    obtain ⟨k, xs, hk, rfl, hownr, hxs, hbr⟩ := hrel
    clear hown3 hb3
    by_cases hlt : k < n
    · have hcell : wr.cell? ⟨b, off + k * 2, none⟩ = some (.string (Sc k)) := (hbr.cell (p := ⟨b, off + k * 2, none⟩) (show b < w2.heap.size by omega)).trans ((hB2.cell (p := ⟨b, off + k * 2, none⟩) hb).trans (hr k hlt).1)
      have hfr := hownr.frozenAt k
      have hold := hownr.cellAt k (by omega)
      have hxl : xs.length = n := by simpa using hownr.1
      obtain ⟨x0, hx0⟩ : ∃ x0, xs[k]? = some x0 := ⟨_, List.getElem?_eq_getElem (by omega)⟩
      rw [hx0] at hold
      have HR : Hid ((wr.setCell ⟨w2.heap.size, k, none⟩ (.string (Sc k))).ownsRow w2.heap.size 9 1 (.slice (some ⟨w2.heap.size, 0, none⟩) n n) n (xs.set k (.string (Sc k)))) := (hownr.stored k (.string (Sc k))).1
      have HB : Hid (Below w2.heap.size w2 wr) := hbr
      have HX : Hid (∀ j, j < k → xs[j]? = some (.string (Sc j))) := hxs
      have HL : Hid (xs.length = n) := hxl
      clear hbr hxs hownr hr hxl hx0 hrows
      go_wp2
      go_roundw
      case rel =>
        refine ⟨k + 1, _, by omega, by go_num, HR.out, ?_, HB.out.setCell (Nat.le_refl _) _⟩
        intro j hj
        have hl := HL.out
        rw [List.getElem?_set]
        by_cases e : k = j
        · subst e; simp; omega
        · rw [if_neg e]; exact HX.out j (by omega)
      case measure => simp [intOf]; omega
    · have hkn : k = n := by omega
      subst hkn
      clear hr hrows hlt
      have hszr : w2.heap.size < wr.heap.size := (hownr.lt w2.heap.size rfl).2
      have hst : StrsFrom w2.heap.size wr (some ⟨w2.heap.size, 0, none⟩) k Sc := .inr ⟨w2.heap.size, 0, rfl, Nat.le_refl _, hszr, fun i hi => by rw [Nat.zero_add, hownr.cellAt i (by omega)]; exact hxs i hi⟩
      have hgot := ownsRow_below HO2.out hbr
      clear hownr hxs
      go_wp2_with (first
        | (go_at_call 12; refine (sorted_any _ _ hn hst).mono ?_; rintro e w4 ⟨g4, c4, rfl, hown4, hb4⟩)
        | (go_at_call 11; refine (same_own hn (ownsRow_below hgot hb4) hown4).mono ?_; rintro e w5 ⟨rfl, q5, rfl⟩))
      go_ret
      exact ⟨rfl, below_drewN ((hB2.trans (hbr.mono hw12)).trans (hb4.mono (Nat.le_trans hw12 hbr.size))) _⟩

set_option maxHeartbeats 1000000 in
set_option maxRecDepth 100000 in
theorem law3_zero (ao : Option Addr) (c : Nat) (w : World) :
    Calls Try.prog 3 #[.slice ao 0 c] w fun e w' => e = .returned (.bool true) ∧ Below w.heap.size w w' := by
  have q : ∀ (w : World) (a : Option Addr) (n c n' c' : Nat), (binOp .eql 25 (.slice a n c) (.slice none n' c')).run Try.prog w = .ok (.bool a.isNone) w := fun w a n c n' c' => Lib.run_eql_slice_nil w _ _ a n c n' c' Try.underlying25
  obtain ⟨i0, hi, hz0, hz1, hz2⟩ := info_parts Try.info9
  have hrows : RowsFrom 0 w ao 0 (fun _ => ByteArray.empty) (fun _ => 0) (fun _ _ => ByteArray.empty) := .inl rfl
  have hs : ∀ i, i < 0 → (fun _ : Nat => 0) i ≤ 8796093022208 := fun i hi => by omega
  have H7 := bytes7_any c w (Nat.zero_le _) hrows hs
  have H8 := spendRows_any c 1048576 w (Nat.zero_le _) hrows hs
  have H9 := table_any c w (Nat.zero_le _) hrows hs
  go_enter Try.func3, Try.ntmps3
  go_wp2_with (first
    | (go_at_call 7; refine H7.mono ?_; rintro e w' ⟨⟨z, rfl⟩, hw⟩; obtain rfl := hw.symm)
    | (go_at_call 8; refine H8.mono ?_; rintro e w' ⟨⟨z, rfl⟩, hw⟩; obtain rfl := hw.symm)
    | (go_at_call 9; refine H9.mono ?_; rintro e w1 ⟨ao1, c1, rfl, hrows1, hb1⟩)
    | (go_at_call 10; refine (all_any _ _ (Nat.zero_le _) hrows1).mono ?_; rintro e w2 ⟨g, cap, rfl, hown2, hb2⟩)
    | (at_make; refine wpList_make_full _ rfl _ _ 31 rfl w2.heap.size 9 i0 (.string ⟨#[]⟩) 1 Try.underlying31 hi hz0 hz1 _ _ _ _ 0 rfl rfl rfl rfl ?b1 ?b2 ?b3 ?_))
  · go_ret
    exact ⟨rfl, Below.refl _ _⟩
  · go_ret
    exact ⟨rfl, Below.refl _ _⟩
  case b1 => omega
  case b2 => unfold maxLen; omega
  case b3 => exact Nat.le_refl _
  intro w3 hown3 hgrow3
  have hb3 : Below w2.heap.size w2 w3 := (Below.refl _ _).grown hgrow3 (Nat.le_refl _) (by intro k hk; cases hk)
  have hw12 : w.heap.size ≤ w2.heap.size := Nat.le_trans hb1.size hb2.size
  have hB2 : Below w.heap.size w w2 := hb1.trans (hb2.mono hb1.size)
  have hgot := ownsRow_below hown2 hb3
  have hst : StrsFrom w2.heap.size w3 (some ⟨w2.heap.size, 0, none⟩) 0 (fun _ => ByteArray.empty) := .inl rfl
  clear hgrow3 H7 H8 H9 hown2 hb1 hb2 hrows1 hown3
  go_wp2
  refine wp_loop_rounds 1 ?_; rw [rounds_succ]
  go_wp2_with (first
    | (go_at_call 12; refine (sorted_any _ _ (Nat.zero_le _) hst).mono ?_; rintro e w4 ⟨g4, c4, rfl, hown4, hb4⟩)
    | (go_at_call 11; refine (same_own (Nat.zero_le _) (ownsRow_below hgot hb4) hown4).mono ?_; rintro e w5 ⟨rfl, q5, rfl⟩))
  go_ret
  exact ⟨rfl, below_drewN ((hB2.trans (hb3.mono hw12)).trans (hb4.mono (Nat.le_trans hw12 hb3.size))) _⟩

theorem law3 {B : Nat} {ao : Option Addr} {n : Nat} {Sc : Nat → ByteArray} {RL : Nat → Nat} {RS : Nat → Nat → ByteArray} (c : Nat) (w : World) (hn : n ≤ 3518437208883)
    (h : RowsFrom B w ao n Sc RL RS) (hs : ∀ i, i < n → RL i ≤ 8796093022208) :
    Calls Try.prog 3 #[.slice ao n c] w fun e w' => e = .returned (.bool true) ∧ Below w.heap.size w w' := by
  rcases h with rfl | ⟨b, off, rfl, h1, hb, hr⟩
  · exact law3_zero ao c w
  · exact law3_pos B b off n c Sc RL RS w hn hb hr (.inr ⟨b, off, rfl, h1, hb, hr⟩) hs

end Go.Proofs.Qxb6601184a

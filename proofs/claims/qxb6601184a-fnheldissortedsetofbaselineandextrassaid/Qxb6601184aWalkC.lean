import Derived.Test.Qxb6601184aWalkB
import Derived.Deep.RegionHeld
namespace Go.Proofs.Qxb6601184a
open Go.RowKit

set_option maxHeartbeats 400000 in
theorem make24 (ao : Option Addr) (n c : Nat) (w : World) :
    Calls Try.prog 24 #[.slice ao n c] w fun e w' => e = .returned (.agg #[.slice ao n c]) ∧ Below w.heap.size w w' := by
  go_enter Try.func24, Try.ntmps24
  go_wp2
  refine bodyPost_ret (v := .agg #[.slice ao n c]) (by simp [results, Try.results24, go_sem]) rfl ⟨rfl, ?_⟩
  exact (Below.refl _ _).alloc (Nat.le_refl _) _

theorem Try.info51 : (Try.prog.info? 51).map (fun i => (i.zero, i.size, i.bytes)) = some (some (.agg #[.string ⟨#[]⟩, .slice none 0 0]), 2, 40) := by kernel_rfl

set_option maxHeartbeats 400000 in
theorem table_nil (n c : Nat) (w : World) :
    Calls Try.prog 9 #[.slice none n c] w fun e w' => e = .returned (.agg #[.slice none 0 0]) ∧ Below w.heap.size w w' := by
  have q : ∀ (w : World) (a : Option Addr) (n c n' c' : Nat), (binOp .neq 22 (.slice a n c) (.slice none n' c')).run Try.prog w = .ok (.bool !a.isNone) w := fun w a n c n' c' => run_neq_slice_nil_any w _ _ a n c n' c' Try.underlying22
  go_enter Try.func9, Try.ntmps9
  go_wp2_with (go_at_call 24; refine (make24 _ _ _ _).mono ?_; rintro e w1 ⟨rfl, hb1⟩; obtain ⟨hc1, hf1⟩ := bcell hb1)
  have h0 : w1.cell? ⟨w.heap.size, 0, none⟩ = some (.slice none 0 0) := by rw [hc1 _ _ (by simp)]; simp
  have h1 := World.cell?_setCell_same w1 _ (.slice none 0 0) h0
  refine bodyPost_ret (v := .agg #[.slice none 0 0]) (by simp [results, Try.results9, go_sem, h1]) rfl ⟨rfl, ?_⟩
  exact (((Below.refl _ _).alloc (Nat.le_refl _) _).trans (hb1.mono (by simp))).setCell (Nat.le_refl _) _

set_option maxHeartbeats 400000 in
theorem table_pos (B b off n c : Nat) (Sc : Nat → ByteArray) (RL : Nat → Nat) (RS : Nat → Nat → ByteArray) (w : World) (hn : n ≤ 3518437208883) (hb : b < w.heap.size)
    (hr : ∀ i, i < n → RowAt B w b off i Sc RL RS) (hs : ∀ i, i < n → RL i ≤ 8796093022208) :
    Calls Try.prog 9 #[.slice (some ⟨b, off, none⟩) n c] w fun e w' => ∃ ao' c', e = .returned (.agg #[.slice ao' n c']) ∧ RowsFrom w.heap.size w' ao' n Sc RL RS ∧ Below w.heap.size w w' := by
  have q : ∀ (w : World) (a : Option Addr) (n c n' c' : Nat), (binOp .neq 22 (.slice a n c) (.slice none n' c')).run Try.prog w = .ok (.bool !a.isNone) w := fun w a n c n' c' => run_neq_slice_nil_any w _ _ a n c n' c' Try.underlying22
  obtain ⟨i0, hi, hz0, hz1, hz2⟩ := info_parts Try.info51
  go_enter Try.func9, Try.ntmps9
  go_wp2_with (at_make; refine wpList_make_full _ rfl _ _ 26 rfl (w.heap.size + 1) 51 i0 (.agg #[.string ⟨#[]⟩, .slice none 0 0]) 2 Try.underlying26 hi hz0 hz1 _ _ _ _ n rfl rfl rfl rfl ?b1 ?b2 ?b3 ?_)
  case b1 => rw [hz2]; omega
  case b2 => unfold maxLen; omega
  case b3 => simp
  intro w1 hown hgrow
  have hbel : Below (w.heap.size + 1) (w.alloc (Obj.cells #[Value.slice none 0 0] 28)) w1 := (Below.refl _ _).grown hgrow (by simp) (by intro k hk; cases hk)
  have hsz : w.heap.size + 1 < w1.heap.size := (hown.lt (w.heap.size + 1) rfl).2
  clear hgrow
  go_wp2
  go_loopw [4] (fun i wr => ∃ (k : Nat) (xs : List Value), k ≤ n ∧ i = .int .i64 k ∧ wr.ownsRow (w.heap.size + 1) 51 2 (.slice (some ⟨w.heap.size + 1, 0, none⟩) n n) n xs ∧ (∀ j, j < k → xs[j * 2]? = some (.string (Sc j)) ∧ ∃ ra rc, xs[j * 2 + 1]? = some (.slice ra (RL j) rc) ∧ StrsFrom (w.heap.size + 2) wr ra (RL j) (RS j)) ∧ Below (w.heap.size + 1) (w.alloc (Obj.cells #[Value.slice none 0 0] 28)) wr ∧ w.heap.size + 1 < wr.heap.size) (fun i _ => n - (intOf i).toNat)
  case atStart => exact ⟨0, _, Nat.zero_le _, rfl, hown, fun j hj => absurd hj (Nat.not_lt_zero _), hbel, hsz⟩
  case round =>
    obtain ⟨k, xs, hk, rfl, hownr, hxs, hbr, hszr⟩ := hrel
    clear hown hbel hsz
    by_cases hlt : k < n
    · obtain ⟨c0, ra, rc, c1, hstr⟩ := hr k hlt
      have c0' : wr.cell? ⟨b, off + k * 2, none⟩ = some (.string (Sc k)) := (hbr.cell (p := ⟨b, off + k * 2, none⟩) (show b < w.heap.size + 1 by omega)).trans ((World.cell?_alloc_lt _ _ _ hb).trans c0)
      have c1' : wr.cell? ⟨b, off + k * 2 + 1, none⟩ = some (.slice ra (RL k) rc) := (hbr.cell (p := ⟨b, off + k * 2 + 1, none⟩) (show b < w.heap.size + 1 by omega)).trans ((World.cell?_alloc_lt _ _ _ hb).trans c1)
      have hf0 := hownr.frozenAt (k * 2)
      have hf1 := hownr.frozenAt (k * 2 + 1)
      have hxl : xs.length = n * 2 := by simpa using hownr.1
      obtain ⟨x0, hx0⟩ : ∃ x0, xs[k * 2]? = some x0 := ⟨_, List.getElem?_eq_getElem (by omega)⟩
      obtain ⟨x1, hx1⟩ : ∃ x1, xs[k * 2 + 1]? = some x1 := ⟨_, List.getElem?_eq_getElem (by omega)⟩
      have ho0 := (hownr.cellAt (k * 2) (by omega)).trans hx0
      have ho1 := (hownr.cellAt (k * 2 + 1) (by omega)).trans hx1
      clear hx0 hx1 c0 c1
      have hsk := hs k hlt
      have hstr' : StrsFrom B wr ra (RL k) (RS k) := hstr.below (((Below.refl _ w).alloc (Nat.le_refl _) _).trans (hbr.mono (by omega)))
      have HO : Hid (wr.ownsRow (w.heap.size + 1) 51 2 (.slice (some ⟨w.heap.size + 1, 0, none⟩) n n) n xs) := hownr
      have HX : Hid (∀ j, j < k → xs[j * 2]? = some (.string (Sc j)) ∧ ∃ ra rc, xs[j * 2 + 1]? = some (.slice ra (RL j) rc) ∧ StrsFrom (w.heap.size + 2) wr ra (RL j) (RS j)) := hxs
      have HB : Hid (Below (w.heap.size + 1) (w.alloc (Obj.cells #[Value.slice none 0 0] 28)) wr) := hbr
      clear hownr hxs hbr hstr hxl
      go_wp2
      have hbw : b < wr.heap.size := by omega
      have hne : ¬ (w.heap.size + 1 = b) := by omega
      go_region_held (fun w' => w'.cell? ⟨b, off + k * 2, none⟩ = some (.string (Sc k)) ∧ w'.cell? ⟨b, off + k * 2 + 1, none⟩ = some (.slice ra (RL k) rc)) (go_keep) (first | (go_at_call 23; refine (roles_any (B := B) (S := RS k) _ _ hsk ?_).mono ?_; exact hstr'; rintro e w2 ⟨ao2, c2, rfl, hst2, hbel2, _⟩; obtain ⟨hc2, hf2⟩ := bcell hbel2; have s0 := (hc2 b (off + k * 2) hbw).trans c0'; have s1 := (hc2 b (off + k * 2 + 1) hbw).trans c1'; have t0 := (hc2 (w.heap.size + 1) (k * 2) hszr).trans ho0; have t1 := (hc2 (w.heap.size + 1) (k * 2 + 1) hszr).trans ho1; have u0 := (hf2 (w.heap.size + 1) (k * 2) hszr).trans hf0; have u1 := (hf2 (w.heap.size + 1) (k * 2 + 1) hszr).trans hf1; clear hc2 hf2))
      go_wp2
      go_roundw
      case rel =>
        have hbel3 : Below wr.heap.size wr w2 := ⟨hbel2.os, hbel2.tape, hbel2.output, hbel2.size, hbel2.block⟩
        obtain ⟨xs', hA, hB⟩ := table_step (c2 := c2) HO.out HX.out hlt hszr hbel3 hst2
        exact ⟨k + 1, xs', by omega, by go_num, hA, hB, ((HB.out.trans (hbel3.mono (by omega))).setCell (Nat.le_refl _) _).setCell (Nat.le_refl _) _, by have := hbel3.size; simp [World.setCell]; omega⟩
      case measure => simp [intOf]; omega
    · have hkn : k = n := by omega
      subst hkn
      clear hr hs hlt
      have hcw : wr.cell? ⟨w.heap.size, 0, none⟩ = some (.slice none 0 0) := (hbr.cell (p := ⟨w.heap.size, 0, none⟩) (Nat.lt_succ_self _)).trans (by simp)
      have hfw : wr.frozen? ⟨w.heap.size, 0, none⟩ = false := (hbr.frozen (p := ⟨w.heap.size, 0, none⟩) (Nat.lt_succ_self _)).trans (by simp)
      have hsw : w.heap.size < wr.heap.size := by omega
      go_wp2_with (go_at_call 24; refine (make24 _ _ _ _).mono ?_; rintro e w1 ⟨rfl, hb1⟩; obtain ⟨hc1, hf1⟩ := bcell hb1; have g0 := (hc1 w.heap.size 0 hsw).trans hcw; have g1 := (hf1 w.heap.size 0 hsw).trans hfw; clear hc1 hf1)
      have h1 := World.cell?_setCell_same w1 _ (.slice (some ⟨w.heap.size + 1, 0, none⟩) k k) g0
      refine bodyPost_ret (v := .agg #[.slice (some ⟨w.heap.size + 1, 0, none⟩) k k]) (by simp [results, Try.results9, go_sem, h1]) rfl ⟨some ⟨w.heap.size + 1, 0, none⟩, k, rfl, ?_, ?_⟩
      · have ho := ownsRow_setCell_below (ownsRow_below hownr hb1) (a := ⟨w.heap.size, 0, none⟩) (Nat.lt_succ_self _) (.slice (some ⟨w.heap.size + 1, 0, none⟩) k k)
        refine .inr ⟨w.heap.size + 1, 0, rfl, Nat.le_succ _, by have := hb1.size; simp [World.setCell]; omega, fun i hi => ?_⟩
        obtain ⟨e0, ra, rc, e1, hst⟩ := hxs i hi
        refine ⟨?_, ra, rc, ?_, ?_⟩
        · rw [Nat.zero_add, ho.cellAt (i * 2) (by omega)]; exact e0
        · rw [Nat.zero_add, ho.cellAt (i * 2 + 1) (by omega)]; exact e1
        · exact ((hst.below hb1).setCell _ (by simp) _).mono (by omega)
      · exact ((((Below.refl _ w).alloc (Nat.le_refl _) _).trans (hbr.mono (by omega))).trans (hb1.mono (by omega))).setCell (Nat.le_refl _) _

set_option maxHeartbeats 400000 in
theorem table_zero (a : Addr) (c : Nat) (w : World) :
    Calls Try.prog 9 #[.slice (some a) 0 c] w fun e w' => ∃ ao' c', e = .returned (.agg #[.slice ao' 0 c']) ∧ Below w.heap.size w w' := by
  have q : ∀ (w : World) (a : Option Addr) (n c n' c' : Nat), (binOp .neq 22 (.slice a n c) (.slice none n' c')).run Try.prog w = .ok (.bool !a.isNone) w := fun w a n c n' c' => run_neq_slice_nil_any w _ _ a n c n' c' Try.underlying22
  obtain ⟨i0, hi, hz0, hz1, hz2⟩ := info_parts Try.info51
  go_enter Try.func9, Try.ntmps9
  go_wp2_with (at_make; refine wpList_make_full _ rfl _ _ 26 rfl (w.heap.size + 1) 51 i0 (.agg #[.string ⟨#[]⟩, .slice none 0 0]) 2 Try.underlying26 hi hz0 hz1 _ _ _ _ 0 rfl rfl rfl rfl ?b1 ?b2 ?b3 ?_)
  case b1 => omega
  case b2 => unfold maxLen; omega
  case b3 => simp
  intro w1 hown hgrow
  have hbr : Below (w.heap.size + 1) (w.alloc (Obj.cells #[Value.slice none 0 0] 28)) w1 := (Below.refl _ _).grown hgrow (by simp) (by intro k hk; cases hk)
  have hsz : w.heap.size + 1 < w1.heap.size := (hown.lt (w.heap.size + 1) rfl).2
  have hcw : w1.cell? ⟨w.heap.size, 0, none⟩ = some (.slice none 0 0) := (hbr.cell (p := ⟨w.heap.size, 0, none⟩) (Nat.lt_succ_self _)).trans (by simp)
  have hfw : w1.frozen? ⟨w.heap.size, 0, none⟩ = false := (hbr.frozen (p := ⟨w.heap.size, 0, none⟩) (Nat.lt_succ_self _)).trans (by simp)
  have hsw : w.heap.size < w1.heap.size := by omega
  clear hgrow hown
  go_wp2
  refine wp_loop_rounds 1 ?_; rw [rounds_succ]
  go_wp2_with (go_at_call 24; refine (make24 _ _ _ _).mono ?_; rintro e w2 ⟨rfl, hb1⟩; obtain ⟨hc1, hf1⟩ := bcell hb1; have g0 := (hc1 w.heap.size 0 hsw).trans hcw; have g1 := (hf1 w.heap.size 0 hsw).trans hfw; clear hc1 hf1)
  have h1 := World.cell?_setCell_same w2 _ (.slice (some ⟨w.heap.size + 1, 0, none⟩) 0 0) g0
  refine bodyPost_ret (v := .agg #[.slice (some ⟨w.heap.size + 1, 0, none⟩) 0 0]) (by simp [results, Try.results9, go_sem, h1]) rfl ⟨some ⟨w.heap.size + 1, 0, none⟩, 0, rfl, ?_⟩
  exact ((((Below.refl _ w).alloc (Nat.le_refl _) _).trans (hbr.mono (by omega))).trans (hb1.mono (by omega))).setCell (Nat.le_refl _) _

/-- zzTable: a table of the same rows, in memory of the call's own. -/
theorem table_any {B : Nat} {ao : Option Addr} {n : Nat} {Sc : Nat → ByteArray} {RL : Nat → Nat} {RS : Nat → Nat → ByteArray} (c : Nat) (w : World) (hn : n ≤ 3518437208883)
    (h : RowsFrom B w ao n Sc RL RS) (hs : ∀ i, i < n → RL i ≤ 8796093022208) :
    Calls Try.prog 9 #[.slice ao n c] w fun e w' => ∃ ao' c', e = .returned (.agg #[.slice ao' n c']) ∧ RowsFrom w.heap.size w' ao' n Sc RL RS ∧ Below w.heap.size w w' := by
  cases ao with
  | none =>
    rcases h with rfl | ⟨b, off, e, _⟩
    · refine (table_nil 0 c w).mono ?_
      rintro e w' ⟨rfl, hb⟩
      exact ⟨none, 0, rfl, .inl rfl, hb⟩
    · cases e
  | some a =>
    rcases h with rfl | ⟨b, off, e, _, hb, hr⟩
    · refine (table_zero a c w).mono ?_
      rintro e w' ⟨ao', c', rfl, hb⟩
      exact ⟨ao', c', rfl, .inl rfl, hb⟩
    · obtain rfl := Option.some.inj e
      exact table_pos B b off n c Sc RL RS w hn hb hr hs

end Go.Proofs.Qxb6601184a

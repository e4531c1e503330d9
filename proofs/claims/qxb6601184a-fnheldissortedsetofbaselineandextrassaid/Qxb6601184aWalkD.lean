import Derived.Test.Qxb6601184aShelf
import Derived.Test.Qxb6601184aBase
import Derived.Test.Qxb6601184aPlain
import Derived.WalkSpells
import Derived.WalkLawsBesides
import Derived.Sort.OwnSorted
import Derived.Lib.OwnBridge
namespace Go.Proofs.Qxb6601184a
open Go.RowKit Go.Sort

theorem Try.info46' : (Try.prog.info? 46).map (fun i => (i.zero, i.size, i.bytes)) = some (some (.string ⟨#[]⟩), 1, 16) := by kernel_rfl

/-- slices.Sort on a slice of the call's own. -/
theorem sort25 {base g n cap : Nat} {ss : List (List UInt8)} (w : World) (hown : w.ownsRow base 46 1 (.slice (some ⟨g, 0, none⟩) n cap) n (ss.map encStr)) (hn : n < 4611686018427387904) :
    Calls Try.prog 25 #[.slice (some ⟨g, 0, none⟩) n cap] w fun e w' => e = .returned (.tuple #[]) ∧ w'.ownsRow base 46 1 (.slice (some ⟨g, 0, none⟩) n cap) n ((srt ss).map encStr) ∧ w.grownBy w' (some g) := by
  have hl : ss.length = n := by simpa using hown.1
  subst hl
  rcases hown.2 with ⟨h0, _⟩ | ⟨g', cap', cur, hv, hbase, hb, h1, h2, h3, h4⟩
  · cases h0
  cases hv
  have hlt : g < w.heap.size := (Array.getElem?_eq_some_iff.1 hb).1
  have hH : Holds encStr w g 0 ss.toArray := holds_of_block hb (by simpa using h4)
  have hc : Calls Try.prog 25 #[.slice (some ⟨g, 0, none⟩) ss.length cap] w fun e w' =>
      e = .returned (.tuple #[]) ∧ ∃ n os, w' = grow (putRow encStr (Sort.ahead w n) g 0 (ss.mergeSort fun x y => decide (x ≤ y)).toArray) os :=
    AnyM.slices_Sort_string Try.lSort g 0 cap ss w hH hlt hn
  refine hc.mono ?_
  rintro e w' ⟨rfl, nn, os, rfl⟩
  exact ⟨rfl, ownsRow_sorted (ts := srt ss) (by simp [srt]) hbase hb h1 h2 h3, grownBy_sorted _⟩

set_option maxHeartbeats 400000 in
theorem all_pos (B b off n c : Nat) (Sc : Nat → ByteArray) (RL : Nat → Nat) (RS : Nat → Nat → ByteArray) (w : World) (hn : n ≤ 3518437208883) (hb : b < w.heap.size)
    (hr : ∀ i, i < n → RowAt B w b off i Sc RL RS) :
    Calls Try.prog 10 #[.agg #[.slice (some ⟨b, off, none⟩) n c]] w fun e w' => ∃ g cap, e = .returned (.slice (some ⟨g, 0, none⟩) n cap) ∧ w'.ownsRow w.heap.size 46 1 (.slice (some ⟨g, 0, none⟩) n cap) n ((srt (strs Sc n)).map encStr) ∧ Below w.heap.size w w' := by
  obtain ⟨i0, hi, hz0, hz1, hz2⟩ := info_parts Try.info46'
  go_enter Try.func10, Try.ntmps10
  go_wp2_with (at_make; refine wpList_make_own _ rfl _ _ 25 rfl (w.heap.size + 1) 46 i0 (.string ⟨#[]⟩) 1 Try.underlying25 hi hz0 hz1 _ _ _ n rfl rfl rfl ?b1 ?b2 ?b3 ?_)
  case b1 => rw [hz2]; omega
  case b2 => unfold maxLen; omega
  case b3 => simp
  intro w1 hown hgrow
  have hbel : Below (w.heap.size + 1) (w.alloc (Obj.cells #[Value.slice (some ⟨b, off, none⟩) n c] 28)) w1 := (Below.refl _ _).grown hgrow (by simp) (by intro k hk; cases hk)
  have hsz : w.heap.size + 1 < w1.heap.size := (hown.lt (w.heap.size + 1) rfl).2
  have hcw : w1.cell? ⟨w.heap.size, 0, none⟩ = some (Value.slice (some ⟨b, off, none⟩) n c) := (hbel.cell (p := ⟨w.heap.size, 0, none⟩) (Nat.lt_succ_self _)).trans (by simp)
  clear hgrow
  go_wp2
  go_loopw [3, 5, 13] (fun v _ i wr => ∃ k : Nat, k ≤ n ∧ i = .int .i64 k ∧ v = .slice (some ⟨w.heap.size + 1, 0, none⟩) k n ∧ wr.ownsRow (w.heap.size + 1) 46 1 (.slice (some ⟨w.heap.size + 1, 0, none⟩) k n) k ((strs Sc k).map encStr) ∧ Below (w.heap.size + 1) (w.alloc (Obj.cells #[Value.slice (some ⟨b, off, none⟩) n c] 28)) wr) (fun _ _ i _ => n - (intOf i).toNat)
  case atStart => exact ⟨0, Nat.zero_le _, rfl, rfl, hown, hbel⟩
  case round =>
    obtain ⟨k, hk, rfl, rfl, hownr, hbr⟩ := hrel
    clear hown hbel hsz hcw
    have hszr : w.heap.size + 1 < wr.heap.size := (hownr.lt (w.heap.size + 1) rfl).2
    by_cases hlt : k < n
    · obtain ⟨c0, ra, rc, c1, _⟩ := hr k hlt
      have c0' : wr.cell? ⟨b, off + k * 2, none⟩ = some (.string (Sc k)) := (hbr.cell (p := ⟨b, off + k * 2, none⟩) (show b < w.heap.size + 1 by omega)).trans ((World.cell?_alloc_lt _ _ _ hb).trans c0)
      have c1' : wr.cell? ⟨b, off + k * 2 + 1, none⟩ = some (.slice ra (RL k) rc) := (hbr.cell (p := ⟨b, off + k * 2 + 1, none⟩) (show b < w.heap.size + 1 by omega)).trans ((World.cell?_alloc_lt _ _ _ hb).trans c1)
      clear c0 c1
      go_wp2_with (at_builtin; refine wpList_append_fits _ rfl _ _ 25 rfl (w.heap.size + 1) 46 i0 1 Try.underlying25 hi hz1 (w.heap.size + 1) k n ((strs Sc k).map encStr) rfl ((hownr.alloc _).alloc _) ⟨wr.heap.size + 1, 0, none⟩ 1 1 [.string (Sc k)] rfl rfl ?c1 ?c2 ?c3 ?_)
      case c1 =>
        intro j u hj
        match j, hj with
        | 0, hj => simp at hj; subst hj; simp [Addr.add]
      case c2 => intro u hu; simp at hu; subst hu; rfl
      case c3 => omega
      intro w2 hown2 hgrow2
      have hb2 : Below (w.heap.size + 1) (w.alloc (Obj.cells #[Value.slice (some ⟨b, off, none⟩) n c] 28)) w2 := ((hbr.alloc (by omega) _).alloc (by simp; omega) _).grown hgrow2 (by simp; omega) (by intro j hj; cases hj; exact Nat.le_refl _)
      have HO : Hid (w2.ownsRow (w.heap.size + 1) 46 1 (.slice (some ⟨w.heap.size + 1, 0, none⟩) (k + 1) n) (k + 1) ((strs Sc (k + 1)).map encStr)) := by rw [strs_succ]; exact hown2
      clear hown2 hgrow2 hownr hbr c0' c1' hr
      go_wp2
      go_roundw
      case rel => exact ⟨k + 1, by omega, by go_num, rfl, HO.out, hb2⟩
      case measure => simp [intOf]; omega
    · have hkn : k = n := by omega
      subst hkn
      clear hr
      have hsort := sort25 wr hownr (by omega)
      go_wp2_with (go_at_call 25; refine hsort.mono ?_; rintro e w2 ⟨rfl, hown2, hgrow2⟩)
      go_ret
      refine ⟨w.heap.size + 1, k, rfl, ?_, ?_⟩
      · exact ownsRow_mono hown2 (by omega)
      · exact ((Below.refl _ w).alloc (Nat.le_refl _) _).trans ((hbr.grown hgrow2 (by omega) (by intro j hj; cases hj; exact Nat.le_refl _)).mono (by omega))

set_option maxHeartbeats 400000 in
theorem all_zero (ao : Option Addr) (c : Nat) (w : World) :
    Calls Try.prog 10 #[.agg #[.slice ao 0 c]] w fun e w' => ∃ g cap, e = .returned (.slice (some ⟨g, 0, none⟩) 0 cap) ∧ w'.ownsRow w.heap.size 46 1 (.slice (some ⟨g, 0, none⟩) 0 cap) 0 [] ∧ Below w.heap.size w w' := by
  obtain ⟨i0, hi, hz0, hz1, hz2⟩ := info_parts Try.info46'
  go_enter Try.func10, Try.ntmps10
  go_wp2_with (at_make; refine wpList_make_own _ rfl _ _ 25 rfl (w.heap.size + 1) 46 i0 (.string ⟨#[]⟩) 1 Try.underlying25 hi hz0 hz1 _ _ _ 0 rfl rfl rfl ?b1 ?b2 ?b3 ?_)
  case b1 => omega
  case b2 => unfold maxLen; omega
  case b3 => simp
  intro w1 hown hgrow
  have hbel : Below (w.heap.size + 1) (w.alloc (Obj.cells #[Value.slice ao 0 c] 28)) w1 := (Below.refl _ _).grown hgrow (by simp) (by intro k hk; cases hk)
  have hcw : w1.cell? ⟨w.heap.size, 0, none⟩ = some (Value.slice ao 0 c) := (hbel.cell (p := ⟨w.heap.size, 0, none⟩) (Nat.lt_succ_self _)).trans (by simp)
  have hsz : w.heap.size + 1 < w1.heap.size := (hown.lt (w.heap.size + 1) rfl).2
  have hsort := sort25 (ss := []) w1 hown (by omega)
  clear hgrow
  go_wp2
  refine wp_loop_rounds 1 ?_; rw [rounds_succ]
  go_wp2_with (go_at_call 25; refine hsort.mono ?_; rintro e w2 ⟨rfl, hown2, hgrow2⟩)
  go_ret
  refine ⟨w.heap.size + 1, 0, rfl, ?_, ?_⟩
  · have := ownsRow_mono hown2 (base' := w.heap.size) (by omega)
    simpa [srt] using this
  · exact ((Below.refl _ w).alloc (Nat.le_refl _) _).trans ((hbel.grown hgrow2 (by omega) (by intro j hj; cases hj; exact Nat.le_refl _)).mono (by omega))

/-- All: the rows' scopes, sorted, in memory of the call's own. -/
theorem all_any {B : Nat} {ao : Option Addr} {n : Nat} {Sc : Nat → ByteArray} {RL : Nat → Nat} {RS : Nat → Nat → ByteArray} (c : Nat) (w : World) (hn : n ≤ 3518437208883)
    (h : RowsFrom B w ao n Sc RL RS) :
    Calls Try.prog 10 #[.agg #[.slice ao n c]] w fun e w' => ∃ g cap, e = .returned (.slice (some ⟨g, 0, none⟩) n cap) ∧ w'.ownsRow w.heap.size 46 1 (.slice (some ⟨g, 0, none⟩) n cap) n ((srt (strs Sc n)).map encStr) ∧ Below w.heap.size w w' := by
  rcases h with rfl | ⟨b, off, rfl, _, hb, hr⟩
  · have e : (srt (strs Sc 0)).map encStr = [] := by simp [strs, srt]
    rw [e]
    exact all_zero ao c w
  · exact all_pos B b off n c Sc RL RS w hn hb hr

end Go.Proofs.Qxb6601184a

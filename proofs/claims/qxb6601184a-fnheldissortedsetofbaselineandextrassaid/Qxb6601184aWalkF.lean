import Derived.Test.Qxb6601184aProg
import Derived.Test.Qxb6601184aBase
import Derived.Test.Qxb6601184aPlain
import Derived.WalkSpells
import Derived.WalkLawsBesides
import Derived.BigQuiet
import Derived.Deep.QuietTactic
namespace Go.Proofs.Qxb6601184a
open Go.RowKit

theorem Try.info9 : (Try.prog.info? 9).map (fun i => (i.zero, i.size, i.bytes)) = some (some (.string ⟨#[]⟩), 1, 16) := by kernel_rfl

set_option maxHeartbeats 1000000 in
set_option maxRecDepth 100000 in
theorem sorted_pos (b off n c : Nat) (S : Nat → ByteArray) (w : World) (hn : n ≤ 3518437208883) (hb : b < w.heap.size)
    (hc : ∀ i, i < n → w.cell? ⟨b, off + i, none⟩ = some (.string (S i))) :
    Calls Try.prog 12 #[.slice (some ⟨b, off, none⟩) n c] w fun e w' => ∃ L : List ByteArray, Good S n L ∧ e = .returned (.slice (some ⟨w.heap.size, 0, none⟩) n n) ∧ w'.ownsRow w.heap.size 9 1 (.slice (some ⟨w.heap.size, 0, none⟩) n n) n (L.map Value.string) ∧ Below w.heap.size w w' := by
  obtain ⟨i0, hi, hz0, hz1, hz2⟩ := info_parts Try.info9
  go_enter Try.func12, Try.ntmps12
  go_wp2_with (at_make; refine wpList_make_own _ rfl _ _ 31 rfl w.heap.size 9 i0 (.string ⟨#[]⟩) 1 Try.underlying31 hi hz0 hz1 _ _ _ n rfl rfl rfl ?b1 ?b2 ?b3 ?_)
  case b1 => rw [hz2]; omega
  case b2 => unfold maxLen; omega
  case b3 => exact Nat.le_refl _
  intro w1 hown hgrow
  have hbel : Below w.heap.size w w1 := (Below.refl _ _).grown hgrow (Nat.le_refl _) (by intro k hk; cases hk)
  clear hgrow
  go_wp2
  go_loopw [3, 4, 5] (fun v i _ wr => ∃ (k : Nat) (L : List ByteArray), k ≤ n ∧ i = .int .i64 k ∧ v = .slice (some ⟨w.heap.size, 0, none⟩) k n ∧ Good S k L ∧ wr.ownsRow w.heap.size 9 1 (.slice (some ⟨w.heap.size, 0, none⟩) k n) k (L.map Value.string) ∧ Below w.heap.size w wr) (fun _ i _ _ => n - (intOf i).toNat)
  case atStart => exact ⟨0, [], Nat.zero_le _, rfl, rfl, Good.zero S, hown, hbel⟩
  case round =>
    obtain ⟨k, L, hk, rfl, rfl, hgood, hownr, hbr⟩ := hrel
    clear hown hbel
    have hszr : w.heap.size < wr.heap.size := (hownr.lt w.heap.size rfl).2
    have hLk := hgood.length
    by_cases hlt : k < n
    · have hck : wr.cell? ⟨b, off + k, none⟩ = some (.string (S k)) := (hbr.cell (p := ⟨b, off + k, none⟩) hb).trans (hc k hlt)
      have HLk : Hid (L.length = k) := hLk
      have HG : Hid (Good S k L) := hgood
      clear hLk hgood
      go_wp2_with (at_builtin; refine wpList_append_fits _ rfl _ _ 31 rfl w.heap.size 9 i0 1 Try.underlying31 hi hz1 w.heap.size k n (L.map Value.string) rfl (hownr.alloc _) ⟨wr.heap.size, 0, none⟩ 1 1 [.string (S k)] rfl rfl ?c1 ?c2 ?c3 ?_)
      case c1 =>
        intro j u hj
        match j, hj with
        | 0, hj => simp at hj; subst hj; simp [Addr.add]
      case c2 => intro u hu; simp at hu; subst hu; rfl
      case c3 => omega
      intro w2 hown2 hgrow2
      have hb2 : Below w.heap.size w w2 := (hbr.alloc (by omega) _).grown hgrow2 (by simp; omega) (by intro j hj; cases hj; exact Nat.le_refl _)
      have hown2' : w2.ownsRow w.heap.size 9 1 (.slice (some ⟨w.heap.size, 0, none⟩) (k + 1) n) (k + 1) (mid L k (S k)) := by
        have := HLk.out
        rw [mid_start, this] at hown2; exact hown2
      clear hown2 hgrow2 hownr hck hbr hszr
      go_wp2
      go_loopw [5] (fun jv w3 => ∃ (m : Nat) (y : ByteArray), m ≤ k ∧ jv = .int .i64 m ∧ w3.ownsRow w.heap.size 9 1 (.slice (some ⟨w.heap.size, 0, none⟩) (k + 1) n) (k + 1) (mid L m y) ∧ (∀ p, m ≤ p → p < k → bl (S k) (L.getD p ByteArray.empty) = true) ∧ Below w.heap.size w w3) (fun jv _ => (intOf jv).toNat)
      case atStart => exact ⟨k, S k, Nat.le_refl _, rfl, hown2', fun p h1 h2 => absurd h2 (by omega), hb2⟩
      case round =>
        obtain ⟨m, y, hm, rfl, hown3, hbig, hb3⟩ := hrel
        clear hown2' hb2
        have hLk := HLk.out
        have hck3 : wr.cell? ⟨b, off + k, none⟩ = some (.string (S k)) := (hb3.cell (p := ⟨b, off + k, none⟩) hb).trans (hc k hlt)
        have hm1 := (hown3.cellAt m (by omega)).trans (mid_at L m (by omega) y)
        have hf1 := hown3.frozenAt m
        have hstm := (hown3.stored m (.string (S k))).1
        rw [mid_set L m (by omega)] at hstm
        have HS : Hid ((wr.setCell ⟨w.heap.size, m, none⟩ (.string (S k))).ownsRow w.heap.size 9 1 (.slice (some ⟨w.heap.size, 0, none⟩) (k + 1) n) (k + 1) (mid L m (S k))) := hstm
        clear hstm
        have HLk2 : Hid (L.length = k) := hLk
        by_cases hm0 : m = 0
        · subst hm0
          have HB : Hid (∀ p, 0 ≤ p → p < k → bl (S k) (L.getD p ByteArray.empty) = true) := hbig
          clear hbig hLk hown3
          go_wp2
          go_quiet (fail)
          go_wp2
          go_roundw
          case rel =>
            refine ⟨k + 1, _, by omega, by go_num, rfl, HG.out.insert (m := 0) (by omega) HB.out (.inl rfl), ?_, (below_drewN hb3 nq).setCell (Nat.le_refl _) _⟩
            rw [← mid_end]
            exact HS.out
          case measure => simp [intOf]; omega
        · have hm1' := (hown3.cellAt (m - 1) (by omega)).trans (mid_get L m (m - 1) (by omega) (by omega) y)
          have hstd := (hown3.stored m (.string (L.getD (m - 1) ByteArray.empty))).1
          rw [mid_set L m (by omega), mid_down L m (by omega) (by omega)] at hstd
          have HD : Hid ((wr.setCell ⟨w.heap.size, m, none⟩ (.string (L.getD (m - 1) ByteArray.empty))).ownsRow w.heap.size 9 1 (.slice (some ⟨w.heap.size, 0, none⟩) (k + 1) n) (k + 1) (mid L (m - 1) (L.getD (m - 1) ByteArray.empty))) := hstd
          have HB : Hid (∀ p, m ≤ p → p < k → bl (S k) (L.getD p ByteArray.empty) = true) := hbig
          clear hstd hbig hLk hown3
          obtain ⟨z, hz⟩ : ∃ z, z = L.getD (m - 1) ByteArray.empty := ⟨_, rfl⟩
          rw [← hz] at hm1' HD
          have HZ : Hid (z = L.getD (m - 1) ByteArray.empty) := hz
          clear hz
          have hmp : 0 < m := by omega
          cases hx : bl (S k) z with
          | true =>
            have hx' : Op.bytesLess (S k).toList z.toList = true := hx
            go_wp2
            go_quiet (fail)
            go_wp2
            go_roundw
            case rel =>
              refine ⟨m - 1, z, by omega, by go_num, ?_, ?_, (below_drewN hb3 nq).setCell (Nat.le_refl _) _⟩
              · exact HD.out
              · intro p h1 h2
                by_cases e : p = m - 1
                · subst e; rw [← HZ.out]; exact hx
                · exact HB.out p (by omega) h2
            case measure => simp [intOf]; omega
          | false =>
            have hx' : Op.bytesLess (S k).toList z.toList = false := hx
            go_wp2
            go_quiet (fail)
            go_wp2
            go_roundw
            case rel =>
              refine ⟨k + 1, _, by omega, by go_num, rfl, HG.out.insert (m := m) (by omega) HB.out (.inr (by rw [← HZ.out]; exact hx)), ?_, (below_drewN hb3 nq).setCell (Nat.le_refl _) _⟩
              rw [← mid_end]
              exact HS.out
            case measure => simp [intOf]; omega
    · have hkn : k = n := by omega
      subst hkn
      go_wp2
      go_ret
      exact ⟨L, hgood, rfl, hownr, hbr⟩

set_option maxHeartbeats 400000 in
set_option maxRecDepth 100000 in
theorem sorted_zero (ao : Option Addr) (c : Nat) (w : World) :
    Calls Try.prog 12 #[.slice ao 0 c] w fun e w' => e = .returned (.slice (some ⟨w.heap.size, 0, none⟩) 0 0) ∧ w'.ownsRow w.heap.size 9 1 (.slice (some ⟨w.heap.size, 0, none⟩) 0 0) 0 [] ∧ Below w.heap.size w w' := by
  obtain ⟨i0, hi, hz0, hz1, hz2⟩ := info_parts Try.info9
  go_enter Try.func12, Try.ntmps12
  go_wp2_with (at_make; refine wpList_make_own _ rfl _ _ 31 rfl w.heap.size 9 i0 (.string ⟨#[]⟩) 1 Try.underlying31 hi hz0 hz1 _ _ _ 0 rfl rfl rfl ?b1 ?b2 ?b3 ?_)
  case b1 => omega
  case b2 => unfold maxLen; omega
  case b3 => exact Nat.le_refl _
  intro w1 hown hgrow
  have hbel : Below w.heap.size w w1 := (Below.refl _ _).grown hgrow (Nat.le_refl _) (by intro k hk; cases hk)
  clear hgrow
  go_wp2
  refine wp_loop_rounds 1 ?_; rw [rounds_succ]
  go_wp2
  go_ret
  exact ⟨rfl, hown, hbel⟩

/-- zzSorted: the strings sorted, in memory of the call's own. -/
theorem sorted_any {B : Nat} {ao : Option Addr} {n : Nat} {S : Nat → ByteArray} (c : Nat) (w : World) (hn : n ≤ 3518437208883) (h : StrsFrom B w ao n S) :
    Calls Try.prog 12 #[.slice ao n c] w fun e w' => ∃ g cap, e = .returned (.slice (some ⟨g, 0, none⟩) n cap) ∧ w'.ownsRow w.heap.size 9 1 (.slice (some ⟨g, 0, none⟩) n cap) n ((srt (strs S n)).map encStr) ∧ Below w.heap.size w w' := by
  rcases h with rfl | ⟨b, off, rfl, _, hb, hc⟩
  · refine (sorted_zero ao c w).mono ?_
    rintro e w' ⟨rfl, hown, hbel⟩
    exact ⟨_, _, rfl, by simpa [strs, srt] using hown, hbel⟩
  · refine (sorted_pos b off n c S w hn hb hc).mono ?_
    rintro e w' ⟨L, hg, rfl, hown, hbel⟩
    refine ⟨_, _, rfl, ?_, hbel⟩
    rw [← hg.srt]
    have : (L.map (·.data.toList)).map encStr = L.map Value.string := by rw [List.map_map]; rfl
    rw [this]
    exact hown

end Go.Proofs.Qxb6601184a

import Derived.Test.Qxb6601184aPlain3
import Derived.Test.Qxb6601184aWalkF
import Derived.Test.Qxb6601184aWalkJ
namespace Go.Proofs.Qxb6601184a
open Go.RowKit

theorem ownsRow_drw {w : World} {base : Nat} {e : TypeId} {size : Nat} {v : Value} {n : Nat} {xs : List Value} (h : w.ownsRow base e size v n xs) (q : Nat) : (w.drewN q).ownsRow base e size v n xs := h

theorem cell_drw_new (w : World) (q : Nat) (x : ByteArray) : ((w.drewN q).alloc (Obj.cells #[Value.string x] 9)).cell? ((⟨w.heap.size, 0, none⟩ : Addr).add 0) = some (.string x) := by
  show ((w.drewN q).alloc (Obj.cells #[Value.string x] 9)).cell? ⟨(w.drewN q).heap.size, 0, none⟩ = _
  simp only [World.cell?_alloc_at]
  rfl

theorem bl_tri {x y : ByteArray} (h : bl x y = false) (hne : (x.toList == y.toList) = false) : bl y x = true := by
  rw [bl_false] at h
  rw [bl_true]
  rw [beq_eq_false_iff_ne, Lib.toList_data, Lib.toList_data] at hne
  exact lst_lt_of h (fun e => hne e.symm)

set_option maxHeartbeats 2000000 in
set_option maxRecDepth 100000 in
theorem set_pos (b off n c : Nat) (S : Nat → ByteArray) (w : World) (hn : n ≤ 3518437208883) (hb : b < w.heap.size)
    (hc : ∀ i, i < n → w.cell? ⟨b, off + i, none⟩ = some (.string (S i))) :
    Calls Try.prog 18 #[.slice (some ⟨b, off, none⟩) n c] w fun e w' => ∃ L : List ByteArray, GoodS S n L ∧ e = .returned (.slice (some ⟨w.heap.size, 0, none⟩) L.length n) ∧ w'.ownsRow w.heap.size 9 1 (.slice (some ⟨w.heap.size, 0, none⟩) L.length n) L.length (L.map Value.string) ∧ Below w.heap.size w w' := by
  obtain ⟨i0, hi, hz0, hz1, hz2⟩ := info_parts Try.info9
  go_enter Try.func18, Try.ntmps18
  go_wp2_with (at_make; refine wpList_make_own _ rfl _ _ 31 rfl w.heap.size 9 i0 (.string ⟨#[]⟩) 1 Try.underlying31 hi hz0 hz1 _ _ _ n rfl rfl rfl ?b1 ?b2 ?b3 ?_)
  case b1 => rw [hz2]; omega
  case b2 => unfold maxLen; omega
  case b3 => exact Nat.le_refl _
  intro w1 hown hgrow
  have hbel : Below w.heap.size w w1 := (Below.refl _ _).grown hgrow (Nat.le_refl _) (by intro k hk; cases hk)
  clear hgrow
  go_wp2
  go_loopw [3, 4, 5, 6] (fun v i _ _ wr => ∃ (k l : Nat) (L : List ByteArray), k ≤ n ∧ L.length = l ∧ i = .int .i64 k ∧ v = .slice (some ⟨w.heap.size, 0, none⟩) l n ∧ GoodS S k L ∧ wr.ownsRow w.heap.size 9 1 (.slice (some ⟨w.heap.size, 0, none⟩) l n) l (L.map Value.string) ∧ Below w.heap.size w wr) (fun _ i _ _ _ => n - (intOf i).toNat)
  case atStart => exact ⟨0, 0, [], Nat.zero_le _, rfl, rfl, rfl, GoodS.zero S, hown, hbel⟩
  case round =>
    obtain ⟨k, l, L, hk, hLl, rfl, rfl, hgood, hownr, hbr⟩ := hrel
    clear hown hbel
    have hlk : l ≤ k := by have := hgood.len; omega
    have HLl : Hid (L.length = l) := hLl
    have HG : Hid (GoodS S k L) := hgood
    clear hLl hgood
    by_cases hlt : k < n
    · have hck : ∀ w2 : World, Below w.heap.size w w2 → w2.cell? ⟨b, off + k, none⟩ = some (.string (S k)) := fun w2 h2 => (h2.cell (p := ⟨b, off + k, none⟩) hb).trans (hc k hlt)
      have HCK : Hid (∀ w2 : World, Below w.heap.size w w2 → w2.cell? ⟨b, off + k, none⟩ = some (.string (S k))) := hck
      clear hck hc
      go_wp2
      go_loopw [5] (fun jv w2 => ∃ j : Nat, j ≤ l ∧ jv = .int .i64 j ∧ (∀ p, p < j → bl (L.getD p ByteArray.empty) (S k) = true) ∧ w2.ownsRow w.heap.size 9 1 (.slice (some ⟨w.heap.size, 0, none⟩) l n) l (L.map Value.string) ∧ Below w.heap.size w w2) (fun jv _ => l - (intOf jv).toNat)
      case atStart => exact ⟨0, Nat.zero_le _, rfl, fun p hp => absurd hp (Nat.not_lt_zero _), hownr, hbr⟩
      case round =>
        obtain ⟨j, hj, rfl, hlow, hown2, hb2⟩ := hrel
        clear hownr hbr
        have hck2 := HCK.out _ hb2
        have HLOW : Hid (∀ p, p < j → bl (L.getD p ByteArray.empty) (S k) = true) := hlow
        clear hlow
        by_cases hjl : j < l
        · have hLl := HLl.out
          have hcz := hown2.cellAt j (by omega)
          obtain ⟨z, hz⟩ : ∃ z, z = L.getD j ByteArray.empty := ⟨_, rfl⟩
          have hcz' : wr.cell? ⟨w.heap.size, j, none⟩ = some (.string z) := by
            rw [hcz, hz, List.getElem?_map, List.getElem?_eq_getElem (by omega), getD_lt _ _ (by omega)]; rfl
          have HZ : Hid (z = L.getD j ByteArray.empty) := hz
          clear hcz hz hLl
          have hjl' : (j : Int) < (l : Int) := by omega
          cases hx : bl z (S k) with
          | true =>
            have hx' : Op.bytesLess z.toList (S k).toList = true := hx
            have HO2 : Hid (wr.ownsRow w.heap.size 9 1 (.slice (some ⟨w.heap.size, 0, none⟩) l n) l (L.map Value.string)) := hown2
            have HB2 : Hid (Below w.heap.size w wr) := hb2
            clear hown2 hb2
            go_wp2
            go_quiet (fail)
            go_wp2
            go_roundw
            case rel =>
              refine ⟨j + 1, by omega, by go_num, fun p hp => ?_, ownsRow_drw HO2.out _, below_drewN HB2.out _⟩
              by_cases e : p = j
              · subst e; rw [← HZ.out]; exact hx
              · exact HLOW.out p (by omega)
            case measure => simp [intOf]; omega
          | false =>
            have hx' : Op.bytesLess z.toList (S k).toList = false := hx
            cases he : (z.toList == (S k).toList) with
            | true =>
              have HO2 : Hid (wr.ownsRow w.heap.size 9 1 (.slice (some ⟨w.heap.size, 0, none⟩) l n) l (L.map Value.string)) := hown2
              have HB2 : Hid (Below w.heap.size w wr) := hb2
              clear hown2 hb2
              go_wp2
              go_quiet (fail)
              go_wp2
              go_quiet (fail)
              go_wp2
              go_roundw
              case rel =>
                have hLl := HLl.out
                refine ⟨k + 1, l, L, by omega, hLl, by go_num, rfl, HG.out.there (j := j) (by omega) ?_, ownsRow_drw HO2.out _, below_drewN HB2.out _⟩
                rw [← HZ.out, ← Lib.toList_data, ← Lib.toList_data]
                exact beq_iff_eq.1 he
              case measure => simp [intOf]; omega
            | false =>
              have HUP : Hid (j < L.length → bl (S k) (L.getD j ByteArray.empty) = true) := fun _ => by rw [← HZ.out]; exact bl_tri hx he
              go_wp2
              go_quiet (fail)
              go_wp2
              go_quiet (fail)
              clear hck2 hcz'
              go_wp2_with (at_builtin; refine wpList_append_fits _ rfl _ _ 31 rfl w.heap.size 9 i0 1 Try.underlying31 hi hz1 w.heap.size l n (L.map Value.string) rfl ((ownsRow_drw hown2 _).alloc _) ⟨wr.heap.size, 0, none⟩ 1 1 [.string ⟨#[]⟩] rfl rfl ?c1 ?c2 ?c3 ?_)
              case c1 =>
                intro j u hj
                match j, hj with
                | 0, hj => simp at hj; subst hj; exact cell_drw_new wr _ ⟨#[]⟩
              case c2 => intro u hu; simp at hu; subst hu; rfl
              case c3 => omega
              intro w5 hown5 hgrow5
              have hszr : w.heap.size < wr.heap.size := (hown2.lt w.heap.size rfl).2
              have hb5 : Below w.heap.size w w5 := ((below_drewN hb2 _).alloc (by simp; omega) _).grown hgrow5 (by simp; omega) (by intro j hj; cases hj; exact Nat.le_refl _)
              have hown5' : w5.ownsRow w.heap.size 9 1 (.slice (some ⟨w.heap.size, 0, none⟩) (l + 1) n) (l + 1) (mid L l ⟨#[]⟩) := by
                have := HLl.out
                rw [mid_start, this] at hown5; exact hown5
              clear hown5 hgrow5 hown2 hb2 hszr
              go_wp2
              go_loopw [6] (fun kv w6 => ∃ (m : Nat) (y : ByteArray), j ≤ m ∧ m ≤ l ∧ kv = .int .i64 m ∧ w6.ownsRow w.heap.size 9 1 (.slice (some ⟨w.heap.size, 0, none⟩) (l + 1) n) (l + 1) (mid L m y) ∧ Below w.heap.size w w6) (fun kv _ => (intOf kv).toNat - j)
              case atStart => exact ⟨l, _, by omega, Nat.le_refl _, by go_num, hown5', hb5⟩
              case round =>
                obtain ⟨m, y, hm1, hm2, rfl, hown6, hb6⟩ := hrel
                clear hown5' hb5
                have hLl := HLl.out
                have hck3 := HCK.out _ hb6
                have hcm := (hown6.cellAt m (by omega)).trans (mid_at L m (by omega) y)
                have hfm := hown6.frozenAt m
                by_cases hmj : j < m
                · have hcm' := (hown6.cellAt (m - 1) (by omega)).trans (mid_get L m (m - 1) (by omega) (by omega) y)
                  have hstd := (hown6.stored m (.string (L.getD (m - 1) ByteArray.empty))).1
                  rw [mid_set L m (by omega), mid_down L m (by omega) (by omega)] at hstd
                  obtain ⟨z, hz⟩ : ∃ z, z = L.getD (m - 1) ByteArray.empty := ⟨_, rfl⟩
                  rw [← hz] at hcm' hstd
                  have HD : Hid ((wr.setCell ⟨w.heap.size, m, none⟩ (.string z)).ownsRow w.heap.size 9 1 (.slice (some ⟨w.heap.size, 0, none⟩) (l + 1) n) (l + 1) (mid L (m - 1) z)) := hstd
                  have HB6 : Hid (Below w.heap.size w wr) := hb6
                  clear hstd hz hown6 hLl hb6
                  go_wp2
                  go_roundw
                  case rel => exact ⟨m - 1, z, by omega, by omega, by go_num, HD.out, HB6.out.setCell (Nat.le_refl _) _⟩
                  case measure => simp [intOf]; omega
                · have hme : m = j := by omega
                  subst hme
                  have hstm := (hown6.stored m (.string (S k))).1
                  rw [mid_set L m (by omega)] at hstm
                  have HS : Hid ((wr.setCell ⟨w.heap.size, m, none⟩ (.string (S k))).ownsRow w.heap.size 9 1 (.slice (some ⟨w.heap.size, 0, none⟩) (l + 1) n) (l + 1) (mid L m (S k))) := hstm
                  have HB6 : Hid (Below w.heap.size w wr) := hb6
                  clear hstm hown6 hLl hb6
                  go_wp2
                  go_roundw
                  case rel =>
                    have hLl := HLl.out
                    refine ⟨k + 1, l + 1, _, by omega, ?_, by go_num, rfl, HG.out.insert (m := m) (by omega) HLOW.out HUP.out, ?_, HB6.out.setCell (Nat.le_refl _) _⟩
                    · simp; omega
                    · rw [← mid_end]; exact HS.out
                  case measure => simp [intOf]; omega
        · have hje : j = l := by omega
          subst hje
          have HUP : Hid (j < L.length → bl (S k) (L.getD j ByteArray.empty) = true) := fun h => absurd h (by rw [HLl.out]; omega)
          have hdd : decide ((j : Int) < (j : Int)) = false := by simp
          go_wp2
          go_quiet (fail)
          go_wp2
          go_quiet (fail)
          clear hck2
          go_wp2_with (at_builtin; refine wpList_append_fits _ rfl _ _ 31 rfl w.heap.size 9 i0 1 Try.underlying31 hi hz1 w.heap.size j n (L.map Value.string) rfl ((ownsRow_drw hown2 _).alloc _) ⟨wr.heap.size, 0, none⟩ 1 1 [.string ⟨#[]⟩] rfl rfl ?c1 ?c2 ?c3 ?_)
          case c1 =>
            intro j u hj
            match j, hj with
            | 0, hj => simp at hj; subst hj; exact cell_drw_new wr _ ⟨#[]⟩
          case c2 => intro u hu; simp at hu; subst hu; rfl
          case c3 => omega
          intro w5 hown5 hgrow5
          have hszr : w.heap.size < wr.heap.size := (hown2.lt w.heap.size rfl).2
          have hb5 : Below w.heap.size w w5 := ((below_drewN hb2 _).alloc (by simp; omega) _).grown hgrow5 (by simp; omega) (by intro j hj; cases hj; exact Nat.le_refl _)
          have hown5' : w5.ownsRow w.heap.size 9 1 (.slice (some ⟨w.heap.size, 0, none⟩) (j + 1) n) (j + 1) (mid L j ⟨#[]⟩) := by
            have := HLl.out
            rw [mid_start, this] at hown5; exact hown5
          clear hown5 hgrow5 hown2 hb2 hszr
          go_wp2
          go_loopw [6] (fun kv w6 => ∃ (m : Nat) (y : ByteArray), j ≤ m ∧ m ≤ j ∧ kv = .int .i64 m ∧ w6.ownsRow w.heap.size 9 1 (.slice (some ⟨w.heap.size, 0, none⟩) (j + 1) n) (j + 1) (mid L m y) ∧ Below w.heap.size w w6) (fun kv _ => (intOf kv).toNat - j)
          case atStart => exact ⟨j, _, by omega, Nat.le_refl _, by go_num, hown5', hb5⟩
          case round =>
            obtain ⟨m, y, hm1, hm2, rfl, hown6, hb6⟩ := hrel
            clear hown5' hb5
            have hLl := HLl.out
            have hck3 := HCK.out _ hb6
            have hcm := (hown6.cellAt m (by omega)).trans (mid_at L m (by omega) y)
            have hfm := hown6.frozenAt m
            by_cases hmj : j < m
            · omega
            · have hme : m = j := by omega
              subst hme
              have hstm := (hown6.stored m (.string (S k))).1
              rw [mid_set L m (by omega)] at hstm
              have HS : Hid ((wr.setCell ⟨w.heap.size, m, none⟩ (.string (S k))).ownsRow w.heap.size 9 1 (.slice (some ⟨w.heap.size, 0, none⟩) (m + 1) n) (m + 1) (mid L m (S k))) := hstm
              have HB6 : Hid (Below w.heap.size w wr) := hb6
              clear hstm hown6 hLl hb6
              go_wp2
              go_roundw
              case rel =>
                have hLl := HLl.out
                refine ⟨k + 1, m + 1, _, by omega, ?_, by go_num, rfl, HG.out.insert (m := m) (by omega) HLOW.out HUP.out, ?_, HB6.out.setCell (Nat.le_refl _) _⟩
                · simp; omega
                · rw [← mid_end]; exact HS.out
              case measure => simp [intOf]; omega
    · have hkn : k = n := by omega
      subst hkn
      have e := HLl.out
      subst e
      go_wp2
      go_ret
      exact ⟨L, HG.out, rfl, hownr, hbr⟩

end Go.Proofs.Qxb6601184a

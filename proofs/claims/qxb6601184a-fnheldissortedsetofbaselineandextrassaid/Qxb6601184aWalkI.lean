import Derived.Test.Qxb6601184aWalkH
namespace Go.Proofs.Qxb6601184a
open Go.RowKit Go.Sort

/-- nil just where p. -/
def NilIff (v : Value) (p : Prop) : Prop := v = .slice none 0 0 ↔ p

/-- What Held leaves: nil; or a slice of the call's own that holds the strings 'l', sorted and each once. -/
def HeldOf (base : Nat) (w' : World) (isnil : Prop) (l : List (List UInt8)) (v : Value) : Prop :=
  (isnil ∧ v = .slice none 0 0) ∨ (¬ isnil ∧ ∃ g cap, v = .slice (some ⟨g, 0, none⟩) (Lib.compact (srt l)).length cap ∧ w'.ownsRow base 46 1 (.slice (some ⟨g, 0, none⟩) (Lib.compact (srt l)).length cap) (Lib.compact (srt l)).length ((Lib.compact (srt l)).map encStr))

set_option maxHeartbeats 1000000 in
theorem held_pos (B X b off n c xn xc : Nat) (xo : Option Addr) (role : ByteArray) (Sc ES : Nat → ByteArray) (RL : Nat → Nat) (RS : Nat → Nat → ByteArray) (w : World) (hn : n ≤ 1000000) (hxn : xn ≤ 1000000) (hb : b < w.heap.size)
    (hr : ∀ i, i < n → RowAt B w b off i Sc RL RS) (hs : ∀ i, i < n → RL i ≤ 8796093022208) (hx : StrsFrom X w xo xn ES) :
    Calls Try.prog 16 #[.agg #[.slice (some ⟨b, off, none⟩) n c], .agg #[.string role, .slice xo xn xc]] w fun e w' => ∃ v, e = .returned v ∧ HeldOf w.heap.size w' (xo = none ∧ hits role Sc RL RS n = []) (strs ES xn ++ hits role Sc RL RS n) v ∧ Below w.heap.size w w' := by
  obtain ⟨i0, hi, hz0, hz1, hz2⟩ := info_parts Try.info46'
  obtain ⟨W0, hW0⟩ : ∃ W0, W0 = (w.alloc (Obj.cells #[Value.slice (some ⟨b, off, none⟩) n c] 28)).alloc (Obj.cells #[Value.string role, Value.slice xo xn xc] 43) := ⟨_, rfl⟩
  have hBw : Below w.heap.size w W0 := by rw [hW0]; exact ((Below.refl _ w).alloc (Nat.le_refl _) _).alloc (by simp) _
  have hsW : W0.heap.size = w.heap.size + 2 := by rw [hW0]; simp
  have hcl := clone26 xc W0 (by omega) (hx.below hBw)
  rw [hsW] at hcl
  have g0 : W0.cell? ⟨w.heap.size, 0, none⟩ = some (.slice (some ⟨b, off, none⟩) n c) := by rw [hW0]; simp
  have g1 : W0.cell? ⟨w.heap.size + 1, 0, none⟩ = some (.string role) := by rw [hW0]; simp
  have HW0 : Hid (W0 = (w.alloc (Obj.cells #[Value.slice (some ⟨b, off, none⟩) n c] 28)).alloc (Obj.cells #[Value.string role, Value.slice xo xn xc] 43)) := hW0
  have HsW : Hid (W0.heap.size = w.heap.size + 2) := hsW
  clear hsW
  go_enter Try.func16, Try.ntmps16
  go_wp2_with fail
  rw [← hW0]
  clear hW0
  refine hcl.mono ?_
  rintro e w1 ⟨v1, rfl, hown1, hnil1, hb1⟩
  have HN1 : Hid (NilIff v1 (xo = none)) := hnil1
  clear hnil1 hcl
  have c0 : w1.cell? ⟨w.heap.size, 0, none⟩ = some (.slice (some ⟨b, off, none⟩) n c) := (hb1.cell (p := ⟨w.heap.size, 0, none⟩) (by simp)).trans g0
  go_wp2
  go_loopw [5, 7, 14] (fun u _ i wr => ∃ (k : Nat) (v : Value), k ≤ n ∧ i = .int .i64 k ∧ v = u ∧ wr.ownsRow (w.heap.size + 2) 46 1 v (xn + (hits role Sc RL RS k).length) ((strs ES xn ++ hits role Sc RL RS k).map encStr) ∧ NilIff v (xo = none ∧ hits role Sc RL RS k = []) ∧ Below (w.heap.size + 2) W0 wr) (fun _ _ i _ => n - (intOf i).toNat)
  case atStart => exact ⟨0, _, Nat.zero_le _, rfl, rfl, by simpa [hits] using hown1, by simpa [NilIff, hits] using HN1.out, hb1⟩
  case round =>
    obtain ⟨k, v, hk, rfl, rfl, hownr, hnilr, hbr⟩ := hrel
    clear hown1 hb1 c0 HN1
    have hle := hits_le role Sc RL RS k
    have hszr : w.heap.size + 2 ≤ wr.heap.size := by have := hbr.size; have := HsW.out; omega
    have r1 : wr.cell? ⟨w.heap.size + 1, 0, none⟩ = some (.string role) := (hbr.cell (p := ⟨w.heap.size + 1, 0, none⟩) (by simp)).trans g1
    have r1' : ∀ o, (wr.alloc o).cell? ⟨w.heap.size + 1, 0, none⟩ = some (.string role) := fun o => (World.cell?_alloc_lt _ _ _ (by show w.heap.size + 1 < _; omega)).trans r1
    have HNr : Hid (NilIff v (xo = none ∧ hits role Sc RL RS k = [])) := hnilr
    clear hnilr
    by_cases hlt : k < n
    · obtain ⟨c0, ra, rc, c1, hstr⟩ := hr k hlt
      have hsk := hs k hlt
      have hBr : Below w.heap.size w wr := hBw.trans (hbr.mono (by omega))
      have c0' : wr.cell? ⟨b, off + k * 2, none⟩ = some (.string (Sc k)) := (hBr.cell (p := ⟨b, off + k * 2, none⟩) hb).trans c0
      have c1' : wr.cell? ⟨b, off + k * 2 + 1, none⟩ = some (.slice ra (RL k) rc) := (hBr.cell (p := ⟨b, off + k * 2 + 1, none⟩) hb).trans c1
      have hstr' : StrsFrom B (wr.alloc (Obj.cells #[Value.string (Sc k), Value.slice ra (RL k) rc] 51)) ra (RL k) (RS k) := hstr.below (hBr.alloc (by omega) _)
      clear c0 c1 hstr hr hs hBr
      have hcon := contains27 rc role _ hsk hstr'
      cases hin : inRow role RL RS k with
      | false =>
        have hin' : Lib.containsS ((List.range (RL k)).map (RS k)) role = false := hin
        rw [hin'] at hcon
        have HO : Hid (wr.ownsRow (w.heap.size + 2) 46 1 v (xn + (hits role Sc RL RS k).length) ((strs ES xn ++ hits role Sc RL RS k).map encStr)) := hownr
        have HI : Hid (inRow role RL RS k = false) := hin
        clear hin hin' hownr
        go_wp2_with (go_at_call 27; refine hcon.mono ?_; rintro e w2 ⟨rfl, hw⟩; obtain rfl := hw)
        go_roundw
        case rel =>
          refine ⟨k + 1, _, by omega, by go_num, rfl, ?_, ?_, hbr.alloc (by omega) _⟩
          · rw [hits_no HI.out]; exact HO.out.alloc _
          · rw [hits_no HI.out]; exact HNr.out
        case measure => simp [intOf]; omega
      | true =>
        have hin' : Lib.containsS ((List.range (RL k)).map (RS k)) role = true := hin
        rw [hin'] at hcon
        have HI : Hid (inRow role RL RS k = true) := hin
        clear hin hin'
        go_wp2_with (first
          | (go_at_call 27; refine hcon.mono ?_; rintro e w2 ⟨rfl, hw⟩; obtain rfl := hw)
          | (at_builtin; refine wpList_append_own _ rfl _ _ 25 rfl (w.heap.size + 2) 46 i0 (.string ⟨#[]⟩) 1 16 Try.underlying25 hi hz0 hz1 hz2 rfl (by decide) v _ _ rfl ((hownr.alloc _).alloc _) ⟨wr.heap.size + 1, 0, none⟩ 1 1 [.string (Sc k)] rfl rfl ?c1 ?c2 ?c3 ?c4 ?c5 ?_))
        case c1 =>
          intro j u hj
          match j, hj with
          | 0, hj => simp at hj; subst hj; simp [Addr.add]
        case c2 => intro u hu; simp at hu; subst hu; rfl
        case c3 => unfold maxLen; omega
        case c4 => omega
        case c5 => simp; omega
        intro v' w2 hown2 hgrow2 hnn
        have hb2 : Below (w.heap.size + 2) W0 w2 := ((hbr.alloc (by omega) _).alloc (by simp; omega) _).grown hgrow2 (by simp; omega) (by intro j hj; exact (hownr.lt j hj).1)
        have HO : Hid (w2.ownsRow (w.heap.size + 2) 46 1 v' (xn + (hits role Sc RL RS (k + 1)).length) ((strs ES xn ++ hits role Sc RL RS (k + 1)).map encStr)) := by
          have e : (strs ES xn ++ hits role Sc RL RS (k + 1)).map encStr = List.map encStr (strs ES xn) ++ (List.map encStr (hits role Sc RL RS k) ++ [Value.string (Sc k)]) := by
            rw [hits_yes HI.out]; simp [encStr]
          rw [e, hits_yes HI.out]
          unfold Hid
          simpa [Nat.add_assoc] using hown2
        have HN : Hid (NilIff v' (xo = none ∧ hits role Sc RL RS (k + 1) = [])) := by
          rw [hits_yes HI.out]
          exact ⟨fun h => absurd h hnn, fun h => by simp at h⟩
        clear hown2 hgrow2 hownr hbr hcon hstr' c0' c1' HNr hnn
        go_wp2
        go_roundw
        case rel => exact ⟨k + 1, v', by omega, by go_num, rfl, HO.out, HN.out, hb2⟩
        case measure => simp [intOf]; omega
    · have hkn : k = n := by omega
      subst hkn
      clear hr hs hlt hx g0 g1 r1 r1'
      by_cases hv : v = .slice none 0 0
      · have hp := HNr.out.1 hv
        subst hv
        have HP : Hid (xo = none ∧ hits role Sc RL RS k = []) := hp
        have HB : Hid (Below w.heap.size w wr) := hBw.trans (hbr.mono (by omega))
        clear hp hownr HNr hbr hBw
        go_wp2_with (first
          | (go_at_call 25; refine (sort25_nil _).mono ?_; rintro e w2 ⟨rfl, hw⟩; obtain rfl := hw.symm)
          | (go_at_call 28; refine (compact28_nil _).mono ?_; rintro e w3 ⟨rfl, hw⟩; obtain rfl := hw.symm))
        go_ret
        exact ⟨_, rfl, .inl ⟨HP.out, rfl⟩, HB.out⟩
      · have hp : ¬ (xo = none ∧ hits role Sc RL RS k = []) := fun h => hv (HNr.out.2 h)
        obtain ⟨g, cap, hveq, hbg, _⟩ := Lib.holds_of_ownsRow hownr hv
        subst hveq
        have HP : Hid (¬ (xo = none ∧ hits role Sc RL RS k = [])) := hp
        have HB : Hid (Below w.heap.size w wr) := hBw.trans (hbr.mono (by omega))
        have hsort := sort25 wr hownr (by omega)
        clear hp hownr HNr hbr hBw hv
        go_wp2_with (first
          | (go_at_call 25; refine hsort.mono ?_; rintro e w2 ⟨rfl, hown2, hgrow2⟩; have hcomp := compact28 w2 hown2 (by omega))
          | (go_at_call 28; refine hcomp.mono ?_; rintro e w3 ⟨rfl, hown3, hgrow3⟩))
        go_ret
        refine ⟨_, rfl, .inr ⟨HP.out, g, cap, rfl, ownsRow_mono hown3 (by omega)⟩, ?_⟩
        have hb2 := HB.out.grown hgrow2 (by omega) (by intro j hj; cases hj; omega)
        exact hb2.grown hgrow3 (by have := hgrow2.size; omega) (by intro j hj; cases hj; omega)

set_option maxHeartbeats 1000000 in
theorem held_zero (X c xn xc : Nat) (ao xo : Option Addr) (role : ByteArray) (ES : Nat → ByteArray) (w : World) (hxn : xn ≤ 1000000) (hx : StrsFrom X w xo xn ES) :
    Calls Try.prog 16 #[.agg #[.slice ao 0 c], .agg #[.string role, .slice xo xn xc]] w fun e w' => ∃ v, e = .returned v ∧ HeldOf w.heap.size w' (xo = none) (strs ES xn) v ∧ Below w.heap.size w w' := by
  obtain ⟨W0, hW0⟩ : ∃ W0, W0 = (w.alloc (Obj.cells #[Value.slice ao 0 c] 28)).alloc (Obj.cells #[Value.string role, Value.slice xo xn xc] 43) := ⟨_, rfl⟩
  have hBw : Below w.heap.size w W0 := by rw [hW0]; exact ((Below.refl _ w).alloc (Nat.le_refl _) _).alloc (by simp) _
  have hsW : W0.heap.size = w.heap.size + 2 := by rw [hW0]; simp
  have hcl := clone26 xc W0 (by omega) (hx.below hBw)
  rw [hsW] at hcl
  have g0 : W0.cell? ⟨w.heap.size, 0, none⟩ = some (.slice ao 0 c) := by rw [hW0]; simp
  have HW0 : Hid (W0 = (w.alloc (Obj.cells #[Value.slice ao 0 c] 28)).alloc (Obj.cells #[Value.string role, Value.slice xo xn xc] 43)) := hW0
  have HsW : Hid (W0.heap.size = w.heap.size + 2) := hsW
  clear hsW
  go_enter Try.func16, Try.ntmps16
  go_wp2_with fail
  rw [← hW0]
  clear hW0
  refine hcl.mono ?_
  rintro e w1 ⟨v, rfl, hownr, hnil1, hb1⟩
  have HNr : Hid (NilIff v (xo = none)) := hnil1
  clear hnil1 hcl
  have c0 : w1.cell? ⟨w.heap.size, 0, none⟩ = some (.slice ao 0 c) := (hb1.cell (p := ⟨w.heap.size, 0, none⟩) (by simp)).trans g0
  have hszr : w.heap.size + 2 ≤ w1.heap.size := by have := hb1.size; have := HsW.out; omega
  by_cases hv : v = .slice none 0 0
  · have hp := HNr.out.1 hv
    subst hv
    have HP : Hid (xo = none) := hp
    have HB : Hid (Below w.heap.size w w1) := hBw.trans (hb1.mono (by omega))
    clear hp hownr HNr hb1 hBw
    go_wp2
    refine wp_loop_rounds 1 ?_; rw [rounds_succ]
    go_wp2_with (first
      | (go_at_call 25; refine (sort25_nil _).mono ?_; rintro e w2 ⟨rfl, hw⟩; obtain rfl := hw.symm)
      | (go_at_call 28; refine (compact28_nil _).mono ?_; rintro e w3 ⟨rfl, hw⟩; obtain rfl := hw.symm))
    go_ret
    exact ⟨_, rfl, .inl ⟨HP.out, rfl⟩, HB.out⟩
  · have hp : ¬ (xo = none) := fun h => hv (HNr.out.2 h)
    obtain ⟨g, cap, hveq, hbg, _⟩ := Lib.holds_of_ownsRow hownr hv
    subst hveq
    have HP : Hid (¬ (xo = none)) := hp
    have HB : Hid (Below w.heap.size w w1) := hBw.trans (hb1.mono (by omega))
    have hsort := sort25 w1 hownr (by omega)
    clear hp hownr HNr hb1 hBw hv
    go_wp2
    refine wp_loop_rounds 1 ?_; rw [rounds_succ]
    go_wp2_with (first
      | (go_at_call 25; refine hsort.mono ?_; rintro e w2 ⟨rfl, hown2, hgrow2⟩; have hcomp := compact28 w2 hown2 (by omega))
      | (go_at_call 28; refine hcomp.mono ?_; rintro e w3 ⟨rfl, hown3, hgrow3⟩))
    go_ret
    refine ⟨_, rfl, .inr ⟨HP.out, g, cap, rfl, ownsRow_mono hown3 (by omega)⟩, ?_⟩
    have hb2 := HB.out.grown hgrow2 (by omega) (by intro j hj; cases hj; omega)
    exact hb2.grown hgrow3 (by have := hgrow2.size; omega) (by intro j hj; cases hj; omega)

/-- Held: the extras and the scopes of the rows that name the role, sorted, each once. -/
theorem held_any {B X : Nat} {ao xo : Option Addr} {n xn : Nat} {Sc ES : Nat → ByteArray} {RL : Nat → Nat} {RS : Nat → Nat → ByteArray} (c xc : Nat) (role : ByteArray) (w : World) (hn : n ≤ 1000000) (hxn : xn ≤ 1000000)
    (h : RowsFrom B w ao n Sc RL RS) (hs : ∀ i, i < n → RL i ≤ 8796093022208) (hx : StrsFrom X w xo xn ES) :
    Calls Try.prog 16 #[.agg #[.slice ao n c], .agg #[.string role, .slice xo xn xc]] w fun e w' => ∃ v, e = .returned v ∧ HeldOf w.heap.size w' (xo = none ∧ hits role Sc RL RS n = []) (strs ES xn ++ hits role Sc RL RS n) v ∧ Below w.heap.size w w' := by
  rcases h with rfl | ⟨b, off, rfl, _, hb, hr⟩
  · have e : hits role Sc RL RS 0 = [] := rfl
    rw [e]
    simpa using held_zero X c xn xc ao xo role ES w hxn hx
  · exact held_pos B X b off n c xn xc xo role Sc ES RL RS w hn hxn hb hr hs hx

end Go.Proofs.Qxb6601184a

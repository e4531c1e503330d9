import Derived.Test.Qxb6601184aLawA
import Derived.Test.Qxb6601184aWalkG
import Derived.Test.Qxb6601184aWalkI
import Derived.Test.Qxb6601184aPlain2
namespace Go.Proofs.Qxb6601184a
open Go.RowKit Go.Sort

theorem hide {p : Prop} (h : p) : Hid p := h

theorem ownsRow_drewN {w : World} {base : Nat} {e : TypeId} {size : Nat} {v : Value} {n : Nat} {xs : List Value} (h : w.ownsRow base e size v n xs) (q : Nat) : (w.drewN q).ownsRow base e size v n xs := h

theorem cell_drewN_new (w : World) (q : Nat) (x : ByteArray) : ((w.drewN q).alloc (Obj.cells #[Value.string x] 9)).cell? ((⟨w.heap.size, 0, none⟩ : Addr).add 0) = some (.string x) := by
  show ((w.drewN q).alloc (Obj.cells #[Value.string x] 9)).cell? ⟨(w.drewN q).heap.size, 0, none⟩ = _
  simp only [World.cell?_alloc_at]
  rfl

/-- The strings of a list, by index. -/
def nth (l : List (List UInt8)) (i : Nat) : ByteArray := ⟨(l.getD i []).toArray⟩
theorem strs_nth (l : List (List UInt8)) : strs (nth l) l.length = l := by
  unfold strs nth
  apply List.ext_getElem
  · simp
  · intro i h1 h2
    simp [h2]

theorem own_strs {w : World} {base g cap n : Nat} {e : TypeId} {l : List (List UInt8)} (h : w.ownsRow base e 1 (.slice (some ⟨g, 0, none⟩) n cap) n (l.map encStr)) : StrsFrom base w (some ⟨g, 0, none⟩) n (nth l) :=
  .inr ⟨g, 0, rfl, (h.lt g rfl).1, (h.lt g rfl).2, fun i hi => by rw [Nat.zero_add]; exact cells_of_own h i hi⟩

theorem hits_sub {role : ByteArray} {Sc : Nat → ByteArray} {RL : Nat → Nat} {RS : Nat → Nat → ByteArray} {n : Nat} {x : List UInt8} (h : x ∈ hits role Sc RL RS n) : x ∈ strs Sc n := by
  unfold hits at h
  obtain ⟨i, hi, rfl⟩ := List.mem_map.1 h
  exact List.mem_map.2 ⟨i, (List.mem_filter.1 hi).1, rfl⟩

/-- A table's distinct scopes, sorted. -/
theorem held_all {role : ByteArray} {Sc : Nat → ByteArray} {RL : Nat → Nat} {RS : Nat → Nat → ByteArray} {n : Nat} : Lib.compact (srt (srt (strs Sc n) ++ hits role Sc RL RS n)) = Lib.compact (srt (strs Sc n)) :=
  compact_srt_congr fun x => by
    rw [List.mem_append, mem_srt]
    exact ⟨fun h => h.elim id hits_sub, .inl⟩

set_option maxHeartbeats 1000000 in
set_option maxRecDepth 100000 in
theorem law6 {B : Nat} {ao : Option Addr} {n : Nat} {Sc : Nat → ByteArray} {RL : Nat → Nat} {RS : Nat → Nat → ByteArray} (c : Nat) (role : ByteArray) (w : World) (hro : role.size ≤ 9223372036854775807) (hn : n ≤ 3518437208883)
    (hrows : RowsFrom B w ao n Sc RL RS) (hs : ∀ i, i < n → RL i ≤ 8796093022208) :
    Calls Try.prog 6 #[.slice ao n c, .string role] w fun e w' => e = .returned (.bool true) ∧ Below w.heap.size w w' := by
  have q : ∀ (w : World) (a : Option Addr) (n c n' c' : Nat), (binOp .eql 25 (.slice a n c) (.slice none n' c')).run Try.prog w = .ok (.bool a.isNone) w := fun w a n c n' c' => Lib.run_eql_slice_nil w _ _ a n c n' c' Try.underlying25
  obtain ⟨i0, hi, hz0, hz1, hz2⟩ := info_parts Try.info9
  have H21 := bytes21_any c role w hro hn hrows hs
  have H14 := budget_any (E := 0) (eao := none) (en := 0) (ES := fun _ => ByteArray.empty) c 0 role w hn (Nat.zero_le _) hrows hs (.inl rfl)
  have H9 := table_any c w hn hrows hs
  go_enter Try.func6, Try.ntmps6
  go_wp2_with (first
    | (go_at_call 21; refine H21.mono ?_; rintro e w' ⟨⟨z, rfl⟩, hw⟩; obtain rfl := hw.symm)
    | (go_at_call 14; refine H14.mono ?_; rintro e w' ⟨⟨z, rfl⟩, hw⟩; obtain rfl := hw.symm)
    | (go_at_call 9; refine H9.mono ?_; rintro e w1 ⟨ao1, c1, rfl, hrows1, hb1⟩))
  · go_ret
    exact ⟨rfl, Below.refl _ _⟩
  · go_ret
    exact ⟨rfl, Below.refl _ _⟩
  · go_ret
    exact ⟨rfl, Below.refl _ _⟩
  have hn4 : n ≤ 4096 := by omega
  obtain ⟨W1, hW1⟩ : ∃ W1, W1 = w1.alloc (Obj.cells #[Value.slice ao1 n c1] 28) := ⟨_, rfl⟩
  have hbW1 : Below w1.heap.size w1 W1 := by rw [hW1]; exact (Below.refl _ w1).alloc (Nat.le_refl _) _
  have hsW1 : W1.heap.size = w1.heap.size + 1 := by rw [hW1]; simp
  have hcW1 : W1.cell? ⟨w1.heap.size, 0, none⟩ = some (.slice ao1 n c1) := by rw [hW1]; simp
  have hrowsW1 := hrows1.below hbW1
  have hall := all_any c1 W1 hn hrowsW1
  rw [← hW1]
  clear hW1 H21 H14 H9
  refine hall.mono ?_
  rintro e w2 ⟨g, cap, rfl, hown2, hb2⟩
  have hB2 : Below w.heap.size w w2 := hb1.trans ((hbW1.mono hb1.size).trans (hb2.mono (Nat.le_trans hb1.size hbW1.size)))
  have hc2 : w2.cell? ⟨w1.heap.size, 0, none⟩ = some (.slice ao1 n c1) := (hb2.cell (p := ⟨w1.heap.size, 0, none⟩) (by show w1.heap.size < _; omega)).trans hcW1
  have hheld := held_any (xn := n) c1 cap role w2 (by omega) (by omega) (hrowsW1.below hb2) hs (own_strs hown2)
  have hls : (srt (strs Sc n)).length = n := by simpa using hown2.1
  have hes : strs (nth (srt (strs Sc n))) n = srt (strs Sc n) := by
    have := strs_nth (srt (strs Sc n))
    rw [hls] at this
    exact this
  rw [hes] at hheld
  clear hall hrows1 hrows hs hrowsW1
  have HO2 : Hid (w2.ownsRow W1.heap.size 46 1 (.slice (some ⟨g, 0, none⟩) n cap) n ((srt (strs Sc n)).map encStr)) := hown2
  have HL : Hid ((srt (strs Sc n)).length = n) := hls
  clear hown2 hls hes hb1 hbW1 hsW1 hcW1 hb2
  go_wp2_with fail
  refine hheld.mono ?_
  rintro e w3 ⟨v, rfl, hv, hb3⟩
  rcases hv with ⟨hno, _⟩ | ⟨_, g3, cap3, rfl, hown3⟩
  · cases hno.1
  rw [held_all] at hown3 ⊢
  clear hheld
  have hgot := ownsRow_below HO2.out hb3
  have hB3 : Below w.heap.size w w3 := hB2.trans (hb3.mono hB2.size)
  clear HO2 hB2 hb3 hc2
  go_wp2_with (at_make; refine wpList_make_own _ rfl _ _ 31 rfl w3.heap.size 9 i0 (.string ⟨#[]⟩) 1 Try.underlying31 hi hz0 hz1 _ _ _ n rfl rfl rfl ?b1 ?b2 ?b3 ?_)
  case b1 => rw [hz2]; omega
  case b2 => unfold maxLen; omega
  case b3 => exact Nat.le_refl _
  intro w4 hown4 hgrow4
  have hb4 : Below w3.heap.size w3 w4 := (Below.refl _ _).grown hgrow4 (Nat.le_refl _) (by intro k hk; cases hk)
  clear hgrow4
  have hcells := cells_of_own hgot
  have hlt3 : g < w3.heap.size := (hgot.lt g rfl).2
  obtain ⟨A, hA⟩ : ∃ A, A = srt (strs Sc n) := ⟨_, rfl⟩
  rw [← hA] at hcells hown3 ⊢
  have HLA : Hid (A.length = n) := by rw [hA]; exact HL.out
  clear hA HL hgot
  have hcle : ∀ k, k ≤ n → (Lib.compactUpTo A.toArray k).length ≤ k := fun k _ => by
    have := List.length_filter_le (Lib.keeps A.toArray) (List.range k)
    simpa [Lib.compactUpTo] using this
  go_wp2
  go_loopw [8, 9] (fun v i wr => ∃ k : Nat, k ≤ n ∧ i = .int .i64 k ∧ v = .slice (some ⟨w3.heap.size, 0, none⟩) (Lib.compactUpTo A.toArray k).length n ∧ wr.ownsRow w3.heap.size 9 1 (.slice (some ⟨w3.heap.size, 0, none⟩) (Lib.compactUpTo A.toArray k).length n) (Lib.compactUpTo A.toArray k).length ((Lib.compactUpTo A.toArray k).map encStr) ∧ Below w3.heap.size w3 wr) (fun _ i _ => n - (intOf i).toNat)
  case atStart => exact ⟨0, Nat.zero_le _, rfl, rfl, hown4, hb4⟩
  case round =>
    obtain ⟨k, hk, rfl, rfl, hownr, hbr⟩ := hrel
    clear hown4 hb4
    by_cases hlt : k < n
    · have hle := hcle k hk
      have hszr : w3.heap.size < wr.heap.size := (hownr.lt w3.heap.size rfl).2
      obtain ⟨x, hx⟩ : ∃ x : ByteArray, x = ⟨(A.getD k []).toArray⟩ := ⟨_, rfl⟩
      have hcx : wr.cell? ⟨g, k, none⟩ = some (.string x) := by rw [hx]; exact (hbr.cell (p := ⟨g, k, none⟩) hlt3).trans (hcells k hlt)
      obtain ⟨y, hy⟩ : ∃ y : ByteArray, y = ⟨(A.getD (k - 1) []).toArray⟩ := ⟨_, rfl⟩
      have hcy : wr.cell? ⟨g, k - 1, none⟩ = some (.string y) := by rw [hy]; exact (hbr.cell (p := ⟨g, k - 1, none⟩) hlt3).trans (hcells (k - 1) (by omega))
      have ex : A.toArray[k]! = x.data.toList := by rw [hx]; have := HLA.out; simp [getElem!_pos, show k < A.length by omega]
      have ey : A.toArray[k - 1]! = y.data.toList := by rw [hy]; have := HLA.out; simp [getElem!_pos, show k - 1 < A.length by omega]
      have yes : Lib.keeps A.toArray k = true → (Lib.compactUpTo A.toArray (k + 1)) = Lib.compactUpTo A.toArray k ++ [x.data.toList] := fun h => by rw [Lib.compactUpTo_succ, if_pos h, ex]
      have no : ¬ Lib.keeps A.toArray k = true → (Lib.compactUpTo A.toArray (k + 1)) = Lib.compactUpTo A.toArray k := fun h => by rw [Lib.compactUpTo_succ, if_neg h, List.append_nil]
      have hkeep : Lib.keeps A.toArray k = decide (k = 0 ∨ x.data.toList ≠ y.data.toList) := by unfold Lib.keeps; rw [ex, ey]
      clear hx hy ex ey hcells hcle hown3
      by_cases hk0 : k = 0
      · subst hk0
        have HY := hide (yes (by rw [hkeep]; simp))
        clear yes no hkeep
        go_wp2
        go_quiet (fail)
        go_wp2_with (at_builtin; refine wpList_append_fits _ rfl _ _ 31 rfl w3.heap.size 9 i0 1 Try.underlying31 hi hz1 w3.heap.size (Lib.compactUpTo A.toArray 0).length n ((Lib.compactUpTo A.toArray 0).map encStr) rfl ((ownsRow_drewN hownr _).alloc _) ⟨wr.heap.size, 0, none⟩ 1 1 [.string x] rfl rfl ?c1 ?c2 ?c3 ?_)
        case c1 =>
          intro j u hj
          match j, hj with
          | 0, hj => simp at hj; subst hj; exact cell_drewN_new wr nq x
        case c2 => intro u hu; simp at hu; subst hu; rfl
        case c3 => omega
        intro w5 hown5 hgrow5
        have hb5 : Below w3.heap.size w3 w5 := ((below_drewN hbr nq).alloc (by simp; omega) _).grown hgrow5 (by simp; omega) (by intro j hj; cases hj; exact Nat.le_refl _)
        have HO : Hid (w5.ownsRow w3.heap.size 9 1 (.slice (some ⟨w3.heap.size, 0, none⟩) (Lib.compactUpTo A.toArray (0 + 1)).length n) (Lib.compactUpTo A.toArray (0 + 1)).length ((Lib.compactUpTo A.toArray (0 + 1)).map encStr)) := by
          rw [HY.out, List.length_append, List.map_append]
          exact hown5
        have HV : Hid ((Lib.compactUpTo A.toArray (0 + 1)).length = (Lib.compactUpTo A.toArray 0).length + 1) := by
          rw [HY.out, List.length_append]; rfl
        clear hown5 hgrow5 hownr hbr
        go_wp2
        go_roundw
        case rel => exact ⟨0 + 1, by omega, by go_num, by rw [HV.out], HO.out, hb5⟩
        case measure => simp [intOf]; omega
      · have hk0' : ((k : Int) == 0) = false := by simp; omega
        by_cases hxy : x.data.toList = y.data.toList
        · have hxy' : (x.toList == y.toList) = true := by rw [Lib.toList_data, Lib.toList_data, hxy]; simp
          have HN := hide (no (by rw [hkeep]; simp [hk0, hxy]))
          clear yes no hkeep hxy
          go_wp2
          go_quiet (fail)
          go_wp2
          go_roundw
          case rel => exact ⟨k + 1, by omega, by go_num, by rw [HN.out], by rw [HN.out]; exact ownsRow_drewN hownr nq, below_drewN hbr nq⟩
          case measure => simp [intOf]; omega
        · have hxy' : (x.toList == y.toList) = false := by rw [Lib.toList_data, Lib.toList_data]; simpa using hxy
          have HY := hide (yes (by rw [hkeep]; simp [hxy]))
          clear yes no hkeep hxy
          go_wp2
          go_quiet (fail)
          go_wp2_with (at_builtin; refine wpList_append_fits _ rfl _ _ 31 rfl w3.heap.size 9 i0 1 Try.underlying31 hi hz1 w3.heap.size (Lib.compactUpTo A.toArray k).length n ((Lib.compactUpTo A.toArray k).map encStr) rfl ((ownsRow_drewN hownr _).alloc _) ⟨wr.heap.size, 0, none⟩ 1 1 [.string x] rfl rfl ?c1 ?c2 ?c3 ?_)
          case c1 =>
            intro j u hj
            match j, hj with
            | 0, hj => simp at hj; subst hj; exact cell_drewN_new wr nq x
          case c2 => intro u hu; simp at hu; subst hu; rfl
          case c3 => omega
          intro w5 hown5 hgrow5
          have hb5 : Below w3.heap.size w3 w5 := ((below_drewN hbr nq).alloc (by simp; omega) _).grown hgrow5 (by simp; omega) (by intro j hj; cases hj; exact Nat.le_refl _)
          have HO : Hid (w5.ownsRow w3.heap.size 9 1 (.slice (some ⟨w3.heap.size, 0, none⟩) (Lib.compactUpTo A.toArray (k + 1)).length n) (Lib.compactUpTo A.toArray (k + 1)).length ((Lib.compactUpTo A.toArray (k + 1)).map encStr)) := by
            rw [HY.out, List.length_append, List.map_append]
            exact hown5
          have HV : Hid ((Lib.compactUpTo A.toArray (k + 1)).length = (Lib.compactUpTo A.toArray k).length + 1) := by
            rw [HY.out, List.length_append]; rfl
          clear hown5 hgrow5 hownr hbr
          go_wp2
          go_roundw
          case rel => exact ⟨k + 1, by omega, by go_num, by rw [HV.out], HO.out, hb5⟩
          case measure => simp [intOf]; omega
    · have hkn : k = n := by omega
      subst hkn
      have e : Lib.compactUpTo A.toArray k = Lib.compact A := by unfold Lib.compact; rw [HLA.out]
      rw [e] at hownr ⊢
      have hle := hcle k (Nat.le_refl _)
      rw [e] at hle
      have h11 := same_own (by omega) (ownsRow_below hown3 hbr) hownr
      clear hown3 hownr hcells hcle e
      go_wp2_with (go_at_call 11; refine h11.mono ?_; rintro e w5 ⟨rfl, q5, rfl⟩)
      go_ret
      exact ⟨rfl, below_drewN (hB3.trans (hbr.mono hB3.size)) _⟩

end Go.Proofs.Qxb6601184a

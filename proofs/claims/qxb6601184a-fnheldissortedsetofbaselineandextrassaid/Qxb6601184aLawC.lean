import Derived.Test.Qxb6601184aLawB
import Derived.Test.Qxb6601184aWalkK
namespace Go.Proofs.Qxb6601184a
open Go.RowKit Go.Sort

set_option maxHeartbeats 400000 in
theorem same_nil (ao : Option Addr) (c : Nat) (w : World) : Calls Try.prog 11 #[.slice none 0 0, .slice ao 0 c] w fun e w' => e = .returned (.bool true) ∧ w' = w := by
  go_enter Try.func11, Try.ntmps11
  go_wp2
  refine wp_loop_rounds 1 ?_; rw [rounds_succ]
  go_wp2
  go_ret
  exact ⟨rfl, rfl⟩

/-- zzSortedSet on a slice of the call's own. -/
theorem set_own {w : World} {base g n cap : Nat} {e : TypeId} {l : List (List UInt8)} (hn : n ≤ 3518437208883) (h : w.ownsRow base e 1 (.slice (some ⟨g, 0, none⟩) n cap) n (l.map encStr)) :
    Calls Try.prog 18 #[.slice (some ⟨g, 0, none⟩) n cap] w fun e w' => e = .returned (.slice (some ⟨w.heap.size, 0, none⟩) (Lib.compact (srt l)).length n) ∧ w'.ownsRow w.heap.size 9 1 (.slice (some ⟨w.heap.size, 0, none⟩) (Lib.compact (srt l)).length n) (Lib.compact (srt l)).length ((Lib.compact (srt l)).map encStr) ∧ Below w.heap.size w w' := by
  have hl : l.length = n := by simpa using h.1
  have hlt := (h.lt g rfl).2
  refine (set_pos g 0 n cap (nth l) w hn hlt (fun i hi => by rw [Nat.zero_add]; exact cells_of_own h i hi)).mono ?_
  rintro e w' ⟨L, hg, rfl, hown, hb⟩
  have e1 := hg.eq
  rw [← hl, strs_nth] at e1
  have e2 : L.length = (Lib.compact (srt l)).length := by rw [← e1]; simp
  have e3 : L.map Value.string = (Lib.compact (srt l)).map encStr := by rw [← e1, List.map_map]; rfl
  rw [e2, e3] at hown
  rw [e2]
  exact ⟨rfl, hown, hb⟩

theorem compact_len (l : List (List UInt8)) : (Lib.compact (srt l)).length ≤ l.length := by
  have := Lib.compact_length_le (srt l)
  have h : (srt l).length = l.length := by simp [srt]
  omega

set_option maxHeartbeats 2000000 in
set_option maxRecDepth 100000 in
theorem law4 {B E : Nat} {ao eao : Option Addr} {n en : Nat} {Sc ES : Nat → ByteArray} {RL : Nat → Nat} {RS : Nat → Nat → ByteArray} (c ec : Nat) (role : ByteArray) (w : World) (hro : role.size ≤ 9223372036854775807) (hn : n ≤ 3518437208883) (hen : en ≤ 8796093022208)
    (hrows : RowsFrom B w ao n Sc RL RS) (hs : ∀ i, i < n → RL i ≤ 8796093022208) (hex : StrsFrom E w eao en ES) :
    Calls Try.prog 4 #[.slice ao n c, .string role, .slice eao en ec] w fun e w' => e = .returned (.bool true) ∧ Below w.heap.size w w' := by
  have q25 : ∀ (w : World) (a : Option Addr) (n c n' c' : Nat), (binOp .eql 25 (.slice a n c) (.slice none n' c')).run Try.prog w = .ok (.bool a.isNone) w := fun w a n c n' c' => Lib.run_eql_slice_nil w _ _ a n c n' c' Try.underlying25
  have q31 : ∀ (w : World) (a : Option Addr) (n c n' c' : Nat), (binOp .eql 31 (.slice a n c) (.slice none n' c')).run Try.prog w = .ok (.bool a.isNone) w := fun w a n c n' c' => Lib.run_eql_slice_nil w _ _ a n c n' c' Try.underlying31
  obtain ⟨i0, hi, hz0, hz1, hz2⟩ := info_parts Try.info9
  have H13 := bytes13_any c ec role w hro hn hen hrows hs hex
  have H14 := budget_any c ec role w hn hen hrows hs hex
  go_enter Try.func4, Try.ntmps4
  go_wp2_with (first
    | (go_at_call 13; refine H13.mono ?_; rintro e w' ⟨⟨z, rfl⟩, hw⟩; obtain rfl := hw.symm)
    | (go_at_call 14; refine H14.mono ?_; rintro e w' ⟨⟨z, rfl⟩, hw⟩; obtain rfl := hw.symm)
    | (at_make; refine wpList_make_own _ rfl _ _ 31 rfl w.heap.size 9 i0 (.string ⟨#[]⟩) 1 Try.underlying31 hi hz0 hz1 _ _ _ (en + n) rfl rfl (by omega) ?b1 ?b2 ?b3 ?_))
  · go_ret
    exact ⟨rfl, Below.refl _ _⟩
  · go_ret
    exact ⟨rfl, Below.refl _ _⟩
  · go_ret
    exact ⟨rfl, Below.refl _ _⟩
  case b1 => rw [hz2]; omega
  case b2 => unfold maxLen; omega
  case b3 => exact Nat.le_refl _
  rotate_left
  · go_ret
    exact ⟨rfl, Below.refl _ _⟩
  have hn4 : n ≤ 4096 := by omega
  have hen4 : en ≤ 4096 := by omega
  intro w1 hown1 hgrow1
  have hb1 : Below w.heap.size w w1 := (Below.refl _ _).grown hgrow1 (Nat.le_refl _) (by intro k hk; cases hk)
  clear hgrow1 H13 H14
  go_wp2
  go_loopw [7, 8] (fun v i wr => ∃ k : Nat, k ≤ en ∧ i = .int .i64 k ∧ v = .slice (some ⟨w.heap.size, 0, none⟩) k (en + n) ∧ wr.ownsRow w.heap.size 9 1 (.slice (some ⟨w.heap.size, 0, none⟩) k (en + n)) k ((strs ES k).map encStr) ∧ Below w.heap.size w wr) (fun _ i _ => en - (intOf i).toNat)
  case atStart => exact ⟨0, Nat.zero_le _, rfl, rfl, hown1, hb1⟩
  case round =>
    obtain ⟨k, hk, rfl, rfl, hownr, hbr⟩ := hrel
    clear hown1 hb1
    have hszr : w.heap.size < wr.heap.size := (hownr.lt w.heap.size rfl).2
    by_cases hlt : k < en
    · rcases hex with h0 | ⟨eb, eo, heao, _, heb, hec⟩
      · omega
      subst heao
      have hck : wr.cell? ⟨eb, eo + k, none⟩ = some (.string (ES k)) := (hbr.cell (p := ⟨eb, eo + k, none⟩) heb).trans (hec k hlt)
      clear hec
      go_wp2_with (at_builtin; refine wpList_append_fits _ rfl _ _ 31 rfl w.heap.size 9 i0 1 Try.underlying31 hi hz1 w.heap.size k (en + n) ((strs ES k).map encStr) rfl (hownr.alloc _) ⟨wr.heap.size, 0, none⟩ 1 1 [.string (ES k)] rfl rfl ?c1 ?c2 ?c3 ?_)
      case c1 =>
        intro j u hj
        match j, hj with
        | 0, hj => simp at hj; subst hj; simp [Addr.add]
      case c2 => intro u hu; simp at hu; subst hu; rfl
      case c3 => omega
      intro w2 hown2 hgrow2
      have hb2 : Below w.heap.size w w2 := (hbr.alloc (by omega) _).grown hgrow2 (by simp; omega) (by intro j hj; cases hj; exact Nat.le_refl _)
      have HO : Hid (w2.ownsRow w.heap.size 9 1 (.slice (some ⟨w.heap.size, 0, none⟩) (k + 1) (en + n)) (k + 1) ((strs ES (k + 1)).map encStr)) := by rw [strs_succ]; exact hown2
      clear hown2 hgrow2 hownr hbr hck
      go_wp2
      go_roundw
      case rel => exact ⟨k + 1, by omega, by go_num, rfl, HO.out, hb2⟩
      case measure => simp [intOf]; omega
    · have hkn : k = en := by omega
      subst hkn
      clear hlt
      go_wp2
      go_loopw [7, 9, 10] (fun v m i wr => ∃ j : Nat, j ≤ n ∧ i = .int .i64 j ∧ m = .bool (!(hits role Sc RL RS j).isEmpty) ∧ v = .slice (some ⟨w.heap.size, 0, none⟩) (k + (hits role Sc RL RS j).length) (k + n) ∧ wr.ownsRow w.heap.size 9 1 (.slice (some ⟨w.heap.size, 0, none⟩) (k + (hits role Sc RL RS j).length) (k + n)) (k + (hits role Sc RL RS j).length) ((strs ES k ++ hits role Sc RL RS j).map encStr) ∧ Below w.heap.size w wr) (fun _ _ i _ => n - (intOf i).toNat)
      case atStart => exact ⟨0, Nat.zero_le _, rfl, rfl, rfl, by simpa [hits] using hownr, hbr⟩
      case round =>
        obtain ⟨j, hj, rfl, rfl, rfl, hown2, hb2⟩ := hrel
        clear hownr hbr hszr
        have hle := hits_le role Sc RL RS j
        have hszr : w.heap.size < wr.heap.size := (hown2.lt w.heap.size rfl).2
        by_cases hlt : j < n
        · rcases hrows with h0 | ⟨b, off, hao, _, hb, hr⟩
          · omega
          subst hao
          obtain ⟨c0, ra, rc, c1, hstr⟩ := hr j hlt
          have hsk := hs j hlt
          have c0' : wr.cell? ⟨b, off + j * 2, none⟩ = some (.string (Sc j)) := (hb2.cell (p := ⟨b, off + j * 2, none⟩) hb).trans c0
          have c1' : wr.cell? ⟨b, off + j * 2 + 1, none⟩ = some (.slice ra (RL j) rc) := (hb2.cell (p := ⟨b, off + j * 2 + 1, none⟩) hb).trans c1
          have hhas := has15 rc role wr hsk (hstr.below hb2)
          clear c0 c1 hstr hr hs
          cases hin : inRow role RL RS j with
          | false =>
            have hin' : Lib.containsS ((List.range (RL j)).map (RS j)) role = false := hin
            rw [hin'] at hhas
            have HI : Hid (inRow role RL RS j = false) := hin
            clear hin hin'
            go_wp2_with (go_at_call 15; refine hhas.mono ?_; rintro e w3 ⟨rfl, hw⟩; obtain rfl := hw.symm)
            go_roundw
            case rel =>
              refine ⟨j + 1, by omega, by go_num, ?_, ?_, ?_, hb2⟩
              · rw [hits_no HI.out]
              · rw [hits_no HI.out]
              · rw [hits_no HI.out]; exact hown2
            case measure => simp [intOf]; omega
          | true =>
            have hin' : Lib.containsS ((List.range (RL j)).map (RS j)) role = true := hin
            rw [hin'] at hhas
            have HI : Hid (inRow role RL RS j = true) := hin
            clear hin hin'
            go_wp2_with (first
              | (go_at_call 15; refine hhas.mono ?_; rintro e w3 ⟨rfl, hw⟩; obtain rfl := hw.symm)
              | (at_builtin; refine wpList_append_fits _ rfl _ _ 31 rfl w.heap.size 9 i0 1 Try.underlying31 hi hz1 w.heap.size (k + (hits role Sc RL RS j).length) (k + n) _ rfl (hown2.alloc _) ⟨wr.heap.size, 0, none⟩ 1 1 [.string (Sc j)] rfl rfl ?c1' ?c2' ?c3' ?_))
            case c1' =>
              intro i u hi
              match i, hi with
              | 0, hi => simp at hi; subst hi; simp [Addr.add]
            case c2' => intro u hu; simp at hu; subst hu; rfl
            case c3' => omega
            intro w3 hown3 hgrow3
            have hb3 : Below w.heap.size w w3 := (hb2.alloc (by omega) _).grown hgrow3 (by simp; omega) (by intro j hj; cases hj; exact Nat.le_refl _)
            have HL : Hid (k + (hits role Sc RL RS (j + 1)).length = k + (hits role Sc RL RS j).length + 1) := by
              rw [hits_yes HI.out, List.length_append]; rfl
            have HO : Hid (w3.ownsRow w.heap.size 9 1 (.slice (some ⟨w.heap.size, 0, none⟩) (k + (hits role Sc RL RS (j + 1)).length) (k + n)) (k + (hits role Sc RL RS (j + 1)).length) ((strs ES k ++ hits role Sc RL RS (j + 1)).map encStr)) := by
              have e : (strs ES k ++ hits role Sc RL RS (j + 1)).map encStr = List.map encStr (strs ES k) ++ (List.map encStr (hits role Sc RL RS j) ++ [Value.string (Sc j)]) := by
                rw [hits_yes HI.out]; simp [encStr]
              rw [e, HL.out]
              exact hown3
            have HM : Hid ((!(hits role Sc RL RS (j + 1)).isEmpty) = true) := by
              unfold Hid; rw [hits_yes HI.out]; simp
            clear hown3 hgrow3 hown2 hb2 c0' c1' hhas
            go_wp2
            go_roundw
            case rel => exact ⟨j + 1, by omega, by go_num, by rw [HM.out], by rw [HL.out], HO.out, hb3⟩
            case measure => simp [intOf]; omega
        · have hjn : j = n := by omega
          subst hjn
          have H9 := table_any c wr hn (hrows.below hb2) hs
          obtain ⟨hit, hhit⟩ : ∃ hit, hit = hits role Sc RL RS j := ⟨_, rfl⟩
          have HH : Hid (hit = hits role Sc RL RS j) := hhit
          rw [← hhit] at hown2 hle ⊢
          clear hhit hlt hrows
          go_wp2_with (first
            | (go_at_call 9; refine H9.mono ?_; rintro e w3 ⟨ao3, c3, rfl, hrows3, hb3⟩; have H17 := scopes_any ec w3 hen (hex.below (hb2.trans (hb3.mono (by omega)))))
            | (go_at_call 17; refine H17.mono ?_; rintro e w4 ⟨xo, xc, rfl, hst4, hb4, hnil4⟩; have H16 := held_any c3 xc role w4 (by omega) (by omega) (hrows3.below hb4) hs hst4; clear H9 H17))
          refine H16.mono ?_
          rintro e w5 ⟨v, rfl, hheld, hb5⟩
          rw [← HH.out] at hheld
          have hB4 : Below w.heap.size w w4 := (hb2.trans (hb3.mono hb2.size)).trans (hb4.mono (Nat.le_trans hb2.size hb3.size))
          have hB5 : Below w.heap.size w w5 := hB4.trans (hb5.mono hB4.size)
          have hcand : w5.ownsRow w.heap.size 9 1 (.slice (some ⟨w.heap.size, 0, none⟩) (k + hit.length) (k + j)) (k + hit.length) ((strs ES k ++ hit).map encStr) := ownsRow_below (ownsRow_below (ownsRow_below hown2 hb3) hb4) hb5
          have hset := set_own (by omega) hcand
          clear H16 hrows3 hst4 hown2 hcand hb2 hb3 hb4 hb5 hB4 hs
          obtain ⟨cl, hcl⟩ : ∃ cl, cl = k + hit.length := ⟨_, rfl⟩
          rw [← hcl] at hset ⊢
          obtain ⟨cc, hcc⟩ : ∃ cc, cc = k + j := ⟨_, rfl⟩
          rw [← hcc] at hset ⊢
          clear hcl hcc
          rcases hheld with ⟨⟨hxo, hh0⟩, rfl⟩ | ⟨hno, g, cap, rfl, hown5⟩
          · have heao : eao = none := hnil4.1 hxo
            have hk0 : k = 0 := hex.nil0 heao
            subst heao hk0 hh0
            have e0 : (Lib.compact (srt (strs ES 0 ++ []))).length = 0 := by simp [strs, srt, Lib.compact, Lib.compactUpTo]
            rw [e0] at hset
            clear hnil4 hex e0 HH
            go_wp2_with (first
              | (go_at_call 18; refine hset.mono ?_; rintro e w6 ⟨rfl, hown6, hb6⟩)
              | (go_at_call 11; refine (same_nil _ _ _).mono ?_; rintro e w7 ⟨rfl, hw⟩; obtain rfl := hw.symm))
            go_ret
            exact ⟨rfl, hB5.trans (hb6.mono hB5.size)⟩
          · have hcl := compact_len (strs ES k ++ hit)
            rw [List.length_append, strs_length] at hcl
            have hle2 : (Lib.compact (srt (strs ES k ++ hit))).length ≤ 3518437208883 := by omega
            clear hcl
            obtain ⟨CL, hCL⟩ : ∃ CL, CL = Lib.compact (srt (strs ES k ++ hit)) := ⟨_, rfl⟩
            rw [← hCL] at hset hown5 hle2 ⊢
            clear hCL
            cases eao with
            | some a =>
              clear hnil4 hno hex HH
              go_wp2_with (first
                | (go_at_call 18; refine hset.mono ?_; rintro e w6 ⟨rfl, hown6, hb6⟩; have h11 := same_own (by omega) (ownsRow_below hown5 hb6) hown6)
                | (go_at_call 11; refine h11.mono ?_; rintro e w7 ⟨rfl, q7, rfl⟩))
              go_ret
              exact ⟨rfl, below_drewN (hB5.trans (hb6.mono hB5.size)) _⟩
            | none =>
              have hxo : xo = none := hnil4.2 rfl
              have hm : hit.isEmpty = false := by
                cases hit with
                | nil => exact absurd ⟨hxo, rfl⟩ hno
                | cons => rfl
              clear hnil4 hno hex HH hxo
              go_wp2_with (first
                | (go_at_call 18; refine hset.mono ?_; rintro e w6 ⟨rfl, hown6, hb6⟩; have h11 := same_own (by omega) (ownsRow_below hown5 hb6) hown6)
                | (go_at_call 11; refine h11.mono ?_; rintro e w7 ⟨rfl, q7, rfl⟩))
              go_ret
              exact ⟨rfl, below_drewN (hB5.trans (hb6.mono hB5.size)) _⟩

end Go.Proofs.Qxb6601184a

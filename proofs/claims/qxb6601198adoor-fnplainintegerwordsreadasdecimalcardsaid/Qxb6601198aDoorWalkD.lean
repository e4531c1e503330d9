import Derived.Test.Qxb6601198aDoorWalkC
namespace Go.Proofs.Qxb6601198aDoor
open Go.RowKit

/-- Behind a prefix: the digits in base b, a sign of their own ahead. -/
def after (b : Nat) (l : List UInt8) (els : Int × Nat × Bool) : Int × Nat × Bool := match pI (ub b) l with
  | some i => (i, 0, true)
  | none => match ub b l with
    | some u => (0, u, true)
    | none => els

def part2 (l : List UInt8) : Int × Nat × Bool := if Lib.hasPrefix l [48, 111] = true then after 8 (l.drop 2) (0, 0, false) else (0, 0, false)
def part1 (l : List UInt8) : Int × Nat × Bool := if Lib.hasPrefix l [48, 98] = true then after 2 (l.drop 2) (part2 l) else part2 l

/-- document.integer. -/
def intG (l : List UInt8) : Int × Nat × Bool := match pI u0 l with
  | some i => (i, 0, true)
  | none => match u0 l with
    | some u => (0, u, true)
    | none => part1 l

/-- The three results as the call hands them back. -/
def three (x : Int × Nat × Bool) : Value := .tuple #[.int .i64 x.1, .int .u64 x.2.1, .bool x.2.2]

/-- What is still to come at the k-th form. -/
def partAt (l : List UInt8) : Nat → Int × Nat × Bool
  | 0 => part1 l
  | 1 => part2 l
  | _ => (0, 0, false)

theorem cut_hit (s p : ByteArray) (hp : Lib.hasPrefix s.data.toList p.data.toList = true) : ∃ s' : ByteArray, s'.data.toList = s.data.toList.drop p.data.toList.length ∧ s'.size ≤ s.size ∧ ∀ w, Calls Tryd.prog 23 #[.string s, .string p] w fun e w' => e = .returned (.tuple #[.string s', .bool true]) ∧ w' = w := by
  refine ⟨⟨(s.data.toList.drop p.data.toList.length).toArray⟩, by simp, ?_, fun w => ?_⟩
  · rw [Lib.size_eq, Lib.size_eq]
    simp
  · have h := Any.strings_CutPrefix Tryd.lays103 s p w
    rw [hp, Lib.trimPrefix, if_pos hp] at h
    exact h
theorem cut_miss (s p : ByteArray) (hp : ¬ Lib.hasPrefix s.data.toList p.data.toList = true) (w : World) : Calls Tryd.prog 23 #[.string s, .string p] w fun e w' => e = .returned (.tuple #[.string s, .bool false]) ∧ w' = w := by
  have h := Any.strings_CutPrefix Tryd.lays103 s p w
  rw [Bool.eq_false_iff.mpr hp, Lib.trimPrefix, if_neg hp] at h
  exact h

theorem cell_second (W W3 : World) (v0 v1 : Value) (t : TypeId) (h : Below (W.alloc (Obj.cells #[v0, v1] t)).heap.size (W.alloc (Obj.cells #[v0, v1] t)) W3) : W3.cell? ⟨W.heap.size, 1, none⟩ = some v1 := by
  rw [h.cell (p := ⟨W.heap.size, 1, none⟩) (by show W.heap.size < (W.heap.push _).size; simp)]
  have h1 : (W.alloc (Obj.cells #[v0, v1] t)).heap[W.heap.size]? = some (Obj.cells #[v0, v1] t) := by
    show (W.heap.push _)[W.heap.size]? = _
    simp
  rw [World.cell?]
  simp only [h1]
  rfl

set_option maxHeartbeats 2000000 in
set_option maxRecDepth 100000 in
theorem integer17_rest (s : ByteArray) (hmax : s.size ≤ 1048600) (hus : ∀ c ∈ s.data.toList, c.toNat ≠ 95) (w : World) (hg : Gl w)
    (h1 : pI u0 s.data.toList = none) (h2 : u0 s.data.toList = none) :
    Calls Tryd.prog 17 #[.string s] w fun e w' => e = .returned (three (part1 s.data.toList)) ∧ Below w.heap.size w w' := by
  have h21 := pInt21 0 u0 reads0 s hmax hus w hg
  rw [h1] at h21
  have h22 := fun w1 (hg1 : Gl w1) => pUint22 0 u0 reads0 s hmax hus w1 hg1
  simp only [h2] at h22
  have i0 : ∀ w, (Instr.index 54 (.agg #[.string ⟨#[48, 98]⟩, .int .i64 2, .string ⟨#[48, 111]⟩, .int .i64 8]) (.int .i64 0)).run Tryd.prog w = .ok (.agg #[.string ⟨#[48, 98]⟩, .int .i64 2]) w := fun _ => by kernel_rfl
  have i1 : ∀ w, (Instr.index 54 (.agg #[.string ⟨#[48, 98]⟩, .int .i64 2, .string ⟨#[48, 111]⟩, .int .i64 8]) (.int .i64 1)).run Tryd.prog w = .ok (.agg #[.string ⟨#[48, 111]⟩, .int .i64 8]) w := fun _ => by kernel_rfl
  clear h1 h2
  go_enter Tryd.func17, Tryd.ntmps17
  go_wp2_with (first
    | (go_at_call 21; refine h21.mono ?_; rintro e w1 ⟨rr, rfl, ⟨x, te, pe, hr⟩, hb1⟩; obtain rfl := hr; have h22' := h22 w1 (hg.below hb1))
    | (go_at_call 22; refine h22'.mono ?_; rintro e w2 ⟨rr2, rfl, ⟨x2, te2, pe2, hr2⟩, hb2⟩; obtain rfl := hr2))
  have hg2 : Gl w2 := (hg.below hb1).below hb2
  have hbe : Below w.heap.size w w2 := hb1.trans (hb2.mono hb1.size)
  clear h21 h22 h22'
  go_loopw [10, 11, 12, 13, 14, 15, 16, 36] (fun _ _ _ _ _ _ _ i wr => ∃ k : Nat, k ≤ 2 ∧ i = .int .i64 k ∧ Gl wr ∧ Below w.heap.size w wr ∧ Hid (part1 s.data.toList = partAt s.data.toList k)) (fun _ _ _ _ _ _ _ i _ => 2 - (intOf i).toNat)
  case atStart => exact ⟨0, by omega, rfl, hg2, hbe, rfl⟩
  case round =>
    obtain ⟨k, hk, rfl, hgr, hbr, hh⟩ := hrel
    clear hg2 hbe hb1 hb2 hg
    have hk3 : k = 0 ∨ k = 1 ∨ k = 2 := by omega
    rcases hk3 with rfl | rfl | rfl
    · have hbal : Below wr.heap.size wr (wr.alloc (Obj.cells #[Value.string ⟨#[48, 98]⟩, Value.int .i64 2] 53)) := Below.alloc (Below.refl _ _) (Nat.le_refl _) _
      by_cases hp : Lib.hasPrefix s.data.toList [48, 98] = true
      · obtain ⟨s', hs', hsz, hcut⟩ := cut_hit s ⟨#[48, 98]⟩ hp
        have hm' : s'.size ≤ 1048600 := by omega
        have hu' : ∀ c ∈ s'.data.toList, c.toNat ≠ 95 := by rw [hs']; intro c hc; exact hus c (List.mem_of_mem_drop hc)
        have hd : s'.data.toList = s.data.toList.drop 2 := hs'
        have g21 := fun W hg => pInt21 2 (ub 2) reads2 s' hm' hu' W hg
        have g22 := fun W hg => pUint22 2 (ub 2) reads2 s' hm' hu' W hg
        have HP : Hid (part1 s.data.toList = after 2 s'.data.toList (part2 s.data.toList)) := by rw [Hid, part1, if_pos hp, hd]
        clear hp hs' hd hsz hus hmax hm' hu'
        cases ha : pI (ub 2) s'.data.toList with
        | some v =>
          simp only [ha] at g21
          have HF : Hid (part1 s.data.toList = (v, 0, true)) := by rw [Hid, hh.out, partAt, HP.out, after, ha]
          clear ha g22
          go_wp2_with (first
            | (go_at_call 23; refine (hcut _).mono ?_; rintro e w' ⟨rfl, hw⟩; obtain rfl := hw)
            | (go_at_call 21; refine (g21 _ (hgr.below hbal)).mono ?_; rintro e w3 ⟨rr, rfl, hr, hb3⟩; obtain rfl := hr))
          go_ret3
          exact ⟨by rw [HF.out]; rfl, hbr.trans ((hbal.trans (hb3.mono hbal.size)).mono hbr.size)⟩
        | none =>
          simp only [ha] at g21
          have HA : Hid (pI (ub 2) s'.data.toList = none) := ha
          clear ha
          cases hu : ub 2 s'.data.toList with
          | some v =>
            simp only [hu] at g22
            have HF : Hid (part1 s.data.toList = (0, v, true)) := by rw [Hid, hh.out, partAt, HP.out, after, HA.out]; simp only [hu]
            clear hu
            go_wp2_with (first
              | (go_at_call 23; refine (hcut _).mono ?_; rintro e w' ⟨rfl, hw⟩; obtain rfl := hw)
              | (go_at_call 21; refine (g21 _ (hgr.below hbal)).mono ?_; rintro e w3 ⟨rr, rfl, ⟨x3, te3, pe3, hr⟩, hb3⟩; obtain rfl := hr; have hc1 := cell_second _ _ _ _ _ hb3; have g22' := g22 w3 ((hgr.below hbal).below hb3))
              | (go_at_call 22; refine g22'.mono ?_; rintro e w4 ⟨rr4, rfl, ⟨hv4, hr4⟩, hb4⟩; obtain rfl := hr4))
            go_ret3
            exact ⟨by rw [HF.out]; rfl, hbr.trans ((hbal.trans ((hb3.trans (hb4.mono hb3.size)).mono hbal.size)).mono hbr.size)⟩
          | none =>
            simp only [hu] at g22
            have HF : Hid (part1 s.data.toList = partAt s.data.toList 1) := by rw [Hid, hh.out, partAt, HP.out, after, HA.out]; simp only [hu]; rfl
            clear hu
            go_wp2_with (first
              | (go_at_call 23; refine (hcut _).mono ?_; rintro e w' ⟨rfl, hw⟩; obtain rfl := hw)
              | (go_at_call 21; refine (g21 _ (hgr.below hbal)).mono ?_; rintro e w3 ⟨rr, rfl, ⟨x3, te3, pe3, hr⟩, hb3⟩; obtain rfl := hr; have hc1 := cell_second _ _ _ _ _ hb3; have g22' := g22 w3 ((hgr.below hbal).below hb3))
              | (go_at_call 22; refine g22'.mono ?_; rintro e w4 ⟨rr4, rfl, ⟨x4, te4, pe4, hr4⟩, hb4⟩; obtain rfl := hr4))
            go_roundw
            case rel => exact ⟨1, by omega, by go_num, ((hgr.below hbal).below hb3).below hb4, hbr.trans ((hbal.trans ((hb3.trans (hb4.mono hb3.size)).mono hbal.size)).mono hbr.size), HF⟩
            case measure => simp [intOf]
      · have hcut := cut_miss s ⟨#[48, 98]⟩ hp
        have HF : Hid (part1 s.data.toList = partAt s.data.toList 1) := by rw [Hid, hh.out, partAt, part1, if_neg hp]; rfl
        clear hp
        go_wp2_with (go_at_call 23; refine (hcut _).mono ?_; rintro e w' ⟨rfl, hw⟩; obtain rfl := hw)
        go_roundw
        case rel => exact ⟨1, by omega, by go_num, hgr.below hbal, hbr.trans (hbal.mono hbr.size), HF⟩
        case measure => simp [intOf]
    · have hbal : Below wr.heap.size wr (wr.alloc (Obj.cells #[Value.string ⟨#[48, 111]⟩, Value.int .i64 8] 53)) := Below.alloc (Below.refl _ _) (Nat.le_refl _) _
      by_cases hp : Lib.hasPrefix s.data.toList [48, 111] = true
      · obtain ⟨s', hs', hsz, hcut⟩ := cut_hit s ⟨#[48, 111]⟩ hp
        have hm' : s'.size ≤ 1048600 := by omega
        have hu' : ∀ c ∈ s'.data.toList, c.toNat ≠ 95 := by rw [hs']; intro c hc; exact hus c (List.mem_of_mem_drop hc)
        have hd : s'.data.toList = s.data.toList.drop 2 := hs'
        have g21 := fun W hg => pInt21 8 (ub 8) reads8 s' hm' hu' W hg
        have g22 := fun W hg => pUint22 8 (ub 8) reads8 s' hm' hu' W hg
        have HP : Hid (part2 s.data.toList = after 8 s'.data.toList (((0 : Int), (0 : Nat), false))) := by rw [Hid, part2, if_pos hp, hd]
        clear hp hs' hd hsz hus hmax hm' hu'
        cases ha : pI (ub 8) s'.data.toList with
        | some v =>
          simp only [ha] at g21
          have HF : Hid (part1 s.data.toList = (v, 0, true)) := by rw [Hid, hh.out, partAt, HP.out, after, ha]
          clear ha g22
          go_wp2_with (first
            | (go_at_call 23; refine (hcut _).mono ?_; rintro e w' ⟨rfl, hw⟩; obtain rfl := hw)
            | (go_at_call 21; refine (g21 _ (hgr.below hbal)).mono ?_; rintro e w3 ⟨rr, rfl, hr, hb3⟩; obtain rfl := hr))
          go_ret3
          exact ⟨by rw [HF.out]; rfl, hbr.trans ((hbal.trans (hb3.mono hbal.size)).mono hbr.size)⟩
        | none =>
          simp only [ha] at g21
          have HA : Hid (pI (ub 8) s'.data.toList = none) := ha
          clear ha
          cases hu : ub 8 s'.data.toList with
          | some v =>
            simp only [hu] at g22
            have HF : Hid (part1 s.data.toList = (0, v, true)) := by rw [Hid, hh.out, partAt, HP.out, after, HA.out]; simp only [hu]
            clear hu
            go_wp2_with (first
              | (go_at_call 23; refine (hcut _).mono ?_; rintro e w' ⟨rfl, hw⟩; obtain rfl := hw)
              | (go_at_call 21; refine (g21 _ (hgr.below hbal)).mono ?_; rintro e w3 ⟨rr, rfl, ⟨x3, te3, pe3, hr⟩, hb3⟩; obtain rfl := hr; have hc1 := cell_second _ _ _ _ _ hb3; have g22' := g22 w3 ((hgr.below hbal).below hb3))
              | (go_at_call 22; refine g22'.mono ?_; rintro e w4 ⟨rr4, rfl, ⟨hv4, hr4⟩, hb4⟩; obtain rfl := hr4))
            go_ret3
            exact ⟨by rw [HF.out]; rfl, hbr.trans ((hbal.trans ((hb3.trans (hb4.mono hb3.size)).mono hbal.size)).mono hbr.size)⟩
          | none =>
            simp only [hu] at g22
            have HF : Hid (part1 s.data.toList = partAt s.data.toList 2) := by rw [Hid, hh.out, partAt, HP.out, after, HA.out]; simp only [hu]; rfl
            clear hu
            go_wp2_with (first
              | (go_at_call 23; refine (hcut _).mono ?_; rintro e w' ⟨rfl, hw⟩; obtain rfl := hw)
              | (go_at_call 21; refine (g21 _ (hgr.below hbal)).mono ?_; rintro e w3 ⟨rr, rfl, ⟨x3, te3, pe3, hr⟩, hb3⟩; obtain rfl := hr; have hc1 := cell_second _ _ _ _ _ hb3; have g22' := g22 w3 ((hgr.below hbal).below hb3))
              | (go_at_call 22; refine g22'.mono ?_; rintro e w4 ⟨rr4, rfl, ⟨x4, te4, pe4, hr4⟩, hb4⟩; obtain rfl := hr4))
            go_roundw
            case rel => exact ⟨2, by omega, by go_num, ((hgr.below hbal).below hb3).below hb4, hbr.trans ((hbal.trans ((hb3.trans (hb4.mono hb3.size)).mono hbal.size)).mono hbr.size), HF⟩
            case measure => simp [intOf]
      · have hcut := cut_miss s ⟨#[48, 111]⟩ hp
        have HF : Hid (part1 s.data.toList = partAt s.data.toList 2) := by rw [Hid, hh.out, partAt, part2, if_neg hp]; rfl
        clear hp
        go_wp2_with (go_at_call 23; refine (hcut _).mono ?_; rintro e w' ⟨rfl, hw⟩; obtain rfl := hw)
        go_roundw
        case rel => exact ⟨2, by omega, by go_num, hgr.below hbal, hbr.trans (hbal.mono hbr.size), HF⟩
        case measure => simp [intOf]
    · have HF : Hid (part1 s.data.toList = (0, 0, false)) := by rw [Hid, hh.out]; rfl
      go_wp2
      go_ret3
      exact ⟨by rw [HF.out]; rfl, hbr⟩

theorem integer17 (s : ByteArray) (hmax : s.size ≤ 1048600) (hus : ∀ c ∈ s.data.toList, c.toNat ≠ 95) (w : World) (hg : Gl w) :
    Calls Tryd.prog 17 #[.string s] w fun e w' => e = .returned (three (intG s.data.toList)) ∧ Below w.heap.size w w' := by
  cases h1 : pI u0 s.data.toList with
  | some v =>
    have h21 := pInt21 0 u0 reads0 s hmax hus w hg
    rw [h1] at h21
    have HF : Hid (intG s.data.toList = (v, 0, true)) := by rw [Hid, intG, h1]
    clear h1
    go_enter Tryd.func17, Tryd.ntmps17
    go_wp2_with (go_at_call 21; refine h21.mono ?_; rintro e w1 ⟨rr, rfl, hr, hb1⟩; obtain rfl := hr)
    go_ret3
    exact ⟨by rw [HF.out]; rfl, hb1⟩
  | none =>
    cases h2 : u0 s.data.toList with
    | some v =>
      have h21 := pInt21 0 u0 reads0 s hmax hus w hg
      rw [h1] at h21
      have h22 := fun w1 (hg1 : Gl w1) => pUint22 0 u0 reads0 s hmax hus w1 hg1
      simp only [h2] at h22
      have HF : Hid (intG s.data.toList = (0, v, true)) := by rw [Hid, intG, h1]; simp only [h2]
      clear h1 h2
      go_enter Tryd.func17, Tryd.ntmps17
      go_wp2_with (first
        | (go_at_call 21; refine h21.mono ?_; rintro e w1 ⟨rr, rfl, ⟨x, te, pe, hr⟩, hb1⟩; obtain rfl := hr; have h22' := h22 w1 (hg.below hb1))
        | (go_at_call 22; refine h22'.mono ?_; rintro e w2 ⟨rr2, rfl, ⟨hv, hr2⟩, hb2⟩; obtain rfl := hr2))
      go_ret3
      exact ⟨by rw [HF.out]; rfl, hb1.trans (hb2.mono hb1.size)⟩
    | none =>
      have h : intG s.data.toList = part1 s.data.toList := by rw [intG, h1]; simp only [h2]
      rw [h]
      exact integer17_rest s hmax hus w hg h1 h2

theorem zzInteger11 (s : ByteArray) (hmax : s.size ≤ 1048600) (hus : ∀ c ∈ s.data.toList, c.toNat ≠ 95) (w : World) (hg : Gl w) :
    Calls Tryd.prog 11 #[.string s] w fun e w' => e = .returned (three (intG s.data.toList)) ∧ Below w.heap.size w w' := by
  have h := integer17 s hmax hus w hg
  obtain ⟨x, hx⟩ : ∃ x, x = intG s.data.toList := ⟨_, rfl⟩
  rw [← hx] at h
  rw [← hx]
  clear hx hus
  obtain ⟨a, b, c⟩ := x
  have h' : Calls Tryd.prog 17 #[.string s] w fun e w' => e = .returned (.tuple #[.int .i64 a, .int .u64 b, .bool c]) ∧ Below w.heap.size w w' := h
  clear h
  go_enter Tryd.func11, Tryd.ntmps11
  go_wp2_with (go_at_call 17; refine h'.mono ?_; rintro e w1 ⟨rfl, hb1⟩)
  go_ret3
  exact ⟨rfl, hb1⟩

end Go.Proofs.Qxb6601198aDoor

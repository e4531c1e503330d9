import Derived.Test.Qxb6601184aProg
import Derived.Test.Qxb6601184aBase
import Derived.WalkSpells
import Derived.WalkLawsBesides
namespace Go.Proofs.Qxb6601184a
open Go.RowKit

theorem Try.info46 : (Try.prog.info? 46).map (fun i => (i.zero, i.size, i.bytes)) = some (some (.string ⟨#[]⟩), 1, 16) := by kernel_rfl
theorem Try.info40 : (Try.prog.info? 40).map (fun i => (i.zero, i.size, i.bytes)) = some (some (.string ⟨#[]⟩), 1, 16) := by kernel_rfl

set_option maxHeartbeats 400000 in
theorem roles_pos (b off n c : Nat) (S : Nat → ByteArray) (w : World) (hn : n ≤ 8796093022208) (hb : b < w.heap.size)
    (hc : ∀ i, i < n → w.cell? ⟨b, off + i, none⟩ = some (.string (S i))) :
    Calls Try.prog 23 #[.slice (some ⟨b, off, none⟩) n c] w fun e w' => ∃ c', e = .returned (.slice (some ⟨w.heap.size, 0, none⟩) n c') ∧ (∀ i, i < n → w'.cell? ⟨w.heap.size, i, none⟩ = some (.string (S i))) ∧ Below w.heap.size w w' ∧ w.heap.size < w'.heap.size := by
  have q : ∀ (w : World) (a : Option Addr) (n c n' c' : Nat), (binOp .eql 31 (.slice a n c) (.slice none n' c')).run Try.prog w = .ok (.bool a.isNone) w := fun w a n c n' c' => Lib.run_eql_slice_nil w _ _ a n c n' c' Try.underlying31
  obtain ⟨i0, hi, hz0, hz1, hz2⟩ := info_parts Try.info40
  go_enter Try.func23, Try.ntmps23
  go_wp2_with (at_make; refine wpList_make_full _ rfl _ _ 48 rfl w.heap.size 40 i0 (.string ⟨#[]⟩) 1 Try.underlying48 hi hz0 hz1 _ _ _ _ n rfl rfl rfl rfl ?b1 ?b2 ?b3 ?_)
  case b1 => rw [hz2]; omega
  case b2 => unfold maxLen; omega
  case b3 => exact Nat.le_refl _
  intro w1 hown hgrow
  have hbel : Below w.heap.size w w1 := (Below.refl _ w).grown hgrow (Nat.le_refl _) (by intro k hk; cases hk)
  have hsz : w.heap.size < w1.heap.size := (hown.lt w.heap.size rfl).2
  clear hgrow
  go_wp2
  go_loopw [4] (fun i wr => ∃ (k : Nat) (xs : List Value), k ≤ n ∧ i = .int .i64 k ∧ wr.ownsRow w.heap.size 40 1 (.slice (some ⟨w.heap.size, 0, none⟩) n n) n xs ∧ (∀ j, j < k → xs[j]? = some (.string (S j))) ∧ Below w.heap.size w wr ∧ w.heap.size < wr.heap.size) (fun i _ => n - (intOf i).toNat)
  case atStart => exact ⟨0, _, Nat.zero_le _, rfl, hown, fun j hj => absurd hj (Nat.not_lt_zero _), hbel, hsz⟩
  case round =>
    obtain ⟨k, xs, hk, rfl, hownr, hxs, hbr, hszr⟩ := hrel
    clear hown hbel hsz
    by_cases hlt : k < n
    · have hcell := (hbr.cell (p := ⟨b, off + k, none⟩) hb).trans (hc k hlt)
      have hfr := hownr.frozenAt k
      have hold := hownr.cellAt k (by omega)
      have hxl : xs.length = n := by simpa using hownr.1
      obtain ⟨x0, hx0⟩ : ∃ x0, xs[k]? = some x0 := ⟨_, List.getElem?_eq_getElem (by omega)⟩
      rw [hx0] at hold
      clear hx0
      have R := (hownr.stored k (.string (S k))).1
      have HB : Hid (Below w.heap.size w wr) := hbr
      have HX : Hid (∀ j, j < k → xs[j]? = some (.string (S j))) := hxs
      have HR : Hid ((wr.setCell ⟨w.heap.size, k, none⟩ (.string (S k))).ownsRow w.heap.size 40 1 (.slice (some ⟨w.heap.size, 0, none⟩) n n) n (xs.set k (.string (S k)))) := R
      have HL : Hid (xs.length = n) := hxl
      clear hbr hxs R hownr hc hxl
      go_wp2
      go_roundw
      case rel =>
        refine ⟨k + 1, _, by omega, by go_num, HR.out, ?_, HB.out.setCell (Nat.le_refl _) _, by simpa using hszr⟩
        intro j hj
        have hl := HL.out
        rw [List.getElem?_set]
        by_cases e : k = j
        · subst e; simp; omega
        · rw [if_neg e]; exact HX.out j (by omega)
      case measure => simp [intOf]; omega
    · have hkn : k = n := by omega
      subst hkn
      go_wp2
      go_ret
      exact ⟨_, rfl, fun i hi => (hownr.cellAt i (by omega)).trans (hxs i hi), hbr, hszr⟩

set_option maxHeartbeats 400000 in
theorem roles_zero (a : Addr) (c : Nat) (w : World) :
    Calls Try.prog 23 #[.slice (some a) 0 c] w fun e w' => ∃ c', e = .returned (.slice (some ⟨w.heap.size, 0, none⟩) 0 c') ∧ Below w.heap.size w w' ∧ w.heap.size < w'.heap.size := by
  have q : ∀ (w : World) (a : Option Addr) (n c n' c' : Nat), (binOp .eql 31 (.slice a n c) (.slice none n' c')).run Try.prog w = .ok (.bool a.isNone) w := fun w a n c n' c' => Lib.run_eql_slice_nil w _ _ a n c n' c' Try.underlying31
  obtain ⟨i0, hi, hz0, hz1, hz2⟩ := info_parts Try.info40
  go_enter Try.func23, Try.ntmps23
  go_wp2_with (at_make; refine wpList_make_full _ rfl _ _ 48 rfl w.heap.size 40 i0 (.string ⟨#[]⟩) 1 Try.underlying48 hi hz0 hz1 _ _ _ _ 0 rfl rfl rfl rfl ?b1 ?b2 ?b3 ?_)
  case b1 => omega
  case b2 => unfold maxLen; omega
  case b3 => exact Nat.le_refl _
  intro w1 hown hgrow
  have hbel : Below w.heap.size w w1 := (Below.refl _ w).grown hgrow (Nat.le_refl _) (by intro k hk; cases hk)
  have hsz : w.heap.size < w1.heap.size := (hown.lt w.heap.size rfl).2
  clear hgrow hown
  go_wp2
  refine wp_loop_rounds 1 ?_; rw [rounds_succ]
  go_wp2
  go_ret
  exact ⟨_, rfl, hbel, hsz⟩

set_option maxHeartbeats 400000 in
theorem roles_nil (n c : Nat) (w : World) :
    Calls Try.prog 23 #[.slice none n c] w fun e w' => e = .returned (.slice none 0 0) ∧ w' = w := by
  have q : ∀ (w : World) (a : Option Addr) (n c n' c' : Nat), (binOp .eql 31 (.slice a n c) (.slice none n' c')).run Try.prog w = .ok (.bool a.isNone) w := fun w a n c n' c' => Lib.run_eql_slice_nil w _ _ a n c n' c' Try.underlying31
  go_enter Try.func23, Try.ntmps23
  go_wp2
  go_ret
  exact ⟨rfl, rfl⟩

/-- zzRoles: the same strings in memory of the call's own; nil for nil. -/
theorem roles_any {B : Nat} {ao : Option Addr} {n : Nat} {S : Nat → ByteArray} (c : Nat) (w : World) (hn : n ≤ 8796093022208) (hc : StrsFrom B w ao n S) :
    Calls Try.prog 23 #[.slice ao n c] w fun e w' => ∃ ao' c', e = .returned (.slice ao' n c') ∧ StrsFrom w.heap.size w' ao' n S ∧ Below w.heap.size w w' ∧ (ao' = none ↔ ao = none) := by
  cases ao with
  | none =>
    have := hc.nil0 rfl
    subst this
    refine (roles_nil 0 c w).mono ?_
    rintro e w' ⟨rfl, rfl⟩
    exact ⟨none, 0, rfl, .inl rfl, Below.refl _ _, Iff.rfl⟩
  | some a =>
    rcases hc with rfl | ⟨b, off, e, _, hb, hc⟩
    · refine (roles_zero a c w).mono ?_
      rintro e w' ⟨c', rfl, hbel, _⟩
      exact ⟨_, c', rfl, .inl rfl, hbel, by simp⟩
    · obtain rfl := Option.some.inj e
      refine (roles_pos b off n c S w hn hb hc).mono ?_
      rintro e w' ⟨c', rfl, hcc, hbel, hsz⟩
      exact ⟨_, c', rfl, .inr ⟨w.heap.size, 0, rfl, Nat.le_refl _, hsz, fun i hi => by rw [Nat.zero_add]; exact hcc i hi⟩, hbel, by simp⟩

set_option maxHeartbeats 400000 in
theorem scopes_pos (b off n c : Nat) (S : Nat → ByteArray) (w : World) (hn : n ≤ 8796093022208) (hb : b < w.heap.size)
    (hc : ∀ i, i < n → w.cell? ⟨b, off + i, none⟩ = some (.string (S i))) :
    Calls Try.prog 17 #[.slice (some ⟨b, off, none⟩) n c] w fun e w' => ∃ c', e = .returned (.slice (some ⟨w.heap.size, 0, none⟩) n c') ∧ (∀ i, i < n → w'.cell? ⟨w.heap.size, i, none⟩ = some (.string (S i))) ∧ Below w.heap.size w w' ∧ w.heap.size < w'.heap.size := by
  have q : ∀ (w : World) (a : Option Addr) (n c n' c' : Nat), (binOp .eql 31 (.slice a n c) (.slice none n' c')).run Try.prog w = .ok (.bool a.isNone) w := fun w a n c n' c' => Lib.run_eql_slice_nil w _ _ a n c n' c' Try.underlying31
  obtain ⟨i0, hi, hz0, hz1, hz2⟩ := info_parts Try.info46
  go_enter Try.func17, Try.ntmps17
  go_wp2_with (at_make; refine wpList_make_full _ rfl _ _ 25 rfl w.heap.size 46 i0 (.string ⟨#[]⟩) 1 Try.underlying25 hi hz0 hz1 _ _ _ _ n rfl rfl rfl rfl ?b1 ?b2 ?b3 ?_)
  case b1 => rw [hz2]; omega
  case b2 => unfold maxLen; omega
  case b3 => exact Nat.le_refl _
  intro w1 hown hgrow
  have hbel : Below w.heap.size w w1 := (Below.refl _ w).grown hgrow (Nat.le_refl _) (by intro k hk; cases hk)
  have hsz : w.heap.size < w1.heap.size := (hown.lt w.heap.size rfl).2
  clear hgrow
  go_wp2
  go_loopw [4] (fun i wr => ∃ (k : Nat) (xs : List Value), k ≤ n ∧ i = .int .i64 k ∧ wr.ownsRow w.heap.size 46 1 (.slice (some ⟨w.heap.size, 0, none⟩) n n) n xs ∧ (∀ j, j < k → xs[j]? = some (.string (S j))) ∧ Below w.heap.size w wr ∧ w.heap.size < wr.heap.size) (fun i _ => n - (intOf i).toNat)
  case atStart => exact ⟨0, _, Nat.zero_le _, rfl, hown, fun j hj => absurd hj (Nat.not_lt_zero _), hbel, hsz⟩
  case round =>
    obtain ⟨k, xs, hk, rfl, hownr, hxs, hbr, hszr⟩ := hrel
    clear hown hbel hsz
    by_cases hlt : k < n
    · have hcell := (hbr.cell (p := ⟨b, off + k, none⟩) hb).trans (hc k hlt)
      have hfr := hownr.frozenAt k
      have hold := hownr.cellAt k (by omega)
      have hxl : xs.length = n := by simpa using hownr.1
      obtain ⟨x0, hx0⟩ : ∃ x0, xs[k]? = some x0 := ⟨_, List.getElem?_eq_getElem (by omega)⟩
      rw [hx0] at hold
      clear hx0
      have R := (hownr.stored k (.string (S k))).1
      have HB : Hid (Below w.heap.size w wr) := hbr
      have HX : Hid (∀ j, j < k → xs[j]? = some (.string (S j))) := hxs
      have HR : Hid ((wr.setCell ⟨w.heap.size, k, none⟩ (.string (S k))).ownsRow w.heap.size 46 1 (.slice (some ⟨w.heap.size, 0, none⟩) n n) n (xs.set k (.string (S k)))) := R
      have HL : Hid (xs.length = n) := hxl
      clear hbr hxs R hownr hc hxl
      go_wp2
      go_roundw
      case rel =>
        refine ⟨k + 1, _, by omega, by go_num, HR.out, ?_, HB.out.setCell (Nat.le_refl _) _, by simpa using hszr⟩
        intro j hj
        have hl := HL.out
        rw [List.getElem?_set]
        by_cases e : k = j
        · subst e; simp; omega
        · rw [if_neg e]; exact HX.out j (by omega)
      case measure => simp [intOf]; omega
    · have hkn : k = n := by omega
      subst hkn
      go_wp2
      go_ret
      exact ⟨_, rfl, fun i hi => (hownr.cellAt i (by omega)).trans (hxs i hi), hbr, hszr⟩

set_option maxHeartbeats 400000 in
theorem scopes_zero (a : Addr) (c : Nat) (w : World) :
    Calls Try.prog 17 #[.slice (some a) 0 c] w fun e w' => ∃ c', e = .returned (.slice (some ⟨w.heap.size, 0, none⟩) 0 c') ∧ Below w.heap.size w w' ∧ w.heap.size < w'.heap.size := by
  have q : ∀ (w : World) (a : Option Addr) (n c n' c' : Nat), (binOp .eql 31 (.slice a n c) (.slice none n' c')).run Try.prog w = .ok (.bool a.isNone) w := fun w a n c n' c' => Lib.run_eql_slice_nil w _ _ a n c n' c' Try.underlying31
  obtain ⟨i0, hi, hz0, hz1, hz2⟩ := info_parts Try.info46
  go_enter Try.func17, Try.ntmps17
  go_wp2_with (at_make; refine wpList_make_full _ rfl _ _ 25 rfl w.heap.size 46 i0 (.string ⟨#[]⟩) 1 Try.underlying25 hi hz0 hz1 _ _ _ _ 0 rfl rfl rfl rfl ?b1 ?b2 ?b3 ?_)
  case b1 => omega
  case b2 => unfold maxLen; omega
  case b3 => exact Nat.le_refl _
  intro w1 hown hgrow
  have hbel : Below w.heap.size w w1 := (Below.refl _ w).grown hgrow (Nat.le_refl _) (by intro k hk; cases hk)
  have hsz : w.heap.size < w1.heap.size := (hown.lt w.heap.size rfl).2
  clear hgrow hown
  go_wp2
  refine wp_loop_rounds 1 ?_; rw [rounds_succ]
  go_wp2
  go_ret
  exact ⟨_, rfl, hbel, hsz⟩

set_option maxHeartbeats 400000 in
theorem scopes_nil (n c : Nat) (w : World) :
    Calls Try.prog 17 #[.slice none n c] w fun e w' => e = .returned (.slice none 0 0) ∧ w' = w := by
  have q : ∀ (w : World) (a : Option Addr) (n c n' c' : Nat), (binOp .eql 31 (.slice a n c) (.slice none n' c')).run Try.prog w = .ok (.bool a.isNone) w := fun w a n c n' c' => Lib.run_eql_slice_nil w _ _ a n c n' c' Try.underlying31
  go_enter Try.func17, Try.ntmps17
  go_wp2
  go_ret
  exact ⟨rfl, rfl⟩

/-- zzScopes: the same strings in memory of the call's own; nil for nil. -/
theorem scopes_any {B : Nat} {ao : Option Addr} {n : Nat} {S : Nat → ByteArray} (c : Nat) (w : World) (hn : n ≤ 8796093022208) (hc : StrsFrom B w ao n S) :
    Calls Try.prog 17 #[.slice ao n c] w fun e w' => ∃ ao' c', e = .returned (.slice ao' n c') ∧ StrsFrom w.heap.size w' ao' n S ∧ Below w.heap.size w w' ∧ (ao' = none ↔ ao = none) := by
  cases ao with
  | none =>
    have := hc.nil0 rfl
    subst this
    refine (scopes_nil 0 c w).mono ?_
    rintro e w' ⟨rfl, rfl⟩
    exact ⟨none, 0, rfl, .inl rfl, Below.refl _ _, Iff.rfl⟩
  | some a =>
    rcases hc with rfl | ⟨b, off, e, _, hb, hc⟩
    · refine (scopes_zero a c w).mono ?_
      rintro e w' ⟨c', rfl, hbel, _⟩
      exact ⟨_, c', rfl, .inl rfl, hbel, by simp⟩
    · obtain rfl := Option.some.inj e
      refine (scopes_pos b off n c S w hn hb hc).mono ?_
      rintro e w' ⟨c', rfl, hcc, hbel, hsz⟩
      exact ⟨_, c', rfl, .inr ⟨w.heap.size, 0, rfl, Nat.le_refl _, hsz, fun i hi => by rw [Nat.zero_add]; exact hcc i hi⟩, hbel, by simp⟩

end Go.Proofs.Qxb6601184a

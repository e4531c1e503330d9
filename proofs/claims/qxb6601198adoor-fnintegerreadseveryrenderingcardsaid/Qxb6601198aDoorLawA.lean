import Derived.Test.Qxb6601198aDoorPlainE
namespace Go.Proofs.Qxb6601198aDoor
open Go.RowKit

set_option maxHeartbeats 2000000 in
set_option maxRecDepth 100000 in
theorem law5 (u sg fm : Nat) (hu : u < 18446744073709551616) (hsg : sg < 256) (hfm : fm < 256) (w : World) (hg : Gl w) :
    Calls Tryd.prog 5 #[.int .u64 u, .int .u8 sg, .int .u8 fm] w fun e w' => e = .returned (.bool true) ∧ Below w.heap.size w w' := by
  by_cases h2 : sg ≤ 2
  · by_cases h9 : fm ≤ 9
    · have hs : sg = 0 ∨ sg = 1 ∨ sg = 2 := by omega
      have h14 := render14 u sg fm hu hs (by omega) w
      have h11 : ∀ (r : ByteArray), r.data.toList = rend sg u fm → ∀ W, Gl W → Calls Tryd.prog 11 #[.string r] W fun e w' => e = .returned (three (expI u sg)) ∧ Below W.heap.size W w' := by
        intro r hr W hG
        have h := zzInteger11 r (by rw [Lib.size_eq, hr]; have := rend_len sg u fm; omega) (by rw [hr]; exact rend_us sg u fm) W hG
        rw [intG_eq, hr, rend_law u sg fm hu hs (by omega)] at h
        exact h
      have h10 := fun W => exp10 u sg hu hs W
      obtain ⟨x, hx⟩ : ∃ x, x = expI u sg := ⟨_, rfl⟩
      simp only [← hx] at h11 h10
      obtain ⟨a, b, c⟩ := x
      have h11' : ∀ (r : ByteArray), r.data.toList = rend sg u fm → ∀ W, Gl W → Calls Tryd.prog 11 #[.string r] W fun e w' => e = .returned (.tuple #[.int .i64 a, .int .u64 b, .bool c]) ∧ Below W.heap.size W w' := h11
      have h10' : ∀ W, Calls Tryd.prog 10 #[.int .u64 u, .int .i64 sg] W fun e w' => e = .returned (.tuple #[.int .i64 a, .int .u64 b, .bool c]) ∧ w' = W := h10
      clear hx hs hu h11 h10
      go_enter Tryd.func5, Tryd.ntmps5
      go_wp2_with (first
        | (go_at_call 14; refine h14.mono ?_; rintro e w1 ⟨⟨r, rfl, hr⟩, hb1⟩; have h := h11' r hr w1 (hg.below hb1); clear hr h11')
        | (go_at_call 11; refine h.mono ?_; rintro e w2 ⟨rfl, hb2⟩)
        | (go_at_call 10; refine (h10' _).mono ?_; rintro e w' ⟨rfl, hw⟩; obtain rfl := hw.symm))
      go_ret
      exact ⟨rfl, hb1.trans (hb2.mono hb1.size)⟩
    · have h9' : (9 : Int) < fm := by omega
      clear hu h9
      go_enter Tryd.func5, Tryd.ntmps5
      go_wp2
      go_ret
      exact ⟨rfl, Below.refl _ _⟩
  · have h2' : (2 : Int) < sg := by omega
    clear hu h2
    go_enter Tryd.func5, Tryd.ntmps5
    go_wp2
    go_ret
    exact ⟨rfl, Below.refl _ _⟩

end Go.Proofs.Qxb6601198aDoor

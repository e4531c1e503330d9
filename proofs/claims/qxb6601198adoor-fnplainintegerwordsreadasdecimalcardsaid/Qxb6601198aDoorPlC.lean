import Derived.Test.Qxb6601198aDoorPlB
namespace Go.Proofs.Qxb6601198aDoor
open Go.RowKit

/-- What ZZPlain hands back. -/
def ZRes (e : Ending) : Prop := ∃ (word : ByteArray) (ok : Bool) (v : Int), e = .returned (.tuple #[.string word, .bool ok, .int .i64 v]) ∧ (ok = true → Good word.data.toList) ∧ word.size ≤ 1048600

set_option maxHeartbeats 2000000 in
set_option maxRecDepth 100000 in
theorem zzPlain8 (data : ByteArray) (pos : Nat) (hds : data.size ≤ 1048576) (hp : pos ≤ data.size) (w : World) :
    Calls Tryd.prog 8 #[.string data, .int .i64 pos] w fun e w' => ZRes e ∧ Below w.heap.size w w' := by
  obtain ⟨W1, hW1⟩ : ∃ W1, W1 = w.alloc (Obj.cells #[.string data, .int .i64 pos, .pointer none, .int .i64 0, .int .i64 0, .int .i64 0, .slice none 0 0, .slice none 0 0, .pointer none, .int .i64 0] 40) := ⟨_, rfl⟩
  have hb1 : Below w.heap.size w W1 := by rw [hW1]; exact (Below.refl _ _).alloc (Nat.le_refl _) _
  have c0 : W1.cell? ⟨w.heap.size, 0, none⟩ = some (.string data) := by rw [hW1]; go_simp
  have c1 : W1.cell? ⟨w.heap.size, 1, none⟩ = some (.int .i64 pos) := by rw [hW1]; go_simp
  have f1 : W1.frozen? ⟨w.heap.size, 1, none⟩ = false := by rw [hW1]; go_simp
  have h16 := plain16 data pos w.heap.size hds hp W1 c0 c1 f1
  rw [hW1] at h16
  clear c0 c1 f1
  go_enter Tryd.func8, Tryd.ntmps8
  go_upto_region 3 with (go_at_call 16; refine h16.mono ?_; rintro e w2 ⟨⟨word, ok, rfl, hok, hwz⟩, hb2, v, hc⟩; have HOK : Hid (ok = true → Good word.data.toList) := hok; clear hok)
  go_quiet (fail)
  go_wp2
  go_ret3
  exact ⟨⟨word, ok, v, rfl, HOK.out, hwz⟩, below_drewN (hb1.trans (by rw [hW1]; exact hb2)) _⟩

end Go.Proofs.Qxb6601198aDoor

import Derived.Test.Qxb6601198aDoorRd2
import Derived.Test.Qxb6601198aDoorRd8
import Derived.Test.Qxb6601198aDoorRd10
import Derived.Test.Qxb6601198aDoorRd16
import Derived.Test.Qxb6601198aDoorRd16u
import Derived.Deep.DeepCutAuto
import Derived.Lib.Strings
namespace Go.Proofs.Qxb6601198aDoor
open Go.RowKit

def signB : Nat → List UInt8
  | 0 => []
  | 1 => [43]
  | _ => [45]

/-- renderInteger. -/
def rend (sg u : Nat) : Nat → List UInt8
  | 0 => signB sg ++ rdf 10 false 64 u
  | 1 => signB sg ++ [48, 120] ++ rdf 16 false 64 u
  | 2 => signB sg ++ [48, 88] ++ rdf 16 true 64 u
  | 3 => signB sg ++ [48, 111] ++ rdf 8 false 64 u
  | 4 => signB sg ++ [48, 79] ++ rdf 8 false 64 u
  | 5 => signB sg ++ [48, 98] ++ rdf 2 false 64 u
  | 6 => signB sg ++ [48, 66] ++ rdf 2 false 64 u
  | 7 => signB sg ++ [48] ++ rdf 8 false 64 u
  | 8 => [48, 98] ++ signB sg ++ rdf 2 false 64 u
  | _ => [48, 111] ++ signB sg ++ rdf 8 false 64 u

theorem rdf_length (b : Nat) (up : Bool) : ∀ f n, (rdf b up f n).length ≤ f
  | 0, n => by simp [rdf]
  | f + 1, n => by
    rw [rdf]
    split
    · simp
    · have := rdf_length b up f (n / b)
      simp
      omega

theorem data_append (a b : ByteArray) : (a ++ b).data.toList = a.data.toList ++ b.data.toList := by simp

set_option maxHeartbeats 4000000 in
set_option maxRecDepth 100000 in
theorem render14 (u sg fm : Nat) (hu : u < 18446744073709551616) (hsg : sg = 0 ∨ sg = 1 ∨ sg = 2) (hfm : fm < 10) (w : World) :
    Calls Tryd.prog 14 #[.int .u64 u, .int .u8 sg, .int .u8 fm] w fun e w' => (∃ r : ByteArray, e = .returned (.string r) ∧ r.data.toList = rend sg u fm) ∧ Below w.heap.size w w' := by
  have R10 := fun w => rd10 u hu w
  have R16 := fun w => rd16 u hu w
  have R16u := fun w => rd16u u hu w
  have R8 := fun w => rd8 u hu w
  have R2 := fun w => rd2 u hu w
  clear hu
  go_enter Tryd.func14, Tryd.ntmps14
  go_upto_if 9 with fail
  go_cut [7] from 8 to 9 (fun s7 wx => wx = w ∧ ∃ sb : ByteArray, s7 = .string sb ∧ sb.size ≤ 1 ∧ Hid (sb.data.toList = signB sg))
  case first =>
    rcases hsg with rfl | rfl | rfl
    all_goals
      go_wp2
      go_meet
      exact ⟨rfl, _, rfl, by decide, rfl⟩
  case rest =>
  obtain ⟨hw, sb, rfl, hsb, HS⟩ := hcut
  subst hw
  clear hsg
  rcases (show fm = 0 ∨ fm = 1 ∨ fm = 2 ∨ fm = 3 ∨ fm = 4 ∨ fm = 5 ∨ fm = 6 ∨ fm = 7 ∨ fm = 8 ∨ fm = 9 from by omega) with rfl | rfl | rfl | rfl | rfl | rfl | rfl | rfl | rfl | rfl
  · clear R16 R16u R8 R2
    go_wp2_with (go_at_call 18; refine (R10 _).mono ?_; rintro e w1 ⟨⟨r, rfl, hr⟩, hb⟩; have hrs : r.size ≤ 64 := (by rw [Lib.size_eq, hr]; exact rdf_length _ _ _ _); have HR : Hid _ := hr; clear hr)
    go_ret
    exact ⟨⟨_, rfl, by simp [rend, HS.out, HR.out]⟩, hb⟩
  · clear R10 R16u R8 R2
    go_wp2_with (go_at_call 18; refine (R16 _).mono ?_; rintro e w1 ⟨⟨r, rfl, hr⟩, hb⟩; have hrs : r.size ≤ 64 := (by rw [Lib.size_eq, hr]; exact rdf_length _ _ _ _); have HR : Hid _ := hr; clear hr)
    go_ret
    exact ⟨⟨_, rfl, by simp [rend, HS.out, HR.out]⟩, hb⟩
  · clear R10 R16 R8 R2
    go_wp2_with (go_at_call 18; refine (R16u _).mono ?_; rintro e w1 ⟨⟨r, rfl, hr⟩, hb⟩; have hrs : r.size ≤ 64 := (by rw [Lib.size_eq, hr]; exact rdf_length _ _ _ _); have HR : Hid _ := hr; clear hr)
    go_ret
    exact ⟨⟨_, rfl, by simp [rend, HS.out, HR.out]⟩, hb⟩
  · clear R10 R16 R16u R2
    go_wp2_with (go_at_call 18; refine (R8 _).mono ?_; rintro e w1 ⟨⟨r, rfl, hr⟩, hb⟩; have hrs : r.size ≤ 64 := (by rw [Lib.size_eq, hr]; exact rdf_length _ _ _ _); have HR : Hid _ := hr; clear hr)
    go_ret
    exact ⟨⟨_, rfl, by simp [rend, HS.out, HR.out]⟩, hb⟩
  · clear R10 R16 R16u R2
    go_wp2_with (go_at_call 18; refine (R8 _).mono ?_; rintro e w1 ⟨⟨r, rfl, hr⟩, hb⟩; have hrs : r.size ≤ 64 := (by rw [Lib.size_eq, hr]; exact rdf_length _ _ _ _); have HR : Hid _ := hr; clear hr)
    go_ret
    exact ⟨⟨_, rfl, by simp [rend, HS.out, HR.out]⟩, hb⟩
  · clear R10 R16 R16u R8
    go_wp2_with (go_at_call 18; refine (R2 _).mono ?_; rintro e w1 ⟨⟨r, rfl, hr⟩, hb⟩; have hrs : r.size ≤ 64 := (by rw [Lib.size_eq, hr]; exact rdf_length _ _ _ _); have HR : Hid _ := hr; clear hr)
    go_ret
    exact ⟨⟨_, rfl, by simp [rend, HS.out, HR.out]⟩, hb⟩
  · clear R10 R16 R16u R8
    go_wp2_with (go_at_call 18; refine (R2 _).mono ?_; rintro e w1 ⟨⟨r, rfl, hr⟩, hb⟩; have hrs : r.size ≤ 64 := (by rw [Lib.size_eq, hr]; exact rdf_length _ _ _ _); have HR : Hid _ := hr; clear hr)
    go_ret
    exact ⟨⟨_, rfl, by simp [rend, HS.out, HR.out]⟩, hb⟩
  · clear R10 R16 R16u R2
    go_wp2_with (go_at_call 18; refine (R8 _).mono ?_; rintro e w1 ⟨⟨r, rfl, hr⟩, hb⟩; have hrs : r.size ≤ 64 := (by rw [Lib.size_eq, hr]; exact rdf_length _ _ _ _); have HR : Hid _ := hr; clear hr)
    go_ret
    exact ⟨⟨_, rfl, by simp [rend, HS.out, HR.out]⟩, hb⟩
  · clear R10 R16 R16u R8
    go_wp2_with (go_at_call 18; refine (R2 _).mono ?_; rintro e w1 ⟨⟨r, rfl, hr⟩, hb⟩; have hrs : r.size ≤ 64 := (by rw [Lib.size_eq, hr]; exact rdf_length _ _ _ _); have HR : Hid _ := hr; clear hr)
    go_ret
    exact ⟨⟨_, rfl, by simp [rend, HS.out, HR.out]⟩, hb⟩
  · clear R10 R16 R16u R2
    go_wp2_with (go_at_call 18; refine (R8 _).mono ?_; rintro e w1 ⟨⟨r, rfl, hr⟩, hb⟩; have hrs : r.size ≤ 64 := (by rw [Lib.size_eq, hr]; exact rdf_length _ _ _ _); have HR : Hid _ := hr; clear hr)
    go_ret
    exact ⟨⟨_, rfl, by simp [rend, HS.out, HR.out]⟩, hb⟩

end Go.Proofs.Qxb6601198aDoor

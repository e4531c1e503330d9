import Derived.Test.Qxb6601198aDoorProg
import Derived.Test.Qxb6601198aDoorPlain
import Derived.WalkSpells
import Derived.WalkLawsBesides
namespace Go.Proofs.Qxb6601198aDoor
open Go.RowKit

/-- What magnitude hands back at decimal digits. -/
def MDK (o : Option Nat) (r : Value) : Prop := match o with
  | some v => v < 18446744073709551616 ∧ r = .tuple #[.int .u64 v, .bool true, .bool true]
  | none => ∃ m : Int, r = .tuple #[.int .u64 m, .bool true, .bool false]

def MRD (l : List UInt8) (k : Nat) (vm vf : Value) : Prop :=
  (∃ (acc : Nat) (a : Int), vm = .int .u64 a ∧ vf = .bool true ∧ Hid (a = (acc : Int) ∧ acc < 18446744073709551616 ∧ pu 10 0 l = pu 10 acc (l.drop k))) ∨
  (∃ a : Int, 0 ≤ a ∧ a < 18446744073709551616 ∧ vm = .int .u64 a ∧ vf = .bool false ∧ pu 10 0 l = none)

set_option maxHeartbeats 8000000 in
set_option maxRecDepth 100000 in
theorem magD (s : ByteArray) (hmax : s.size ≤ 1048600) (hdg : ∀ c ∈ s.data.toList, 48 ≤ c.toNat ∧ c.toNat ≤ 57) (w : World) :
    Calls Tryd.prog 9 #[.string s, .int .u64 10] w fun e w' => ∃ r, e = .returned r ∧ MDK (pu 10 0 s.data.toList) r ∧ w' = w := by
  obtain ⟨l, hL⟩ : ∃ l, l = s.data.toList := ⟨_, rfl⟩
  have hLn : l.length = s.size := by rw [hL]; exact (Lib.size_eq _).symm
  have HLT : Hid (∀ (k : Nat) (h : k < s.size) (h' : k < l.length), s[k] = l[k]) := by
    intro k h h'
    subst hL
    rfl
  rw [← hL] at hdg ⊢
  have HDG : Hid (∀ c ∈ l, 48 ≤ c.toNat ∧ c.toNat ≤ 57) := hdg
  clear hL hdg
  go_enter Tryd.func9, Tryd.ntmps9
  go_wp2
  go_loop [7, 8, 9, 10, 11] (fun vm vf vi _ _ => ∃ k : Nat, k ≤ s.size ∧ vi = .int .i64 k ∧ MRD l k vm vf) (fun _ _ vi _ _ => s.size - (intOf vi).toNat)
  case atStart => exact ⟨0, Nat.zero_le _, rfl, .inl ⟨0, 0, rfl, rfl, rfl, by omega, rfl⟩⟩
  case round =>
    obtain ⟨k, hk, rfl, hmr⟩ := hrel
    by_cases hlt : k < s.size
    · have hdrop : l.drop k = l[k]'(by omega) :: l.drop (k + 1) := List.drop_eq_getElem_cons (by omega)
      have hget : s[k] = l[k]'(by omega) := HLT.out k hlt (by omega)
      have hd01 : 48 ≤ s[k].toNat ∧ s[k].toNat ≤ 57 := by rw [hget]; exact HDG.out _ (List.getElem_mem _)
      have HDROP : Hid (l.drop k = s[k] :: l.drop (k + 1)) := by rw [Hid, hdrop, hget]
      clear hdrop hget
      obtain ⟨c, hb⟩ : ∃ c, s[k].toNat = c := ⟨_, rfl⟩
      have HCC : Hid (s[k].toNat = c) := hb
      rw [hb] at hd01
      obtain ⟨hl0, hl1⟩ := hd01
      rcases hmr with ⟨acc, a, rfl, rfl, hh⟩ | ⟨a, a0, a1, rfl, rfl, hn⟩
      · obtain ⟨ha, hacc, hdec⟩ := hh.out
        clear hh
        have a0 : 0 ≤ a := by omega
        have a1 : a < 18446744073709551616 := by omega
        rw [HDROP.out] at hdec
        have HD : Hid (pu 10 0 l = pu 10 acc (s[k] :: l.drop (k + 1))) := hdec
        have HA : Hid (a = (acc : Int)) := ha
        have HAC : Hid (acc < 18446744073709551616) := hacc
        clear hdec ha hacc HDROP
        by_cases hov : 18446744073709551616 ≤ a * 10 + ((c : Int) - 48)
        · have HF : Hid (pu 10 0 l = none) := by
            have h1 := HA.out
            rw [Hid, HD.out, pu_over (by rw [HCC.out, dv_dig hl0 hl1]; omega)]
          have hq : (18446744073709551615 - ((c : Int) - 48)) / 10 < a := by omega
          go_wp2
          go_round
          case rel => exact ⟨k + 1, by omega, by go_num, .inr ⟨a, a0, a1, rfl, rfl, HF.out⟩⟩
          case measure => simp [intOf]; omega
        · have HN : Hid (a * 10 + ((c : Int) - 48) = ((acc * 10 + (c - 48) : Nat) : Int) ∧ acc * 10 + (c - 48) < 18446744073709551616 ∧ pu 10 0 l = pu 10 (acc * 10 + (c - 48)) (l.drop (k + 1))) := by
            have h1 := HA.out
            refine ⟨by omega, by omega, ?_⟩
            rw [HD.out, pu_step (by rw [HCC.out, dv_dig hl0 hl1]; omega) (by rw [HCC.out, dv_dig hl0 hl1]; omega), HCC.out, dv_dig hl0 hl1]
          have hq : a ≤ (18446744073709551615 - ((c : Int) - 48)) / 10 := by omega
          have iov : a * 10 + ((c : Int) - 48) < 18446744073709551616 := by omega
          clear hov
          go_wp2
          go_round
          case rel => exact ⟨k + 1, by omega, by go_num, .inl ⟨acc * 10 + (c - 48), a * 10 + ((c : Int) - 48), by go_num, rfl, HN⟩⟩
          case measure => simp [intOf]; omega
      · have HF : Hid (pu 10 0 l = none) := hn
        clear hn
        go_wp2
        go_round
        case rel => exact ⟨k + 1, by omega, by go_num, .inr ⟨a, a0, a1, rfl, rfl, HF.out⟩⟩
        case measure => simp [intOf]; omega
    · have hkk : k = s.size := by omega
      rcases hmr with ⟨acc, a, rfl, rfl, hh⟩ | ⟨a, a0, a1, rfl, rfl, hn⟩
      · obtain ⟨ha, hacc, hdec⟩ := hh.out
        have HF : Hid (pu 10 0 l = some acc) := by
          rw [Hid, hdec, List.drop_eq_nil_of_le (by omega)]; rfl
        have HAC : Hid (acc < 18446744073709551616) := hacc
        subst ha
        clear hh hdec hacc
        go_wp2
        go_ret3
        exact ⟨_, rfl, by rw [HF.out]; exact ⟨HAC.out, rfl⟩, rfl⟩
      · have HF : Hid (pu 10 0 l = none) := hn
        clear hn
        go_wp2
        go_ret3
        exact ⟨_, rfl, by rw [HF.out]; exact ⟨_, rfl⟩, rfl⟩

end Go.Proofs.Qxb6601198aDoor

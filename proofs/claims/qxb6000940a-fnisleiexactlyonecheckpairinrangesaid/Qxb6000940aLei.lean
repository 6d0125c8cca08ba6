import Derived.Test.Qxb6000940aRows
import Derived.WalkKit
import Derived.WalkSpells
import Derived.WalkLawsBesides
import Derived.Deep.DeepCutAuto
import Derived.Deep.CutBlock
import Derived.Deep.OwnRows
import Derived.OwnWalk
import Derived.Laws.BytesArg
import Derived.Below
namespace Go.Proofs.Qxb6000940a
open Go.RowKit

/-- A digit or a capital letter. -/
def okc (n : Int) : Prop := (48 ≤ n ∧ n ≤ 57) ∨ (65 ≤ n ∧ n ≤ 90)
/-- The remainder's step. -/
def nx (r n : Int) : Int := if n ≤ 57 then (r * 10 + (n - 48)) % 97 else (r * 100 + (n - 65) + 10) % 97
def rem (r : Int) : List UInt8 → Int
  | [] => r
  | c :: t => rem (nx r c.toNat) t

theorem nx_bd (r n : Int) : 0 ≤ nx r n ∧ nx r n ≤ 96 := by unfold nx; split <;> omega
theorem get_list (s : ByteArray) (k : Nat) (h : k < s.size) : s.data.toList.getD k 0 = s[k] := by
  rw [List.getD_eq_getElem?_getD, List.getElem?_eq_getElem (by simpa using h)]; rfl
theorem ret_bool {a b : Bool} (h : a = b) : Ending.returned (.bool a) = .returned (.bool b) := by rw [h]

set_option maxRecDepth 20000 in
set_option maxHeartbeats 1000000 in
theorem isLEI_any (s : ByteArray) (w : World) (hs : s.size = 20) (hok : ∀ j, j < 20 → okc (s.data.toList.getD j 0).toNat) :
    Calls Try.prog 19 #[.string s] w fun e w' => e = .returned (.bool (decide (rem 0 s.data.toList = 1))) ∧ w' = w := by
  have HK : Hid (∀ j, j < 20 → okc (s.data.toList.getD j 0).toNat) := hok
  clear hok
  obtain ⟨R, hR⟩ : ∃ R, R = rem 0 s.data.toList := ⟨_, rfl⟩
  rw [← hR]
  have HR : Hid (R = rem 0 s.data.toList) := hR
  clear hR
  go_enter Try.func19, Try.ntmps19
  go_wp2
  go_loop [3, 4] (fun x i => ∃ (r : Int) (k : Nat), k ≤ 20 ∧ x = .int .i64 r ∧ i = .int .i64 k ∧ 0 ≤ r ∧ r ≤ 96 ∧ R = rem r (s.data.toList.drop k)) (fun _ i => 20 - (intOf i).toNat)
  case atStart => exact ⟨0, 0, Nat.zero_le _, rfl, rfl, by omega, by omega, HR.out⟩
  case round =>
    obtain ⟨r, k, hk, rfl, rfl, hr0, hr1, hacc⟩ := hrel
    have HA : Hid (R = rem r (s.data.toList.drop k)) := hacc
    clear hacc HR
    by_cases hlt : k < 20
    · have hlt' : k < s.size := by omega
      have hdrop : s.data.toList.drop k = s[k]'hlt' :: s.data.toList.drop (k + 1) := by
        rw [List.drop_eq_getElem_cons (by simpa using hlt')]; rfl
      have hc := HK.out k hlt
      rw [get_list s k hlt'] at hc
      have HB : Hid (R = rem (nx r (s[k]'hlt').toNat) (s.data.toList.drop (k + 1))) := by
        show R = rem (nx r (s[k]'hlt').toNat) (s.data.toList.drop (k + 1))
        rw [HA.out, hdrop, rem]
      have hbd := nx_bd r (s[k]'hlt').toNat
      have HBD : Hid (0 ≤ nx r (s[k]'hlt').toNat ∧ nx r (s[k]'hlt').toNat ≤ 96) := hbd
      clear hdrop HA hbd
      rcases hc with ⟨g1, g2⟩ | ⟨g1, g2⟩
      · have hnx : Hid (nx r (s[k]'hlt').toNat = (r * 10 + ((s[k]'hlt').toNat - 48)) % 97) := by
          show nx r (s[k]'hlt').toNat = _
          unfold nx; rw [if_pos g2]
        go_wp2
        go_round
        case rel => exact ⟨_, k + 1, by omega, rfl, by go_num, by omega, by omega, by rw [← hnx.out]; exact HB.out⟩
        case measure => simp [intOf]; omega
      · have hnx : Hid (nx r (s[k]'hlt').toNat = (r * 100 + ((s[k]'hlt').toNat - 65) + 10) % 97) := by
          show nx r (s[k]'hlt').toNat = _
          unfold nx; rw [if_neg (by omega)]
        go_wp2
        go_round
        case rel => exact ⟨_, k + 1, by omega, rfl, by go_num, by omega, by omega, by rw [← hnx.out]; exact HB.out⟩
        case measure => simp [intOf]; omega
    · have hr : Hid (R = r) := by
        show R = r
        rw [HA.out, List.drop_of_length_le (by simp; omega)]; rfl
      clear HA
      go_wp2
      go_ret
      exact ⟨ret_bool (by rw [hr.out]; first | rfl | simp), rfl⟩

set_option maxRecDepth 20000 in
theorem zzLEI_any (s : ByteArray) (w : World) (hs : s.size = 20) (hok : ∀ j, j < 20 → okc (s.data.toList.getD j 0).toNat) :
    Calls Try.prog 11 #[.string s] w fun e w' => e = .returned (.bool (decide (rem 0 s.data.toList = 1))) ∧ w' = w := by
  have B := isLEI_any s w hs hok
  clear hs hok
  go_enter Try.func11, Try.ntmps11
  go_wp2_with fail
  refine B.mono ?_
  rintro e w' ⟨rfl, rfl⟩
  go_wp2
  go_ret
  exact ⟨rfl, rfl⟩

def SaysClass (n : Int) (w : World) (e : Ending) (w' : World) : Prop := ∃ c, e = .returned (.int .i64 c) ∧ (c = 2 ∨ (okc n ∧ (c == 2) = false)) ∧ w = w'

set_option maxRecDepth 20000 in
theorem class_any (n : Int) (w : World) (h0 : 0 ≤ n) (h1 : n ≤ 255) : Calls Try.prog 10 #[.int .u8 n] w fun e w' => SaysClass n w e w' := by
  have hor : (48 ≤ n ∧ n ≤ 57) ∨ (65 ≤ n ∧ n ≤ 90) ∨ n < 48 ∨ (57 < n ∧ n < 65) ∨ 90 < n := by omega
  rcases hor with ⟨g1, g2⟩ | ⟨g1, g2⟩ | g1 | ⟨g1, g2⟩ | g1
  · go_enter Try.func10, Try.ntmps10
    go_wp2
    go_ret
    exact ⟨_, rfl, .inr ⟨.inl ⟨g1, g2⟩, rfl⟩, rfl⟩
  · go_enter Try.func10, Try.ntmps10
    go_wp2
    go_ret
    exact ⟨_, rfl, .inr ⟨.inr ⟨g1, g2⟩, rfl⟩, rfl⟩
  all_goals
    go_enter Try.func10, Try.ntmps10
    go_wp2
    go_ret
    exact ⟨_, rfl, .inl rfl, rfl⟩

def SaysBool (w : World) (e : Ending) (w' : World) : Prop := ∃ b, e = .returned (.bool b) ∧ w = w'

set_option maxRecDepth 20000 in
theorem bytes_any (s : ByteArray) (w : World) (hs : s.size ≤ maxLen) : Calls Try.prog 9 #[.string s] w fun e w' => SaysBool w e w' := by
  have hs' : (s.size : Int) ≤ 9223372036854775807 := by unfold maxLen at hs; omega
  clear hs
  go_enter Try.func9, Try.ntmps9
  go_wp2
  all_goals
    go_ret
    exact ⟨_, rfl, rfl⟩
end Go.Proofs.Qxb6000940a

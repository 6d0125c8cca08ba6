import Derived.Test.Qxb6000098aRows
import Derived.WalkKit
import Derived.WalkSpells
import Derived.WalkLawsBesides
namespace Go.Proofs.Qxb6000098a
open Go.RowKit

/-- A slice of strings: its first 'ss.length' cells hold the strings 'ss'. -/
def StrsAt (w : World) (a : Option Addr) (ss : List ByteArray) : Prop :=
  ∀ i, i < ss.length → ∃ b off, a = some ⟨b, off, none⟩ ∧ w.cell? ⟨b, off + i, none⟩ = some (.string (ss.getD i ByteArray.empty))

/-- A slice of integers. -/
def IntsAt (k : IntKind) (w : World) (a : Option Addr) (zs : List Int) : Prop :=
  ∀ i, i < zs.length → ∃ b off, a = some ⟨b, off, none⟩ ∧ w.cell? ⟨b, off + i, none⟩ = some (.int k (zs.getD i 0))

/-- The sum of the lengths. -/
def sizes : List ByteArray → Nat
  | [] => 0
  | s :: ss => s.size + sizes ss

theorem sizes_append (a b : List ByteArray) : sizes (a ++ b) = sizes a + sizes b := by
  induction a with
  | nil => simp [sizes]
  | cons x a ih => simp [sizes, ih]; omega

theorem sizes_take_succ (ss : List ByteArray) (k : Nat) (h : k < ss.length) : sizes (ss.take (k + 1)) = sizes (ss.take k) + (ss[k]?.getD ByteArray.empty).size := by
  rw [List.take_succ_eq_append_getElem h, sizes_append]
  simp [sizes, h]

/-- What a test leaves: some bool, the world as it was, and the fact where it says yes. -/
def SaysBool (w : World) (fact : Prop) (e : Ending) (w' : World) : Prop := ∃ r, e = .returned (.bool r) ∧ w' = w ∧ (r = true → fact)
theorem SaysBool.no {w : World} {fact : Prop} : SaysBool w fact (.returned (.bool false)) w := ⟨false, rfl, rfl, fun h => by cases h⟩
theorem SaysBool.yes {w : World} {fact : Prop} (h : fact) : SaysBool w fact (.returned (.bool true)) w := ⟨true, rfl, rfl, fun _ => h⟩

set_option maxHeartbeats 400000 in
/-- zzBytes: some bool; nothing turned; true only under the bound. -/
theorem bytes_any (key : ByteArray) (a1 a2 a3 : Option Addr) (l1 c1 l2 c2 c3 : Nat) (ss : List ByteArray) (w : World)
    (h0 : key.size ≤ maxLen) (h1 : l1 ≤ maxLen) (h2 : l2 ≤ maxLen) (h3 : ss.length ≤ maxLen) (hs : ∀ s ∈ ss, s.size ≤ maxLen) (hc : StrsAt w a3 ss) :
    Calls Try.prog 22 #[.string key, .slice a1 l1 c1, .slice a2 l2 c2, .slice a3 ss.length c3] w fun e w' =>
      SaysBool w (key.size + l1 + l2 + ss.length + sizes ss ≤ 1048576) e w' := by
  unfold maxLen at *
  go_enter Try.func22, Try.ntmps22
  go_wp2
  iterate 7
    · go_ret
      exact SaysBool.no
  go_loop [9, 10] (fun n i => ∃ k : Nat, k ≤ ss.length ∧ i = .int .i64 k ∧ key.size + l1 + l2 + ss.length + sizes (ss.take k) ≤ 1048576 ∧ n = .int .i64 ((key.size + l1 + l2 + ss.length + sizes (ss.take k) : Nat) : Int)) (fun _ i => ss.length - (intOf i).toNat)
  case atStart => exact ⟨0, Nat.zero_le _, rfl, by simp [sizes]; omega, by simp [sizes]⟩
  case round =>
    obtain ⟨k, hk, rfl, hb, rfl⟩ := hrel
    by_cases hlt : k < ss.length
    · obtain ⟨b, off, rfl, hcell⟩ := hc k hlt
      have hsk : (ss[k]?.getD ByteArray.empty).size ≤ 9223372036854775807 := by
        have := hs ss[k] (List.getElem_mem hlt); simpa [hlt] using this
      have HS : Hid (sizes (ss.take (k + 1)) = sizes (ss.take k) + (ss[k]?.getD ByteArray.empty).size) := sizes_take_succ ss k hlt
      have HE : Hid ((ss[k]?.getD ByteArray.empty).size = ss[k].size) := by show _ = _; simp [hlt]
      clear hs hc
      go_wp2
      · go_ret
        exact SaysBool.no
      · go_ret
        exact SaysBool.no
      · have e1 := HS.out
        rw [HE.out] at e1
        go_round
        case rel => exact ⟨k + 1, by omega, by go_num, by omega, by rw [e1]; go_num⟩
        case measure => simp [intOf]; omega
    · have hkl : k = ss.length := by omega
      have hb' : Hid (key.size + l1 + l2 + ss.length + sizes ss ≤ 1048576) := by
        rw [hkl, List.take_length] at hb
        exact hb
      clear hkl hb
      go_wp2
      go_ret
      exact SaysBool.yes hb'.out

set_option maxHeartbeats 400000 in
theorem fits_any (key : ByteArray) (a1 a2 a3 : Option Addr) (l1 c1 l2 c2 c3 : Nat) (ss : List ByteArray) (w : World)
    (h0 : key.size + l1 + l2 + ss.length + sizes ss ≤ 1048576) (hs : ∀ s ∈ ss, s.size ≤ maxLen) (hc : StrsAt w a3 ss) :
    Calls Try.prog 23 #[.string key, .slice a1 l1 c1, .slice a2 l2 c2, .slice a3 ss.length c3] w fun e w' =>
      SaysBool w True e w' := by
  unfold maxLen at *
  go_enter Try.func23, Try.ntmps23
  go_wp2
  · go_ret
    exact SaysBool.no
  · go_ret
    exact SaysBool.no
  · go_loop [9, 10] (fun n i => ∃ k : Nat, k ≤ ss.length ∧ i = .int .i64 k ∧ ∃ m : Nat, m ≤ 1048576 ∧ n = .int .i64 m) (fun _ i => ss.length - (intOf i).toNat)
    case atStart => exact ⟨0, Nat.zero_le _, rfl, key.size + l1 + 8 * l2 + 16 * ss.length, by omega, by go_num⟩
    case round =>
      obtain ⟨k, hk, rfl, m, hb, rfl⟩ := hrel
      by_cases hlt : k < ss.length
      · obtain ⟨b, off, rfl, hcell⟩ := hc k hlt
        have hsk : (ss[k]?.getD ByteArray.empty).size ≤ 9223372036854775807 := by
          have := hs ss[k] (List.getElem_mem hlt); simpa [hlt] using this
        clear hs hc
        go_wp2
        · go_ret
          exact SaysBool.no
        · go_ret
          exact SaysBool.no
        · go_round
          case rel => exact ⟨k + 1, by omega, by go_num, m + ss[k].size, by omega, by go_num⟩
          case measure => simp [intOf]; omega
      · clear hs hc
        go_wp2
        go_ret
        exact SaysBool.yes trivial
  · go_ret
    exact SaysBool.no
end Go.Proofs.Qxb6000098a

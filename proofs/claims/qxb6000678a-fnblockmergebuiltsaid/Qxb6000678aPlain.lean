import Derived.Test.Qxb6000678aRows
import Derived.WalkKit
import Derived.WalkSpells
import Derived.WalkLawsBesides
namespace Go.Proofs.Qxb6000678a
open Go.RowKit

/-- A slice of bytes: its first cells hold the numbers 'l'. -/
def BytesAt (w : World) (a : Option Addr) (l : List Int) : Prop :=
  ∀ i, i < l.length → ∃ b off, a = some ⟨b, off, none⟩ ∧ w.cell? ⟨b, off + i, none⟩ = some (.int .u8 (l.getD i 0))

theorem BytesAt.later {w w' : World} {a : Option Addr} {l : List Int} (h : BytesAt w a l) (hb : Below w.heap.size w w') : BytesAt w' a l := by
  intro i hi
  obtain ⟨b, off, ha, hc⟩ := h i hi
  exact ⟨b, off, ha, cell_later hb hc⟩

/-- The length of the line break that a text begins with, by its length and its first three bytes. -/
def lbv (n : Nat) (x y z : Int) : Nat :=
  if n = 0 then 0
  else if x = 10 then 1
  else if x = 13 then (if 1 < n ∧ y = 10 then 2 else 1)
  else if x = 194 then (if 1 < n ∧ y = 133 then 2 else 0)
  else if x = 226 then (if 2 < n ∧ y = 128 ∧ (z = 168 ∨ z = 169) then 3 else 0)
  else 0
def lb (l : List Int) : Nat := lbv l.length (l.getD 0 0) (l.getD 1 0) (l.getD 2 0)

theorem lbv_le (n : Nat) (x y z : Int) : lbv n x y z ≤ 3 ∧ lbv n x y z ≤ n := by
  unfold lbv
  (repeat' split) <;> omega

theorem ret_int {k : IntKind} {a b : Int} (h : a = b) : Ending.returned (.int k a) = .returned (.int k b) := by rw [h]

set_option maxHeartbeats 400000 in
theorem lineBreak_1 (b off c : Nat) (x y z : Int) (w : World) (h0 : w.cell? ⟨b, off, none⟩ = some (.int .u8 x)) :
    Calls Try.prog 14 #[.slice (some ⟨b, off, none⟩) 1 c] w fun e w' => e = .returned (.int .i64 (lbv 1 x y z)) ∧ w' = w := by
  go_enter Try.func14, Try.ntmps14
  go_wp2
  all_goals
    go_ret
    refine ⟨ret_int ?_, rfl⟩
    simp only [beq_iff_eq, beq_eq_false_iff_ne] at *
    unfold lbv
    (repeat' split) <;> omega

set_option maxHeartbeats 400000 in
theorem lineBreak_2 (b off c : Nat) (x y z : Int) (w : World) (h0 : w.cell? ⟨b, off, none⟩ = some (.int .u8 x)) (h1 : w.cell? ⟨b, off + 1, none⟩ = some (.int .u8 y)) :
    Calls Try.prog 14 #[.slice (some ⟨b, off, none⟩) 2 c] w fun e w' => e = .returned (.int .i64 (lbv 2 x y z)) ∧ w' = w := by
  go_enter Try.func14, Try.ntmps14
  go_wp2
  all_goals
    go_ret
    refine ⟨ret_int ?_, rfl⟩
    simp only [beq_iff_eq, beq_eq_false_iff_ne] at *
    unfold lbv
    (repeat' split) <;> omega

set_option maxHeartbeats 400000 in
theorem lineBreak_3 (b off n c : Nat) (x y z : Int) (w : World) (hn : (n : Int) ≤ 9223372036854775807) (h3 : (3 : Int) ≤ n) (h0 : w.cell? ⟨b, off, none⟩ = some (.int .u8 x)) (h1 : w.cell? ⟨b, off + 1, none⟩ = some (.int .u8 y)) (h2 : w.cell? ⟨b, off + 2, none⟩ = some (.int .u8 z)) :
    Calls Try.prog 14 #[.slice (some ⟨b, off, none⟩) n c] w fun e w' => e = .returned (.int .i64 (lbv n x y z)) ∧ w' = w := by
  go_enter Try.func14, Try.ntmps14
  go_wp2
  all_goals
    go_ret
    refine ⟨ret_int ?_, rfl⟩
    simp only [beq_iff_eq, beq_eq_false_iff_ne] at *
    unfold lbv
    (repeat' split) <;> omega

/-- LineBreak: its answer by the text alone. -/
theorem lineBreak_any (a : Option Addr) (c : Nat) (l : List Int) (w : World) (hn : (l.length : Int) ≤ 9223372036854775807) (h : BytesAt w a l) :
    Calls Try.prog 14 #[.slice a l.length c] w fun e w' => e = .returned (.int .i64 (lb l)) ∧ w' = w := by
  rcases l with _ | ⟨x, _ | ⟨y, _ | ⟨z, t⟩⟩⟩
  · clear hn h
    go_enter Try.func14, Try.ntmps14
    go_wp2
    go_ret
    exact ⟨rfl, rfl⟩
  · obtain ⟨b, off, rfl, h0⟩ := h 0 (by simp)
    exact lineBreak_1 b off c x 0 0 w h0
  · obtain ⟨b, off, rfl, h0⟩ := h 0 (by simp)
    obtain ⟨_, _, hx, h1⟩ := h 1 (by simp)
    cases hx
    exact lineBreak_2 b off c x y 0 w h0 h1
  · obtain ⟨b, off, rfl, h0⟩ := h 0 (by simp)
    obtain ⟨_, _, hx, h1⟩ := h 1 (by simp)
    cases hx
    obtain ⟨_, _, hx, h2⟩ := h 2 (by simp)
    cases hx
    exact lineBreak_3 b off _ c x y z w hn (by simp; omega) h0 h1 h2

/-- How many spaces a text begins with. -/
def cs : List Int → Nat
  | [] => 0
  | x :: t => if x = 32 then cs t + 1 else 0

theorem cs_eq (l : List Int) (k : Nat) (h : ∀ j, j < k → l.getD j 0 = 32) (hk : k ≤ l.length) (he : k = l.length ∨ l.getD k 0 ≠ 32) : cs l = k := by
  induction l generalizing k with
  | nil => simp at hk; subst hk; rfl
  | cons x t ih =>
    cases k with
    | zero =>
      rcases he with he | he
      · simp at he
      · unfold cs; rw [if_neg (by simpa using he)]
    | succ k =>
      have h0 := h 0 (by omega)
      unfold cs
      rw [if_pos (by simpa using h0)]
      rw [ih k (fun j hj => by have := h (j + 1) (by omega); simpa using this) (by simpa using hk) (he.elim (fun he => .inl (by simpa using he)) (fun he => .inr (by simpa using he)))]

set_option maxHeartbeats 400000 in
theorem countSpaces_any (a : Option Addr) (c : Nat) (l : List Int) (w : World) (hn : (l.length : Int) ≤ 9223372036854775807) (h : BytesAt w a l) :
    Calls Try.prog 35 #[.slice a l.length c] w fun e w' => e = .returned (.int .i64 (cs l)) ∧ w' = w := by
  have H : Hid (BytesAt w a l) := h
  clear h
  obtain ⟨n, hN⟩ : ∃ n, l.length = n := ⟨_, rfl⟩
  have HN : Hid (l.length = n) := hN
  rw [hN] at hn ⊢
  clear hN
  go_enter Try.func35, Try.ntmps35
  go_wp2
  go_loop [3] (fun i => ∃ k : Nat, k ≤ n ∧ i = .int .i64 k ∧ ∀ j, j < k → l.getD j 0 = 32) (fun i => n - (intOf i).toNat)
  case atStart => exact ⟨0, Nat.zero_le _, rfl, fun j hj => absurd hj (by omega)⟩
  case round =>
    obtain ⟨k, hk, rfl, hall⟩ := hrel
    have HA : Hid (∀ j, j < k → l.getD j 0 = 32) := hall
    clear hall
    by_cases hlt : k < n
    · obtain ⟨b, off, hx, hcell⟩ := H.out k (by rw [HN.out]; exact hlt)
      subst hx
      obtain ⟨v, hv⟩ : ∃ v, v = l.getD k 0 := ⟨_, rfl⟩
      rw [← hv] at hcell
      have HV : Hid (v = l.getD k 0) := hv
      clear hv
      by_cases h32 : (v == 32) = true
      · go_wp2
        go_round
        case rel =>
          refine ⟨k + 1, by omega, by go_num, fun j hj => ?_⟩
          by_cases hjk : j = k
          · subst hjk; rw [← HV.out]; simpa using h32
          · exact HA.out j (by omega)
        case measure => simp [intOf]; omega
      · go_wp2
        go_ret
        have := cs_eq l k HA.out (by rw [HN.out]; omega) (.inr (by rw [← HV.out]; simpa using h32))
        rw [this]
        exact ⟨rfl, rfl⟩
    · have hkn : k = n := by omega
      subst hkn
      go_wp2
      go_ret
      have := cs_eq l k HA.out (by rw [HN.out]; omega) (.inl (by rw [HN.out]))
      rw [this]
      exact ⟨rfl, rfl⟩
end Go.Proofs.Qxb6000678a

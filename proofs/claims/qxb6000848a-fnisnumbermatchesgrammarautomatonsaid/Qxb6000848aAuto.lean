import Derived.Test.Qxb6000848aNum
namespace Go.Proofs.Qxb6000848a
open Go.RowKit

/-- The automaton's step, as the law's text writes it. -/
def stp (st n : Int) : Int :=
  if st = 0 then (if n = 45 then 1 else if n = 48 then 2 else if 48 ≤ n ∧ n ≤ 57 then 3 else -1)
  else if st = 1 then (if n = 48 then 2 else if 48 ≤ n ∧ n ≤ 57 then 3 else -1)
  else if st = 2 then (if n = 46 then 4 else if n = 101 ∨ n = 69 then 6 else -1)
  else if st = 3 then (if 48 ≤ n ∧ n ≤ 57 then 3 else if n = 46 then 4 else if n = 101 ∨ n = 69 then 6 else -1)
  else if st = 4 then (if 48 ≤ n ∧ n ≤ 57 then 5 else -1)
  else if st = 5 then (if 48 ≤ n ∧ n ≤ 57 then 5 else if n = 101 ∨ n = 69 then 6 else -1)
  else if st = 6 then (if n = 43 ∨ n = 45 then 7 else if 48 ≤ n ∧ n ≤ 57 then 8 else -1)
  else if st = 7 then (if 48 ≤ n ∧ n ≤ 57 then 8 else -1)
  else if st = 8 then (if 48 ≤ n ∧ n ≤ 57 then 8 else -1)
  else -1

theorem ret_int {a b : Int} (h : a = b) : Ending.returned (.int .i64 a) = .returned (.int .i64 b) := by rw [h]

set_option maxRecDepth 20000 in
set_option maxHeartbeats 4000000 in
theorem step_any (st n : Int) (w : World) (h0 : st = 0 ∨ st = 1 ∨ st = 2 ∨ st = 3 ∨ st = 4 ∨ st = 5 ∨ st = 6 ∨ st = 7 ∨ st = 8) (hn0 : 0 ≤ n) (hn : n ≤ 255) :
    Calls Try.prog 19 #[.int .i64 st, .int .u8 n] w fun e w' => e = .returned (.int .i64 (stp st n)) ∧ w' = w := by
  obtain ⟨res, hres⟩ : ∃ res, res = stp st n := ⟨_, rfl⟩
  rw [← hres]
  have HR : Hid (res = stp st n) := hres
  clear hres
  have hcl : n = 43 ∨ n = 45 ∨ n = 46 ∨ n = 48 ∨ n = 101 ∨ n = 69 ∨ (49 ≤ n ∧ n ≤ 57) ∨ (n < 48 ∧ n ≠ 43 ∧ n ≠ 45 ∧ n ≠ 46) ∨ (57 < n ∧ n ≠ 101 ∧ n ≠ 69) := by omega
  rcases hcl with rfl | rfl | rfl | rfl | rfl | rfl | ⟨g1, g2⟩ | ⟨g1, g2, g3, g4⟩ | ⟨g1, g2, g3⟩
  case' inr.inr.inr.inr.inr.inr.inl => have hd : (48 ≤ n ∧ n ≤ 57) := by omega
  case' inr.inr.inr.inr.inr.inr.inr.inl => have hd : ¬ (48 ≤ n ∧ n ≤ 57) := by omega
  case' inr.inr.inr.inr.inr.inr.inr.inr => have hd : ¬ (48 ≤ n ∧ n ≤ 57) := by omega
  case' inr.inr.inr.inr.inr.inr.inl | inr.inr.inr.inr.inr.inr.inr.inl | inr.inr.inr.inr.inr.inr.inr.inr =>
    have e43 : (n == 43) = false := by simp only [beq_eq_false_iff_ne]; omega
    have e45 : (n == 45) = false := by simp only [beq_eq_false_iff_ne]; omega
    have e46 : (n == 46) = false := by simp only [beq_eq_false_iff_ne]; omega
    have e48 : (n == 48) = false := by simp only [beq_eq_false_iff_ne]; omega
    have e69 : (n == 69) = false := by simp only [beq_eq_false_iff_ne]; omega
    have e101 : (n == 101) = false := by simp only [beq_eq_false_iff_ne]; omega

    have HV : Hid (¬ n = 43 ∧ ¬ n = 45 ∧ ¬ n = 46 ∧ ¬ n = 48 ∧ ¬ n = 69 ∧ ¬ n = 101) := by
      show ¬ n = 43 ∧ ¬ n = 45 ∧ ¬ n = 46 ∧ ¬ n = 48 ∧ ¬ n = 69 ∧ ¬ n = 101
      omega
    have HD : Hid _ := hd
    clear hd
  all_goals rcases h0 with rfl | rfl | rfl | rfl | rfl | rfl | rfl | rfl | rfl
  all_goals
    go_enter Try.func19, Try.ntmps19
    go_wp2
    go_ret
    first
    | exact ⟨ret_int (by rw [HR.out]; rfl), rfl⟩
    | exact ⟨ret_int (by rw [HR.out]; unfold stp; simp [HV.out, HD.out] <;> omega), rfl⟩
end Go.Proofs.Qxb6000848a

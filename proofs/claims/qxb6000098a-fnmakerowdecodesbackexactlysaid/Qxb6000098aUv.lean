import Derived.Test.Qxb6000098aBytes
namespace Go.Proofs.Qxb6000098a
open Go.RowKit

/-- The bytes of a number below 2^21 as a uvarint: at most three. -/
def uv (n : Nat) : List UInt8 :=
  if n < 128 then [UInt8.ofNat n]
  else if n < 16384 then [UInt8.ofNat (n % 128 + 128), UInt8.ofNat (n / 128)]
  else [UInt8.ofNat (n % 128 + 128), UInt8.ofNat (n / 128 % 128 + 128), UInt8.ofNat (n / 16384)]

def uvLen (n : Nat) : Nat := (uv n).length

theorem uvLen_le (n : Nat) : 1 ≤ uvLen n ∧ uvLen n ≤ 3 := by
  unfold uvLen uv; split
  · simp
  · split <;> simp
theorem uvLen_small (n : Nat) (h : n < 128) : uvLen n = 1 := by unfold uvLen uv; rw [if_pos h]; rfl
theorem uv_small (n : Nat) (h : n < 128) : uv n = [UInt8.ofNat n] := by unfold uv; rw [if_pos h]
theorem uv_step (n : Nat) (h : 128 ≤ n) (hn : n < 2097152) : uv n = UInt8.ofNat (n % 128 + 128) :: uv (n / 128) := by
  unfold uv
  rw [if_neg (by omega)]
  by_cases h2 : n < 16384
  · rw [if_pos h2, if_pos (by omega)]
  · rw [if_neg h2, if_neg (by omega), if_pos (by omega), Nat.div_div_eq_div_mul]
theorem uvLen_step (n : Nat) (h : 128 ≤ n) (hn : n < 2097152) : uvLen n = uvLen (n / 128) + 1 := by
  unfold uvLen; rw [uv_step n h hn]; rfl

set_option maxHeartbeats 400000 in
theorem uvLen_any (n : Nat) (w : World) (hn : (n : Int) ≤ 2097151) :
    Calls Try.prog 32 #[.int .i64 n] w fun e w' => e = .returned (.int .i64 (uvLen n)) ∧ w' = w := by
  go_enter Try.func32, Try.ntmps32
  go_wp2
  go_loop [0, 3] (fun x s => ∃ q k : Nat, x = .int .i64 q ∧ s = .int .i64 k ∧ q ≤ 2097151 ∧ k ≤ 3 ∧ k + uvLen q = uvLen n + 1) (fun x _ => (intOf x).toNat)
  case atStart => exact ⟨n, 1, rfl, rfl, by omega, by omega, by omega⟩
  case round =>
    obtain ⟨q, k, rfl, rfl, hq0, hk, h⟩ := hrel
    have hq : (q : Int) ≤ 2097151 := by omega
    have hl := uvLen_le q
    have hl' := uvLen_le n
    have H : Hid (k + uvLen q = uvLen n + 1) := h
    clear h hn hq0
    by_cases hlt : (128 : Int) ≤ q
    · have HS : Hid (uvLen q = uvLen (q / 128) + 1) := uvLen_step q (by omega) (by omega)
      have hl3 := uvLen_le (q / 128)
      go_wp2
      go_round
      case rel => exact ⟨q / 128, k + 1, by go_num, by go_num, by omega, by have := HS.out; have := H.out; omega, by have := HS.out; have := H.out; omega⟩
      case measure => simp [intOf]; omega
    · have HS : Hid (uvLen q = 1) := uvLen_small q (by omega)
      go_wp2
      go_ret
      have e1 : k = uvLen n := by have := HS.out; have := H.out; omega
      subst e1
      exact ⟨rfl, rfl⟩
end Go.Proofs.Qxb6000098a

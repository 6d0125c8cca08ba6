import Derived.Test.Qxb6000098aUv
namespace Go.Proofs.Qxb6000098a
open Go.RowKit

theorem and127 : ∀ t : Fin 256, bits BinOp.and IntKind.u8 ((t.val : Nat) : Int) 127 = ((t.val % 128 : Nat) : Int) := by decide +kernel
theorem and_eq (c : UInt8) : bits BinOp.and IntKind.u8 (c.toNat : Int) 127 = ((c.toNat % 128 : Nat) : Int) := and127 ⟨c.toNat, c.toNat_lt⟩
theorem u64_small (x : Nat) (h : x < 18446744073709551616) : IntKind.u64.wrap (x : Int) = x := by rw [IntKind.wrap_u64]; omega
theorem or_add (k a b : Nat) (ha : a < 2 ^ k) (h1 : a < 18446744073709551616) (h2 : b * 2 ^ k < 18446744073709551616) :
    bits BinOp.or IntKind.u64 (a : Int) ((b * 2 ^ k : Nat) : Int) = ((a + b * 2 ^ k : Nat) : Int) := by
  rw [bits_or_u64_nat a (b * 2 ^ k) h1 h2]
  have := Nat.two_pow_add_eq_or_of_lt ha b
  rw [Nat.or_comm, Nat.mul_comm b, ← this, Nat.add_comm]

theorem acc1 (c : UInt8) : bits BinOp.or IntKind.u64 0 (IntKind.u64.wrap (IntKind.u64.wrap (bits BinOp.and IntKind.u8 (c.toNat : Int) 127))) = ((c.toNat % 128 : Nat) : Int) := by
  rw [and_eq, u64_small _ (by omega), u64_small _ (by omega)]
  have := or_add 0 0 (c.toNat % 128) (by omega) (by omega) (by omega)
  simpa using this
theorem acc2 (x : Nat) (hx : x < 128) (c : UInt8) :
    bits BinOp.or IntKind.u64 (x : Int) (IntKind.u64.wrap (IntKind.u64.wrap (bits BinOp.and IntKind.u8 (c.toNat : Int) 127) * 128)) = ((x + c.toNat % 128 * 128 : Nat) : Int) := by
  rw [and_eq, u64_small _ (by omega), show ((c.toNat % 128 : Nat) : Int) * 128 = ((c.toNat % 128 * 128 : Nat) : Int) by omega, u64_small _ (by omega)]
  exact or_add 7 x (c.toNat % 128) hx (by omega) (by omega)
theorem acc3 (x : Nat) (hx : x < 16384) (c : UInt8) :
    bits BinOp.or IntKind.u64 (x : Int) (IntKind.u64.wrap (IntKind.u64.wrap (bits BinOp.and IntKind.u8 (c.toNat : Int) 127) * 16384)) = ((x + c.toNat % 128 * 16384 : Nat) : Int) := by
  rw [and_eq, u64_small _ (by omega), show ((c.toNat % 128 : Nat) : Int) * 16384 = ((c.toNat % 128 * 16384 : Nat) : Int) by omega, u64_small _ (by omega)]
  exact or_add 14 x (c.toNat % 128) hx (by omega) (by omega)

/-- The bytes of n as a uvarint lie in s at pos. -/
def UvAt (s : ByteArray) (pos n : Nat) : Prop := ∀ i, i < uvLen n → s.data.toList[pos + i]? = (uv n)[i]?

theorem byte_at {s : ByteArray} {p : Nat} {c : UInt8} (h : s.data.toList[p]? = some c) : ∃ hp : p < s.size, s[p] = c := by
  obtain ⟨hp, he⟩ := List.getElem?_eq_some_iff.1 h
  have hp' : p < s.size := by simpa using hp
  exact ⟨hp', by rw [← he]; rfl⟩

theorem ret3 {a b : Int} {k : Nat} (h : a = b) : Ending.returned (.tuple #[.int .u64 a, .int .i64 (k : Int), .bool true]) = .returned (.tuple #[.int .u64 b, .int .i64 (k : Int), .bool true]) := by rw [h]

set_option maxRecDepth 20000 in
set_option maxHeartbeats 400000 in
theorem read_1 (s : ByteArray) (pos : Nat) (w : World) (hs : (s.size : Int) ≤ 1000000000000000) (hp : (pos : Int) < s.size) (h0 : ((s[pos]'(by omega)).toNat : Int) ≤ 127) :
    Calls Try.prog 25 #[.string s, .int .i64 pos] w fun e w' => e = .returned (.tuple #[.int .u64 (((s[pos]'(by omega)).toNat % 128 : Nat) : Int), .int .i64 (1 : Nat), .bool true]) ∧ w' = w := by
  obtain ⟨v, hv⟩ : ∃ v : Int, v = (((s[pos]'(by omega)).toNat % 128 : Nat) : Int) := ⟨_, rfl⟩
  rw [← hv]
  have HV : Hid (v = (((s[pos]'(by omega)).toNat % 128 : Nat) : Int)) := hv
  clear hv
  go_enter Try.func25, Try.ntmps25
  go_wp2
  refine wp_loop_rounds 1 ?_
  rw [rounds_succ]
  go_wp2
  all_goals go_ret3
  · refine ⟨ret3 (k := 1) ?_, rfl⟩
    have h := acc1 (s[pos]'(by omega))
    have hz : (s[pos]'(by omega)).toNat = 0 := by assumption
    rw [HV.out]
    rw [hz] at h ⊢
    exact h
  · refine ⟨ret3 (k := 1) ?_, rfl⟩
    rw [HV.out, acc1]

set_option maxRecDepth 20000 in
set_option maxHeartbeats 400000 in
theorem read_2 (s : ByteArray) (pos : Nat) (w : World) (hs : (s.size : Int) ≤ 1000000000000000) (hp : (pos : Int) + 1 < s.size)
    (h0 : (128 : Int) ≤ (s[pos]'(by omega)).toNat) (h2 : (1 : Int) ≤ (s[pos + 1]'(by omega)).toNat) (h2' : ((s[pos + 1]'(by omega)).toNat : Int) ≤ 127) :
    Calls Try.prog 25 #[.string s, .int .i64 pos] w fun e w' => e = .returned (.tuple #[.int .u64 (((s[pos]'(by omega)).toNat % 128 + (s[pos + 1]'(by omega)).toNat % 128 * 128 : Nat) : Int), .int .i64 (2 : Nat), .bool true]) ∧ w' = w := by
  obtain ⟨v, hv⟩ : ∃ v : Int, v = (((s[pos]'(by omega)).toNat % 128 + (s[pos + 1]'(by omega)).toNat % 128 * 128 : Nat) : Int) := ⟨_, rfl⟩
  rw [← hv]
  have HV : Hid (v = (((s[pos]'(by omega)).toNat % 128 + (s[pos + 1]'(by omega)).toNat % 128 * 128 : Nat) : Int)) := hv
  clear hv
  go_enter Try.func25, Try.ntmps25
  go_wp2
  refine wp_loop_rounds 2 ?_
  rw [rounds_succ]
  go_wp2
  rw [rounds_succ]
  go_wp2
  go_ret3
  refine ⟨ret3 (k := 2) ?_, rfl⟩
  rw [HV.out, acc1, acc2 _ (by omega)]

set_option maxRecDepth 20000 in
set_option maxHeartbeats 400000 in
theorem read_3 (s : ByteArray) (pos : Nat) (w : World) (hs : (s.size : Int) ≤ 1000000000000000) (hp : (pos : Int) + 2 < s.size)
    (h0 : (128 : Int) ≤ (s[pos]'(by omega)).toNat) (h1 : (128 : Int) ≤ (s[pos + 1]'(by omega)).toNat) (h2 : (1 : Int) ≤ (s[pos + 2]'(by omega)).toNat) (h2' : ((s[pos + 2]'(by omega)).toNat : Int) ≤ 127) :
    Calls Try.prog 25 #[.string s, .int .i64 pos] w fun e w' => e = .returned (.tuple #[.int .u64 (((s[pos]'(by omega)).toNat % 128 + (s[pos + 1]'(by omega)).toNat % 128 * 128 + (s[pos + 2]'(by omega)).toNat % 128 * 16384 : Nat) : Int), .int .i64 (3 : Nat), .bool true]) ∧ w' = w := by
  obtain ⟨v, hv⟩ : ∃ v : Int, v = (((s[pos]'(by omega)).toNat % 128 + (s[pos + 1]'(by omega)).toNat % 128 * 128 + (s[pos + 2]'(by omega)).toNat % 128 * 16384 : Nat) : Int) := ⟨_, rfl⟩
  rw [← hv]
  have HV : Hid (v = (((s[pos]'(by omega)).toNat % 128 + (s[pos + 1]'(by omega)).toNat % 128 * 128 + (s[pos + 2]'(by omega)).toNat % 128 * 16384 : Nat) : Int)) := hv
  clear hv
  go_enter Try.func25, Try.ntmps25
  go_wp2
  refine wp_loop_rounds 3 ?_
  rw [rounds_succ]
  go_wp2
  rw [rounds_succ]
  go_wp2
  rw [rounds_succ]
  go_wp2
  go_ret3
  refine ⟨ret3 (k := 3) ?_, rfl⟩
  rw [HV.out, acc1, acc2 _ (by omega), acc3 _ (by omega)]

theorem toNat_small (n : Nat) (h : n < 256) : (UInt8.ofNat n).toNat = n := UInt8.toNat_ofNat_of_lt' (by simpa [UInt8.size] using h)

/-- readCanonicalUvarint at the bytes of a number below 2^20. -/
theorem read_any (s : ByteArray) (pos n : Nat) (w : World) (hs : (s.size : Int) ≤ 1000000000000000) (hn : n ≤ 1048576) (hu : UvAt s pos n) :
    Calls Try.prog 25 #[.string s, .int .i64 pos] w fun e w' => e = .returned (.tuple #[.int .u64 n, .int .i64 (uvLen n), .bool true]) ∧ w' = w := by
  by_cases h1 : n < 128
  · have hL : uvLen n = 1 := uvLen_small n h1
    have hU : uv n = [UInt8.ofNat n] := uv_small n h1
    have b0 := hu 0 (by omega)
    rw [hU] at b0
    obtain ⟨p0, e0⟩ := byte_at (s := s) b0
    have n0 : (s[pos]'p0).toNat = n := by rw [show s[pos]'p0 = UInt8.ofNat n from e0, toNat_small n (by omega)]
    have R := read_1 s pos w hs (by omega) (by rw [n0]; omega)
    rw [n0, show n % 128 = n by omega, ← hL] at R
    exact R
  · by_cases h2 : n < 16384
    · have hU : uv n = [UInt8.ofNat (n % 128 + 128), UInt8.ofNat (n / 128)] := by unfold uv; rw [if_neg h1, if_pos h2]
      have hL : uvLen n = 2 := by unfold uvLen; rw [hU]; rfl
      have b0 := hu 0 (by omega)
      have b1 := hu 1 (by omega)
      rw [hU] at b0 b1
      obtain ⟨p0, e0⟩ := byte_at (s := s) b0
      obtain ⟨p1, e1⟩ := byte_at (s := s) b1
      have n0 : (s[pos]'p0).toNat = n % 128 + 128 := by rw [show s[pos]'p0 = UInt8.ofNat (n % 128 + 128) from e0, toNat_small _ (by omega)]
      have n1 : (s[pos + 1]'p1).toNat = n / 128 := by rw [e1, toNat_small _ (by omega)]
      have R := read_2 s pos w hs (by omega) (by rw [n0]; omega) (by rw [n1]; omega) (by rw [n1]; omega)
      rw [n0, n1, show (n % 128 + 128) % 128 + n / 128 % 128 * 128 = n by omega, ← hL] at R
      exact R
    · have hU : uv n = [UInt8.ofNat (n % 128 + 128), UInt8.ofNat (n / 128 % 128 + 128), UInt8.ofNat (n / 16384)] := by unfold uv; rw [if_neg h1, if_neg h2]
      have hL : uvLen n = 3 := by unfold uvLen; rw [hU]; rfl
      have b0 := hu 0 (by omega)
      have b1 := hu 1 (by omega)
      have b2 := hu 2 (by omega)
      rw [hU] at b0 b1 b2
      obtain ⟨p0, e0⟩ := byte_at (s := s) b0
      obtain ⟨p1, e1⟩ := byte_at (s := s) b1
      obtain ⟨p2, e2⟩ := byte_at (s := s) b2
      have n0 : (s[pos]'p0).toNat = n % 128 + 128 := by rw [show s[pos]'p0 = UInt8.ofNat (n % 128 + 128) from e0, toNat_small _ (by omega)]
      have n1 : (s[pos + 1]'p1).toNat = n / 128 % 128 + 128 := by rw [e1, toNat_small _ (by omega)]
      have n2 : (s[pos + 2]'p2).toNat = n / 16384 := by rw [e2, toNat_small _ (by omega)]
      have R := read_3 s pos w hs (by omega) (by rw [n0]; omega) (by rw [n1]; omega) (by rw [n2]; omega) (by rw [n2]; omega)
      rw [n0, n1, n2, show (n % 128 + 128) % 128 + (n / 128 % 128 + 128) % 128 * 128 + n / 16384 % 128 * 16384 = n by omega, ← hL] at R
      exact R
end Go.Proofs.Qxb6000098a

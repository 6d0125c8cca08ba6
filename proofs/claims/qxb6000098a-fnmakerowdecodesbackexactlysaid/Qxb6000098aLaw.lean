import Derived.Test.Qxb6000098aMake
import Derived.Test.Qxb6000098aRead
namespace Go.Proofs.Qxb6000098a
open Go.RowKit

theorem fieldB_len (kd nm : Int) (s : ByteArray) (hs : s.size ≤ 1048576) : (fieldB kd nm s).length ≤ 1048586 := by
  unfold fieldB
  have := uvLen_le s.size
  unfold uvLen at this
  split
  · simp [le8_length]
  · simp; omega

theorem rowB_len (key : List UInt8) (ks ns : Nat → Int) (ss : Nat → ByteArray) (hs : ∀ i, (ss i).size ≤ 1048576) (n : Nat) : (rowB key ks ns ss n).length ≤ key.length + n * 1048586 := by
  induction n with
  | zero => simp [rowB]
  | succ n ih => have := fieldB_len (ks n) (ns n) (ss n) (hs n); simp [rowB]; omega

theorem rowB_split (key : List UInt8) (ks ns : Nat → Int) (ss : Nat → ByteArray) (k d : Nat) : ∃ t, rowB key ks ns ss (k + d) = rowB key ks ns ss k ++ t := by
  induction d with
  | zero => exact ⟨[], by simp⟩
  | succ d ih =>
    obtain ⟨t, ht⟩ := ih
    exact ⟨t ++ fieldB (ks (k + d)) (ns (k + d)) (ss (k + d)), by rw [show k + (d + 1) = (k + d) + 1 by omega, rowB, ht, List.append_assoc]⟩

theorem row_key {row key : ByteArray} {ks ns : Nat → Int} {ss : Nat → ByteArray} {n : Nat} (h : row.data.toList = rowB key.data.toList ks ns ss n) :
    key.size ≤ row.size ∧ row.extract 0 key.size = key := by
  obtain ⟨t, ht⟩ := rowB_split key.data.toList ks ns ss 0 n
  rw [Nat.zero_add, rowB] at ht
  rw [ht] at h
  have hl : row.size = key.size + t.length := by
    have := congrArg List.length h
    simpa using this
  refine ⟨by omega, ?_⟩
  apply ByteArray.ext
  apply Array.toList_inj.1
  rw [ByteArray.data_extract, Array.toList_extract, h]
  simp

theorem row_field {row : ByteArray} {key : List UInt8} {ks ns : Nat → Int} {ss : Nat → ByteArray} {n : Nat} (h : row.data.toList = rowB key ks ns ss n) (k : Nat) (hk : k < n) :
    ∃ t, row.data.toList = rowB key ks ns ss k ++ (fieldB (ks k) (ns k) (ss k) ++ t) := by
  obtain ⟨t, ht⟩ := rowB_split key ks ns ss (k + 1) (n - (k + 1))
  rw [show k + 1 + (n - (k + 1)) = n by omega] at ht
  exact ⟨t, by rw [h, ht, rowB, List.append_assoc]⟩

/-- What the decoder meets at a field that is an integer. -/
theorem field_int {row : ByteArray} {a t : List UInt8} {kd nm : Int} {s : ByteArray} (h : row.data.toList = a ++ (fieldB kd nm s ++ t)) (hk : kd = 1) :
    a.length + 9 ≤ row.size ∧ (∃ hp : a.length < row.size, (row[a.length]).toNat = 1) ∧ (∀ i, i < 8 → ∃ hp : a.length + 1 + i < row.size, row[a.length + 1 + i] = leb nm i) ∧ (fieldB kd nm s).length = 9 := by
  have hf : fieldB kd nm s = UInt8.ofNat 1 :: le8 nm 8 := by unfold fieldB; rw [if_pos hk, hk]; rfl
  have hl : (fieldB kd nm s).length = 9 := by rw [hf]; simp [le8_length]
  have hsz : a.length + 9 ≤ row.size := by
    have := congrArg List.length h
    simp [hl] at this
    omega
  refine ⟨hsz, ⟨by omega, ?_⟩, fun i hi => ⟨by omega, ?_⟩, hl⟩
  · have : row.data.toList[a.length]? = some (UInt8.ofNat 1) := by rw [h, hf]; simp
    obtain ⟨_, e⟩ := byte_at this
    rw [e]; rfl
  · have : row.data.toList[a.length + 1 + i]? = some (leb nm i) := by
      rw [h, hf, List.getElem?_append_right (by omega), show a.length + 1 + i - a.length = i + 1 by omega]
      simp [le8, List.getElem?_append, hi]
    obtain ⟨_, e⟩ := byte_at this
    exact e

/-- .. and at one that is a string. -/
theorem field_str {row : ByteArray} {a t : List UInt8} {kd nm : Int} {s : ByteArray} (h : row.data.toList = a ++ (fieldB kd nm s ++ t)) (hk : kd = 2) :
    a.length + 1 + uvLen s.size + s.size ≤ row.size ∧ (∃ hp : a.length < row.size, (row[a.length]).toNat = 2) ∧ UvAt row (a.length + 1) s.size ∧
      row.extract (a.length + 1 + uvLen s.size) (a.length + 1 + uvLen s.size + s.size) = s ∧ (fieldB kd nm s).length = 1 + uvLen s.size + s.size := by
  have hf : fieldB kd nm s = UInt8.ofNat 2 :: (uv s.size ++ s.data.toList) := by unfold fieldB; rw [if_neg (by omega), hk]; rfl
  have hl : (fieldB kd nm s).length = 1 + uvLen s.size + s.size := by rw [hf]; simp [uvLen]; omega
  have hsz : a.length + 1 + uvLen s.size + s.size ≤ row.size := by
    have := congrArg List.length h
    simp [hl] at this
    omega
  refine ⟨hsz, ⟨by have := (uvLen_le s.size).1; omega, ?_⟩, fun i hi => ?_, ?_, hl⟩
  · have : row.data.toList[a.length]? = some (UInt8.ofNat 2) := by rw [h, hf]; simp
    obtain ⟨_, e⟩ := byte_at this
    rw [e]; rfl
  · rw [h, hf, List.getElem?_append_right (by omega), show a.length + 1 + i - a.length = i + 1 by omega]
    unfold uvLen at hi
    rw [List.cons_append, List.getElem?_cons_succ, List.append_assoc, List.getElem?_append_left hi]
  · apply ByteArray.ext
    apply Array.toList_inj.1
    have h2 : row.data.toList = (a ++ (UInt8.ofNat 2 :: uv s.size)) ++ (s.data.toList ++ t) := by rw [h, hf]; simp
    have hl2 : (a ++ (UInt8.ofNat 2 :: uv s.size)).length = a.length + 1 + uvLen s.size := by simp [uvLen]; omega
    rw [ByteArray.data_extract, Array.toList_extract, h2, List.extract_eq_take_drop, ← hl2, List.drop_left, Nat.add_sub_cancel_left, show s.size = s.data.toList.length by simp, List.take_left]

/-- The integer's bytes, taken from the highest down. -/
def hi8 (x : Int) (i : Nat) : Nat := (IntKind.u64.wrap x).toNat / 2 ^ (64 - 8 * i)
theorem u64_wrap_lt (x : Int) : (IntKind.u64.wrap x).toNat < 18446744073709551616 := by rw [IntKind.wrap_u64]; omega
theorem hi8_lt (x : Int) (i : Nat) (h : i < 8) : hi8 x i < 72057594037927936 := by
  unfold hi8
  have := u64_wrap_lt x
  rw [Nat.div_lt_iff_lt_mul (Nat.two_pow_pos _)]
  have : 72057594037927936 * 2 ^ (64 - 8 * i) ≥ 72057594037927936 * 2 ^ 8 := Nat.mul_le_mul_left _ (Nat.pow_le_pow_right (by omega) (by omega))
  omega
theorem hi8_step (x : Int) (i : Nat) (h : i < 8) : hi8 x (i + 1) = hi8 x i * 256 + (leb x (7 - i)).toNat := by
  unfold hi8 leb
  rw [toNat_small _ (by omega), show 64 - 8 * i = (64 - 8 * (i + 1)) + 8 by omega, Nat.pow_add, ← Nat.div_div_eq_div_mul, show 8 * (7 - i) = 64 - 8 * (i + 1) by omega]
  omega
theorem hi8_zero (x : Int) : hi8 x 0 = 0 := by unfold hi8; exact Nat.div_eq_of_lt (u64_wrap_lt x)
theorem hi8_full (x : Int) (h0 : -9223372036854775808 ≤ x) (h1 : x ≤ 9223372036854775807) : IntKind.i64.wrap ((hi8 x 8 : Nat) : Int) = x := by
  unfold hi8
  rw [IntKind.wrap_u64, IntKind.wrap_i64]
  simp
  omega
theorem hi8_or (x : Int) (i : Nat) (h : i < 8) : bits BinOp.or IntKind.u64 (IntKind.u64.wrap ((hi8 x i : Int) * 256)) (IntKind.u64.wrap ((leb x (7 - i)).toNat : Int)) = ((hi8 x (i + 1) : Nat) : Int) := by
  have h1 := hi8_lt x i h
  have h2 := (leb x (7 - i)).toNat_lt
  rw [show ((hi8 x i : Int) * 256) = ((hi8 x i * 256 : Nat) : Int) by omega, u64_small _ (by omega), u64_small _ (by omega), hi8_step x i h]
  rw [bits_or_u64_nat _ _ (by omega) (by omega)]
  have := Nat.two_pow_add_eq_or_of_lt (i := 8) h2 (hi8 x i)
  rw [Nat.mul_comm (hi8 x i), ← this]
end Go.Proofs.Qxb6000098a

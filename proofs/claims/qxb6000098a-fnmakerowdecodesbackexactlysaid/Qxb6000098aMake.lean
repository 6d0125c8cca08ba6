import Derived.Test.Qxb6000098aUv
import Derived.Test.Qxb6000098aShelf
import Derived.Deep.QuietTactic
import Derived.BigQuiet
namespace Go.Proofs.Qxb6000098a
open Go.RowKit

/-- A record's fields in memory: three cells each. -/
def RecAt (w : World) (a : Option Addr) (n : Nat) (ks ns : Nat → Int) (ss : Nat → ByteArray) : Prop :=
  ∀ i, i < n → ∃ b off, a = some ⟨b, off, none⟩ ∧ w.cell? ⟨b, off + i * 3, none⟩ = some (.int .u8 (ks i)) ∧
    w.cell? ⟨b, off + i * 3 + 1, none⟩ = some (.int .i64 (ns i)) ∧ w.cell? ⟨b, off + i * 3 + 2, none⟩ = some (.string (ss i))

/-- The bytes of an integer, the lowest first. -/
def leb (x : Int) (i : Nat) : UInt8 := UInt8.ofNat ((IntKind.u64.wrap x).toNat / 2 ^ (8 * i) % 256)
theorem u64_wrap_nonneg (x : Int) : 0 ≤ IntKind.u64.wrap x := by rw [IntKind.wrap_u64]; omega
theorem leb_eq (x : Int) (i : Nat) : IntKind.u64.wrap x / 2 ^ (8 * i) % 256 = ((leb x i).toNat : Int) := by
  obtain ⟨y, hy⟩ := Int.eq_ofNat_of_zero_le (u64_wrap_nonneg x)
  unfold leb
  rw [hy, UInt8.toNat_ofNat_of_lt' (by simp [UInt8.size]; omega), Int.toNat_natCast]
  simp
theorem or128 : ∀ t : Fin 256, bits BinOp.or IntKind.u8 ((t.val : Nat) : Int) 128 = ((t.val % 128 + 128 : Nat) : Int) := by decide +kernel
theorem or_eq (r : Nat) : bits BinOp.or IntKind.u8 ((r : Int) % 256) 128 = ((UInt8.ofNat (r % 128 + 128)).toNat : Int) := by
  have h := or128 ⟨r % 256, by omega⟩
  simp only at h
  rw [show ((r : Int) % 256) = ((r % 256 : Nat) : Int) by omega, h, UInt8.toNat_ofNat_of_lt' (by simp [UInt8.size]; omega)]
  omega
def le8 (x : Int) (k : Nat) : List UInt8 := (List.range k).map (leb x)
theorem le8_succ (x : Int) (k : Nat) : le8 x (k + 1) = le8 x k ++ [leb x k] := by simp [le8, List.range_succ]
theorem le8_length (x : Int) (k : Nat) : (le8 x k).length = k := by simp [le8]

/-- One field of the row, and the row. -/
def fieldB (kd nm : Int) (s : ByteArray) : List UInt8 := UInt8.ofNat kd.toNat :: (if kd = 1 then le8 nm 8 else uv s.size ++ s.data.toList)
def rowB (key : List UInt8) (ks ns : Nat → Int) (ss : Nat → ByteArray) : Nat → List UInt8
  | 0 => key
  | n + 1 => rowB key ks ns ss n ++ fieldB (ks n) (ns n) (ss n)

/-- What the second loop's round keeps: the builder's bytes; the loop variable's block; below, all is as it was. -/
def MkInv (w0 : World) (B V : Nat) (kd nm : Int) (s : ByteArray) (l : List UInt8) (w : World) : Prop :=
  Lib.IsBuilderF 61 5 B B (Lib.byteCells l) w ∧ w.heap[V]? = some (.cells #[.int .u8 kd, .int .i64 nm, .string s] 55 (0, 0)) ∧ V ≠ B ∧ B ≤ w.heap.size ∧ Below B w0 w

theorem MkInv.c0 {w0 w : World} {B V : Nat} {kd nm : Int} {s : ByteArray} {l : List UInt8} (h : MkInv w0 B V kd nm s l w) : w.cell? ⟨V, 0, none⟩ = some (.int .u8 kd) := by
  rw [cell_of_row w V 0 _ 55 (0, 0) h.2.1]; rfl
theorem MkInv.c1 {w0 w : World} {B V : Nat} {kd nm : Int} {s : ByteArray} {l : List UInt8} (h : MkInv w0 B V kd nm s l w) : w.cell? ⟨V, 1, none⟩ = some (.int .i64 nm) := by
  rw [cell_of_row w V 1 _ 55 (0, 0) h.2.1]; rfl
theorem MkInv.c2 {w0 w : World} {B V : Nat} {kd nm : Int} {s : ByteArray} {l : List UInt8} (h : MkInv w0 B V kd nm s l w) : w.cell? ⟨V, 2, none⟩ = some (.string s) := by
  rw [cell_of_row w V 2 _ 55 (0, 0) h.2.1]; rfl

theorem wbyte {w0 w : World} {B V : Nat} {kd nm : Int} {s : ByteArray} {l : List UInt8} (h : MkInv w0 B V kd nm s l w) (c : Int) (c' : UInt8) (hc : c = (c'.toNat : Int)) (hlen : l.length ≤ 100000000000000) :
    Calls Try.prog 35 #[.pointer (some ⟨B, 0, none⟩), .int .u8 c] w fun e w' => e = .returned .nilIface ∧ MkInv w0 B V kd nm s (l ++ [c']) w' := by
  obtain ⟨h1, h2, h3, h4, h5⟩ := h
  refine (Try.Builder_WriteByte_k B B (Lib.byteCells l) c w h1 (by rw [Lib.byteCells_length]; omega) h4).mono ?_
  rintro e w' ⟨rfl, hb, hbel, hok⟩
  refine ⟨rfl, .inr ?_, hok V _ h2 (by simpa using h3) (by simp), h3, Nat.le_trans h4 hbel.size, h5.trans hbel⟩
  rw [Lib.byteCells_append, show Lib.byteCells [c'] = [Value.int .u8 c] by rw [hc]; rfl]
  exact hb

theorem wstring {w0 w : World} {B V : Nat} {kd nm : Int} {s : ByteArray} {l : List UInt8} (h : MkInv w0 B V kd nm s l w) (t : ByteArray) (hlen : l.length + t.size ≤ 100000000000000) :
    Calls Try.prog 34 #[.pointer (some ⟨B, 0, none⟩), .string t] w fun e w' => e = .returned (.tuple #[.int .i64 t.size, .nilIface]) ∧ MkInv w0 B V kd nm s (l ++ t.data.toList) w' := by
  obtain ⟨h1, h2, h3, h4, h5⟩ := h
  refine (Try.Builder_WriteString_k B B (Lib.byteCells l) t w h1 (by rw [Lib.byteCells_length]; omega) h4).mono ?_
  rintro e w' ⟨rfl, hb, hbel, hok⟩
  refine ⟨rfl, .inr ?_, hok V _ h2 (by simpa using h3) (by simp), h3, Nat.le_trans h4 hbel.size, h5.trans hbel⟩
  rw [Lib.byteCells_append, ← Lib.strCells_eq]
  exact hb

theorem MkInv.start {w0 w : World} {B : Nat} (kd nm : Int) (s : ByteArray) {l : List UInt8} (h : Lib.IsBuilderF 61 5 B B (Lib.byteCells l) w) (hb : Below B w0 w) :
    MkInv w0 B w.heap.size kd nm s l (w.alloc (.cells #[.int .u8 kd, .int .i64 nm, .string s] 55)) := by
  have hlt : B < w.heap.size := h.elim (fun x => x.lt) (fun x => x.lt)
  exact ⟨h.alloc _, heap_alloc_new w _, by omega, by simp; omega, hb.alloc (by omega) _⟩

set_option maxHeartbeats 400000 in
theorem make_any (key : ByteArray) (a : Option Addr) (n c : Nat) (ks ns : Nat → Int) (ss : Nat → ByteArray) (w : World) (hn : (n : Int) ≤ 1048576)
    (hk : (key.size : Int) ≤ 1048576) (hs : ∀ i, ((ss i).size : Int) ≤ 1048576) (hks : ∀ i, i < n → 0 ≤ ks i ∧ ks i ≤ 255) (hr : RecAt w a n ks ns ss) :
    Calls Try.prog 29 #[.string key, .slice a n c] w fun e w' =>
      e = .returned (.string ⟨(rowB key.data.toList ks ns ss n).toArray⟩) ∧ Below w.heap.size w w' := by
  have HR : Hid (RecAt w a n ks ns ss) := hr
  clear hr
  go_enter Try.func29, Try.ntmps29
  go_wp2
  go_loopw [5, 17] (fun z i wr => ∃ k m : Nat, k ≤ n ∧ i = .int .i64 k ∧ z = .int .i64 m ∧ m ≤ 1048576 + k * 1048586 ∧ Below w.heap.size w wr)
      (fun _ i _ => n - (intOf i).toNat)
  case atStart => exact ⟨0, key.size, Nat.zero_le _, rfl, rfl, by omega, Below.refl _ _⟩
  case round =>
    obtain ⟨k, m, hkn, rfl, rfl, hm, hb⟩ := hrel
    by_cases hlt : k < n
    · obtain ⟨b, off, hx, h1, h2, h3⟩ := HR.out k hlt
      subst hx
      replace h1 := cell_later hb h1
      replace h2 := cell_later hb h2
      replace h3 := cell_later hb h3
      have HB : Hid (Below w.heap.size w wr) := hb
      have hsz := hb.size
      have hsk := hs k
      clear hb hs hks
      by_cases hk1 : (ks k == 1) = true
      · go_wp2
        go_roundw
        case rel => exact ⟨k + 1, m + 9, by omega, by go_num, by go_num, by omega, HB.out.alloc hsz _⟩
        case measure => simp [intOf]; omega
      · have hul := uvLen_le (ss k).size
        go_wp2
        go_quiet ((go_at_call 32; exact Calls.quiet_of_same (uvLen_any _ _ (by omega))))
        go_wp2
        go_roundw
        case rel => exact ⟨k + 1, m + (1 + uvLen (ss k).size + (ss k).size), by omega, by go_num, by go_num, by omega, below_drewN (HB.out.alloc hsz _) _⟩
        case measure => simp [intOf]; omega
    · obtain ⟨w3, hw3⟩ : ∃ w3, w3 = wr := ⟨_, rfl⟩
      subst hw3
      go_wp2_with (go_at_call 33; refine (Try.Builder_Grow_fresh w3.heap.size w3.heap.size m _ (Nat.le_refl _) (heap_alloc_new w3 _) (by simp) (by omega)).mono ?_; rintro e w1 ⟨rfl, hG, hGb⟩)
      have hB1 : Below w3.heap.size w3 w1 := ((Below.refl _ _).alloc (Nat.le_refl _) _).trans hGb
      refine (Try.Builder_WriteString_k w3.heap.size w3.heap.size [] key w1 (.inr (Lib.BuilderAtF.of hG)) (by simp; omega) hB1.size).mono ?_
      rintro e w2 ⟨rfl, hW, hWb, _⟩
      have HW : Hid (Lib.BuilderAtF 61 5 w3.heap.size w3.heap.size (.pointer (some ⟨w3.heap.size, 0, none⟩)) (Lib.byteCells key.data.toList) w2) := by
        show Lib.BuilderAtF 61 5 w3.heap.size w3.heap.size (.pointer (some ⟨w3.heap.size, 0, none⟩)) (Lib.byteCells key.data.toList) w2
        simpa [Lib.strCells_eq] using hW
      have HB2 : Hid (Below w3.heap.size w3 w2) := hB1.trans hWb
      clear hW hWb hB1 hG hGb
      go_wp2
      go_loopw [44] (fun i wx => ∃ k : Nat, k ≤ n ∧ i = .int .i64 k ∧ (rowB key.data.toList ks ns ss k).length ≤ 1048576 + k * 1048586 ∧
          Lib.IsBuilderF 61 5 w3.heap.size w3.heap.size (Lib.byteCells (rowB key.data.toList ks ns ss k)) wx ∧ Below w3.heap.size w3 wx)
        (fun i _ => n - (intOf i).toNat)
      case atStart => exact ⟨0, Nat.zero_le _, rfl, by simp [rowB]; omega, .inr HW.out, HB2.out⟩
      case round =>
        clear HW HB2
        obtain ⟨q, hqn, rfl, hl, hB, hbel⟩ := hrel
        by_cases hq : q < n
        · obtain ⟨b, off, hx, h1, h2, h3⟩ := HR.out q hq
          subst hx
          have hbx : Below w.heap.size w wr := hb.trans (hbel.mono hb.size)
          replace h1 := cell_later hbx h1
          replace h2 := cell_later hbx h2
          replace h3 := cell_later hbx h3
          have M0 := MkInv.start (ks q) (ns q) (ss q) hB hbel
          clear hbx hB hbel
          have hkq := hks q hq
          have hsq := hs q
          clear hks hs
          obtain ⟨w5, hw5⟩ : ∃ w5, w5 = wr := ⟨_, rfl⟩
          subst hw5
          go_wp2_with fail
          refine (wbyte M0 _ (UInt8.ofNat (ks q).toNat) ?_ (by omega)).mono ?_
          · simp; omega
          · rintro e w4 ⟨rfl, M1⟩
            clear M0 h1 h2 h3
            have c0 := M1.c0
            have c1 := M1.c1
            have c2 := M1.c2
            by_cases hk1 : (ks q == 1) = true
            · go_wp2
              clear c0 c1 c2
              go_loopw [11] (fun sh wx => ∃ i : Nat, i ≤ 8 ∧ sh = .int .i64 (8 * i : Nat) ∧
                  MkInv w3 w3.heap.size w5.heap.size (ks q) (ns q) (ss q) (rowB key.data.toList ks ns ss q ++ [UInt8.ofNat (ks q).toNat] ++ le8 (ns q) i) wx) (fun sh _ => 64 - (intOf sh).toNat)
              case atStart => exact ⟨0, by omega, rfl, by simpa [le8] using M1⟩
              case round =>
                clear M1
                obtain ⟨i, hi, rfl, M2⟩ := hrel
                by_cases hi8 : i < 8
                · have c1 := M2.c1
                  go_wp2_with fail
                  refine (wbyte M2 _ (leb (ns q) i) (leb_eq _ _) (by simp [le8_length]; omega)).mono ?_
                  rintro e w6 ⟨rfl, M3⟩
                  clear M2 c1
                  go_wp2
                  go_roundw
                  case rel => exact ⟨i + 1, by omega, by go_num, by rw [le8_succ, ← List.append_assoc]; exact M3⟩
                  case measure => simp [intOf]; omega
                · have hi' : i = 8 := by omega
                  go_wp2
                  go_roundw
                  case rel =>
                    subst hi'
                    have e1 : rowB key.data.toList ks ns ss (q + 1) = rowB key.data.toList ks ns ss q ++ [UInt8.ofNat (ks q).toNat] ++ le8 (ns q) 8 := by
                      have : ks q = 1 := by simpa using hk1
                      rw [rowB, fieldB, if_pos this, List.append_assoc]; rfl
                    exact ⟨q + 1, by omega, by go_num, by rw [e1]; simp [le8_length]; omega, by rw [e1]; exact M2.1, M2.2.2.2.2⟩
                  case measure => simp [intOf]; omega
            · go_wp2
              clear c0 c1 c2
              go_loopw [12] (fun x wx => ∃ (r : Nat) (p : List UInt8), x = .int .i64 r ∧ p.length + uvLen r ≤ 3 ∧ p ++ uv r = uv (ss q).size ∧ r ≤ 1048576 ∧ 
                  MkInv w3 w3.heap.size w5.heap.size (ks q) (ns q) (ss q) (rowB key.data.toList ks ns ss q ++ [UInt8.ofNat (ks q).toNat] ++ p) wx) (fun x _ => (intOf x).toNat)
              case atStart => exact ⟨(ss q).size, [], rfl, by simpa using (uvLen_le _).2, by simp, by omega, by simpa using M1⟩
              case round =>
                clear M1
                obtain ⟨r, p, rfl, hp, hpu, hr0, M2⟩ := hrel
                have hr : (r : Int) ≤ 1048576 := by omega
                have HPU : Hid (p ++ uv r = uv (ss q).size) := hpu
                clear hpu hr0
                have hur := uvLen_le r
                by_cases hlt : (128 : Int) ≤ r
                · have HU : Hid (uv r = UInt8.ofNat (r % 128 + 128) :: uv (r / 128)) := uv_step r (by omega) (by omega)
                  have HL : Hid (uvLen r = uvLen (r / 128) + 1) := uvLen_step r (by omega) (by omega)
                  go_wp2_with fail
                  refine (wbyte M2 _ (UInt8.ofNat (r % 128 + 128)) (or_eq r) (by simp; omega)).mono ?_
                  rintro e w6 ⟨rfl, M3⟩
                  clear M2
                  go_wp2
                  go_roundw
                  case rel => exact ⟨r / 128, p ++ [UInt8.ofNat (r % 128 + 128)], by go_num, by have := HL.out; simp; omega, by rw [← HPU.out, HU.out]; simp, by omega, by rw [← List.append_assoc]; exact M3⟩
                  case measure => simp [intOf]; omega
                · have HU : Hid (uv r = [UInt8.ofNat r]) := uv_small r (by omega)
                  go_wp2_with fail
                  refine (wbyte M2 _ (UInt8.ofNat r) (by simp; omega) (by simp; omega)).mono ?_
                  rintro e w6 ⟨rfl, M3⟩
                  clear M2
                  have c2 := M3.c2
                  go_wp2_with fail
                  refine (wstring M3 (ss q) (by simp; omega)).mono ?_
                  rintro e w7 ⟨rfl, M4⟩
                  clear M3 c2
                  go_wp2
                  go_roundw
                  case rel =>
                    have e1 : rowB key.data.toList ks ns ss (q + 1) = rowB key.data.toList ks ns ss q ++ [UInt8.ofNat (ks q).toNat] ++ p ++ [UInt8.ofNat r] ++ (ss q).data.toList := by
                      have : ¬ ks q = 1 := by simpa using hk1
                      rw [rowB, fieldB, if_neg this, ← HPU.out, HU.out]; simp
                    exact ⟨q + 1, by omega, by go_num, by rw [e1]; simp; omega, by rw [e1]; exact M4.1, M4.2.2.2.2⟩
                  case measure => simp [intOf]; omega
        · clear hs hks
          have hqn' : q = n := by omega
          subst hqn'
          go_wp2_with fail
          refine (Try.Builder_String_any_k w3.heap.size w3.heap.size _ _ hB hbel.size).mono ?_
          rintro e w6 ⟨rfl, _, hb6, _⟩
          clear hB
          go_wp2
          go_ret
          exact ⟨rfl, hb.trans ((hbel.trans hb6).mono hb.size)⟩
end Go.Proofs.Qxb6000098a

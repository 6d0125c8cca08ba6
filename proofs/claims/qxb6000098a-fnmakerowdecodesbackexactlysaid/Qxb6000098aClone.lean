import Derived.Test.Qxb6000098aBytes
import Derived.Deep.OwnRows
namespace Go.Proofs.Qxb6000098a
open Go.RowKit

theorem Try.info5 : (Try.prog.info? 5).map (fun i => (i.zero, i.size, i.bytes)) = some (some (.int .u8 0), 1, 1) := by kernel_rfl
theorem Try.info2 : (Try.prog.info? 2).map (fun i => (i.zero, i.size, i.bytes)) = some (some (.int .i64 0), 1, 8) := by kernel_rfl
theorem Try.info9 : (Try.prog.info? 9).map (fun i => (i.zero, i.size, i.bytes)) = some (some (.string ByteArray.empty), 1, 16) := by kernel_rfl

theorem IntsAt.later {k : IntKind} {w w' : World} {a : Option Addr} {zs : List Int} (h : IntsAt k w a zs) (hb : Below w.heap.size w w') : IntsAt k w' a zs := by
  intro i hi
  obtain ⟨b, off, ha, hc⟩ := h i hi
  exact ⟨b, off, ha, cell_later hb hc⟩
theorem StrsAt.later {w w' : World} {a : Option Addr} {ss : List ByteArray} (h : StrsAt w a ss) (hb : Below w.heap.size w w') : StrsAt w' a ss := by
  intro i hi
  obtain ⟨b, off, ha, hc⟩ := h i hi
  exact ⟨b, off, ha, cell_later hb hc⟩

/-- The first k cells of block B hold what f says; n cells in all, none of them marked. -/
def Filled (w : World) (B : Nat) (e : TypeId) (n k : Nat) (f : Nat → Value) : Prop :=
  ∃ arr : Array Value, w.heap[B]? = some (.cells arr e (0, 0)) ∧ arr.size = n ∧ ∀ j, j < k → arr[j]? = some (f j)

theorem Filled.start (w : World) (e : TypeId) (n : Nat) (f : Nat → Value) (cs : Array Value) (hcs : cs.size = n) : Filled (w.alloc (.cells cs e)) w.heap.size e n 0 f :=
  ⟨cs, heap_alloc_new w _, hcs, fun j hj => by omega⟩
theorem Filled.cell {w : World} {B : Nat} {e : TypeId} {n k : Nat} {f : Nat → Value} (h : Filled w B e n k f) (j : Nat) (hj : j < k) : w.cell? ⟨B, j, none⟩ = some (f j) := by
  obtain ⟨arr, hh, _, hf⟩ := h
  rw [cell_of_row w B j arr e (0, 0) hh]
  exact hf j hj
theorem Filled.some {w : World} {B : Nat} {e : TypeId} {n k : Nat} {f : Nat → Value} (h : Filled w B e n k f) (j : Nat) (hj : j < n) : ∃ v, w.cell? ⟨B, j, none⟩ = some v := by
  obtain ⟨arr, hh, hs, hf⟩ := h
  rw [cell_of_row w B j arr e (0, 0) hh]
  exact ⟨arr[j], by simp [hs, hj]⟩
theorem Filled.free {w : World} {B : Nat} {e : TypeId} {n k : Nat} {f : Nat → Value} (h : Filled w B e n k f) (j : Nat) : w.frozen? ⟨B, j, none⟩ = false := by
  obtain ⟨arr, hh, _, _⟩ := h
  exact frozen_of_row w B j arr e hh
theorem Filled.store {w : World} {B : Nat} {e : TypeId} {n k : Nat} {f : Nat → Value} (h : Filled w B e n k f) (hk : k < n) : Filled (w.setCell ⟨B, k, none⟩ (f k)) B e n (k + 1) f := by
  obtain ⟨arr, hh, hs, hf⟩ := h
  refine ⟨arr.setIfInBounds k (f k), heap_setCell_same w B k arr e _ hh, by simpa using hs, fun j hj => ?_⟩
  by_cases hjk : j = k
  · subst hjk; simp [hs, hk]
  · rw [Array.getElem?_setIfInBounds_ne (by omega)]; exact hf j (by omega)

/-- What a clone leaves. -/
def ClonedInts (k : IntKind) (w : World) (zs : List Int) (e : Ending) (w' : World) : Prop :=
  ∃ a', e = .returned (.slice a' zs.length zs.length) ∧ IntsAt k w' a' zs ∧ Below w.heap.size w w'
def ClonedStrs (w : World) (ss : List ByteArray) (e : Ending) (w' : World) : Prop :=
  ∃ a', e = .returned (.slice a' ss.length ss.length) ∧ StrsAt w' a' ss ∧ Below w.heap.size w w'

set_option maxHeartbeats 400000 in
theorem cloneU8_any (a : Option Addr) (c : Nat) (zs : List Int) (w : World) (hn : (zs.length : Int) ≤ 1048576) (hnil : a = none → zs = []) (hc : IntsAt .u8 w a zs) :
    Calls Try.prog 12 #[.slice a zs.length c] w fun e w' => ClonedInts .u8 w zs e w' := by
  have hmk := run_make_row' (P := Try.prog) 23 5 (.int .u8 0) 1 Try.underlying23 Try.info5 rfl .i64 .i64 zs.length (by omega) (by omega)
  have q1 : ∀ (w : World) (a : Option Addr) (n c n' c' : Nat), (binOp .eql 23 (.slice a n c) (.slice none n' c')).run Try.prog w = .ok (.bool a.isNone) w := fun w a n c n' c' => Lib.run_eql_slice_nil w _ _ a n c n' c' Try.underlying23
  cases a with
  | none =>
    have hz := hnil rfl
    subst hz
    go_enter Try.func12, Try.ntmps12
    go_wp2
    go_ret
    exact ⟨none, rfl, fun i hi => absurd hi (by simp), Below.refl _ _⟩
  | some x =>
    obtain ⟨n, hN⟩ : ∃ n, zs.length = n := ⟨_, rfl⟩
    have HN : Hid (zs.length = n) := hN
    rw [hN] at hn hmk ⊢
    clear hN
    have HC : Hid (IntsAt .u8 w (some x) zs) := hc
    clear hc hnil
    go_enter Try.func12, Try.ntmps12
    go_wp2
    clear hmk q1
    go_loopw [4] (fun i wr => ∃ k : Nat, k ≤ n ∧ i = .int .i64 k ∧ Filled wr w.heap.size 5 n k (fun j => Value.int .u8 (zs.getD j 0)) ∧ Below w.heap.size w wr)
      (fun i _ => n - (intOf i).toNat)
    case atStart => exact ⟨0, Nat.zero_le _, rfl, Filled.start w 5 n _ _ (by simp [madeCells]), (Below.refl _ _).alloc (Nat.le_refl _) _⟩
    case round =>
      obtain ⟨k, hk, rfl, hf, hb⟩ := hrel
      by_cases hlt : k < n
      · obtain ⟨b, off, hx, hcell0⟩ := HC.out k (by rw [HN.out]; exact hlt)
        cases hx
        have hcell := cell_later hb hcell0
        clear hcell0
        obtain ⟨v0, hold⟩ := hf.some k hlt
        have hfree := hf.free k
        have HF : Hid (Filled wr w.heap.size 5 n k (fun j => Value.int .u8 (zs.getD j 0))) := hf
        have HB : Hid (Below w.heap.size w wr) := hb
        clear hf hb
        go_wp2
        go_roundw
        case rel => exact ⟨k + 1, by omega, by go_num, by simpa using HF.out.store hlt, HB.out.setCell (Nat.le_refl _) _⟩
        case measure => simp [intOf]; omega
      · have hkn : k = n := by omega
        go_wp2
        go_ret
        subst hkn
        refine ⟨some ⟨w.heap.size, 0, none⟩, by rw [HN.out]; rfl, fun i hi => ⟨_, _, rfl, ?_⟩, hb⟩
        rw [Nat.zero_add]
        exact hf.cell i (by rw [← HN.out]; exact hi)

set_option maxHeartbeats 400000 in
theorem cloneI64_any (a : Option Addr) (c : Nat) (zs : List Int) (w : World) (hn : (zs.length : Int) ≤ 1048576) (hnil : a = none → zs = []) (hc : IntsAt .i64 w a zs) :
    Calls Try.prog 19 #[.slice a zs.length c] w fun e w' => ClonedInts .i64 w zs e w' := by
  have hmk := run_make_row' (P := Try.prog) 30 2 (.int .i64 0) 8 Try.underlying30 Try.info2 rfl .i64 .i64 zs.length (by omega) (by omega)
  have q1 : ∀ (w : World) (a : Option Addr) (n c n' c' : Nat), (binOp .eql 30 (.slice a n c) (.slice none n' c')).run Try.prog w = .ok (.bool a.isNone) w := fun w a n c n' c' => Lib.run_eql_slice_nil w _ _ a n c n' c' Try.underlying30
  cases a with
  | none =>
    have hz := hnil rfl
    subst hz
    go_enter Try.func19, Try.ntmps19
    go_wp2
    go_ret
    exact ⟨none, rfl, fun i hi => absurd hi (by simp), Below.refl _ _⟩
  | some x =>
    obtain ⟨n, hN⟩ : ∃ n, zs.length = n := ⟨_, rfl⟩
    have HN : Hid (zs.length = n) := hN
    rw [hN] at hn hmk ⊢
    clear hN
    have HC : Hid (IntsAt .i64 w (some x) zs) := hc
    clear hc hnil
    go_enter Try.func19, Try.ntmps19
    go_wp2
    clear hmk q1
    go_loopw [4] (fun i wr => ∃ k : Nat, k ≤ n ∧ i = .int .i64 k ∧ Filled wr w.heap.size 2 n k (fun j => Value.int .i64 (zs.getD j 0)) ∧ Below w.heap.size w wr)
      (fun i _ => n - (intOf i).toNat)
    case atStart => exact ⟨0, Nat.zero_le _, rfl, Filled.start w 2 n _ _ (by simp [madeCells]), (Below.refl _ _).alloc (Nat.le_refl _) _⟩
    case round =>
      obtain ⟨k, hk, rfl, hf, hb⟩ := hrel
      by_cases hlt : k < n
      · obtain ⟨b, off, hx, hcell0⟩ := HC.out k (by rw [HN.out]; exact hlt)
        cases hx
        have hcell := cell_later hb hcell0
        clear hcell0
        obtain ⟨v0, hold⟩ := hf.some k hlt
        have hfree := hf.free k
        have HF : Hid (Filled wr w.heap.size 2 n k (fun j => Value.int .i64 (zs.getD j 0))) := hf
        have HB : Hid (Below w.heap.size w wr) := hb
        clear hf hb
        go_wp2
        go_roundw
        case rel => exact ⟨k + 1, by omega, by go_num, by simpa using HF.out.store hlt, HB.out.setCell (Nat.le_refl _) _⟩
        case measure => simp [intOf]; omega
      · have hkn : k = n := by omega
        go_wp2
        go_ret
        subst hkn
        refine ⟨some ⟨w.heap.size, 0, none⟩, by rw [HN.out]; rfl, fun i hi => ⟨_, _, rfl, ?_⟩, hb⟩
        rw [Nat.zero_add]
        exact hf.cell i (by rw [← HN.out]; exact hi)

set_option maxHeartbeats 400000 in
theorem cloneStrs_any (a : Option Addr) (c : Nat) (ss : List ByteArray) (w : World) (hn : (ss.length : Int) ≤ 1048576) (hnil : a = none → ss = []) (hc : StrsAt w a ss) :
    Calls Try.prog 17 #[.slice a ss.length c] w fun e w' => ClonedStrs w ss e w' := by
  have hmk := run_make_row' (P := Try.prog) 28 9 (.string ByteArray.empty) 16 Try.underlying28 Try.info9 rfl .i64 .i64 ss.length (by omega) (by omega)
  have q1 : ∀ (w : World) (a : Option Addr) (n c n' c' : Nat), (binOp .eql 28 (.slice a n c) (.slice none n' c')).run Try.prog w = .ok (.bool a.isNone) w := fun w a n c n' c' => Lib.run_eql_slice_nil w _ _ a n c n' c' Try.underlying28
  cases a with
  | none =>
    have hz := hnil rfl
    subst hz
    go_enter Try.func17, Try.ntmps17
    go_wp2
    go_ret
    exact ⟨none, rfl, fun i hi => absurd hi (by simp), Below.refl _ _⟩
  | some x =>
    obtain ⟨n, hN⟩ : ∃ n, ss.length = n := ⟨_, rfl⟩
    have HN : Hid (ss.length = n) := hN
    rw [hN] at hn hmk ⊢
    clear hN
    have HC : Hid (StrsAt w (some x) ss) := hc
    clear hc hnil
    go_enter Try.func17, Try.ntmps17
    go_wp2
    clear hmk q1
    go_loopw [4] (fun i wr => ∃ k : Nat, k ≤ n ∧ i = .int .i64 k ∧ Filled wr w.heap.size 9 n k (fun j => Value.string (ss.getD j ByteArray.empty)) ∧ Below w.heap.size w wr)
      (fun i _ => n - (intOf i).toNat)
    case atStart => exact ⟨0, Nat.zero_le _, rfl, Filled.start w 9 n _ _ (by simp [madeCells]), (Below.refl _ _).alloc (Nat.le_refl _) _⟩
    case round =>
      obtain ⟨k, hk, rfl, hf, hb⟩ := hrel
      by_cases hlt : k < n
      · obtain ⟨b, off, hx, hcell0⟩ := HC.out k (by rw [HN.out]; exact hlt)
        cases hx
        have hcell := cell_later hb hcell0
        clear hcell0
        obtain ⟨v0, hold⟩ := hf.some k hlt
        have hfree := hf.free k
        have HF : Hid (Filled wr w.heap.size 9 n k (fun j => Value.string (ss.getD j ByteArray.empty))) := hf
        have HB : Hid (Below w.heap.size w wr) := hb
        clear hf hb
        go_wp2
        go_roundw
        case rel => exact ⟨k + 1, by omega, by go_num, by simpa using HF.out.store hlt, HB.out.setCell (Nat.le_refl _) _⟩
        case measure => simp [intOf]; omega
      · have hkn : k = n := by omega
        go_wp2
        go_ret
        subst hkn
        refine ⟨some ⟨w.heap.size, 0, none⟩, by rw [HN.out]; rfl, fun i hi => ⟨_, _, rfl, ?_⟩, hb⟩
        rw [Nat.zero_add]
        exact hf.cell i (by rw [← HN.out]; exact hi)

end Go.Proofs.Qxb6000098a

import Derived.Test.Qxb6000098aMake
import Derived.Test.Qxb6000098aClone
namespace Go.Proofs.Qxb6000098a
open Go.RowKit

theorem Try.info55 : (Try.prog.info? 55).map (fun i => (i.zero, i.size, i.bytes)) = some (some (.agg #[.int .u8 0, .int .i64 0, .string ByteArray.empty]), 3, 32) := by kernel_rfl

theorem hmk55 (n : Nat) (hn : (n : Int) ≤ 1048576) (w : World) :
    (Instr.makeSlice 52 (.int .i64 (n : Int)) (.int .i64 (n : Int))).run Try.prog w = .ok (.slice (some ⟨w.heap.size, 0, none⟩) n n) (w.alloc (.cells (madeCells #[.int .u8 0, .int .i64 0, .string ByteArray.empty] (n * 3)) 55)) := by
  obtain ⟨i, hi, hz0, hz1, hz2⟩ := info_parts Try.info55
  have hr := run_make (P := Try.prog) w 52 55 i _ Try.underlying52 hi hz0 .i64 .i64 n n (by omega) (Int.le_refl _) (by rw [hz2]; omega) (by omega)
  simp only [Int.toNat_natCast, hz1] at hr
  exact hr

/-- What the record's cells hold. -/
def recF (ks ns : List Int) (ss : List ByteArray) (j : Nat) : Value :=
  if j % 3 = 0 then .int .u8 (ks.getD (j / 3) 0) else if j % 3 = 1 then .int .i64 (ns.getD (j / 3) 0) else .string (ss.getD (j / 3) ByteArray.empty)
theorem recF0 (ks ns : List Int) (ss : List ByteArray) (k : Nat) : recF ks ns ss (k * 3) = .int .u8 (ks[k]?.getD 0) := by simp [recF]
theorem recF1 (ks ns : List Int) (ss : List ByteArray) (k : Nat) : recF ks ns ss (k * 3 + 1) = .int .i64 (ns[k]?.getD 0) := by
  simp [recF, show (k * 3 + 1) % 3 = 1 by omega, show (k * 3 + 1) / 3 = k by omega]
theorem recF2 (ks ns : List Int) (ss : List ByteArray) (k : Nat) : recF ks ns ss (k * 3 + 2) = .string (ss[k]?.getD ByteArray.empty) := by
  simp [recF, show (k * 3 + 2) % 3 = 2 by omega, show (k * 3 + 2) / 3 = k by omega]
theorem store3 {w : World} {R n k : Nat} {ks ns : List Int} {ss : List ByteArray} (h : Filled w R 55 (n * 3) (k * 3) (recF ks ns ss)) (hk : k < n) :
    Filled (((w.setCell ⟨R, k * 3, none⟩ (.int .u8 (ks[k]?.getD 0))).setCell ⟨R, k * 3 + 1, none⟩ (.int .i64 (ns[k]?.getD 0))).setCell ⟨R, k * 3 + 2, none⟩ (.string (ss[k]?.getD ByteArray.empty))) R 55 (n * 3) ((k + 1) * 3) (recF ks ns ss) := by
  have h1 := h.store (by omega)
  rw [recF0] at h1
  have h2 := h1.store (by omega)
  rw [recF1] at h2
  have h3 := h2.store (by omega)
  rw [recF2] at h3
  rw [show (k + 1) * 3 = k * 3 + 1 + 1 + 1 by omega]
  exact h3

set_option maxHeartbeats 400000 in
theorem zz_any (key : ByteArray) (a1 a2 a3 : Option Addr) (n c1 c2 c3 : Nat) (ks ns : List Int) (ss : List ByteArray) (w : World) (hn : (n : Int) ≤ 1048576)
    (l1 : ks.length = n) (l2 : ns.length = n) (l3 : ss.length = n) (hnil : a1 = none → n = 0)
    (hk : (key.size : Int) ≤ 1048576) (hs : ∀ i, ((ss.getD i ByteArray.empty).size : Int) ≤ 1048576) (hks : ∀ i, i < n → 0 ≤ ks.getD i 0 ∧ ks.getD i 0 ≤ 255)
    (h1 : IntsAt .u8 w a1 ks) (h2 : IntsAt .i64 w a2 ns) (h3 : StrsAt w a3 ss) :
    Calls Try.prog 24 #[.string key, .slice a1 n c1, .slice a2 n c2, .slice a3 n c3] w fun e w' =>
      e = .returned (.string ⟨(rowB key.data.toList (fun i => ks.getD i 0) (fun i => ns.getD i 0) (fun i => ss.getD i ByteArray.empty) n).toArray⟩) ∧ Below w.heap.size w w' := by
  have hmk := hmk55 n hn
  have q1 : ∀ (w : World) (a : Option Addr) (n c n' c' : Nat), (binOp .neq 23 (.slice a n c) (.slice none n' c')).run Try.prog w = .ok (.bool (!a.isNone)) w := fun w a n c n' c' => run_neq_slice_nil_any w _ _ a n c n' c' Try.underlying23
  have H1 : Hid (IntsAt .u8 w a1 ks) := h1
  have H2 : Hid (IntsAt .i64 w a2 ns) := h2
  have H3 : Hid (StrsAt w a3 ss) := h3
  have L1 : Hid (ks.length = n) := l1
  have L2 : Hid (ns.length = n) := l2
  have L3 : Hid (ss.length = n) := l3
  clear h1 h2 h3 l1 l2 l3
  cases a1 with
  | none =>
    have hz := hnil rfl
    subst hz
    clear hmk
    have HS : Hid (∀ i, ((ss.getD i ByteArray.empty).size : Int) ≤ 1048576) := hs
    clear hs hks
    go_enter Try.func24, Try.ntmps24
    go_wp2_with fail
    refine (make_any key none 0 0 (fun i => ks.getD i 0) (fun i => ns.getD i 0) (fun i => ss.getD i ByteArray.empty) w (by omega) hk HS.out (fun i hi => absurd hi (by omega)) (fun i hi => absurd hi (by omega))).mono ?_
    rintro e w1 ⟨rfl, hb⟩
    go_wp2
    go_ret
    exact ⟨rfl, hb⟩
  | some x =>
    have HS : Hid (∀ i, ((ss.getD i ByteArray.empty).size : Int) ≤ 1048576) := hs
    have HK : Hid (∀ i, i < n → 0 ≤ ks.getD i 0 ∧ ks.getD i 0 ≤ 255) := hks
    clear hs hks hnil
    go_enter Try.func24, Try.ntmps24
    go_wp2_with fail
    clear hmk q1
    go_loopw [18] (fun i wr => ∃ k : Nat, k ≤ n ∧ i = .int .i64 k ∧ Filled wr w.heap.size 55 (n * 3) (k * 3) (recF ks ns ss) ∧ Below w.heap.size w wr)
      (fun i _ => n - (intOf i).toNat)
    case atStart => exact ⟨0, Nat.zero_le _, rfl, Filled.start w 55 _ _ _ (by simp [madeCells]), (Below.refl _ _).alloc (Nat.le_refl _) _⟩
    case round =>
      obtain ⟨k, hkn, rfl, hf, hb⟩ := hrel
      by_cases hlt : k < n
      · obtain ⟨b1, off1, hx1, e1⟩ := H1.out k (by rw [L1.out]; exact hlt)
        obtain ⟨b2, off2, hx2, e2⟩ := H2.out k (by rw [L2.out]; exact hlt)
        obtain ⟨b3, off3, hx3, e3⟩ := H3.out k (by rw [L3.out]; exact hlt)
        cases hx1
        subst hx2 hx3
        replace e1 := cell_later hb e1
        replace e2 := cell_later hb e2
        replace e3 := cell_later hb e3
        obtain ⟨v0, o0⟩ := hf.some (k * 3) (by omega)
        obtain ⟨v1, o1⟩ := hf.some (k * 3 + 1) (by omega)
        obtain ⟨v2, o2⟩ := hf.some (k * 3 + 2) (by omega)
        have f0 := hf.free (k * 3)
        have f1 := hf.free (k * 3 + 1)
        have f2 := hf.free (k * 3 + 2)
        have HF : Hid (Filled wr w.heap.size 55 (n * 3) (k * 3) (recF ks ns ss)) := hf
        have HB : Hid (Below w.heap.size w wr) := hb
        clear hf hb
        go_wp2
        go_region
        all_goals go_wp2
        go_roundw
        case rel => exact ⟨k + 1, by omega, by go_num, store3 HF.out hlt, (((HB.out.setCell (Nat.le_refl _) _).setCell (Nat.le_refl _) _).setCell (Nat.le_refl _) _).drew⟩
        case measure => simp [intOf]; omega
      · have hkn' : k = n := by omega
        subst hkn'
        go_wp2_with fail
        refine (make_any key (some ⟨w.heap.size, 0, none⟩) k k (fun i => ks.getD i 0) (fun i => ns.getD i 0) (fun i => ss.getD i ByteArray.empty) wr (by omega) hk HS.out HK.out (fun i hi => ⟨w.heap.size, 0, rfl, ?_, ?_, ?_⟩)).mono ?_
        · rw [Nat.zero_add, hf.cell (i * 3) (by omega), recF0]; simp
        · rw [Nat.zero_add, hf.cell (i * 3 + 1) (by omega), recF1]; simp
        · rw [Nat.zero_add, hf.cell (i * 3 + 2) (by omega), recF2]; simp
        rintro e w1 ⟨rfl, hb1⟩
        clear hf
        go_wp2
        go_ret
        exact ⟨rfl, hb.trans (hb1.mono hb.size)⟩
end Go.Proofs.Qxb6000098a

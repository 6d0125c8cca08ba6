import Derived.Test.Qxb6000678aPlain
import Derived.Deep.OwnRows
namespace Go.Proofs.Qxb6000678a
open Go.RowKit

theorem Try.info5 : (Try.prog.info? 5).map (fun i => (i.zero, i.size, i.bytes)) = some (some (.int .u8 0), 1, 1) := by kernel_rfl

/-- The slice v is the call's own and holds the bytes xs. -/
def Own (w : World) (B : Nat) (v : Value) (xs : List Int) : Prop := w.ownsRow B 5 1 v xs.length (xs.map (Value.int .u8))

theorem Own.lit (w : World) (B : Nat) (cs : Array Value) (xs : List Int) (hcs : cs.toList = xs.map (Value.int .u8)) (n : Nat) (hn : xs.length = n) (hb : B ≤ w.heap.size) (hl : n ≤ 1000000000) :
    Own (w.alloc (.cells cs 5)) B (.slice (some ⟨w.heap.size, 0, none⟩) n n) xs := by
  have hs : cs.size = n * 1 := by rw [← Array.length_toList, hcs, List.length_map, hn, Nat.mul_one]
  have h := World.ownsRow_lit (base := B) (e := 5) (size := 1) w cs n hb (by unfold maxLen; omega) hs
  unfold Own
  rw [hn, ← hcs]
  exact h

theorem Own.view {w : World} {B : Nat} {v : Value} {xs : List Int} (h : Own w B v xs) (hx : 0 < xs.length) :
    ∃ g cap, v = .slice (some ⟨g, 0, none⟩) xs.length cap ∧ xs.length ≤ cap ∧ BytesAt w (some ⟨g, 0, none⟩) xs := by
  unfold Own at h
  rcases h.2 with ⟨_, h0⟩ | ⟨g, cap, cur, hv, _, hg, hnc, _, _, htake⟩
  · omega
  · refine ⟨g, cap, hv, hnc, fun i hi => ⟨g, 0, rfl, ?_⟩⟩
    rw [hv] at h
    rw [Nat.zero_add, h.cellAt i (by omega)]
    simp [hi]

section
variable {ops : Array Oper} {rest : List Oper} {o : Oper} {a : Act} {Q : Exit → Act → World → Prop}
/-- 'append(t, ..)' of bytes that have just been laid in a block of their own. -/
theorem app_new (w : World) (hgd : o.guard = none) (s x : Operand) (ho : o.op = .call { callee := .builtin .append, args := #[s, x], argTypes := #[22, 22] })
    (B : Nat) (v : Value) (xs : List Int) (hs : a.eval s = v) (hown : Own w B v xs) (cs : Array Value) (news : List Int) (m : Nat) (hx : a.eval x = .slice (some ⟨w.heap.size, 0, none⟩) m m)
    (hcs : cs.toList = news.map (Value.int .u8)) (hm : news.length = m) (hlen : xs.length + m ≤ 1000000000) (hB : B ≤ w.heap.size)
    (h : ∀ v' w', Own w' B v' (xs ++ news) → Below B w w' → wpList Try.prog ops Q rest (a.put o.dst v') w') : wpList Try.prog ops Q (o :: rest) a (w.alloc (.cells cs 5)) := by
  obtain ⟨i0, hi, hz0, hz1, hz2⟩ := info_parts Try.info5
  unfold Own at hown
  have hcell : ∀ j u, (news.map (Value.int .u8))[j]? = some u → (w.alloc (.cells cs 5)).cell? ((⟨w.heap.size, 0, none⟩ : Addr).add j) = some u := by
    intro j u hj
    rw [Go.WideShapes.add_plain, Nat.zero_add, cell_of_row _ w.heap.size j cs 5 (0, 0) (heap_alloc_new w _), ← hj, ← hcs]
    simp
  refine wpList_append_own (w.alloc (.cells cs 5)) hgd s x 22 ho B 5 i0 (.int .u8 0) 1 1 Try.underlying22 hi hz0 hz1 hz2 rfl (by decide) v _ _ hs (hown.alloc _) ⟨w.heap.size, 0, none⟩ m m (news.map (Value.int .u8)) hx (by simp [hm]) hcell
    (fun u hu => by obtain ⟨y, _, rfl⟩ := List.mem_map.1 hu; rfl) (by unfold maxLen; omega) (by omega) (by simp; omega) ?_
  intro v' w' h1 h2 _
  refine h v' w' ?_ ?_
  · unfold Own
    rw [List.length_append, List.map_append, hm]
    exact h1
  · refine ((Below.refl B w).alloc hB _).grown h2 (by simp; omega) ?_
    intro k hk
    rcases hown.2 with ⟨rfl, _⟩ | ⟨g, cap, cur, rfl, hg, _⟩
    · simp [Value.ownBlock] at hk
    · simp [Value.ownBlock] at hk; omega
end

/-- The six breaks. -/
def brkL (b : Int) : List Int :=
  if b % 6 = 0 then [10] else if b % 6 = 1 then [13] else if b % 6 = 2 then [13, 10] else if b % 6 = 3 then [194, 133] else if b % 6 = 4 then [226, 128, 168] else [226, 128, 169]

theorem brkL_len (b : Int) : 1 ≤ (brkL b).length ∧ (brkL b).length ≤ 3 := by
  unfold brkL
  (repeat' split) <;> simp

def BrkPost (b : Int) (w : World) (e : Ending) (w' : World) : Prop :=
  e = .returned (.slice (some ⟨w.heap.size, 0, none⟩) (brkL b).length (brkL b).length) ∧ w' = w.alloc (.cells ((brkL b).map (Value.int .u8)).toArray 5)

theorem brkPost {b : Int} {w : World} (l : List Int) (h : brkL b = l) : BrkPost b w (.returned (.slice (some ⟨w.heap.size, 0, none⟩) l.length l.length)) (w.alloc (.cells (l.map (Value.int .u8)).toArray 5)) := by
  unfold BrkPost; rw [h]; exact ⟨rfl, rfl⟩

set_option maxHeartbeats 400000 in
theorem brk_any (b : Int) (w : World) (h0 : 0 ≤ b) (h1 : b ≤ 255) : Calls Try.prog 21 #[.int .u8 b] w fun e w' => BrkPost b w e w' := by
  go_enter Try.func21, Try.ntmps21
  go_wp2
  all_goals go_ret
  · exact brkPost [10] (by unfold brkL; simp_all)
  · exact brkPost [13] (by unfold brkL; simp_all)
  · exact brkPost [13, 10] (by unfold brkL; simp_all)
  · exact brkPost [194, 133] (by unfold brkL; simp_all)
  · exact brkPost [226, 128, 168] (by unfold brkL; simp_all)
  · exact brkPost [226, 128, 169] (by unfold brkL; simp_all)

/-- The first k cells of block B hold what f says; n cells in all, none of them marked. -/
def Filled (w : World) (B : Nat) (e : TypeId) (n k : Nat) (f : Nat → Value) : Prop :=
  ∃ arr : Array Value, w.heap[B]? = some (.cells arr e (0, 0)) ∧ arr.size = n ∧ ∀ j, j < k → arr[j]? = some (f j)

theorem Filled.start (w : World) (e : TypeId) (n : Nat) (f : Nat → Value) (cs : Array Value) (hcs : cs.size = n) : Filled (w.alloc (.cells cs e)) w.heap.size e n 0 f :=
  ⟨cs, heap_alloc_new w _, hcs, fun j hj => by omega⟩
theorem Filled.cell {w : World} {B : Nat} {e : TypeId} {n k : Nat} {f : Nat → Value} (h : Filled w B e n k f) (j : Nat) (hj : j < k) : w.cell? ⟨B, j, none⟩ = some (f j) := by
  obtain ⟨arr, hh, _, hf⟩ := h
  rw [cell_of_row w B j arr e (0, 0) hh]
  exact hf j hj
theorem Filled.some {w : World} {B : Nat} {e : TypeId} {n k : Nat} {f : Nat → Value} (h : Filled w B e n k f) (j : Nat) (hj : j < n) : ∃ v, w.cell? ⟨B, j, none⟩ = some v := by
  obtain ⟨arr, hh, hs, hf⟩ := h
  rw [cell_of_row w B j arr e (0, 0) hh]
  exact ⟨arr[j], by simp [hs, hj]⟩
theorem Filled.free {w : World} {B : Nat} {e : TypeId} {n k : Nat} {f : Nat → Value} (h : Filled w B e n k f) (j : Nat) : w.frozen? ⟨B, j, none⟩ = false := by
  obtain ⟨arr, hh, _, _⟩ := h
  exact frozen_of_row w B j arr e hh
theorem Filled.store {w : World} {B : Nat} {e : TypeId} {n k : Nat} {f : Nat → Value} (h : Filled w B e n k f) (hk : k < n) : Filled (w.setCell ⟨B, k, none⟩ (f k)) B e n (k + 1) f := by
  obtain ⟨arr, hh, hs, hf⟩ := h
  refine ⟨arr.setIfInBounds k (f k), heap_setCell_same w B k arr e _ hh, by simpa using hs, fun j hj => ?_⟩
  by_cases hjk : j = k
  · subst hjk; simp [hs, hk]
  · rw [Array.getElem?_setIfInBounds_ne (by omega)]; exact hf j (by omega)

/-- What a clone leaves. -/
def Cloned (w : World) (zs : List Int) (e : Ending) (w' : World) : Prop :=
  ∃ a', e = .returned (.slice a' zs.length zs.length) ∧ BytesAt w' a' zs ∧ Below w.heap.size w w'

set_option maxHeartbeats 400000 in
theorem clone_any (a : Option Addr) (c : Nat) (zs : List Int) (w : World) (hn : (zs.length : Int) ≤ 1048576) (hnil : a = none → zs = []) (hc : BytesAt w a zs) :
    Calls Try.prog 13 #[.slice a zs.length c] w fun e w' => Cloned w zs e w' := by
  have hmk := run_make_row' (P := Try.prog) 22 5 (.int .u8 0) 1 Try.underlying22 Try.info5 rfl .i64 .i64 zs.length (by omega) (by omega)
  have q1 : ∀ (w : World) (a : Option Addr) (n c n' c' : Nat), (binOp .eql 22 (.slice a n c) (.slice none n' c')).run Try.prog w = .ok (.bool a.isNone) w := fun w a n c n' c' => Lib.run_eql_slice_nil w _ _ a n c n' c' Try.underlying22
  cases a with
  | none =>
    have hz := hnil rfl
    subst hz
    go_enter Try.func13, Try.ntmps13
    go_wp2
    go_ret
    exact ⟨none, rfl, fun i hi => absurd hi (by simp), Below.refl _ _⟩
  | some x =>
    obtain ⟨n, hN⟩ : ∃ n, zs.length = n := ⟨_, rfl⟩
    have HN : Hid (zs.length = n) := hN
    rw [hN] at hn hmk ⊢
    clear hN
    have HC : Hid (BytesAt w (some x) zs) := hc
    clear hc hnil
    go_enter Try.func13, Try.ntmps13
    go_wp2
    clear hmk q1
    go_loopw [4] (fun i wr => ∃ k : Nat, k ≤ n ∧ i = .int .i64 k ∧ Filled wr w.heap.size 5 n k (fun j => Value.int .u8 (zs.getD j 0)) ∧ Below w.heap.size w wr)
      (fun i _ => n - (intOf i).toNat)
    case atStart => exact ⟨0, Nat.zero_le _, rfl, Filled.start w 5 n _ _ (by simp [madeCells]), (Below.refl _ _).alloc (Nat.le_refl _) _⟩
    case round =>
      obtain ⟨k, hk, rfl, hf, hb⟩ := hrel
      by_cases hlt : k < n
      · obtain ⟨b, off, hx, hcell0⟩ := HC.out k (by rw [HN.out]; exact hlt)
        cases hx
        have hcell := cell_later hb hcell0
        clear hcell0
        obtain ⟨v0, hold⟩ := hf.some k hlt
        have hfree := hf.free k
        have HF : Hid (Filled wr w.heap.size 5 n k (fun j => Value.int .u8 (zs.getD j 0))) := hf
        have HB : Hid (Below w.heap.size w wr) := hb
        clear hf hb
        go_wp2
        go_roundw
        case rel => exact ⟨k + 1, by omega, by go_num, by simpa using HF.out.store hlt, HB.out.setCell (Nat.le_refl _) _⟩
        case measure => simp [intOf]; omega
      · have hkn : k = n := by omega
        go_wp2
        go_ret
        subst hkn
        refine ⟨some ⟨w.heap.size, 0, none⟩, by rw [HN.out]; rfl, fun i hi => ⟨_, _, rfl, ?_⟩, hb⟩
        rw [Nat.zero_add]
        exact hf.cell i (by rw [← HN.out]; exact hi)

/-- What a test leaves: some bool, the world as it was. -/
def SaysBool (w : World) (e : Ending) (w' : World) : Prop := ∃ r, e = .returned (.bool r) ∧ w = w'

set_option maxHeartbeats 400000 in
theorem bytes_any (x0 x1 x2 x6 x7 x9 : Int) (b3 b4 b8 : Bool) (a5 a10 : Option Addr) (l5 c5 l10 c10 : Nat) (w : World) (h5 : (l5 : Int) ≤ 9223372036854775807) (h10 : (l10 : Int) ≤ 9223372036854775807) :
    Calls Try.prog 26 #[.int .u8 x0, .int .u8 x1, .int .u8 x2, .bool b3, .bool b4, .slice a5 l5 c5, .int .u8 x6, .int .i64 x7, .bool b8, .int .u8 x9, .slice a10 l10 c10] w fun e w' => SaysBool w e w' := by
  go_enter Try.func26, Try.ntmps26
  go_wp2
  all_goals
    go_ret
    exact ⟨_, rfl, rfl⟩
end Go.Proofs.Qxb6000678a

import Derived.Test.Qxb6000848aNum
import Derived.Deep.OwnRows
import Derived.OwnWalk
import Derived.Laws.BytesArg
import Derived.Below
namespace Go.Proofs.Qxb6000848a
open Go.RowKit

theorem Try.info5 : (Try.prog.info? 5).map (fun i => (i.zero, i.size, i.bytes)) = some (some (.int .u8 0), 1, 1) := by kernel_rfl

/-- The slice v is the call's own and holds the bytes xs. -/
def Own (w : World) (B : Nat) (v : Value) (xs : List Int) : Prop := w.ownsRow B 5 1 v xs.length (xs.map (Value.int .u8))

theorem Own.view {w : World} {B : Nat} {v : Value} {xs : List Int} (h : Own w B v xs) (hx : 0 < xs.length) :
    ∃ g cap, v = .slice (some ⟨g, 0, none⟩) xs.length cap ∧ ∀ i, i < xs.length → w.cell? ⟨g, 0 + i, none⟩ = some (.int .u8 (xs.getD i 0)) := by
  unfold Own at h
  rcases h.2 with ⟨_, h0⟩ | ⟨g, cap, cur, hv, _, hg, hnc, _, _, htake⟩
  · omega
  · refine ⟨g, cap, hv, fun i hi => ?_⟩
    rw [hv] at h
    rw [Nat.zero_add, h.cellAt i (by omega)]
    simp [hi]

section
variable {ops : Array Oper} {rest : List Oper} {o : Oper} {a : Act} {Q : Exit → Act → World → Prop}
/-- 'make([]byte, 0, n)'. -/
theorem make_new (w : World) (hgd : o.guard = none) (l c : Operand) (ho : o.op = Op.makeSlice 24 l c) (C : Int) (n : Nat) (hl : a.eval l = .int .i64 0) (hc : a.eval c = .int .i64 C) (hC : C = (n : Int)) (hn : n ≤ 1000000000)
    (h : ∀ v w', Own w' w.heap.size v [] → Below w.heap.size w w' → wpList Try.prog ops Q rest (a.put o.dst v) w') : wpList Try.prog ops Q (o :: rest) a w := by
  obtain ⟨i0, hi, hz0, hz1, hz2⟩ := info_parts Try.info5
  refine wpList_make_own w hgd l c 24 ho w.heap.size 5 i0 (.int .u8 0) 1 Try.underlying24 hi hz0 hz1 .i64 .i64 C n hl hc hC (by rw [hz2]; omega) (by unfold maxLen; omega) (Nat.le_refl _) ?_
  intro w' h1 h2
  exact h _ w' h1 ((Below.refl _ w).grown h2 (Nat.le_refl _) (fun k hk => by cases hk))

/-- 'append(t, ..)' of bytes that have just been laid in a block of their own. -/
theorem app_new (w : World) (hgd : o.guard = none) (s x : Operand) (ho : o.op = .call { callee := .builtin .append, args := #[s, x], argTypes := #[24, 24] })
    (B : Nat) (v : Value) (xs : List Int) (hs : a.eval s = v) (hown : Own w B v xs) (cs : Array Value) (news : List Int) (m : Nat) (hx : a.eval x = .slice (some ⟨w.heap.size, 0, none⟩) m m)
    (hcs : cs.toList = news.map (Value.int .u8)) (hm : news.length = m) (hlen : xs.length + m ≤ 1000000000) (hB : B ≤ w.heap.size)
    (h : ∀ v' w', Own w' B v' (xs ++ news) → Below B w w' → wpList Try.prog ops Q rest (a.put o.dst v') w') : wpList Try.prog ops Q (o :: rest) a (w.alloc (.cells cs 5)) := by
  obtain ⟨i0, hi, hz0, hz1, hz2⟩ := info_parts Try.info5
  unfold Own at hown
  have hcell : ∀ j u, (news.map (Value.int .u8))[j]? = some u → (w.alloc (.cells cs 5)).cell? ((⟨w.heap.size, 0, none⟩ : Addr).add j) = some u := by
    intro j u hj
    rw [Go.WideShapes.add_plain, Nat.zero_add, cell_of_row _ w.heap.size j cs 5 (0, 0) (heap_alloc_new w _), ← hj, ← hcs]
    simp
  refine wpList_append_own (w.alloc (.cells cs 5)) hgd s x 24 ho B 5 i0 (.int .u8 0) 1 1 Try.underlying24 hi hz0 hz1 hz2 rfl (by decide) v _ _ hs (hown.alloc _) ⟨w.heap.size, 0, none⟩ m m (news.map (Value.int .u8)) hx (by simp [hm]) hcell
    (fun u hu => by obtain ⟨y, _, rfl⟩ := List.mem_map.1 hu; rfl) (by unfold maxLen; omega) (by omega) (by simp; omega) ?_
  intro v' w' h1 h2 _
  refine h v' w' ?_ ?_
  · unfold Own
    rw [List.length_append, List.map_append, hm]
    exact h1
  · refine ((Below.refl B w).alloc hB _).grown h2 (by simp; omega) ?_
    intro k hk
    rcases hown.2 with ⟨rfl, _⟩ | ⟨g, cap, cur, rfl, hg, _⟩
    · simp [Value.ownBlock] at hk
    · simp [Value.ownBlock] at hk; omega
end
end Go.Proofs.Qxb6000848a

/-
  'Rows.FnMakeRowDecodesBackExactlySaid': the row's own step, over the walk of Qxb6000098aEq and Qxb6000098aMain.
-/
import Derived.Test.Qxb6000098aEq
import Derived.ProofKit
import Derived.OpenShut
import Derived.ShutString
import Derived.ChangeOld
import Derived.Below
import Derived.SliceStrings
namespace Go.Proofs.Qxb6000098a.fnMakeRowDecodesBackExactly
open Go.ChangeShapes Go.WideShapes Go.ChangeAt Go.RowKit
open Go.ChangeMaps (open_string shut_string)
set_option linter.unusedVariables false

theorem own : ownKnob Try.prog.godebug = none := by kernel_rfl
theorem laidOut : laidOutB Try.prog = true := by kernel_rfl

/-- What the walk is told of a slice of integers that came in. -/
def IsInts (k : IntKind) (w : World) (a : Option Addr) (len : Nat) (ks : List Int) : Prop :=
  ks.length = len ∧ len ≤ maxLen ∧ (a = none → ks = []) ∧ IntsAt k w a ks ∧ ∀ n ∈ ks, (Lit.int k n).wf = true
def IsStrs (w : World) (a : Option Addr) (len : Nat) (ss : List ByteArray) : Prop :=
  ss.length = len ∧ len ≤ maxLen ∧ (a = none → ss = []) ∧ StrsAt w a ss ∧ ∀ s ∈ ss, s.size ≤ maxLen

theorem isInts_of {k : IntKind} {w : World} {x : Addr} {l c : Nat} {zs : List Int} (hl : l ≤ c) (hm : c ≤ maxLen) (hz : zs.length = c)
    (hcell : ∀ i, i < zs.length → w.cell? (x.add i) = some (.int k (zs.getD i 0))) (hwz : ∀ n ∈ zs, (Lit.int k n).wf = true) : IsInts k w (some x) l (zs.take l) := by
  refine ⟨by simp; omega, by omega, (fun h => by cases h), fun i hi => ?_, fun n hn => hwz n (List.mem_of_mem_take hn)⟩
  have hi' : i < zs.length := by simp at hi; omega
  have hil : i < l := by simp at hi; omega
  obtain ⟨b, off, rfl, hc⟩ := ints_at hcell (by omega)
  refine ⟨b, off, rfl, ?_⟩
  rw [hc i hi']
  simp [hil]

theorem strs_at {w : World} {a : Addr} {ss : List ByteArray} (h : ∀ i, i < ss.length → w.cell? (a.add i) = some (.string (ss.getD i ByteArray.empty))) (hp : 0 < ss.length) :
    ∃ b off, a = ⟨b, off, none⟩ ∧ ∀ j, j < ss.length → w.cell? ⟨b, off + j, none⟩ = some (.string (ss.getD j ByteArray.empty)) := by
  obtain ⟨b, off, spot⟩ := a
  have hspot : spot = none := by simpa [Addr.add] using World.cell?_spot (h 0 hp)
  subst hspot
  exact ⟨b, off, rfl, fun j hj => by rw [← Go.WideShapes.add_plain]; exact h j hj⟩

theorem isStrs_of {w : World} {x : Addr} {l c : Nat} {ss : List ByteArray} (hl : l ≤ c) (hm : c ≤ maxLen) (hz : ss.length = c)
    (hcell : ∀ i, i < ss.length → w.cell? (x.add i) = some (.string (ss.getD i ByteArray.empty))) (hws : ∀ s ∈ ss, s.size ≤ maxLen) : IsStrs w (some x) l (ss.take l) := by
  refine ⟨by simp; omega, by omega, (fun h => by cases h), fun i hi => ?_, fun n hn => hws n (List.mem_of_mem_take hn)⟩
  have hi' : i < ss.length := by simp at hi; omega
  have hil : i < l := by simp at hi; omega
  obtain ⟨b, off, rfl, hc⟩ := strs_at hcell (by omega)
  refine ⟨b, off, rfl, ?_⟩
  rw [hc i hi']
  simp [hil]

theorem getD_range {ks : List Int} {lo hi : Int} (h0 : lo ≤ 0) (h1 : 0 ≤ hi) (h : ∀ n ∈ ks, lo ≤ n ∧ n ≤ hi) (i : Nat) : lo ≤ ks.getD i 0 ∧ ks.getD i 0 ≤ hi := by
  rw [List.getD_eq_getElem?_getD]
  by_cases hi' : i < ks.length
  · simp [hi']; exact h _ (List.getElem_mem hi')
  · simp [List.getElem?_eq_none (by omega : ks.length ≤ i)]; exact ⟨h0, h1⟩

theorem walk (a0 : ByteArray) (a1 : Option Addr) (len1 cap1 : Nat) (z1 : List Int) (a2 : Option Addr) (len2 cap2 : Nat) (z2 : List Int) (a3 : Option Addr) (len3 cap3 : Nat) (z3 : List ByteArray) (w : World)
    (w0 : a0.size ≤ maxLen) (w1 : IsInts .u8 w a1 len1 z1) (w2 : IsInts .i64 w a2 len2 z2) (w3 : IsStrs w a3 len3 z3) :
    Calls Try.prog 7 #[.string a0, .slice a1 len1 cap1, .slice a2 len2 cap2, .slice a3 len3 cap3] w fun e w' => e = .returned (.bool true) ∧ Below w.heap.size w w' := by
  obtain ⟨e1, m1, n1, c1, f1⟩ := w1
  obtain ⟨e2, m2, n2, c2, f2⟩ := w2
  obtain ⟨e3, m3, n3, c3, f3⟩ := w3
  by_cases h : len2 = len1 ∧ z3.length = len1
  · obtain ⟨rfl, h2⟩ := h
    obtain rfl : len3 = len2 := by omega
    exact main_eq a0 a1 a2 a3 cap1 cap2 cap3 len3 z1 z2 z3 w e1 e2 e3 w0 m1 f3 n1 n2 n3
      (getD_range (by omega) (by omega) (fun n hn => bounds_u8 (f1 n hn)))
      (getD_range (by omega) (by omega) (fun n hn => bounds_i64 (f2 n hn))) c1 c2 c3
  · subst e3
    exact main_ne a0 a1 a2 a3 cap1 cap2 cap3 len1 len2 z3 w w0 m1 m2 m3 f3 c3 h

set_option maxRecDepth 100000 in
theorem lifted (os : Os) (started : os.Started) (H : Type) (enc : TypeId × Value → H) :
    ReturnsInHanded {} Try.checked os 7 .any (Rows.fnMakeRowDecodesBackExactlySpec.pre6 enc Try.prog Try.f7 Rows.fnMakeRowDecodesBackExactlyRow.domain false) (Rows.fnMakeRowDecodesBackExactlySpec.post enc Try.prog Try.f7 false true false false) := by
  refine returnsInHanded_of_change (C := Try.checked) own started (by kernel_rfl) Try.func7
    (ChangeSpec.witness6 (enc := enc) (C := Try.checked) false ⟨#[], #[.string ByteArray.empty, .slice none 0 0, .slice none 0 0, .slice none 0 0], []⟩ 8 (by kernel_rfl) (by kernel_rfl) (by kernel_rfl) (by kernel_rfl)) ?_
  intro W base args ds gs before hval0 hW hcnd _
  have hval : ∀ (j : Nat) t v, Try.f7.params[j]? = some t → args[j]? = some v → Value.okWide Try.prog W .any base t v := hval0
  have hW' := hW
  obtain ⟨p, q, hA0, hV, rfl, hfz, hnd⟩ := hW
  have hA : DataW.TrodAll enc Try.prog W 0 (fun _ => true) true Try.f7.params.toList args.toList ds p := hA0
  rw [Try.params7] at hA hval
  obtain ⟨v0, vs0, d0, ds0, p0, q0, hargs, rfl, rfl, h0, r0⟩ := trodAll_cons hA
  obtain ⟨v1, vs1, d1, ds1, p1, q1, rfl, rfl, rfl, h1, r1⟩ := trodAll_cons r0
  obtain ⟨v2, vs2, d2, ds2, p2, q2, rfl, rfl, rfl, h2, r2⟩ := trodAll_cons r1
  obtain ⟨v3, vs3, d3, ds3, p3, q3, rfl, rfl, rfl, h3, r3⟩ := trodAll_cons r2
  obtain ⟨rfl, rfl, rfl⟩ := trodAll_nil r3
  obtain rfl : args = #[v0, v1, v2, v3] := by cases args; simp_all
  obtain ⟨rfl, rfl⟩ := trodVars_none hV
  obtain ⟨a0, rfl, rfl, rfl, w0⟩ := open_string Try.underlying9 (hval 0 9 v0 rfl rfl) h0
  obtain ⟨a1, len1, cap1, rfl⟩ := okWide_slice Try.underlying23 (hval 1 23 v1 rfl rfl)
  have k1 := h1
  have lt1 : ∀ x ∈ p1, x.block < W.heap.size := by obtain ⟨m, hm⟩ := k1; exact DataW.trod_lt m _ _ _ hm
  obtain ⟨z1, w1⟩ : ∃ zs, IsInts .u8 W a1 len1 zs := by
    obtain ⟨fuel, hf⟩ := h1
    rcases open_ints Try.underlying23 Try.underlying5 (by kernel_rfl) hf with ⟨hcs, _⟩ | ⟨x, l, c, zs, hcs, _, hl, hm, hz, _, hcell, hwz⟩
    · simp [Value.cells] at hcs
      obtain ⟨rfl, rfl, rfl⟩ := hcs
      exact ⟨[], rfl, by simp, fun _ => rfl, fun i hi => absurd hi (by simp), fun n hn => by cases hn⟩
    · simp [Value.cells] at hcs
      obtain ⟨rfl, rfl, rfl⟩ := hcs
      exact ⟨_, isInts_of hl hm (by simpa using hz) hcell hwz⟩
  obtain ⟨a2, len2, cap2, rfl⟩ := okWide_slice Try.underlying30 (hval 2 30 v2 rfl rfl)
  have k2 := h2
  have lt2 : ∀ x ∈ p2, x.block < W.heap.size := by obtain ⟨m, hm⟩ := k2; exact DataW.trod_lt m _ _ _ hm
  obtain ⟨z2, w2⟩ : ∃ zs, IsInts .i64 W a2 len2 zs := by
    obtain ⟨fuel, hf⟩ := h2
    rcases open_ints Try.underlying30 Try.underlying2 (by kernel_rfl) hf with ⟨hcs, _⟩ | ⟨x, l, c, zs, hcs, _, hl, hm, hz, _, hcell, hwz⟩
    · simp [Value.cells] at hcs
      obtain ⟨rfl, rfl, rfl⟩ := hcs
      exact ⟨[], rfl, by simp, fun _ => rfl, fun i hi => absurd hi (by simp), fun n hn => by cases hn⟩
    · simp [Value.cells] at hcs
      obtain ⟨rfl, rfl, rfl⟩ := hcs
      exact ⟨_, isInts_of hl hm (by simpa using hz) hcell hwz⟩
  obtain ⟨a3, len3, cap3, rfl⟩ := okWide_slice Try.underlying28 (hval 3 28 v3 rfl rfl)
  have k3 := h3
  have lt3 : ∀ x ∈ p3, x.block < W.heap.size := by obtain ⟨m, hm⟩ := k3; exact DataW.trod_lt m _ _ _ hm
  obtain ⟨z3, w3⟩ : ∃ ss, IsStrs W a3 len3 ss := by
    obtain ⟨fuel, hf⟩ := h3
    rcases open_strings Try.underlying28 Try.underlying9 (by kernel_rfl) hf with ⟨hcs, _⟩ | ⟨x, l, c, ss, hcs, _, hl, hm, hz, _, hcell, hws⟩
    · simp [Value.cells] at hcs
      obtain ⟨rfl, rfl, rfl⟩ := hcs
      exact ⟨[], rfl, by simp, fun _ => rfl, fun i hi => absurd hi (by simp), fun n hn => by cases hn⟩
    · simp [Value.cells] at hcs
      obtain ⟨rfl, rfl, rfl⟩ := hcs
      exact ⟨_, isStrs_of hl hm (by simpa using hz) hcell hws⟩
  clear hA0 hval0
  refine (walk a0 a1 len1 cap1 z1 a2 len2 cap2 z2 a3 len3 cap3 z3 W w0 w1 w2 w3).mono fun e W' ⟨he, bel⟩ => ?_
  subst he
  exact ⟨_, rfl, _, _, _, [], _, [], hW', trodAll_mk1 (shut_bool Try.underlying4 _), (trodAll_cons_mk (shut_string Try.underlying9 w0) (trodAll_cons_mk (Below.trod laidOut (by kernel_rfl) (of_decide_eq_true (by kernel_rfl)) k1 bel lt1) (trodAll_cons_mk (Below.trod laidOut (by kernel_rfl) (of_decide_eq_true (by kernel_rfl)) k2 bel lt2) (trodAll_cons_mk (Below.trod laidOut (by kernel_rfl) (of_decide_eq_true (by kernel_rfl)) k3 bel lt3) trodAll_mk0)))), rfl, bel.frame _, fun h => by cases h⟩

theorem over : Rows.fnMakeRowDecodesBackExactlyRow.holds Try.pinned (OpenSpec.ofChange Rows.fnMakeRowDecodesBackExactlySpec) :=
  OpenClaim.holds_of_wide 7 Try.f7 rfl rfl rfl rfl rfl rfl rfl ⟨rfl, rfl, rfl, rfl, rfl⟩ rfl rfl rfl rfl rfl (by kernel_rfl) Try.func7 (by kernel_rfl)
    (of_decide_eq_true (by kernel_rfl)) (by unfold Func.isWrapper; first | (rw [if_pos (by decide +kernel)]; kernel_rfl) | (rw [if_neg (by decide +kernel)]; exact ⟨rfl, rfl⟩))
    (fun os started H enc _ => lifted os started H enc)

theorem proved : Rows.FnMakeRowDecodesBackExactlySaid := over
#print axioms proved
end Go.Proofs.Qxb6000098a.fnMakeRowDecodesBackExactly

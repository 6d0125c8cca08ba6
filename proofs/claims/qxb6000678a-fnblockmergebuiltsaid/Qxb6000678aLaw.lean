import Derived.Test.Qxb6000678aBsm
import Derived.Test.Qxb6000678aOwn
namespace Go.Proofs.Qxb6000678a

/-- No byte of a comment opens a break. -/
def plainB (x : Int) : Prop := x ≠ 10 ∧ x ≠ 13 ∧ x ≠ 194 ∧ x ≠ 226

theorem lb_plain (x : Int) (t : List Int) (h : plainB x) : lb (x :: t) = 0 := by
  obtain ⟨h1, h2, h3, h4⟩ := h
  simp [lb, lbv, h1, h2, h3, h4]

theorem lb_brk (b : Int) (r : List Int) (hr : brkL b ≠ [13] ∨ r.getD 0 0 ≠ 10) : lb (brkL b ++ r) = (brkL b).length := by
  unfold brkL at hr ⊢
  split at hr
  · simp [lb, lbv, *]
  rename_i h0
  rw [if_neg h0]
  split at hr
  · rename_i h1
    rw [if_pos h1]
    cases r with
    | nil => simp [lb, lbv]
    | cons x t => simp at hr; simp [lb, lbv, hr]
  rename_i h1
  rw [if_neg h1]
  clear hr
  split
  · simp [lb, lbv]
  split
  · simp [lb, lbv]
  split
  · simp [lb, lbv]
  · simp [lb, lbv]

theorem brk_head (b : Int) : ∃ x t, brkL b = x :: t ∧ (x = 10 ∨ x = 13 ∨ x = 194 ∨ x = 226) ∧ (x = 10 → t = []) := by
  unfold brkL
  (repeat' split) <;> exact ⟨_, _, rfl, by omega, by simp⟩

/-- Empty lines: so many spaces and a break, each. -/
def segs : List (Nat × Int) → List Int
  | [] => []
  | (j, e) :: ps => List.replicate j 32 ++ brkL e ++ segs ps

/-- A break ahead of empty lines: it is read, alone or with the LF of a line that follows at once. -/
theorem brk_segs (b : Int) (ps : List (Nat × Int)) : ∃ ps', lb (brkL b ++ segs ps) ≠ 0 ∧ (brkL b ++ segs ps).drop (lb (brkL b ++ segs ps)) = segs ps' ∧ (∀ x ∈ ps', x ∈ ps) ∧ ps'.length ≤ ps.length := by
  by_cases hr : (segs ps).getD 0 0 = 10
  · by_cases hb : brkL b = [13]
    · cases ps with
      | nil => simp [segs] at hr
      | cons p ps =>
        obtain ⟨j, e⟩ := p
        cases j with
        | succ j => simp [segs, List.replicate_succ] at hr
        | zero =>
          obtain ⟨x, t, hx, _, hx10⟩ := brk_head e
          have h10 : x = 10 := by simpa [segs, hx] using hr
          have ht := hx10 h10
          subst h10 ht
          refine ⟨ps, ?_, ?_, fun y hy => List.mem_cons_of_mem _ hy, by simp⟩
          · rw [hb]; simp [segs, hx, lb, lbv]
          · rw [hb]; simp [segs, hx, lb, lbv]
    · rw [lb_brk b _ (.inl hb)]
      refine ⟨ps, by have := brkL_len b; omega, by simp, fun _ h => h, Nat.le_refl _⟩
  · rw [lb_brk b _ (.inr hr)]
    refine ⟨ps, by have := brkL_len b; omega, by simp, fun _ h => h, Nat.le_refl _⟩

theorem cs_rep (j : Nat) (r : List Int) (hr : r.getD 0 0 ≠ 32) : cs (List.replicate j 32 ++ r) = j := by
  induction j with
  | zero =>
    cases r with
    | nil => rfl
    | cons x t => simp at hr; simp [cs, hr]
  | succ j ih => rw [List.replicate_succ, List.cons_append, cs, if_pos rfl, ih]

theorem tail_segs (k : Nat) (f : Nat) (ps : List (Nat × Int)) (hf : ps.length ≤ f) (h : ∀ x ∈ ps, x.1 ≤ k) : tailOk f k (segs ps) = true := by
  induction f generalizing ps with
  | zero =>
    cases ps with
    | nil => rfl
    | cons p ps => simp at hf
  | succ f ih =>
    cases ps with
    | nil => rfl
    | cons p ps =>
      obtain ⟨j, e⟩ := p
      obtain ⟨x, t, hx, hx4, _⟩ := brk_head e
      have hcs : cs (segs ((j, e) :: ps)) = j := by
        rw [segs, List.append_assoc]
        exact cs_rep j _ (by rw [hx]; simp; omega)
      have hd : (segs ((j, e) :: ps)).drop j = brkL e ++ segs ps := by
        rw [segs, List.append_assoc]
        exact List.drop_left' (by simp)
      obtain ⟨ps', h1, h2, h3, h4⟩ := brk_segs e ps
      rw [tailOk, hcs, hd, ← List.drop_drop, hd, h2, ih ps' (by simp at hf; omega) (fun y hy => h y (List.mem_cons_of_mem _ (h3 y hy)))]
      have := h (j, e) (by simp)
      simp [h1]
      right
      exact this

/-- The whole text that the law builds. -/
def textL (ind : Int) (cd cm : List Int) (b1 : Int) (k : Nat) (tl : List Int) : List Int :=
  (ind :: cd) ++ (cm ++ (brkL b1 ++ (List.replicate k 32 ++ (60 :: 60 :: tl))))

theorem text_drop1 (ind : Int) (cd cm : List Int) (b1 : Int) (k : Nat) (tl : List Int) : (textL ind cd cm b1 k tl).drop (1 + cd.length) = cm ++ (brkL b1 ++ (List.replicate k 32 ++ (60 :: 60 :: tl))) :=
  List.drop_left' (by simp; omega)
theorem text_drop2 (ind : Int) (cd cm : List Int) (b1 : Int) (k : Nat) (tl : List Int) : (textL ind cd cm b1 k tl).drop (1 + cd.length + cm.length) = brkL b1 ++ (List.replicate k 32 ++ (60 :: 60 :: tl)) := by
  rw [← List.drop_drop, text_drop1]; exact List.drop_left' rfl
theorem text_drop3 (ind : Int) (cd cm : List Int) (b1 : Int) (k : Nat) (tl : List Int) : (textL ind cd cm b1 k tl).drop (1 + cd.length + cm.length + (brkL b1).length) = List.replicate k 32 ++ (60 :: 60 :: tl) := by
  rw [← List.drop_drop, text_drop2]; exact List.drop_left' rfl
theorem text_drop4 (ind : Int) (cd cm : List Int) (b1 : Int) (k : Nat) (tl : List Int) : (textL ind cd cm b1 k tl).drop (1 + cd.length + cm.length + (brkL b1).length + k) = 60 :: 60 :: tl := by
  rw [← List.drop_drop, text_drop3]; exact List.drop_left' (by simp)
theorem text_drop5 (ind : Int) (cd cm : List Int) (b1 : Int) (k : Nat) (tl : List Int) : (textL ind cd cm b1 k tl).drop (1 + cd.length + cm.length + (brkL b1).length + k + 2) = tl := by
  rw [← List.drop_drop, text_drop4]; rfl
theorem text_len (ind : Int) (cd cm : List Int) (b1 : Int) (k : Nat) (tl : List Int) : (textL ind cd cm b1 k tl).length = 1 + cd.length + cm.length + (brkL b1).length + k + 2 + tl.length := by
  simp [textL]; omega
theorem getD_drop (l : List Int) (i : Nat) : l.getD i 0 = (l.drop i).getD 0 0 := by simp

theorem sAt_mem (ind : Int) (cd r : List Int) (h : 45 ∈ cd) : sAt ((ind :: cd) ++ r) (1 + cd.length) = true := by
  obtain ⟨j, hj, he⟩ := List.mem_iff_getElem.1 h
  have key : ∀ d, sAt ((ind :: cd) ++ r) (j + 2 + d) = true := by
    intro d
    induction d with
    | zero =>
      rw [Nat.add_zero, sAt]
      have : ((ind :: cd) ++ r).getD (j + 1) 0 = 45 := by simp [List.getElem?_append, hj, he]
      rw [this]
      simp
    | succ d ih => rw [show j + 2 + (d + 1) = (j + 2 + d) + 1 by omega, sAt, ih, Bool.true_or]
  have := key (cd.length - j - 1)
  rwa [show j + 2 + (cd.length - j - 1) = 1 + cd.length by omega] at this

open Go.RowKit in
/-- The text stands for the merge. -/
theorem text_true (g off c : Nat) (w : World) (ind : Int) (cd cm : List Int) (b1 : Int) (k : Nat) (tl : List Int) (indent : Int) (n : Nat)
    (hL : (textL ind cd cm b1 k tl).length = n) (hn : (n : Int) ≤ 1000000000000) (hcap : n ≤ c) (hcdl : cd.length ≤ 2) (hcd : ∀ x ∈ cd, hc x)
    (hcm0 : cm = [] ∨ cm.getD 0 0 = 32) (hcm : ∀ x ∈ cm, plainB x) (hind : indent = 0 ∨ indent = k)
    (htl : tl = [] ∨ (45 ∈ cd ∧ ∃ b2 ps, tl = brkL b2 ++ segs ps ∧ ∀ x ∈ ps, x.1 ≤ k)) (hB : BytesAt w (some ⟨g, off, none⟩) (textL ind cd cm b1 k tl)) :
    Calls Try.prog 32 #[.slice (some ⟨g, off, none⟩) n c, .int .i64 indent] w fun e w' => e = .returned (.bool true) ∧ Below w.heap.size w w' := by
  obtain ⟨x, t, hx, hx4, _⟩ := brk_head b1
  have hbl := brkL_len b1
  have hlen := text_len ind cd cm b1 k tl
  rw [hL] at hlen
  have d1 := text_drop1 ind cd cm b1 k tl
  have d2 := text_drop2 ind cd cm b1 k tl
  have d3 := text_drop3 ind cd cm b1 k tl
  have d4 := text_drop4 ind cd cm b1 k tl
  have d5 := text_drop5 ind cd cm b1 k tl
  obtain ⟨n4, ps', hn4, hps⟩ : ∃ n4 ps', (tl ≠ [] → lb tl = n4 ∧ n4 ≠ 0 ∧ tl.drop n4 = segs ps' ∧ ∀ y ∈ ps', y.1 ≤ k) ∧ True := by
    rcases htl with h | ⟨_, b2, ps, h, hk⟩
    · exact ⟨0, [], fun hne => absurd h hne, trivial⟩
    · obtain ⟨ps', g1, g2, g3, _⟩ := brk_segs b2 ps
      rw [← h] at g1 g2
      exact ⟨_, ps', fun _ => ⟨rfl, g1, g2, fun y hy => hk y (g3 y hy)⟩, trivial⟩
  refine bsm_any g off n c (textL ind cd cm b1 k tl) indent w hL hn hcap (1 + cd.length) (1 + cd.length + cm.length) (brkL b1).length k n4 ps'.length
    (by omega) (by omega) (by omega) ?_ ?_ (by omega) (by omega) ?_ ?_ (by omega) ?_ hind (by omega) ?_ ?_ ?_ hB
  · intro j h1 h2
    apply hcd
    have : (textL ind cd cm b1 k tl).getD j 0 = cd.getD (j - 1) 0 := by
      obtain ⟨j, rfl⟩ : ∃ i, j = i + 1 := ⟨j - 1, by omega⟩
      simp [textL, List.getElem?_append, show j < cd.length by omega]
    rw [this, List.getD_eq_getElem?_getD, List.getElem?_eq_getElem (by omega : j - 1 < cd.length)]
    exact List.getElem_mem _
  · rw [getD_drop, d1]
    rcases hcm0 with h | h
    · rw [h, hx]; unfold hc; simp; omega
    · cases cm with
      | nil => simp at h
      | cons y ys => simp at h; subst h; unfold hc; simp
  · intro j h1 h2
    obtain ⟨i, rfl⟩ : ∃ i, j = 1 + cd.length + i := ⟨j - (1 + cd.length), by omega⟩
    rw [← List.drop_drop, d1, List.drop_append_of_le_length (by omega), List.drop_eq_getElem_cons (by omega : i < cm.length)]
    exact lb_plain _ _ (hcm _ (List.getElem_mem _))
  · rw [d2]
    apply lb_brk
    right
    cases k with
    | zero => simp
    | succ k => simp [List.replicate_succ]
  · rw [d3]; exact cs_rep k _ (by simp)
  · rw [getD_drop, d4]; simp
  · rw [getD_drop, ← List.drop_drop, d4]; simp
  · rcases htl with h | ⟨h45, b2, ps, h, hk⟩
    · left; rw [hlen, h]; simp
    · right
      have hne : tl ≠ [] := by
        intro h0
        obtain ⟨y, ys, hy, _⟩ := brk_head b2
        rw [h0, hy] at h
        simp at h
      obtain ⟨q1, q2, q3, q4⟩ := hn4 hne
      refine ⟨sAt_mem ind cd _ h45, ?_, by rw [d5]; exact q1, q2, ?_⟩
      · have : 0 < tl.length := List.length_pos_iff.2 hne
        omega
      · rw [← List.drop_drop, d5, q3]
        exact tail_segs k _ ps' (Nat.le_refl _) q4
end Go.Proofs.Qxb6000678a

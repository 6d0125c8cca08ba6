import Derived.Test.Qxb6000848aNum
namespace Go.Proofs.Qxb6000848a

/-- No exponent mark. -/
def noE (l : List UInt8) : Prop := ∀ c ∈ l, c.toNat ≠ 101 ∧ c.toNat ≠ 69

theorem noE_tail {c : UInt8} {r : List UInt8} (h : noE (c :: r)) : noE r := fun x hx => h x (List.mem_cons_of_mem _ hx)
theorem noE_skip {l : List UInt8} (h : noE l) : noE (skipD l) := fun x hx => h x (List.mem_of_mem_drop hx)
theorem noE_head {c : UInt8} {r : List UInt8} (h : noE (c :: r)) : ¬ (c.toNat = 101 ∨ c.toNat = 69) := by
  have := h c (by simp); omega

theorem nd_app (l Y : List UInt8) (hY : Y = [] ∨ dg (Y.getD 0 0) = false) : nd (l ++ Y) = nd l := by
  induction l with
  | nil =>
    cases Y with
    | nil => rfl
    | cons y t =>
      rcases hY with h | h
      · cases h
      · simp at h; simp [nd, h]
  | cons c r ih => rw [List.cons_append, nd, nd, ih]
theorem skip_app (l Y : List UInt8) (hY : Y = [] ∨ dg (Y.getD 0 0) = false) : skipD (l ++ Y) = skipD l ++ Y := by
  unfold skipD
  rw [nd_app l Y hY, List.drop_append_of_le_length (nd_le l)]

theorem numE_plain (l : List UInt8) (h : noE l) : numE l = l.isEmpty := by
  cases l with
  | nil => rfl
  | cons c r => rw [numE, if_neg (noE_head h)]; rfl

/-- What is appended: it opens with no digit, no point and no minus; read as an exponent it says b. -/
structure Tail (Y : List UInt8) (b : Bool) : Prop where
  ne : Y ≠ []
  nod : dg (Y.getD 0 0) = false
  nom : Y.getD 0 0 ≠ 45
  numF : numF Y = b
  numE : numE Y = b

theorem Tail.e {Y : List UInt8} {b : Bool} (T : Tail Y b) (l : List UInt8) (h : noE l) : Qxb6000848a.numE (l ++ Y) = (b && l.isEmpty) := by
  cases l with
  | nil => simp [T.numE]
  | cons c r => rw [List.cons_append, Qxb6000848a.numE, if_neg (noE_head h)]; simp
theorem Tail.f {Y : List UInt8} {b : Bool} (T : Tail Y b) (l : List UInt8) (h : noE l) : Qxb6000848a.numF (l ++ Y) = (b && Qxb6000848a.numF l) := by
  cases l with
  | nil => rw [List.nil_append, T.numF]; simp [Qxb6000848a.numF, Qxb6000848a.numE]
  | cons c r =>
    rw [List.cons_append, Qxb6000848a.numF, Qxb6000848a.numF]
    split
    · rw [nd_app r Y (.inr T.nod), skip_app r Y (.inr T.nod), T.e _ (noE_skip (noE_tail h)), numE_plain _ (noE_skip (noE_tail h))]
      cases b <;> simp
    · rw [← List.cons_append, T.e _ h, numE_plain _ h]
theorem Tail.a {Y : List UInt8} {b : Bool} (T : Tail Y b) (l : List UInt8) (h : noE l) : numA (l ++ Y) = (b && numA l) := by
  cases l with
  | nil =>
    obtain ⟨y, t, rfl⟩ : ∃ y t, Y = y :: t := by
      cases Y with
      | nil => exact absurd rfl T.ne
      | cons y t => exact ⟨y, t, rfl⟩
    have hd : dg y = false := by simpa using T.nod
    have h48 : ¬ y.toNat = 48 := by
      intro e; unfold dg at hd; simp [e] at hd
    show numA (y :: t) = (b && false)
    rw [numA, if_neg h48, if_neg (by simp [hd])]; simp
  | cons c r =>
    rw [List.cons_append, numA, numA]
    split
    · exact T.f _ (noE_tail h)
    · split
      · rw [skip_app r Y (.inr T.nod), T.f _ (noE_skip (noE_tail h))]
      · simp
theorem trim_app (l Y : List UInt8) (hY : Y.getD 0 0 ≠ 45) : Lib.trimPrefix (l ++ Y) [45] = Lib.trimPrefix l [45] ++ Y := by
  cases l with
  | nil =>
    have h1 : Lib.trimPrefix ([] : List UInt8) [45] = [] := rfl
    rw [List.nil_append, h1, List.nil_append]
    apply trim_no
    cases Y with
    | nil => rfl
    | cons y t => exact pre_no y 45 t (by simpa using hY)
  | cons c r =>
    by_cases hc : c = 45
    · subst hc; rw [List.cons_append, trim_yes, trim_yes]
    · rw [List.cons_append, trim_no _ _ (pre_no c 45 _ hc), trim_no _ _ (pre_no c 45 _ hc), List.cons_append]
theorem noE_trim {l : List UInt8} (h : noE l) : noE (Lib.trimPrefix l [45]) := by
  unfold Lib.trimPrefix
  split
  · exact fun x hx => h x (List.mem_of_mem_drop hx)
  · exact h
theorem Tail.num {Y : List UInt8} {b : Bool} (T : Tail Y b) (l : List UInt8) (h : noE l) : isNum (l ++ Y) = (b && isNum l) := by
  unfold isNum
  rw [trim_app l Y T.nom]
  exact T.a _ (noE_trim h)

/-- The marks. -/
def markL (upper : Bool) (sg : Int) : List UInt8 :=
  (if upper then 69 else 101) :: (if sg = 1 then [43] else if sg = 2 then [45] else [])

theorem nd_all (ds : List UInt8) (h : ∀ c ∈ ds, dg c = true) : nd ds = ds.length := by
  induction ds with
  | nil => rfl
  | cons c r ih => rw [nd, if_pos (h c (by simp)), ih (fun x hx => h x (List.mem_cons_of_mem _ hx))]; rfl
theorem skip_all (ds : List UInt8) (h : ∀ c ∈ ds, dg c = true) : skipD ds = [] := by
  unfold skipD; rw [nd_all ds h]; simp

theorem mark_digits (upper : Bool) (sg : Int) (ds : List UInt8) (h : ∀ c ∈ ds, dg c = true) (hne : ds ≠ []) : Tail (markL upper sg ++ ds) true := by
  have hs : sgn ((if sg = 1 then [43] else if sg = 2 then [45] else []) ++ ds) = ds := by
    split
    · rfl
    split
    · rfl
    · cases ds with
      | nil => exact absurd rfl hne
      | cons d r =>
        have hd := h d (by simp)
        unfold dg at hd
        simp at hd
        rw [List.nil_append, sgn, if_neg (by omega)]
  have he : numE (markL upper sg ++ ds) = true := by
    unfold markL
    rw [List.cons_append, numE, if_pos (by cases upper <;> simp), hs, nd_all ds h, skip_all ds h]
    cases ds with
    | nil => exact absurd rfl hne
    | cons d r => simp
  refine ⟨by simp [markL], by cases upper <;> rfl, by cases upper <;> simp [markL], ?_, he⟩
  rw [← he]
  unfold markL
  rw [List.cons_append, numF, if_neg (by cases upper <;> simp)]
theorem mark_only (upper : Bool) (sg : Int) : Tail (markL upper sg) false := by
  have he : numE (markL upper sg) = false := by
    unfold markL
    rw [numE, if_pos (by cases upper <;> simp)]
    split
    · rfl
    split <;> rfl
  refine ⟨by simp [markL], by cases upper <;> rfl, by cases upper <;> simp [markL], ?_, he⟩
  rw [← he]
  unfold markL
  rw [numF, if_neg (by cases upper <;> simp)]
theorem point_only : Tail [46] false := ⟨by simp, rfl, by simp, rfl, rfl⟩
end Go.Proofs.Qxb6000848a

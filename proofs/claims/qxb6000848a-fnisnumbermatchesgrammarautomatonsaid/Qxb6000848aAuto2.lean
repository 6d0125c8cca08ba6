import Derived.Test.Qxb6000848aAuto
namespace Go.Proofs.Qxb6000848a
open Go.RowKit

/-- The automaton over a text, from a state. -/
def fin (st : Int) : Bool := decide (st = 2) || decide (st = 3) || decide (st = 5) || decide (st = 8)
def acc (st : Int) : List UInt8 → Bool
  | [] => fin st
  | c :: r => if stp st c.toNat < 0 then false else acc (stp st c.toNat) r

theorem nd_nil : nd [] = 0 := rfl
theorem skip_nil : skipD [] = [] := rfl
theorem nd_yes {c : UInt8} {r : List UInt8} (h : dg c = true) : nd (c :: r) = nd r + 1 := by rw [nd, if_pos h]
theorem nd_no {c : UInt8} {r : List UInt8} (h : dg c = false) : nd (c :: r) = 0 := by rw [nd, if_neg (by simp [h])]
theorem skip_yes {c : UInt8} {r : List UInt8} (h : dg c = true) : skipD (c :: r) = skipD r := by unfold skipD; rw [nd_yes h]; rfl
theorem skip_no {c : UInt8} {r : List UInt8} (h : dg c = false) : skipD (c :: r) = c :: r := by unfold skipD; rw [nd_no h]; rfl

theorem dg_yes {c : UInt8} (h : dg c = true) : (48 : Int) ≤ c.toNat ∧ (c.toNat : Int) ≤ 57 := by
  unfold dg at h; simp at h; omega
theorem dg_no {c : UInt8} (h : dg c = false) : ¬ ((48 : Int) ≤ c.toNat ∧ (c.toNat : Int) ≤ 57) := by
  unfold dg at h; simp at h; omega

theorem acc8 (l : List UInt8) : acc 8 l = (skipD l).isEmpty := by
  induction l with
  | nil => rfl
  | cons c r ih =>
    rcases hd : dg c with _ | _
    · have h : stp 8 c.toNat = -1 := by unfold stp; simp [dg_no hd] <;> omega
      rw [acc, h, if_pos (by omega), skip_no hd]; rfl
    · have h : stp 8 c.toNat = 8 := by unfold stp; simp [dg_yes hd] <;> omega
      rw [acc, h, if_neg (by omega), skip_yes hd, ih]
theorem acc7 (l : List UInt8) : acc 7 l = (decide (nd l ≠ 0) && (skipD l).isEmpty) := by
  cases l with
  | nil => rfl
  | cons c r =>
    rcases hd : dg c with _ | _
    · have h : stp 7 c.toNat = -1 := by unfold stp; simp [dg_no hd] <;> omega
      rw [acc, h, if_pos (by omega), nd_no hd]; rfl
    · have h : stp 7 c.toNat = 8 := by unfold stp; simp [dg_yes hd] <;> omega
      rw [acc, h, if_neg (by omega), skip_yes hd, nd_yes hd, acc8]; simp
theorem acc6 (l : List UInt8) : acc 6 l = (decide (nd (sgn l) ≠ 0) && (skipD (sgn l)).isEmpty) := by
  cases l with
  | nil => rfl
  | cons c r =>
    by_cases hs : c.toNat = 43 ∨ c.toNat = 45
    · have h : stp 6 c.toNat = 7 := by
        have : ((c.toNat : Int) = 43 ∨ (c.toNat : Int) = 45) := by omega
        unfold stp; simp [this] <;> omega
      rw [acc, h, if_neg (by omega), sgn, if_pos hs, acc7]
    · have hs' : ¬ ((c.toNat : Int) = 43 ∨ (c.toNat : Int) = 45) := by omega
      rw [sgn, if_neg hs]
      rcases hd : dg c with _ | _
      · have h : stp 6 c.toNat = -1 := by unfold stp; simp [dg_no hd, hs'] <;> omega
        rw [acc, h, if_pos (by omega), nd_no hd]; rfl
      · have h : stp 6 c.toNat = 8 := by unfold stp; simp [dg_yes hd, hs'] <;> omega
        rw [acc, h, if_neg (by omega), skip_yes hd, nd_yes hd, acc8]; simp
theorem mark_dg {c : UInt8} (h : c.toNat = 101 ∨ c.toNat = 69) : dg c = false := by unfold dg; simp; omega
theorem dot_dg {c : UInt8} (h : c.toNat = 46) : dg c = false := by unfold dg; simp; omega
theorem acc5 (l : List UInt8) : acc 5 l = numE (skipD l) := by
  induction l with
  | nil => rfl
  | cons c r ih =>
    rcases hd : dg c with _ | _
    · rw [skip_no hd, numE]
      by_cases hm : c.toNat = 101 ∨ c.toNat = 69
      · have hm' : ((c.toNat : Int) = 101 ∨ (c.toNat : Int) = 69) := by omega
        have h : stp 5 c.toNat = 6 := by unfold stp; simp [dg_no hd, hm'] <;> omega
        rw [acc, h, if_neg (by omega), if_pos hm, acc6]
      · have hm' : ¬ ((c.toNat : Int) = 101 ∨ (c.toNat : Int) = 69) := by omega
        have h : stp 5 c.toNat = -1 := by unfold stp; simp [dg_no hd, hm'] <;> omega
        rw [acc, h, if_pos (by omega), if_neg hm]
    · have h : stp 5 c.toNat = 5 := by unfold stp; simp [dg_yes hd] <;> omega
      rw [acc, h, if_neg (by omega), skip_yes hd, ih]
theorem acc4 (l : List UInt8) : acc 4 l = (decide (nd l ≠ 0) && numE (skipD l)) := by
  cases l with
  | nil => rfl
  | cons c r =>
    rcases hd : dg c with _ | _
    · have h : stp 4 c.toNat = -1 := by unfold stp; simp [dg_no hd] <;> omega
      rw [acc, h, if_pos (by omega), nd_no hd]; rfl
    · have h : stp 4 c.toNat = 5 := by unfold stp; simp [dg_yes hd] <;> omega
      rw [acc, h, if_neg (by omega), skip_yes hd, nd_yes hd, acc5]; simp
theorem acc2 (l : List UInt8) : acc 2 l = numF l := by
  cases l with
  | nil => rfl
  | cons c r =>
    rw [numF]
    by_cases hp : c.toNat = 46
    · have hp' : (c.toNat : Int) = 46 := by omega
      have h : stp 2 c.toNat = 4 := by unfold stp; simp [hp'] <;> omega
      rw [acc, h, if_neg (by omega), if_pos hp, acc4]
    · have hp' : ¬ (c.toNat : Int) = 46 := by omega
      rw [if_neg hp, numE]
      by_cases hm : c.toNat = 101 ∨ c.toNat = 69
      · have hm' : ((c.toNat : Int) = 101 ∨ (c.toNat : Int) = 69) := by omega
        have h : stp 2 c.toNat = 6 := by unfold stp; simp [hp', hm'] <;> omega
        rw [acc, h, if_neg (by omega), if_pos hm, acc6]
      · have hm' : ¬ ((c.toNat : Int) = 101 ∨ (c.toNat : Int) = 69) := by omega
        have h : stp 2 c.toNat = -1 := by unfold stp; simp [hp', hm'] <;> omega
        rw [acc, h, if_pos (by omega), if_neg hm]
theorem acc3 (l : List UInt8) : acc 3 l = numF (skipD l) := by
  induction l with
  | nil => rfl
  | cons c r ih =>
    rcases hd : dg c with _ | _
    · have h : stp 3 c.toNat = stp 2 c.toNat := by unfold stp; simp [dg_no hd] <;> omega
      rw [skip_no hd, ← acc2, acc, acc, h]
    · have h : stp 3 c.toNat = 3 := by unfold stp; simp [dg_yes hd] <;> omega
      rw [acc, h, if_neg (by omega), skip_yes hd, ih]
theorem acc1 (l : List UInt8) : acc 1 l = numA l := by
  cases l with
  | nil => rfl
  | cons c r =>
    rw [numA]
    by_cases hz : c.toNat = 48
    · have hz' : (c.toNat : Int) = 48 := by omega
      have h : stp 1 c.toNat = 2 := by unfold stp; simp [hz'] <;> omega
      rw [acc, h, if_neg (by omega), if_pos hz, acc2]
    · have hz' : ¬ (c.toNat : Int) = 48 := by omega
      rw [if_neg hz]
      rcases hd : dg c with _ | _
      · have h : stp 1 c.toNat = -1 := by unfold stp; simp [hz', dg_no hd] <;> omega
        rw [acc, h, if_pos (by omega)]; rfl
      · have h : stp 1 c.toNat = 3 := by unfold stp; simp [hz', dg_yes hd] <;> omega
        rw [acc, h, if_neg (by omega), if_pos rfl, acc3]
theorem acc0 (l : List UInt8) : acc 0 l = isNum l := by
  unfold isNum
  cases l with
  | nil => rfl
  | cons c r =>
    by_cases hm : c = 45
    · subst hm
      rw [trim_yes, ← acc1]; rfl
    · rw [trim_no _ _ (pre_no c 45 r hm), ← acc1]
      have hm' : ¬ (c.toNat : Int) = 45 := fun e => hm (UInt8.toNat_inj.1 (by show c.toNat = 45; omega))
      have h : stp 0 c.toNat = stp 1 c.toNat := by unfold stp; simp [hm'] <;> omega
      rw [acc, acc, h]

/-- The state stays one of the nine, or it is dead. -/
theorem stp_nine (st n : Int) : stp st n = -1 ∨ (0 ≤ stp st n ∧ stp st n ≤ 8) := by
  unfold stp
  repeat' split
  all_goals omega

set_option maxRecDepth 20000 in
theorem zz_number (s : ByteArray) (w : World) (hs : (s.size : Int) ≤ 1000000000) : Calls Try.prog 9 #[.string s] w fun e w' => e = .returned (.bool (isNum s.data.toList)) ∧ w' = w := by
  go_enter Try.func9, Try.ntmps9
  go_wp2_with fail
  refine (isNumber_any s w hs).mono ?_
  rintro e w' ⟨rfl, rfl⟩
  go_wp2
  go_ret
  exact ⟨rfl, rfl⟩

set_option maxRecDepth 20000 in
set_option maxHeartbeats 1000000 in
theorem auto_any (s : ByteArray) (w : World) (hs : (s.size : Int) ≤ 1000000000) : Calls Try.prog 10 #[.string s] w fun e w' => e = .returned (.bool (acc 0 s.data.toList)) ∧ w' = w := by
  obtain ⟨res, hres⟩ : ∃ res, res = acc 0 s.data.toList := ⟨_, rfl⟩
  rw [← hres]
  have HR : Hid (res = acc 0 s.data.toList) := hres
  clear hres
  go_enter Try.func10, Try.ntmps10
  go_wp2
  go_loop [3, 4] (fun x i => ∃ (st : Int) (k : Nat), k ≤ s.size ∧ x = .int .i64 st ∧ i = .int .i64 k ∧ (st = 0 ∨ st = 1 ∨ st = 2 ∨ st = 3 ∨ st = 4 ∨ st = 5 ∨ st = 6 ∨ st = 7 ∨ st = 8) ∧ res = acc st (s.data.toList.drop k)) (fun _ i => s.size - (intOf i).toNat)
  case atStart => exact ⟨0, 0, Nat.zero_le _, rfl, rfl, .inl rfl, HR.out⟩
  case round =>
    obtain ⟨st, k, hk, rfl, rfl, hst, hacc⟩ := hrel
    have HA : Hid (res = acc st (s.data.toList.drop k)) := hacc
    clear hacc
    by_cases hlt : k < s.size
    · have hdrop : s.data.toList.drop k = s[k]'hlt :: s.data.toList.drop (k + 1) := by
        rw [List.drop_eq_getElem_cons (by simpa using hlt)]; rfl
      have hn : (((s[k]'hlt).toNat : Nat) : Int) ≤ 255 := by have := (s[k]'hlt).toNat_lt; omega
      have HB : Hid (res = acc st (s[k]'hlt :: s.data.toList.drop (k + 1))) := by
        show res = acc st (s[k]'hlt :: s.data.toList.drop (k + 1))
        rw [← hdrop]; exact HA.out
      clear hdrop HA
      go_wp2_with fail
      refine (step_any st (s[k]'hlt).toNat _ hst (by omega) hn).mono ?_
      rintro e w' ⟨rfl, hw⟩
      rw [hw]
      clear hw w'
      obtain ⟨x, hx⟩ : ∃ x, x = stp st (s[k]'hlt).toNat := ⟨_, rfl⟩
      have hx9 := stp_nine st (s[k]'hlt).toNat
      rw [← hx] at hx9
      rw [← hx]
      have HC : Hid (res = if x < 0 then false else acc x (s.data.toList.drop (k + 1))) := by
        show res = if x < 0 then false else acc x (s.data.toList.drop (k + 1))
        rw [hx, HB.out, acc]
      clear hx HB hst
      rcases hx9 with hx9 | ⟨h1, h2⟩
      · have hneg : x < 0 := by omega
        have hr : Hid (res = false) := by
          show res = false
          rw [HC.out, if_pos hneg]
        clear hx9
        go_wp2
        go_ret
        exact ⟨ret_bool hr.out.symm, rfl⟩
      · have hr : Hid (res = acc x (s.data.toList.drop (k + 1))) := by
          show res = acc x (s.data.toList.drop (k + 1))
          rw [HC.out, if_neg (by omega)]
        go_wp2
        go_round
        case rel => exact ⟨x, k + 1, by omega, by go_num, by go_num, by omega, hr.out⟩
        case measure => simp [intOf]; omega
    · have hr : Hid (res = fin st) := by
        show res = fin st
        rw [HA.out, List.drop_of_length_le (by simp; omega)]; rfl
      clear HA
      rcases hst with rfl | rfl | rfl | rfl | rfl | rfl | rfl | rfl | rfl
      all_goals
        go_wp2
        go_ret
        exact ⟨ret_bool hr.out.symm, rfl⟩
end Go.Proofs.Qxb6000848a

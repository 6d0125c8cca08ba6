import Derived.Test.Qxb6000848aRows
import Derived.Test.Qxb6000848aShelf
import Derived.WalkKit
import Derived.WalkSpells
import Derived.WalkLawsBesides
import Derived.Deep.DeepCutAuto
import Derived.Deep.CutBlock
namespace Go.Proofs.Qxb6000848a
open Go.RowKit

/-- A decimal digit. -/
def dg (c : UInt8) : Bool := decide (48 ≤ c.toNat) && decide (c.toNat ≤ 57)
/-- How many digits a text begins with; the text behind them. -/
def nd : List UInt8 → Nat
  | [] => 0
  | c :: r => if dg c then nd r + 1 else 0
def skipD (l : List UInt8) : List UInt8 := l.drop (nd l)

theorem nd_le (l : List UInt8) : nd l ≤ l.length := by
  induction l with
  | nil => simp [nd]
  | cons c r ih => unfold nd; split <;> simp; omega
theorem nd_eq (l : List UInt8) (k : Nat) (h : ∀ j, j < k → dg (l.getD j 0) = true) (hk : k ≤ l.length) (he : k = l.length ∨ dg (l.getD k 0) = false) : nd l = k := by
  induction l generalizing k with
  | nil => simp at hk; subst hk; rfl
  | cons x t ih =>
    cases k with
    | zero =>
      rcases he with he | he
      · simp at he
      · unfold nd; rw [if_neg (by simpa using he)]
    | succ k =>
      have h0 := h 0 (by omega)
      unfold nd
      rw [if_pos (by simpa using h0)]
      rw [ih k (fun j hj => by have := h (j + 1) (by omega); simpa using this) (by simpa using hk) (he.elim (fun he => .inl (by simpa using he)) (fun he => .inr (by simpa using he)))]

theorem get_list (s : ByteArray) (k : Nat) (h : k < s.size) : s.data.toList.getD k 0 = s[k] := by
  rw [List.getD_eq_getElem?_getD, List.getElem?_eq_getElem (by simpa using h)]; rfl
theorem ext_list (s : ByteArray) (k : Nat) : (s.extract k s.size).data.toList = s.data.toList.drop k := by
  rw [ByteArray.data_extract, Array.toList_extract, List.extract_eq_take_drop]
  rw [List.take_of_length_le]
  simp

def SkipPost (s : ByteArray) (w : World) (e : Ending) (w' : World) : Prop := ∃ u : ByteArray, e = .returned (.string u) ∧ u.data.toList = skipD s.data.toList ∧ w = w'

set_option maxRecDepth 20000 in
set_option maxHeartbeats 400000 in
theorem skip_any (s : ByteArray) (w : World) (hs : (s.size : Int) ≤ 1000000000) : Calls Try.prog 22 #[.string s] w fun e w' => SkipPost s w e w' := by
  go_enter Try.func22, Try.ntmps22
  go_wp2
  go_loop [3] (fun i => ∃ k : Nat, k ≤ s.size ∧ i = .int .i64 k ∧ ∀ j, j < k → dg (s.data.toList.getD j 0) = true) (fun i => s.size - (intOf i).toNat)
  case atStart => exact ⟨0, Nat.zero_le _, rfl, fun j hj => absurd hj (by omega)⟩
  case round =>
    obtain ⟨k, hk, rfl, hall⟩ := hrel
    have HA : Hid (∀ j, j < k → dg (s.data.toList.getD j 0) = true) := hall
    clear hall
    by_cases hlt : k < s.size
    · by_cases h1 : (48 : Int) ≤ (s[k]'hlt).toNat
      · by_cases h2 : ((s[k]'hlt).toNat : Int) ≤ 57
        · go_wp2
          go_round
          case rel =>
            refine ⟨k + 1, by omega, by go_num, fun j hj => ?_⟩
            by_cases hjk : j = k
            · subst hjk; rw [get_list s j hlt]; unfold dg; simp; omega
            · exact HA.out j (by omega)
          case measure => simp [intOf]; omega
        · go_wp2
          go_ret
          have := nd_eq s.data.toList k HA.out (by simp; omega) (.inr (by rw [get_list s k hlt]; unfold dg; simp; omega))
          exact ⟨_, rfl, by rw [ext_list, skipD, this], rfl⟩
      · go_wp2
        go_ret
        have := nd_eq s.data.toList k HA.out (by simp; omega) (.inr (by rw [get_list s k hlt]; unfold dg; simp; omega))
        exact ⟨_, rfl, by rw [ext_list, skipD, this], rfl⟩
    · have hkn : k = s.size := by omega
      go_wp2
      go_ret
      have := nd_eq s.data.toList k HA.out (by simp; omega) (.inl (by simp; omega))
      exact ⟨_, rfl, by rw [skipD, this, hkn, List.drop_of_length_le (by simp)]; rfl, rfl⟩

/-- The number's grammar as isNumber reads it: the exponent; the fraction; the head. -/
def sgn : List UInt8 → List UInt8
  | [] => []
  | d :: r => if d.toNat = 43 ∨ d.toNat = 45 then r else d :: r
def numE : List UInt8 → Bool
  | [] => true
  | c :: r => if c.toNat = 101 ∨ c.toNat = 69 then (decide (nd (sgn r) ≠ 0) && (skipD (sgn r)).isEmpty) else false
def numF : List UInt8 → Bool
  | [] => numE []
  | c :: r => if c.toNat = 46 then (decide (nd r ≠ 0) && numE (skipD r)) else numE (c :: r)
def numA : List UInt8 → Bool
  | [] => false
  | c :: r => if c.toNat = 48 then numF r else if dg c then numF (skipD r) else false
def isNum (l : List UInt8) : Bool := numA (Lib.trimPrefix l [45])

theorem toList_data (s : ByteArray) : s.toList = s.data.toList := ByteArray.toList_eq s
theorem pre_nil (p : UInt8) : Lib.hasPrefix [] [p] = false := rfl
theorem pre_yes (c : UInt8) (r : List UInt8) : Lib.hasPrefix (c :: r) [c] = true := by simp [Lib.hasPrefix, List.isPrefixOf]
theorem pre_no (c p : UInt8) (r : List UInt8) (h : c ≠ p) : Lib.hasPrefix (c :: r) [p] = false := by
  have : ¬ p = c := fun e => h e.symm
  simp [Lib.hasPrefix, List.isPrefixOf, this]
theorem trim_yes (c : UInt8) (r : List UInt8) : Lib.trimPrefix (c :: r) [c] = r := by simp [Lib.trimPrefix, pre_yes]
theorem trim_no (l : List UInt8) (p : UInt8) (h : Lib.hasPrefix l [p] = false) : Lib.trimPrefix l [p] = l := by simp [Lib.trimPrefix, h]
theorem ret_bool {a b : Bool} (h : a = b) : Ending.returned (.bool a) = .returned (.bool b) := by rw [h]
theorem skip_len (l : List UInt8) : (skipD l).length = l.length - nd l := by unfold skipD; simp
theorem trim_le (l p : List UInt8) : (Lib.trimPrefix l p).length ≤ l.length := by
  unfold Lib.trimPrefix; split <;> simp

theorem skip_size {q z : ByteArray} {l : List UInt8} (hq : q.data.toList = l) (hz : z.data.toList = skipD l) : z.size + nd l = q.size := by
  have h1 := congrArg List.length hz
  have h2 := congrArg List.length hq
  have h3 := nd_le l
  rw [skip_len] at h1
  simp at h1 h2
  omega

set_option maxRecDepth 20000 in
set_option maxHeartbeats 1000000 in
theorem isNumber_any (s : ByteArray) (w : World) (hs : (s.size : Int) ≤ 1000000000) : Calls Try.prog 18 #[.string s] w fun e w' => e = .returned (.bool (isNum s.data.toList)) ∧ w' = w := by
  obtain ⟨res, hres⟩ : ∃ res, res = isNum s.data.toList := ⟨_, rfl⟩
  rw [← hres]
  have HR : Hid (res = isNum s.data.toList) := hres
  clear hres
  go_enter Try.func18, Try.ntmps18
  go_wp2_with fail
  refine (Try.strings_CutPrefix s _ w).mono ?_
  rintro e w' ⟨rfl, hw⟩
  rw [hw]
  clear hw w'
  obtain ⟨t, ht⟩ : ∃ t : ByteArray, t = ⟨(Lib.trimPrefix s.data.toList [45]).toArray⟩ := ⟨_, rfl⟩
  have HT : Hid (t.data.toList = Lib.trimPrefix s.data.toList [45]) := by
    show t.data.toList = Lib.trimPrefix s.data.toList [45]
    rw [ht]
  have hts : (t.size : Int) ≤ 1000000000 := by
    have h1 := trim_le s.data.toList [45]
    have h2 : t.size = t.data.toList.length := by simp
    rw [HT.out] at h2
    simp at h1
    omega
  rw [← ht]
  clear ht
  have HRA : Hid (res = numA t.data.toList) := by
    show res = numA t.data.toList
    rw [HT.out]; exact HR.out
  clear HR HT
  go_upto_block 0 with fail
  go_cut [0] from 6 to 31 (fun x wx => ∃ u : ByteArray, x = .string u ∧ res = numF u.data.toList ∧ (u.size : Int) ≤ 1000000000 ∧ wx = w)
  case first =>
    by_cases h0 : t.size = 0
    · have he : t.data.toList = [] := List.eq_nil_of_length_eq_zero (by simpa using h0)
      have hi : t.toList.isEmpty = true := by rw [toList_data, he]; rfl
      have hr : Hid (res = false) := by
        show res = false
        rw [HRA.out, he]; rfl
      clear h0 he
      go_wp2
      go_ret
      exact ⟨ret_bool hr.out.symm, rfl⟩
    · obtain ⟨c, r, hcr⟩ : ∃ c r, t.data.toList = c :: r := by
        cases h : t.data.toList with
        | nil => exact absurd (by have := congrArg List.length h; simpa using this) h0
        | cons c r => exact ⟨c, r, rfl⟩
      have hi : t.toList.isEmpty = false := by rw [toList_data, hcr]; rfl
      have hp : (0 : Int) < t.size := by omega
      have hc0 : t[0]'(by omega) = c := by rw [← get_list t 0 (by omega), hcr]; rfl
      have HX : Hid ((t.extract 1 t.size).data.toList = r) := by
        show (t.extract 1 t.size).data.toList = r
        rw [ext_list, hcr]; rfl
      have hxs : (t.extract 1 t.size).size = t.size - 1 := by simp
      have HC : Hid (c = t[0]'(by omega)) := hc0.symm
      have HRB : Hid (res = numA (c :: r)) := by
        show res = numA (c :: r)
        rw [← hcr]; exact HRA.out
      clear hcr hc0 h0 HRA
      by_cases k48 : c.toNat = 48
      · have g1 : ((t[0]'(by omega)).toNat : Int) ≤ 48 := by rw [← HC.out]; omega
        have g2 : (48 : Int) ≤ (t[0]'(by omega)).toNat := by rw [← HC.out]; omega
        have hr : Hid (res = numF r) := by
          show res = numF r
          rw [HRB.out, numA, if_pos k48]
        clear k48
        go_wp2
        go_meet
        case rel => exact ⟨_, rfl, by rw [HX.out]; exact hr.out, by rw [hxs]; omega, rfl⟩
      by_cases kd : dg c = true
      · have kd' : 49 ≤ c.toNat ∧ c.toNat ≤ 57 := by unfold dg at kd; simp at kd; omega
        have g1 : ((t[0]'(by omega)).toNat : Int) ≤ 57 := by rw [← HC.out]; omega
        have g2 : (49 : Int) ≤ (t[0]'(by omega)).toNat := by rw [← HC.out]; omega
        have hr : Hid (res = numF (skipD r)) := by
          show res = numF (skipD r)
          rw [HRB.out, numA, if_neg k48, if_pos kd]
        clear k48 kd kd'
        go_wp2_with fail
        refine (skip_any _ w (by rw [hxs]; omega)).mono ?_
        rintro e w' ⟨u, rfl, hu, rfl⟩
        have HU : Hid (u.data.toList = skipD r) := by
          show u.data.toList = skipD r
          rw [hu, HX.out]
        have hus : (u.size : Int) ≤ 1000000000 := by
          have h1 := congrArg List.length hu
          rw [skip_len] at h1
          simp at h1
          omega
        clear hu
        go_wp2
        go_meet
        case rel => exact ⟨u, rfl, by rw [HU.out]; exact hr.out, hus, rfl⟩
      · have hr : Hid (res = false) := by
          show res = false
          rw [HRB.out, numA, if_neg k48, if_neg kd]
        have hor : ((t[0]'(by omega)).toNat : Int) < 48 ∨ 57 < ((t[0]'(by omega)).toNat : Int) := by
          rw [← HC.out]; unfold dg at kd; simp at kd; omega
        clear k48 kd HRB
        rcases hor with hor | hor
        all_goals
          go_wp2
          go_ret
          exact ⟨ret_bool hr.out.symm, rfl⟩
  case rest =>
    clear HRA hts
    obtain ⟨u, rfl, hru, hus, hwc⟩ := hcut
    rw [hwc]
    have HRF : Hid (res = numF u.data.toList) := hru
    clear hwc wc hru
    go_wp2_with fail
    refine (Try.strings_CutPrefix u _ w).mono ?_
    rintro e w' ⟨rfl, hw⟩
    rw [hw]
    clear hw w'
    go_upto_if 37 with fail
    go_cut [0, 3, 4] from 32 to 44 (fun x _ _ wx => ∃ v : ByteArray, x = .string v ∧ res = numE v.data.toList ∧ (v.size : Int) ≤ 1000000000 ∧ wx = w)
    case first =>
      by_cases hdot : ∃ r, u.data.toList = 46 :: r
      · obtain ⟨r, hr⟩ := hdot
        have hp : Lib.hasPrefix u.data.toList [46] = true := by rw [hr]; exact pre_yes 46 r
        obtain ⟨q, hq⟩ : ∃ q : ByteArray, q = ⟨(Lib.trimPrefix u.data.toList [46]).toArray⟩ := ⟨_, rfl⟩
        have HQ : Hid (q.data.toList = r) := by
          show q.data.toList = r
          rw [hq, hr]; exact trim_yes 46 r
        have hqs : (q.size : Int) ≤ 1000000000 := by
          have h1 := congrArg List.length HQ.out
          have h2 := congrArg List.length hr
          simp at h1 h2
          omega
        have HN : Hid (res = (decide (nd r ≠ 0) && numE (skipD r))) := by
          show res = (decide (nd r ≠ 0) && numE (skipD r))
          rw [HRF.out, hr, numF, if_pos (show (46 : UInt8).toNat = 46 from rfl)]
        have hq' : (⟨(Lib.trimPrefix u.data.toList [46]).toArray⟩ : ByteArray) = q := hq.symm
        rw [hq', hp]
        clear hp hq hq' HRF hr
        go_wp2_with fail
        refine (skip_any q w hqs).mono ?_
        rintro e w' ⟨v, rfl, hv, rfl⟩
        rw [HQ.out] at hv
        have hvs : v.size = q.size - nd r := by
          have h1 := congrArg List.length hv
          have h2 := congrArg List.length HQ.out
          rw [skip_len] at h1
          simp at h1 h2
          omega
        have hnd : nd r ≤ q.size := by
          have h1 := nd_le r
          have h2 := congrArg List.length HQ.out
          simp at h2
          omega
        have HV : Hid (v.data.toList = skipD r) := hv
        have HVS : Hid (v.size = q.size - nd r) := hvs
        by_cases h0 : nd r = 0
        · have hne : ((v.size : Int) == (q.size : Int)) = true := by simp; omega
          have hr : Hid (res = false) := by
            show res = false
            rw [HN.out, h0]; rfl
          clear h0 hv hvs hnd
          go_wp2
          go_ret
          exact ⟨ret_bool hr.out.symm, rfl⟩
        · have hne : ((v.size : Int) == (q.size : Int)) = false := by simp; omega
          have hr : Hid (res = numE (skipD r)) := by
            show res = numE (skipD r)
            rw [HN.out]; simp [h0]
          clear h0 hv hvs hnd
          go_wp2
          go_meet
          case rel => exact ⟨v, rfl, by rw [HV.out]; exact hr.out, by have := HVS.out; omega, rfl⟩
      · have hp : Lib.hasPrefix u.data.toList [46] = false := by
          cases h : u.data.toList with
          | nil => rfl
          | cons c r => exact pre_no c 46 r (fun e => hdot ⟨r, by rw [h, e]⟩)
        have hr : Hid (res = numE u.data.toList) := by
          show res = numE u.data.toList
          rw [HRF.out]
          cases h : u.data.toList with
          | nil => rfl
          | cons c r =>
            have : ¬ c.toNat = 46 := fun e => hdot ⟨r, by rw [h, show c = 46 from UInt8.toNat_inj.1 e]⟩
            rw [numF, if_neg this]
        rw [hp]
        clear hdot HRF hp
        go_wp2
        go_meet
        case rel => exact ⟨u, rfl, hr.out, hus, rfl⟩
    case rest =>
      clear HRF hus
      obtain ⟨v, rfl, hrv, hvs, hwc⟩ := hcut
      rw [hwc]
      have HRE : Hid (res = numE v.data.toList) := hrv
      clear hwc wc hrv
      by_cases h0 : v.size = 0
      · have he : v.data.toList = [] := List.eq_nil_of_length_eq_zero (by simpa using h0)
        have hi : v.toList.isEmpty = true := by rw [toList_data, he]; rfl
        have hr : Hid (res = true) := by
          show res = true
          rw [HRE.out, he]; rfl
        have hz : (v.size : Int) ≤ 0 := by omega
        clear h0 he
        go_wp2
        go_ret
        exact ⟨ret_bool hr.out.symm, rfl⟩
      obtain ⟨c, r, hcr⟩ : ∃ c r, v.data.toList = c :: r := by
        cases h : v.data.toList with
        | nil => exact absurd (by have := congrArg List.length h; simpa using this) h0
        | cons c r => exact ⟨c, r, rfl⟩
      have hi : v.toList.isEmpty = false := by rw [toList_data, hcr]; rfl
      have hp : (0 : Int) < v.size := by omega
      have hc0 : v[0]'(by omega) = c := by rw [← get_list v 0 (by omega), hcr]; rfl
      have HX : Hid ((v.extract 1 v.size).data.toList = r) := by
        show (v.extract 1 v.size).data.toList = r
        rw [ext_list, hcr]; rfl
      have hxs : (v.extract 1 v.size).size = v.size - 1 := by simp
      have HC : Hid (c = v[0]'(by omega)) := hc0.symm
      have HRB : Hid (res = numE (c :: r)) := by
        show res = numE (c :: r)
        rw [← hcr]; exact HRE.out
      clear hcr hc0 h0 HRE
      by_cases ke : c.toNat = 101 ∨ c.toNat = 69
      · have HN : Hid (res = (decide (nd (sgn r) ≠ 0) && (skipD (sgn r)).isEmpty)) := by
          show res = (decide (nd (sgn r) ≠ 0) && (skipD (sgn r)).isEmpty)
          rw [HRB.out, numE, if_pos ke]
        have kor : (((v[0]'(by omega)).toNat : Int) == 101) = true ∨ ((((v[0]'(by omega)).toNat : Int) == 101) = false ∧ (((v[0]'(by omega)).toNat : Int) == 69) = true) := by
          rw [← HC.out]; simp only [beq_iff_eq, beq_eq_false_iff_ne]; omega
        clear ke HRB
        obtain ⟨y, hy⟩ : ∃ y, y = v.extract 1 v.size := ⟨_, rfl⟩
        have HY : Hid (y = v.extract 1 v.size) := hy
        have HXY : Hid (y.data.toList = r) := by
          show y.data.toList = r
          rw [hy]; exact HX.out
        have hys : (y.size : Int) ≤ 1000000000 := by rw [hy, hxs]; omega
        clear hy
        rcases kor with k1 | ⟨k1, k2⟩
        all_goals
          go_upto_region 16 with fail
          rw [← HY.out]
          clear HY HX hxs hi
          by_cases h0 : y.size = 0
          · have hr0 : r = [] := by
              have := HXY.out
              rw [List.eq_nil_of_length_eq_zero (by simpa using h0 : y.data.toList.length = 0)] at this
              exact this.symm
            have HQ : Hid (y.data.toList = sgn r) := by
              show y.data.toList = sgn r
              rw [HXY.out, hr0]; rfl
            have hqs : (y.size : Int) ≤ 1000000000 := hys
            have hy0 : (y.size : Int) ≤ 0 := by omega
            clear h0 hr0
            go_wp2_with fail
            refine (skip_any y _ hqs).mono ?_
            rintro e w' ⟨z, rfl, hz, rfl⟩
            rw [HQ.out] at hz
            have HZ : Hid (z.data.toList = skipD (sgn r)) := hz
            have hzs := skip_size HQ.out hz
            clear hz
            by_cases h0 : nd (sgn r) = 0
            · have hne : ((z.size : Int) == ((y).size : Int)) = true := by simp only [beq_iff_eq]; omega
              have hr : Hid (res = false) := by
                show res = false
                rw [HN.out, h0]; rfl
              clear h0 hzs
              go_wp2
              go_ret
              exact ⟨ret_bool hr.out.symm, rfl⟩
            · have hne : ((z.size : Int) == ((y).size : Int)) = false := by simp only [beq_eq_false_iff_ne]; omega
              have hr : Hid (res = z.toList.isEmpty) := by
                show res = z.toList.isEmpty
                rw [HN.out, toList_data, HZ.out]; simp [h0]
              clear h0 hzs
              go_wp2
              go_ret
              exact ⟨ret_bool hr.out.symm, rfl⟩
          · obtain ⟨d, r2, hd⟩ : ∃ d r2, r = d :: r2 := by
              cases h : r with
              | nil =>
                have := congrArg List.length HXY.out
                rw [h] at this
                exact absurd (by simpa using this) h0
              | cons d r2 => exact ⟨d, r2, rfl⟩
            have hpy : (0 : Int) < y.size := by omega
            have hd0 : y[0]'(by omega) = d := by rw [← get_list y 0 (by omega), HXY.out, hd]; rfl
            by_cases ks : d.toNat = 43 ∨ d.toNat = 45
            · have HQ : Hid ((y.extract 1 y.size).data.toList = sgn r) := by
                show (y.extract 1 y.size).data.toList = sgn r
                rw [ext_list, HXY.out, hd, sgn, if_pos ks]; rfl
              have hqs : ((y.extract 1 y.size).size : Int) ≤ 1000000000 := by simp; omega
              have kor2 : (((y[0]'(by omega)).toNat : Int) == 43) = true ∨ ((((y[0]'(by omega)).toNat : Int) == 43) = false ∧ (((y[0]'(by omega)).toNat : Int) == 45) = true) := by
                rw [hd0]; simp only [beq_iff_eq, beq_eq_false_iff_ne]; omega
              clear h0 hd hd0 ks
              rcases kor2 with j1 | ⟨j1, j2⟩
              all_goals
                go_wp2_with fail
                obtain ⟨y2, hy2⟩ : ∃ y2, y2 = y.extract 1 y.size := ⟨_, rfl⟩
                rw [← hy2] at HQ hqs ⊢
                clear hy2
                refine (skip_any y2 _ hqs).mono ?_
                rintro e w' ⟨z, rfl, hz, rfl⟩
                rw [HQ.out] at hz
                have HZ : Hid (z.data.toList = skipD (sgn r)) := hz
                have hzs := skip_size HQ.out hz
                clear hz
                by_cases h0 : nd (sgn r) = 0
                · have hne : ((z.size : Int) == (y2.size : Int)) = true := by simp only [beq_iff_eq]; omega
                  have hr : Hid (res = false) := by
                    show res = false
                    rw [HN.out, h0]; rfl
                  clear h0 hzs
                  go_wp2
                  go_ret
                  exact ⟨ret_bool hr.out.symm, rfl⟩
                · have hne : ((z.size : Int) == (y2.size : Int)) = false := by simp only [beq_eq_false_iff_ne]; omega
                  have hr : Hid (res = z.toList.isEmpty) := by
                    show res = z.toList.isEmpty
                    rw [HN.out, toList_data, HZ.out]; simp [h0]
                  clear h0 hzs
                  go_wp2
                  go_ret
                  exact ⟨ret_bool hr.out.symm, rfl⟩
            · have HQ : Hid (y.data.toList = sgn r) := by
                show y.data.toList = sgn r
                rw [HXY.out, hd, sgn, if_neg ks]
              have hqs : (y.size : Int) ≤ 1000000000 := hys
              have j1 : (((y[0]'(by omega)).toNat : Int) == 43) = false := by
                rw [hd0]; simp only [beq_eq_false_iff_ne]; omega
              have j2 : (((y[0]'(by omega)).toNat : Int) == 45) = false := by
                rw [hd0]; simp only [beq_eq_false_iff_ne]; omega
              clear h0 hd hd0 ks
              go_wp2_with fail
              refine (skip_any y _ hqs).mono ?_
              rintro e w' ⟨z, rfl, hz, rfl⟩
              rw [HQ.out] at hz
              have HZ : Hid (z.data.toList = skipD (sgn r)) := hz
              have hzs := skip_size HQ.out hz
              clear hz
              by_cases h0 : nd (sgn r) = 0
              · have hne : ((z.size : Int) == ((y).size : Int)) = true := by simp only [beq_iff_eq]; omega
                have hr : Hid (res = false) := by
                  show res = false
                  rw [HN.out, h0]; rfl
                clear h0 hzs
                go_wp2
                go_ret
                exact ⟨ret_bool hr.out.symm, rfl⟩
              · have hne : ((z.size : Int) == ((y).size : Int)) = false := by simp only [beq_eq_false_iff_ne]; omega
                have hr : Hid (res = z.toList.isEmpty) := by
                  show res = z.toList.isEmpty
                  rw [HN.out, toList_data, HZ.out]; simp [h0]
                clear h0 hzs
                go_wp2
                go_ret
                exact ⟨ret_bool hr.out.symm, rfl⟩
      · have hr : Hid (res = false) := by
          show res = false
          rw [HRB.out, numE, if_neg ke]
        have k1 : (((v[0]'(by omega)).toNat : Int) == 101) = false := by
          rw [← HC.out]; simp only [beq_eq_false_iff_ne]; omega
        have k2 : (((v[0]'(by omega)).toNat : Int) == 69) = false := by
          rw [← HC.out]; simp only [beq_eq_false_iff_ne]; omega
        clear ke HRB
        go_wp2
        all_goals
          go_ret
          exact ⟨ret_bool hr.out.symm, rfl⟩
end Go.Proofs.Qxb6000848a

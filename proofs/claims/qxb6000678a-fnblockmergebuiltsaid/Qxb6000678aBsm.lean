import Derived.Test.Qxb6000678aPlain
import Derived.Test.Qxb6000678aShelf
import Derived.Lib.SlBytesConst
import Derived.Deep.DeepCutAuto
import Derived.Deep.CutBlock
namespace Go.Proofs.Qxb6000678a
open Go.RowKit

theorem BytesAt.drop {w : World} {g off : Nat} {l : List Int} (h : BytesAt w (some ⟨g, off, none⟩) l) (i : Nat) : BytesAt w (some ⟨g, off + i, none⟩) (l.drop i) := by
  intro j hj
  obtain ⟨b, o, hx, hc⟩ := h (i + j) (by simp at hj; omega)
  cases hx
  refine ⟨_, _, rfl, ?_⟩
  rw [Nat.add_assoc, hc]
  simp

theorem lb_at {g off n c : Nat} {L : List Int} {w : World} (hB : BytesAt w (some ⟨g, off, none⟩) L) (hL : L.length = n) (hn : (n : Int) ≤ 1000000000000) (j : Nat) (m : Nat) (hm : lb (L.drop j) = m) :
    Calls Try.prog 14 #[.slice (some ⟨g, off + j, none⟩) (n - j) (c - j)] w fun e w' => e = .returned (.int .i64 m) ∧ w = w' := by
  have h := lineBreak_any (some ⟨g, off + j, none⟩) (c - j) (L.drop j) w (by simp; omega) (hB.drop j)
  rw [List.length_drop, hL, hm] at h
  exact h.mono fun e w' ⟨he, hw⟩ => ⟨he, hw.symm⟩
theorem cs_at {g off n c : Nat} {L : List Int} {w : World} (hB : BytesAt w (some ⟨g, off, none⟩) L) (hL : L.length = n) (hn : (n : Int) ≤ 1000000000000) (j : Nat) (m : Nat) (hm : cs (L.drop j) = m) :
    Calls Try.prog 35 #[.slice (some ⟨g, off + j, none⟩) (n - j) (c - j)] w fun e w' => e = .returned (.int .i64 m) ∧ w = w' := by
  have h := countSpaces_any (some ⟨g, off + j, none⟩) (c - j) (L.drop j) w (by simp; omega) (hB.drop j)
  rw [List.length_drop, hL, hm] at h
  exact h.mono fun e w' ⟨he, hw⟩ => ⟨he, hw.symm⟩

theorem drop_two (L : List Int) (J : Nat) (h : J + 2 ≤ L.length) : L.drop J = L.getD J 0 :: L.getD (J + 1) 0 :: L.drop (J + 2) := by
  rw [List.drop_eq_getElem_cons (by omega : J < L.length), List.drop_eq_getElem_cons (by omega : J + 1 < L.length)]
  simp [show J < L.length by omega, show J + 1 < L.length by omega]

theorem hp_at {g off n c : Nat} {L : List Int} {w : World} (hB : BytesAt w (some ⟨g, off, none⟩) L) (hL : L.length = n) (J : Nat) (hJ : J + 2 ≤ n) (hcap : n ≤ c) (h0 : L.getD J 0 = 60) (h1 : L.getD (J + 1) 0 = 60) :
    Calls Try.prog 36 #[.slice (some ⟨g, off + J, none⟩) (n - J) (c - J), .slice (some ⟨w.heap.size, 0, none⟩) 2 2] (w.alloc (.cells #[.int .u8 60, .int .u8 60] 5 (2, 3))) fun e w' =>
      e = .returned (.bool true) ∧ w' = (w.alloc (.cells #[.int .u8 60, .int .u8 60] 5 (2, 3))) := by
  have hb : Below w.heap.size w (w.alloc (.cells #[.int .u8 60, .int .u8 60] 5 (2, 3))) := (Below.refl _ _).alloc (Nat.le_refl _) _
  have hd := (hB.later hb).drop J
  have h := Try.bytes_HasPrefix g (off + J) (n - J) (c - J) w.heap.size 0 2 2 (L.drop J) [60, 60] (w.alloc (.cells #[.int .u8 60, .int .u8 60] 5 (2, 3))) (by simp [hL]) rfl (by omega)
    (fun i hi => by
      obtain ⟨b, o, hx, hc⟩ := hd i (by simp [hL]; exact hi)
      cases hx
      exact hc)
    (fun i hi => by
      rw [cell_of_row _ w.heap.size (0 + i) _ 5 (2, 3) (heap_alloc_new w _)]
      match i, hi with
      | 0, _ => rfl
      | 1, _ => rfl)
  rw [drop_two L J (by omega), h0, h1] at h
  exact h

/-- The lines behind the merge: each of at most 'ind' spaces and a break. -/
def tailOk : Nat → Nat → List Int → Bool
  | 0, _, l => l.isEmpty
  | f + 1, ind, l => l.isEmpty || (decide (cs l ≤ ind) && decide (lb (l.drop (cs l)) ≠ 0) && tailOk f ind (l.drop (cs l + lb (l.drop (cs l)))))

theorem tailOk_step {f ind : Nat} {l : List Int} (h : tailOk f ind l = true) (hl : l ≠ []) : ∃ f', cs l ≤ ind ∧ lb (l.drop (cs l)) ≠ 0 ∧ tailOk f' ind (l.drop (cs l + lb (l.drop (cs l)))) = true := by
  cases f with
  | zero => simp [tailOk] at h; exact absurd h hl
  | succ f =>
    have he : l.isEmpty = false := by cases l with | nil => exact absurd rfl hl | cons x t => rfl
    rw [tailOk, he, Bool.false_or, Bool.and_eq_true, Bool.and_eq_true] at h
    exact ⟨f, of_decide_eq_true h.1.1, of_decide_eq_true h.1.2, h.2⟩
theorem cs_le (l : List Int) : cs l ≤ l.length := by
  induction l with
  | nil => simp [cs]
  | cons x t ih => unfold cs; split <;> simp; omega
theorem lb_le (l : List Int) : lb l ≤ 3 ∧ lb l ≤ l.length := lbv_le _ _ _ _

/-- A byte of the header. -/
def hc (x : Int) : Prop := x = 45 ∨ x = 43 ∨ (49 ≤ x ∧ x ≤ 57)
/-- Whether the header up to i bears the strip. -/
def sAt (L : List Int) : Nat → Bool
  | 0 => false
  | j + 1 => sAt L j || (decide (1 ≤ j) && decide (L.getD j 0 = 45))

set_option maxRecDepth 20000 in
set_option maxHeartbeats 1000000 in
theorem bsm_any (g off n c : Nat) (L : List Int) (ind : Int) (w : World) (hL : L.length = n) (hn : (n : Int) ≤ 1000000000000) (hcap : n ≤ c) (i1 i2 n2 k n4 f : Nat)
    (hi1 : 1 ≤ i1) (hi3 : i1 ≤ 3) (hin : i1 < n) (hcd : ∀ j, 1 ≤ j → j < i1 → hc (L.getD j 0)) (hstop : ¬ hc (L.getD i1 0))
    (h12 : i1 ≤ i2) (h2n : i2 < n) (hnb : ∀ j, i1 ≤ j → j < i2 → lb (L.drop j) = 0) (hb2 : lb (L.drop i2) = n2) (hb20 : n2 ≠ 0)
    (hsp : cs (L.drop (i2 + n2)) = k) (hind : ind = 0 ∨ ind = k) (h3n : i2 + n2 + k + 2 ≤ n) (hm0 : L.getD (i2 + n2 + k) 0 = 60) (hm1 : L.getD (i2 + n2 + k + 1) 0 = 60)
    (hlast : n = i2 + n2 + k + 2 ∨ (sAt L i1 = true ∧ i2 + n2 + k + 2 < n ∧ lb (L.drop (i2 + n2 + k + 2)) = n4 ∧ n4 ≠ 0 ∧ tailOk f k (L.drop (i2 + n2 + k + 2 + n4)) = true))
    (hB : BytesAt w (some ⟨g, off, none⟩) L) :
    Calls Try.prog 32 #[.slice (some ⟨g, off, none⟩) n c, .int .i64 ind] w fun e w' => e = .returned (.bool true) ∧ Below w.heap.size w w' := by
  have HB : Hid (BytesAt w (some ⟨g, off, none⟩) L) := hB
  have HL : Hid (L.length = n) := hL
  have HCD : Hid (∀ j, 1 ≤ j → j < i1 → hc (L.getD j 0)) := hcd
  have HST : Hid (¬ hc (L.getD i1 0)) := hstop
  have HNB : Hid (∀ j, i1 ≤ j → j < i2 → lb (L.drop j) = 0) := hnb
  have HB2 : Hid (lb (L.drop i2) = n2) := hb2
  have HSP : Hid (cs (L.drop (i2 + n2)) = k) := hsp
  have HLA : Hid (n = i2 + n2 + k + 2 ∨ (sAt L i1 = true ∧ i2 + n2 + k + 2 < n ∧ lb (L.drop (i2 + n2 + k + 2)) = n4 ∧ n4 ≠ 0 ∧ tailOk f k (L.drop (i2 + n2 + k + 2 + n4)) = true)) := hlast
  have HM0 : Hid (L.getD (i2 + n2 + k) 0 = 60) := hm0
  have HM1 : Hid (L.getD (i2 + n2 + k + 1) 0 = 60) := hm1
  have HIN : Hid (ind = 0 ∨ ind = k) := hind
  clear hB hL hcd hstop hnb hb2 hsp hlast hm0 hm1 hind
  go_enter Try.func32, Try.ntmps32
  go_upto_block 0 with fail
  go_cut [5, 6] (fun s i wx => s = .bool (sAt L i1) ∧ i = .int .i64 i1 ∧ wx = w)
  case first =>
    go_wp2_with fail
    go_loop [5, 6] (fun s i => ∃ j : Nat, 1 ≤ j ∧ j ≤ i1 ∧ i = .int .i64 j ∧ s = .bool (sAt L j)) (fun _ i => 3 - (intOf i).toNat)
    case atStart => exact ⟨1, by omega, hi1, rfl, by simp [sAt]⟩
    case round =>
      obtain ⟨j, hj1, hj2, rfl, rfl⟩ := hrel
      obtain ⟨b, o, hx, hcell⟩ := HB.out j (by rw [HL.out]; omega)
      cases hx
      obtain ⟨x, hxx⟩ : ∃ x, x = L.getD j 0 := ⟨_, rfl⟩
      rw [← hxx] at hcell
      have HX : Hid (x = L.getD j 0) := hxx
      have HS : Hid (sAt L (j + 1) = (sAt L j || decide (x = 45))) := by
        show sAt L (j + 1) = (sAt L j || decide (x = 45))
        rw [sAt, hxx]; simp [hj1]
      clear hxx
      by_cases hlt : j < i1
      · have hh : hc x := by rw [HX.out]; exact HCD.out j hj1 hlt
        have hj3 : (j : Int) < 3 := by omega
        have hjn : (j : Int) < n := by omega
        rcases hh with hh | hh | hh
        · subst hh
          go_wp2
          all_goals
            go_round
            case rel => exact ⟨j + 1, by omega, by omega, by go_num, by rw [HS.out]; simp⟩
            case measure => simp [intOf]; omega
        · subst hh
          go_wp2
          all_goals
            go_round
            case rel => exact ⟨j + 1, by omega, by omega, by go_num, by rw [HS.out]; simp [*]⟩
            case measure => simp [intOf]; omega
        · obtain ⟨g1, g2⟩ := hh
          have e45 : (x == 45) = false := by simp; omega
          have e43 : (x == 43) = false := by simp; omega
          have E : Hid (¬ x = 45) := by show ¬ x = 45; omega
          go_wp2
          all_goals
            go_round
            case rel => exact ⟨j + 1, by omega, by omega, by go_num, by rw [HS.out]; simp [*, E.out]⟩
            case measure => simp [intOf]; omega
      · have hj : j = i1 := by omega
        subst hj
        have hh : ¬ hc x := by rw [HX.out]; exact HST.out
        unfold hc at hh
        have e45 : (x == 45) = false := by simp; omega
        have e43 : (x == 43) = false := by simp; omega
        have hor : x < 49 ∨ 57 < x := by omega
        clear hh
        by_cases hj3 : (j : Int) < 3
        · rcases hor with hor | hor
          · go_wp2
            go_meet
            case rel => exact ⟨rfl, rfl, rfl⟩
          · go_wp2
            go_meet
            case rel => exact ⟨rfl, rfl, rfl⟩
        · go_wp2
          go_meet
          case rel => exact ⟨rfl, rfl, rfl⟩
  case rest =>
    obtain ⟨rfl, rfl, hwc⟩ := hcut
    rw [hwc]
    clear hwc wc
    obtain ⟨st, hst⟩ : ∃ st, st = sAt L i1 := ⟨_, rfl⟩
    rw [← hst]
    have HST1 : Hid (st = sAt L i1) := hst
    clear hst HST HCD
    go_upto_block 2 with fail
    go_cut [6] (fun i wx => i = .int .i64 i2 ∧ wx = w)
    case first =>
      go_wp2_with fail
      go_loop [6] (fun i => ∃ j : Nat, i1 ≤ j ∧ j ≤ i2 ∧ i = .int .i64 j) (fun i => n - (intOf i).toNat)
      case atStart => exact ⟨i1, by omega, h12, rfl⟩
      case round =>
        obtain ⟨j, hj1, hj2, rfl⟩ := hrel
        have hjn : (j : Int) < n := by omega
        have hjc : (j : Int) ≤ c := by omega
        by_cases hlt : j < i2
        · go_wp2_with fail
          refine (lb_at HB.out HL.out hn j 0 (HNB.out j hj1 hlt)).mono ?_
          rintro e w' ⟨rfl, rfl⟩
          go_wp2
          go_round
          case rel => exact ⟨j + 1, by omega, by omega, by go_num⟩
          case measure => simp [intOf]; omega
        · have hj : j = i2 := by omega
          subst hj
          go_wp2_with fail
          refine (lb_at HB.out HL.out hn j n2 HB2.out).mono ?_
          rintro e w' ⟨rfl, rfl⟩
          have hb20' : ((n2 : Int) == 0) = false := by simp; omega
          go_wp2
          go_meet
          case rel => exact ⟨rfl, rfl⟩
    case rest =>
      obtain ⟨rfl, hwc⟩ := hcut
      rw [hwc]
      clear hwc wc HNB
      have q1 : (i2 : Int) < n := by omega
      have q2 : (i2 : Int) ≤ c := by omega
      go_wp2_with fail
      refine (lb_at HB.out HL.out hn i2 n2 HB2.out).mono ?_
      rintro e w' ⟨rfl, rfl⟩
      have q3 : (i2 : Int) + n2 < n := by omega
      have q4 : (i2 : Int) + n2 ≤ c := by omega
      go_wp2_with fail
      refine (cs_at HB.out HL.out hn (i2 + n2) k HSP.out).mono ?_
      rintro e w' ⟨rfl, rfl⟩
      go_upto_if 78 with fail
      go_cut [1] (fun s wx => s = .int .i64 k ∧ wx = w)
      case first =>
        by_cases hz : ind = 0
        · subst hz
          go_wp2
          go_meet
          case rel => exact ⟨rfl, rfl⟩
        · have hz' : (ind == 0) = false := by simpa using hz
          have hik : ind = k := HIN.out.elim (fun h => absurd h hz) id
          go_wp2
          go_meet
          case rel => exact ⟨by rw [hik], rfl⟩
      case rest =>
        obtain ⟨rfl, hwc⟩ := hcut
        rw [hwc]
        clear hwc wc HIN
        have kc := fun (w : World) (C : Array Value) (n c : Nat) => Lib.run_convert_bytes_const (P := Try.prog) w 22 5 C n c Try.underlying22 Try.underlying5
        have q5 : (i2 : Int) + n2 + k + 2 ≤ n := by omega
        have q6 : (i2 : Int) + n2 + k + 2 ≤ c := by omega
        go_wp2_with fail
        refine (hp_at HB.out HL.out (i2 + n2 + k) (by omega) hcap HM0.out HM1.out).mono ?_
        rintro e w' ⟨rfl, hw'⟩
        have hb1 : Below w.heap.size w w' := by rw [hw']; exact (Below.refl _ _).alloc (Nat.le_refl _) _
        have HB1 : Hid (BytesAt w' (some ⟨g, off, none⟩) L) := HB.out.later hb1
        have HBE : Hid (Below w.heap.size w w') := hb1
        clear hw' hb1 kc HM0 HM1 HSP HB2
        rcases HLA.out with hl | ⟨ht, hl, hl4, hl40, htl⟩
        · have hnn : ((i2 : Int) + n2 + k + 2 == n) = true := by simp; omega
          go_wp2
          go_ret
          exact ⟨rfl, HBE.out⟩
        · have hnn : ((i2 : Int) + n2 + k + 2 == n) = false := by simp; omega
          have q7 : (i2 : Int) + n2 + k + 2 < n := by omega
          have hst : st = true := by rw [HST1.out]; exact ht
          have HL4 : Hid (lb (L.drop (i2 + n2 + k + 2)) = n4) := hl4
          have HTL : Hid (tailOk f k (L.drop (i2 + n2 + k + 2 + n4)) = true) := htl
          subst hst
          clear ht hl hl4 htl HLA
          go_wp2_with fail
          refine (lb_at HB1.out HL.out hn (i2 + n2 + k + 2) n4 HL4.out).mono ?_
          rintro e w1 ⟨rfl, rfl⟩
          have h40 : ((n4 : Int) == 0) = false := by simp; omega
          go_wp2_with fail
          refine (lb_at HB1.out HL.out hn (i2 + n2 + k + 2) n4 HL4.out).mono ?_
          rintro e w1 ⟨rfl, rfl⟩
          have q8 : i2 + n2 + k + 2 + n4 ≤ n := by
            have := (lb_le (L.drop (i2 + n2 + k + 2))).2
            rw [HL4.out] at this
            simp [HL.out] at this
            omega
          have q9 : (i2 : Int) + n2 + k + 2 + n4 ≤ n := by omega
          clear HL4 h40 hnn hl40
          obtain ⟨i5, hi5⟩ : ∃ i5, i5 = i2 + n2 + k + 2 + n4 := ⟨_, rfl⟩
          have HI5 : Hid (i5 = i2 + n2 + k + 2 + n4) := hi5
          rw [← hi5] at q8
          clear hi5
          go_wp2
          go_loop [6] (fun i => ∃ j fu : Nat, j ≤ n ∧ i = .int .i64 j ∧ tailOk fu k (L.drop j) = true) (fun i => n - (intOf i).toNat)
          case atStart => exact ⟨i5, f, q8, congrArg (Value.int IntKind.i64) (by have := HI5.out; omega), by rw [HI5.out]; exact HTL.out⟩
          case round =>
            clear HTL q1 q2 q3 q4 q5 q6 q7 q9
            obtain ⟨j, fu, hjn, rfl, hok⟩ := hrel
            by_cases hlt : j < n
            · obtain ⟨f', hs1, hs2, hs3⟩ := tailOk_step hok (by intro h; have := congrArg List.length h; simp [HL.out] at this; omega)
              obtain ⟨sp, hsp⟩ : ∃ sp, cs (L.drop j) = sp := ⟨_, rfl⟩
              rw [hsp, List.drop_drop] at hs2
              rw [hsp, List.drop_drop, List.drop_drop] at hs3
              rw [hsp] at hs1
              obtain ⟨m, hm⟩ : ∃ m, lb (L.drop (j + sp)) = m := ⟨_, rfl⟩
              rw [hm] at hs2 hs3
              have hle := (lb_le (L.drop (j + sp))).2
              rw [hm] at hle
              simp only [List.length_drop, HL.out] at hle
              have HSP : Hid (cs (L.drop j) = sp) := hsp
              have HM : Hid (lb (L.drop (j + sp)) = m) := hm
              have HS3 : Hid (tailOk f' k (L.drop (j + (sp + m))) = true) := hs3
              have x1 : (j : Int) < n := by omega
              have x2 : (j : Int) + sp + m ≤ n := by omega
              have x3 : (j : Int) + sp + m ≤ c := by omega
              have x4 : ((m : Int) == 0) = false := by simp; omega
              have x5 : (1 : Int) ≤ m := by omega
              have x6 : (sp : Int) ≤ k := by omega
              clear hok hsp hm hs3 hs2 hle
              go_wp2_with fail
              refine (cs_at HB1.out HL.out hn j sp HSP.out).mono ?_
              rintro e w1 ⟨rfl, rfl⟩
              go_wp2_with fail
              refine (lb_at HB1.out HL.out hn (j + sp) m HM.out).mono ?_
              rintro e w1 ⟨rfl, rfl⟩
              go_wp2
              go_round
              case rel => exact ⟨j + (sp + m), f', by omega, by go_num, HS3.out⟩
              case measure => simp [intOf]; omega
            · go_wp2
              go_ret
              exact ⟨rfl, HBE.out⟩
end Go.Proofs.Qxb6000678a

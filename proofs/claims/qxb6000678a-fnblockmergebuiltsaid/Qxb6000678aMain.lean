import Derived.Test.Qxb6000678aLaw
import Derived.Deep.DeepCutAuto
import Derived.Deep.CutBlock
namespace Go.Proofs.Qxb6000678a
open Go.RowKit

def Done (w : World) (e : Ending) (w' : World) : Prop := e = .returned (.bool true) ∧ Below w.heap.size w w'

set_option maxHeartbeats 400000 in
theorem zz_true (g c : Nat) (w : World) (ind : Int) (cd cm : List Int) (b1 : Int) (k : Nat) (tl : List Int) (indent : Int) (n : Nat)
    (hL : (textL ind cd cm b1 k tl).length = n) (hn : (n : Int) ≤ 1000000000000) (hcap : n ≤ c) (hcdl : cd.length ≤ 2) (hcd : ∀ x ∈ cd, hc x)
    (hcm0 : cm = [] ∨ cm.getD 0 0 = 32) (hcm : ∀ x ∈ cm, plainB x) (hind : indent = 0 ∨ indent = k)
    (htl : tl = [] ∨ (45 ∈ cd ∧ ∃ b2 ps, tl = brkL b2 ++ segs ps ∧ ∀ x ∈ ps, x.1 ≤ k)) (hB : BytesAt w (some ⟨g, 0, none⟩) (textL ind cd cm b1 k tl)) :
    Calls Try.prog 27 #[.slice (some ⟨g, 0, none⟩) n c, .int .i64 indent] w fun e w' => e = .returned (.bool true) ∧ Below w.heap.size w w' := by
  have T := text_true g 0 c w ind cd cm b1 k tl indent n hL hn hcap hcdl hcd hcm0 hcm hind htl hB
  have HT : Hid (Calls Try.prog 32 #[.slice (some ⟨g, 0, none⟩) n c, .int .i64 indent] w fun e w' => e = .returned (.bool true) ∧ Below w.heap.size w w') := T
  clear T hL hcdl hcd hcm0 hcm hind htl hB
  go_enter Try.func27, Try.ntmps27
  go_wp2_with fail
  refine HT.out.mono ?_
  rintro e w1 ⟨rfl, hb⟩
  clear HT
  go_wp2
  go_ret
  exact ⟨rfl, hb⟩

theorem segs_snoc (ps : List (Nat × Int)) (j : Nat) (e : Int) : segs (ps ++ [(j, e)]) = segs ps ++ List.replicate j 32 ++ brkL e := by
  induction ps with
  | nil => simp [segs]
  | cons p ps ih => obtain ⟨i, f⟩ := p; simp [segs, ih]

theorem mul_bd (k : Nat) (v : Int) (h0 : 0 ≤ v) (h1 : v ≤ 255) : ∃ J : Nat, (k : Int) * v / 255 = J ∧ J ≤ k ∧ 0 ≤ (k : Int) * v ∧ (k : Int) * v ≤ (k : Int) * 255 := by
  have a1 : 0 ≤ (k : Int) * v := Int.mul_nonneg (by omega) h0
  have a2 : (k : Int) * v ≤ (k : Int) * 255 := Int.mul_le_mul_of_nonneg_left h1 (by omega)
  exact ⟨((k : Int) * v / 255).toNat, by omega, by omega, a1, a2⟩

theorem plain35 : plainB 35 := by simp [plainB]
theorem cm_plain {cm : List Int} {x : Int} (h : ∀ y ∈ cm, plainB y) (hx : plainB x) : ∀ y ∈ cm ++ [x], plainB y := by
  intro y hy
  rcases List.mem_append.1 hy with h1 | h1
  · exact h y h1
  · simp at h1; subst h1; exact hx
theorem cm_head {cm : List Int} {x : Int} (h : cm.getD 0 0 = 32) : (cm ++ [x]).getD 0 0 = 32 := by
  cases cm with
  | nil => simp at h
  | cons y ys => simpa using h

set_option maxRecDepth 20000 in
set_option maxHeartbeats 1000000 in
theorem main_any (a0 a1 a2 a6 a7 a9 : Int) (a3 a4 a8 : Bool) (p5 p10 : Option Addr) (l5 c5 l10 c10 : Nat) (z5 z10 : List Int) (w : World)
    (w0 : 0 ≤ a0 ∧ a0 ≤ 255) (w1 : 0 ≤ a1 ∧ a1 ≤ 255) (w2 : 0 ≤ a2 ∧ a2 ≤ 255) (w6 : 0 ≤ a6 ∧ a6 ≤ 255) (w9 : 0 ≤ a9 ∧ a9 ≤ 255)
    (e5 : z5.length = l5) (e10 : z10.length = l10) (m5 : l5 ≤ maxLen) (m10 : l10 ≤ maxLen) (n5 : p5 = none → z5 = []) (n10 : p10 = none → z10 = [])
    (r5 : BytesAt w p5 z5) (r10 : BytesAt w p10 z10) (v5 : ∀ x ∈ z5, 0 ≤ x ∧ x ≤ 255) (v10 : ∀ x ∈ z10, 0 ≤ x ∧ x ≤ 255) :
    Calls Try.prog 9 #[.int .u8 a0, .int .u8 a1, .int .u8 a2, .bool a3, .bool a4, .slice p5 l5 c5, .int .u8 a6, .int .i64 a7, .bool a8, .int .u8 a9, .slice p10 l10 c10] w fun e w' => Done w e w' := by
  have B := bytes_any a0 a1 a2 a6 a7 a9 a3 a4 a8 p5 p10 l5 c5 l10 c10 w (by unfold maxLen at m5; omega) (by unfold maxLen at m10; omega)
  have E5 : Hid (z5.length = l5) := e5
  have E10 : Hid (z10.length = l10) := e10
  have R5 : Hid (BytesAt w p5 z5) := r5
  have R10 : Hid (BytesAt w p10 z10) := r10
  have N5 : Hid (p5 = none → z5 = []) := n5
  have N10 : Hid (p10 = none → z10 = []) := n10
  have V5 : Hid (∀ x ∈ z5, 0 ≤ x ∧ x ≤ 255) := v5
  have V10 : Hid (∀ x ∈ z10, 0 ≤ x ∧ x ≤ 255) := v10
  have M5 : (l5 : Int) ≤ 9223372036854775807 := by unfold maxLen at m5; omega
  have M10 : (l10 : Int) ≤ 9223372036854775807 := by unfold maxLen at m10; omega
  clear e5 e10 r5 r10 n5 n10 v5 v10 m5 m10
  go_enter Try.func9, Try.ntmps9
  go_wp2_with fail
  refine B.mono ?_
  rintro e w' ⟨r, rfl, rfl⟩
  clear B
  cases r
  · go_wp2
    go_ret
    exact ⟨rfl, Below.refl _ _⟩
  by_cases t5 : (65536 : Int) < l5
  · go_wp2
    go_ret
    exact ⟨rfl, Below.refl _ _⟩
  by_cases t10 : (8192 : Int) < l10
  · go_wp2
    go_ret
    exact ⟨rfl, Below.refl _ _⟩
  by_cases t7 : a7 < 0
  · go_wp2
    go_ret
    exact ⟨rfl, Below.refl _ _⟩
  by_cases t8 : 65536 < a7
  · go_wp2
    go_ret
    exact ⟨rfl, Below.refl _ _⟩
  obtain ⟨k, rfl⟩ : ∃ k : Nat, a7 = k := ⟨a7.toNat, by omega⟩
  have hk : (k : Int) ≤ 65536 := by omega
  have hl5 : (l5 : Int) ≤ 65536 := by omega
  have hl10 : (l10 : Int) ≤ 8192 := by omega
  clear t5 t10 t7 t8 M5 M10
  go_wp2_with fail
  · go_ret
    exact ⟨rfl, Below.refl _ _⟩
  have C := clone_any p5 c5 z5 w (by rw [E5.out]; omega) N5.out R5.out
  rw [E5.out] at C
  refine C.mono ?_
  rintro e wa ⟨q5, he, S5, hba⟩
  rw [E5.out] at he
  subst he
  clear C
  go_wp2_with fail
  have C := clone_any p10 c10 z10 wa (by rw [E10.out]; omega) N10.out (R10.out.later hba)
  rw [E10.out] at C
  refine C.mono ?_
  rintro e wb ⟨q10, he, S10, hbb⟩
  rw [E10.out] at he
  subst he
  clear C
  have T5 : Hid (BytesAt wb q5 z5) := S5.later hbb
  have T10 : Hid (BytesAt wb q10 z10) := S10
  have HWB : Hid (Below w.heap.size w wb) := hba.trans (hbb.mono hba.size)
  clear S5 S10 hba hbb R5 R10 N5 N10
  go_upto_if 78 with fail
  go_cut [23] from 76 to 78 (fun s wx => ∃ x, s = .int .u8 x ∧ wx = wb)
  case first =>
    go_wp2
    all_goals
      go_meet
      case rel => exact ⟨_, rfl, rfl⟩
  case rest =>
    obtain ⟨ind, rfl, hwc⟩ := hcut
    rw [hwc]
    clear hwc wc
    go_upto_if 83 with fail
    go_cut [25] from 81 to 83 (fun s wx => ∃ x, s = .int .u8 x ∧ (x = 0 ∨ x = 45) ∧ wx = (wb.alloc (.cells #[.int .u8 ind] 5)))
    case first =>
      go_wp2
      all_goals
        go_meet
        case rel => exact ⟨_, rfl, by omega, rfl⟩
    case rest =>
      obtain ⟨cc0, rfl, hcc0, hwc⟩ := hcut
      rw [hwc]
      clear hwc wc
      go_upto_if 86 with fail
      go_cut [25] from 84 to 86 (fun s wx => ∃ x, s = .int .u8 x ∧ (x = 0 ∨ x = 45 ∨ x = 43) ∧ wx = (wb.alloc (.cells #[.int .u8 ind] 5)))
      case first =>
        go_wp2
        all_goals
          go_meet
          case rel => exact ⟨_, rfl, by omega, rfl⟩
      case rest =>
        clear hcc0 cc0
        obtain ⟨cc, rfl, hcc, hwc⟩ := hcut
        rw [hwc]
        clear hwc wc
        go_upto_if 89 with fail
        go_cut [26] from 87 to 92 (fun s wx => ∃ x, s = .int .u8 x ∧ (x = 0 ∨ (49 ≤ x ∧ x ≤ 57)) ∧ wx = (wb.alloc (.cells #[.int .u8 ind] 5)))
        case first =>
          go_wp2
          · have hne : (a2 % 10 != 0) = true := by assumption
            go_meet
            case rel => exact ⟨_, rfl, .inr (by simp at hne; omega), rfl⟩
          · go_meet
            case rel => exact ⟨_, rfl, .inl rfl, rfl⟩
        case rest =>
          obtain ⟨dd, rfl, hdd, hwc⟩ := hcut
          rw [hwc]
          clear hwc wc
          have HO : Hid (Own (wb.alloc (.cells #[.int .u8 ind] 5)) wb.heap.size (.slice (some ⟨wb.heap.size, 0, none⟩) 1 1) [ind]) := Own.lit wb wb.heap.size #[.int .u8 ind] [ind] rfl 1 rfl (Nat.le_refl _) (by omega)
          have HBE : Hid (Below wb.heap.size wb (wb.alloc (.cells #[.int .u8 ind] 5))) := (Below.refl _ _).alloc (Nat.le_refl _) _
          obtain ⟨W, hW⟩ : ∃ W, W = (wb.alloc (.cells #[.int .u8 ind] 5)) := ⟨_, rfl⟩
          rw [← hW] at HO HBE ⊢
          clear hW
          have hWs : wb.heap.size ≤ W.heap.size := HBE.out.size
          go_upto_if 93 with fail
          go_cut [24] from 93 to 117 (fun v wx => ∃ cd : List Int, cd.length ≤ 2 ∧ (∀ x ∈ cd, hc x) ∧ (cc = 45 → 45 ∈ cd) ∧ Own wx wb.heap.size v (ind :: cd) ∧ Below wb.heap.size wb wx)
          case first =>
            cases a3
            · skip
              by_cases hcc : cc = 0
              · subst hcc
                by_cases hdd : dd = 0
                · subst hdd
                  go_wp2
                  go_meet
                  case rel => exact ⟨[], by simp, by simp, by omega, HO.out, HBE.out⟩
                · have hdd1 : (dd != 0) = true := by simpa using hdd
                  go_wp2_with (at_builtin; refine app_new _ rfl (.tmp 114) (.tmp 116) rfl wb.heap.size _ [ind] rfl HO.out _ [dd] 1 rfl rfl rfl (by simp) hWs ?_; intro v2 w3 hown2 hb2)
                  go_wp2
                  go_meet
                  case rel => exact ⟨[dd], by simp, by simp [hc]; omega, by simp <;> omega, hown2, HBE.out.trans hb2⟩
              · have hcc1 : (cc != 0) = true := by simpa using hcc
                by_cases hdd : dd = 0
                · subst hdd
                  go_wp2_with (at_builtin; refine app_new _ rfl (.tmp 108) (.tmp 110) rfl wb.heap.size _ [ind] rfl HO.out _ [cc] 1 rfl rfl rfl (by simp) hWs ?_; intro v2 w3 hown2 hb2)
                  go_wp2
                  go_meet
                  case rel => exact ⟨[cc], by simp, by simp [hc]; omega, by simp <;> omega, hown2, HBE.out.trans hb2⟩
                · have hdd1 : (dd != 0) = true := by simpa using hdd
                  go_wp2_with (first | (at_builtin; refine app_new _ rfl (.tmp 108) (.tmp 110) rfl wb.heap.size _ [ind] rfl HO.out _ [cc] 1 rfl rfl rfl (by simp) hWs ?_; intro v2 w3 hown2 hb2) | (at_builtin; refine app_new _ rfl (.tmp 114) (.tmp 116) rfl wb.heap.size _ [ind, cc] rfl hown2 _ [dd] 1 rfl rfl rfl (by simp) (Nat.le_trans hWs hb2.size) ?_; intro v4 w4 hown4 hb4))
                  go_wp2
                  go_meet
                  case rel => exact ⟨[cc, dd], by simp, by simp [hc]; omega, by simp <;> omega, hown4, (HBE.out.trans hb2).trans hb4⟩
            · skip
              by_cases hdd : dd = 0
              · subst hdd
                by_cases hcc : cc = 0
                · subst hcc
                  go_wp2
                  go_meet
                  case rel => exact ⟨[], by simp, by simp, by omega, HO.out, HBE.out⟩
                · have hcc1 : (cc != 0) = true := by simpa using hcc
                  go_wp2_with (at_builtin; refine app_new _ rfl (.tmp 102) (.tmp 104) rfl wb.heap.size _ [ind] rfl HO.out _ [cc] 1 rfl rfl rfl (by simp) hWs ?_; intro v2 w3 hown2 hb2)
                  go_wp2
                  go_meet
                  case rel => exact ⟨[cc], by simp, by simp [hc]; omega, by simp <;> omega, hown2, HBE.out.trans hb2⟩
              · have hdd1 : (dd != 0) = true := by simpa using hdd
                by_cases hcc : cc = 0
                · subst hcc
                  go_wp2_with (at_builtin; refine app_new _ rfl (.tmp 96) (.tmp 98) rfl wb.heap.size _ [ind] rfl HO.out _ [dd] 1 rfl rfl rfl (by simp) hWs ?_; intro v2 w3 hown2 hb2)
                  go_wp2
                  go_meet
                  case rel => exact ⟨[dd], by simp, by simp [hc]; omega, by simp <;> omega, hown2, HBE.out.trans hb2⟩
                · have hcc1 : (cc != 0) = true := by simpa using hcc
                  go_wp2_with (first | (at_builtin; refine app_new _ rfl (.tmp 96) (.tmp 98) rfl wb.heap.size _ [ind] rfl HO.out _ [dd] 1 rfl rfl rfl (by simp) hWs ?_; intro v2 w3 hown2 hb2) | (at_builtin; refine app_new _ rfl (.tmp 102) (.tmp 104) rfl wb.heap.size _ [ind, dd] rfl hown2 _ [cc] 1 rfl rfl rfl (by simp) (Nat.le_trans hWs hb2.size) ?_; intro v4 w4 hown4 hb4))
                  go_wp2
                  go_meet
                  case rel => exact ⟨[dd, cc], by simp, by simp [hc]; omega, by simp <;> omega, hown4, (HBE.out.trans hb2).trans hb4⟩
          case rest =>
            clear HO HBE hWs W
            obtain ⟨cd, hcdl, hcdh, hc45, hown, hbe⟩ := hcut
            have HO : Hid (Own wc wb.heap.size u24 (ind :: cd)) := hown
            have HBE : Hid (Below wb.heap.size wb wc) := hbe
            have HCD : Hid (∀ x ∈ cd, hc x) := hcdh
            have H45 : Hid (cc = 45 → 45 ∈ cd) := hc45
            have hWs : wb.heap.size ≤ wc.heap.size := hbe.size
            clear hown hbe hcdh hc45 hdd
            obtain ⟨W, hW⟩ : ∃ W, W = wc := ⟨_, rfl⟩
            subst hW
            obtain ⟨t0, ht0⟩ : ∃ t0, t0 = u24 := ⟨_, rfl⟩
            subst ht0
            go_upto_if 118 with fail
            go_cut [24] from 118 to 149 (fun v wx => ∃ cm : List Int, cm.length ≤ 2 + l5 ∧ (cm = [] ∨ cm.getD 0 0 = 32) ∧ (∀ x ∈ cm, plainB x) ∧ Own wx wb.heap.size v (ind :: cd ++ cm) ∧ Below wb.heap.size wb wx)
            case first =>
              cases a4
              · go_wp2
                go_meet
                case rel => exact ⟨[], by simp, .inl rfl, by simp, by simpa using HO.out, HBE.out⟩
              · go_wp2_with (at_builtin; refine app_new _ rfl (.tmp 119) (.tmp 120) rfl wb.heap.size _ (ind :: cd) rfl HO.out _ [32, 35] 2 rfl rfl rfl (by simp; omega) hWs ?_; intro v2 w3 hown2 hb2)
                have HO2 : Hid (Own w3 wb.heap.size v2 (ind :: cd ++ [32, 35])) := hown2
                have HB2 : Hid (Below wb.heap.size wb w3) := HBE.out.trans hb2
                clear hown2 hb2 HO HBE hWs
                go_wp2
                go_loopw [24, 27] (fun v i wx => ∃ (j : Nat) (cm : List Int), j ≤ l5 ∧ i = .int .i64 j ∧ cm.length = 2 + j ∧ cm.getD 0 0 = 32 ∧ (∀ x ∈ cm, plainB x) ∧ Own wx wb.heap.size v (ind :: cd ++ cm) ∧ Below wb.heap.size wb wx) (fun _ i _ => l5 - (intOf i).toNat)
                case atStart => exact ⟨0, [32, 35], by omega, rfl, by simp, rfl, by simp [plainB], HO2.out, HB2.out⟩
                case round =>
                  clear HO2 HB2
                  obtain ⟨i, cm, hi, rfl, hcl, hc0, hcp, hownc, hbc⟩ := hrel
                  have HOC : Hid (Own wr wb.heap.size _ (ind :: cd ++ cm)) := hownc
                  have HBC : Hid (Below wb.heap.size wb wr) := hbc
                  have HC0 : Hid (cm.getD 0 0 = 32) := hc0
                  have HCP : Hid (∀ x ∈ cm, plainB x) := hcp
                  have hWsC : wb.heap.size ≤ wr.heap.size := hbc.size
                  clear hownc hc0 hcp
                  by_cases hlt : i < l5
                  · obtain ⟨b, off, hx, hcell⟩ := T5.out i (by rw [E5.out]; exact hlt)
                    subst hx
                    replace hcell := cell_later hbc hcell
                    clear hbc
                    obtain ⟨x, hxx⟩ : ∃ x, x = z5.getD i 0 := ⟨_, rfl⟩
                    rw [← hxx] at hcell
                    clear hxx
                    by_cases x1 : x = 10
                    · subst x1
                      go_wp2_with (at_builtin; refine app_new _ rfl (.tmp 146) (.tmp 148) rfl wb.heap.size _ (ind :: cd ++ cm) rfl HOC.out _ [35] 1 rfl rfl rfl (by simp; omega) hWsC ?_; intro v3 w4 hown3 hb3)
                      clear HOC hWsC
                      go_wp2
                      go_roundw
                      case rel => exact ⟨i + 1, cm ++ [35], by omega, by go_num, by simp; omega, cm_head HC0.out, cm_plain HCP.out plain35, by rw [← List.append_assoc]; exact hown3, HBC.out.trans hb3⟩
                      case measure => simp [intOf]; omega
                    by_cases x2 : x = 13
                    · subst x2
                      go_wp2_with (at_builtin; refine app_new _ rfl (.tmp 146) (.tmp 148) rfl wb.heap.size _ (ind :: cd ++ cm) rfl HOC.out _ [35] 1 rfl rfl rfl (by simp; omega) hWsC ?_; intro v3 w4 hown3 hb3)
                      clear HOC hWsC
                      go_wp2
                      go_roundw
                      case rel => exact ⟨i + 1, cm ++ [35], by omega, by go_num, by simp; omega, cm_head HC0.out, cm_plain HCP.out plain35, by rw [← List.append_assoc]; exact hown3, HBC.out.trans hb3⟩
                      case measure => simp [intOf]; omega
                    by_cases x3 : x = 194
                    · subst x3
                      go_wp2_with (at_builtin; refine app_new _ rfl (.tmp 146) (.tmp 148) rfl wb.heap.size _ (ind :: cd ++ cm) rfl HOC.out _ [35] 1 rfl rfl rfl (by simp; omega) hWsC ?_; intro v3 w4 hown3 hb3)
                      clear HOC hWsC
                      go_wp2
                      go_roundw
                      case rel => exact ⟨i + 1, cm ++ [35], by omega, by go_num, by simp; omega, cm_head HC0.out, cm_plain HCP.out plain35, by rw [← List.append_assoc]; exact hown3, HBC.out.trans hb3⟩
                      case measure => simp [intOf]; omega
                    by_cases x4 : x = 226
                    · subst x4
                      go_wp2_with (at_builtin; refine app_new _ rfl (.tmp 146) (.tmp 148) rfl wb.heap.size _ (ind :: cd ++ cm) rfl HOC.out _ [35] 1 rfl rfl rfl (by simp; omega) hWsC ?_; intro v3 w4 hown3 hb3)
                      clear HOC hWsC
                      go_wp2
                      go_roundw
                      case rel => exact ⟨i + 1, cm ++ [35], by omega, by go_num, by simp; omega, cm_head HC0.out, cm_plain HCP.out plain35, by rw [← List.append_assoc]; exact hown3, HBC.out.trans hb3⟩
                      case measure => simp [intOf]; omega
                    · have y1 : (x == 10) = false := by simpa using x1
                      have y2 : (x == 13) = false := by simpa using x2
                      have y3 : (x == 194) = false := by simpa using x3
                      have y4 : (x == 226) = false := by simpa using x4
                      have HPX : Hid (plainB x) := ⟨x1, x2, x3, x4⟩
                      clear x1 x2 x3 x4
                      go_wp2_with (at_builtin; refine app_new _ rfl (.tmp 146) (.tmp 148) rfl wb.heap.size _ (ind :: cd ++ cm) rfl HOC.out _ [x] 1 rfl rfl rfl (by simp; omega) hWsC ?_; intro v3 w4 hown3 hb3)
                      clear HOC hWsC
                      go_wp2
                      go_roundw
                      case rel => exact ⟨i + 1, cm ++ [x], by omega, by go_num, by simp; omega, cm_head HC0.out, cm_plain HCP.out HPX.out, by rw [← List.append_assoc]; exact hown3, HBC.out.trans hb3⟩
                      case measure => simp [intOf]; omega
                  · go_wp2
                    go_meet
                    case rel => exact ⟨cm, by omega, .inr HC0.out, HCP.out, HOC.out, HBC.out⟩
            case rest =>
              clear HO HBE hWs W t0
              obtain ⟨cm, hcml, hcm0, hcmp, hown, hbe⟩ := hcut
              have HO : Hid (Own wc wb.heap.size u24 (ind :: cd ++ cm)) := hown
              have HBE : Hid (Below wb.heap.size wb wc) := hbe
              have HC0 : Hid (cm = [] ∨ cm.getD 0 0 = 32) := hcm0
              have HCP : Hid (∀ x ∈ cm, plainB x) := hcmp
              have hWs : wb.heap.size ≤ wc.heap.size := hbe.size
              clear hown hbe hcm0 hcmp
              obtain ⟨W, hW⟩ : ∃ W, W = wc := ⟨_, rfl⟩
              subst hW
              obtain ⟨t0, ht0⟩ : ∃ t0, t0 = u24 := ⟨_, rfl⟩
              subst ht0
              have hb6 := brkL_len a6
              go_wp2_with fail
              refine (brk_any a6 _ w6.1 w6.2).mono ?_
              rintro e w' ⟨rfl, hw'⟩
              rw [hw']
              clear hw' w'
              go_wp2_with (at_builtin; refine app_new _ rfl (.tmp 150) (.tmp 152) rfl wb.heap.size _ (ind :: cd ++ cm) rfl HO.out _ (brkL a6) (brkL a6).length rfl rfl rfl (by simp; omega) hWs ?_; intro v2 w3 hown2 hb2)
              have HO2 : Hid (Own w3 wb.heap.size v2 (ind :: cd ++ cm ++ brkL a6)) := hown2
              have HB2 : Hid (Below wb.heap.size wb w3) := HBE.out.trans hb2
              clear hown2 hb2 HO HBE hWs
              go_wp2
              go_loopw [24, 29] (fun v j wx => ∃ i : Nat, i ≤ k ∧ j = .int .i64 i ∧ Own wx wb.heap.size v (ind :: cd ++ cm ++ brkL a6 ++ List.replicate i 32) ∧ Below wb.heap.size wb wx) (fun _ j _ => k - (intOf j).toNat)
              case atStart => exact ⟨0, Nat.zero_le _, rfl, by simpa using HO2.out, HB2.out⟩
              case round =>
                clear HO2 HB2
                obtain ⟨i, hik, rfl, hownc, hbc⟩ := hrel
                have HOC : Hid (Own wr wb.heap.size _ (ind :: cd ++ cm ++ brkL a6 ++ List.replicate i 32)) := hownc
                have HBC : Hid (Below wb.heap.size wb wr) := hbc
                have hWsC : wb.heap.size ≤ wr.heap.size := hbc.size
                clear hownc hbc
                by_cases hlt : i < k
                · go_wp2_with (at_builtin; refine app_new _ rfl (.tmp 159) (.tmp 160) rfl wb.heap.size _ (ind :: cd ++ cm ++ brkL a6 ++ List.replicate i 32) rfl HOC.out _ [32] 1 rfl rfl rfl (by simp; omega) hWsC ?_; intro v3 w4 hown3 hb3)
                  have HO3 : Hid (Own w4 wb.heap.size v3 (ind :: cd ++ cm ++ brkL a6 ++ List.replicate (i + 1) 32)) := by
                    show Own w4 wb.heap.size v3 (ind :: cd ++ cm ++ brkL a6 ++ List.replicate (i + 1) 32)
                    rw [List.replicate_succ', ← List.append_assoc]; exact hown3
                  clear HOC hWsC hown3
                  go_wp2
                  go_roundw
                  case rel => exact ⟨i + 1, by omega, by go_num, HO3.out, HBC.out.trans hb3⟩
                  case measure => simp [intOf]; omega
                · have hik' : i = k := by omega
                  subst hik'
                  go_upto_if 166 with (at_builtin; refine app_new _ rfl (.tmp 162) (.tmp 163) rfl wb.heap.size _ (ind :: cd ++ cm ++ brkL a6 ++ List.replicate i 32) rfl HOC.out _ [60, 60] 2 rfl rfl rfl (by simp; omega) hWsC ?_; intro v3 w4 hown3 hb3)
                  obtain ⟨base, hbase⟩ : ∃ base, base = ind :: cd ++ cm ++ brkL a6 ++ List.replicate i 32 ++ [60, 60] := ⟨_, rfl⟩
                  have HBASE : Hid (base = ind :: cd ++ cm ++ brkL a6 ++ List.replicate i 32 ++ [60, 60]) := hbase
                  have hbl : base.length ≤ 200000 := by rw [hbase]; simp; omega
                  have HO3 : Hid (Own w4 wb.heap.size v3 base) := by
                    show Own w4 wb.heap.size v3 base
                    rw [hbase]; exact hown3
                  have HB3 : Hid (Below wb.heap.size wb w4) := HBC.out.trans hb3
                  have hWs3 : wb.heap.size ≤ w4.heap.size := HB3.out.size
                  clear hown3 hb3 HOC HBC hWsC hbase hlt hik
                  go_cut [24] from 165 to 202 (fun v wx => ∃ tl : List Int, (tl = [] ∨ (45 ∈ cd ∧ ∃ b2 ps, tl = brkL b2 ++ segs ps ∧ ∀ x ∈ ps, x.1 ≤ i)) ∧ tl.length ≤ 600000000 ∧ Own wx wb.heap.size v (base ++ tl) ∧ Below wb.heap.size wb wx)
                  case first =>
                    by_cases hc5 : cc = 45
                    · have h45 : 45 ∈ cd := H45.out hc5
                      subst hc5
                      have hb9 := brkL_len a9
                      go_wp2_with fail
                      refine (brk_any a9 _ w9.1 w9.2).mono ?_
                      rintro e w' ⟨rfl, hw'⟩
                      rw [hw']
                      clear hw' w'
                      go_wp2_with (at_builtin; refine app_new _ rfl (.tmp 167) (.tmp 169) rfl wb.heap.size _ base rfl HO3.out _ (brkL a9) (brkL a9).length rfl rfl rfl (by omega) hWs3 ?_; intro v5 w5 hown5 hb5)
                      obtain ⟨base2, hbase2⟩ : ∃ base2, base2 = base ++ brkL a9 := ⟨_, rfl⟩
                      have HBASE2 : Hid (base2 = base ++ brkL a9) := hbase2
                      have hbl2 : base2.length ≤ 200003 := by rw [hbase2]; simp; omega
                      have HO5 : Hid (Own w5 wb.heap.size v5 base2) := by
                        show Own w5 wb.heap.size v5 base2
                        rw [hbase2]; exact hown5
                      have HB5 : Hid (Below wb.heap.size wb w5) := HB3.out.trans hb5
                      clear hown5 hb5 HO3 HB3 hWs3 hbase2
                      go_wp2
                      go_loopw [24, 30] (fun v x wx => ∃ (m : Nat) (ps : List (Nat × Int)), m ≤ l10 + 1 ∧ x = .int .i64 m ∧ (∀ y ∈ ps, y.1 ≤ i) ∧ (segs ps).length ≤ m * 65540 ∧ Own wx wb.heap.size v (base2 ++ segs ps) ∧ Below wb.heap.size wb wx) (fun _ x _ => l10 + 2 - (intOf x).toNat)
                      case atStart => exact ⟨0, [], by omega, rfl, by simp, by simp [segs], by simpa [segs] using HO5.out, HB5.out⟩
                      case round =>
                        clear HO5 HB5
                        obtain ⟨m, ps, hml, rfl, hps, hsl, hownc, hbc⟩ := hrel
                        have HOC : Hid (Own wr wb.heap.size _ (base2 ++ segs ps)) := hownc
                        have HBC : Hid (Below wb.heap.size wb wr) := hbc
                        have HPS : Hid (∀ y ∈ ps, y.1 ≤ i) := hps
                        have hWsC : wb.heap.size ≤ wr.heap.size := hbc.size
                        clear hownc hps
                        by_cases hlt : (m : Int) + 1 < l10
                        · obtain ⟨b, off, hx, hcell0⟩ := T10.out m (by rw [E10.out]; omega)
                          subst hx
                          obtain ⟨_, _, hx, hcell1⟩ := T10.out (m + 1) (by rw [E10.out]; omega)
                          cases hx
                          replace hcell0 := cell_later hbc hcell0
                          replace hcell1 := cell_later hbc hcell1
                          clear hbc
                          obtain ⟨e0, he0⟩ : ∃ e0, e0 = z10.getD m 0 := ⟨_, rfl⟩
                          obtain ⟨e1, he1⟩ : ∃ e1, e1 = z10.getD (m + 1) 0 := ⟨_, rfl⟩
                          have b0 : 0 ≤ e0 ∧ e0 ≤ 255 := by
                            have hlt' : m < z10.length := by rw [E10.out]; omega
                            rw [he0, List.getD_eq_getElem?_getD, List.getElem?_eq_getElem hlt']
                            exact V10.out _ (List.getElem_mem hlt')
                          have b1 : 0 ≤ e1 ∧ e1 ≤ 255 := by
                            have hlt' : m + 1 < z10.length := by rw [E10.out]; omega
                            rw [he1, List.getD_eq_getElem?_getD, List.getElem?_eq_getElem hlt']
                            exact V10.out _ (List.getElem_mem hlt')
                          rw [← he0] at hcell0
                          rw [← he1] at hcell1
                          clear he0 he1
                          obtain ⟨J, hJ, hJi, hj0, hj1⟩ := mul_bd i e1 b1.1 b1.2
                          have hj2 : (i : Int) * e1 ≤ 16711680 := by omega
                          have HJ : Hid ((i : Int) * e1 / 255 = J) := hJ
                          clear hJ hj1
                          go_wp2
                          rw [HJ.out]
                          clear HJ hj0 hj2 hcell0 hcell1
                          have hb0 := brkL_len e0
                          go_loopw [24, 33] (fun v x wx => ∃ s : Nat, s ≤ J ∧ x = .int .i64 s ∧ Own wx wb.heap.size v (base2 ++ segs ps ++ List.replicate s 32) ∧ Below wb.heap.size wb wx) (fun _ x _ => J - (intOf x).toNat)
                          case atStart => exact ⟨0, Nat.zero_le _, rfl, by simpa using HOC.out, HBC.out⟩
                          case round =>
                            clear HOC HBC hWsC
                            obtain ⟨s, hsJ, rfl, hownc, hbc⟩ := hrel
                            have HOD : Hid (Own wr wb.heap.size _ (base2 ++ segs ps ++ List.replicate s 32)) := hownc
                            have HBD : Hid (Below wb.heap.size wb wr) := hbc
                            have hWsD : wb.heap.size ≤ wr.heap.size := hbc.size
                            clear hownc hbc
                            by_cases hls : s < J
                            · go_wp2_with (at_builtin; refine app_new _ rfl (.tmp 196) (.tmp 197) rfl wb.heap.size _ (base2 ++ segs ps ++ List.replicate s 32) rfl HOD.out _ [32] 1 rfl rfl rfl (by simp; omega) hWsD ?_; intro v7 w7 hown7 hb7)
                              have HO7 : Hid (Own w7 wb.heap.size v7 (base2 ++ segs ps ++ List.replicate (s + 1) 32)) := by
                                show Own w7 wb.heap.size v7 (base2 ++ segs ps ++ List.replicate (s + 1) 32)
                                rw [List.replicate_succ', ← List.append_assoc]; exact hown7
                              clear HOD hWsD hown7
                              go_wp2
                              go_roundw
                              case rel => exact ⟨s + 1, by omega, by go_num, HO7.out, HBD.out.trans hb7⟩
                              case measure => simp [intOf]; omega
                            · have hsJ' : s = J := by omega
                              subst hsJ'
                              go_wp2_with fail
                              refine (brk_any e0 _ b0.1 b0.2).mono ?_
                              rintro e w' ⟨rfl, hw'⟩
                              rw [hw']
                              clear hw' w'
                              go_wp2_with (at_builtin; refine app_new _ rfl (.tmp 199) (.tmp 201) rfl wb.heap.size _ (base2 ++ segs ps ++ List.replicate s 32) rfl HOD.out _ (brkL e0) (brkL e0).length rfl rfl rfl (by simp; omega) hWsD ?_; intro v7 w7 hown7 hb7)
                              have HO7 : Hid (Own w7 wb.heap.size v7 (base2 ++ segs (ps ++ [(s, e0)]))) := by
                                show Own w7 wb.heap.size v7 (base2 ++ segs (ps ++ [(s, e0)]))
                                rw [segs_snoc]
                                simpa [List.append_assoc] using hown7
                              clear HOD hWsD hown7
                              go_wp2
                              go_roundw
                              case rel =>
                                refine ⟨m + 2, ps ++ [(s, e0)], by omega, by go_num, ?_, by rw [segs_snoc]; simp; omega, HO7.out, HBD.out.trans hb7⟩
                                intro y hy
                                rcases List.mem_append.1 hy with h1 | h1
                                · exact HPS.out y h1
                                · simp at h1; subst h1; exact hJi
                              case measure => simp [intOf]; omega
                        · clear hbc
                          go_wp2
                          go_meet
                          case rel => exact ⟨brkL a9 ++ segs ps, .inr ⟨h45, a9, ps, rfl, HPS.out⟩, by simp; omega, by rw [← List.append_assoc, ← HBASE2.out]; exact HOC.out, HBC.out⟩
                    · have hc5' : (cc == 45) = false := by simpa using hc5
                      go_wp2
                      go_meet
                      case rel => exact ⟨[], .inl rfl, by simp, by simpa using HO3.out, HB3.out⟩
                  case rest =>
                    clear HO3 HB3 hWs3
                    obtain ⟨tl, htl, htll, hown, hbe⟩ := hcut
                    have HTL : Hid (tl = [] ∨ (45 ∈ cd ∧ ∃ b2 ps, tl = brkL b2 ++ segs ps ∧ ∀ x ∈ ps, x.1 ≤ i)) := htl
                    have htx : base ++ tl = textL ind cd cm a6 i tl := by rw [HBASE.out]; simp [textL]
                    obtain ⟨g, cap, hv, hcap, hba⟩ := hown.view (by rw [htx, text_len]; omega)
                    rw [hv]
                    rw [htx] at hba hcap
                    have HBA : Hid (BytesAt wc (some ⟨g, 0, none⟩) (textL ind cd cm a6 i tl)) := hba
                    have HBE : Hid (Below wb.heap.size wb wc) := hbe
                    have hn : (base ++ tl).length = (textL ind cd cm a6 i tl).length := by rw [htx]
                    obtain ⟨n, hnn⟩ : ∃ n, (textL ind cd cm a6 i tl).length = n := ⟨_, rfl⟩
                    have hnl : (n : Int) ≤ 1000000000000 := by
                      rw [← hnn, ← hn]; simp; omega
                    rw [hn, hnn]
                    rw [hnn] at hcap
                    have HNN : Hid ((textL ind cd cm a6 i tl).length = n) := hnn
                    clear hn hnn htx htl hown hba hbe hv
                    cases a8
                    · go_wp2_with fail
                      refine (zz_true g cap _ ind cd cm a6 i tl 0 n HNN.out hnl hcap hcdl HCD.out HC0.out HCP.out (.inl rfl) HTL.out HBA.out).mono ?_
                      rintro e w6 ⟨rfl, hb6⟩
                      clear HBA
                      go_wp2
                      go_ret
                      have hz := HBE.out.trans (hb6.mono HBE.out.size)
                      exact ⟨rfl, HWB.out.trans (hz.mono HWB.out.size)⟩
                    · go_wp2_with fail
                      refine (zz_true g cap _ ind cd cm a6 i tl i n HNN.out hnl hcap hcdl HCD.out HC0.out HCP.out (.inr rfl) HTL.out HBA.out).mono ?_
                      rintro e w6 ⟨rfl, hb6⟩
                      clear HBA
                      go_wp2
                      go_ret
                      have hz := HBE.out.trans (hb6.mono HBE.out.size)
                      exact ⟨rfl, HWB.out.trans (hz.mono HWB.out.size)⟩
end Go.Proofs.Qxb6000678a

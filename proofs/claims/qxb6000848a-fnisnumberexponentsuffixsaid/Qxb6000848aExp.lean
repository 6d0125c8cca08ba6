import Derived.Test.Qxb6000848aLaw
import Derived.Test.Qxb6000848aOwn
namespace Go.Proofs.Qxb6000848a
open Go.RowKit

set_option maxRecDepth 20000 in
theorem zzn_any (s : ByteArray) (w : World) (hs : (s.size : Int) ≤ 1000000000) : Calls Try.prog 9 #[.string s] w fun e w' => e = .returned (.bool (isNum s.data.toList)) ∧ w' = w := by
  go_enter Try.func9, Try.ntmps9
  go_wp2_with fail
  refine (isNumber_any s w hs).mono ?_
  rintro e w' ⟨rfl, rfl⟩
  go_wp2
  go_ret
  exact ⟨rfl, rfl⟩

def SaysBool (n : Int) (w : World) (e : Ending) (w' : World) : Prop := ∃ b, e = .returned (.bool b) ∧ (b = true → n ≤ 1048576) ∧ w = w'

set_option maxRecDepth 20000 in
theorem bytes12_any (s t : ByteArray) (x : Int) (b : Bool) (w : World) (hs : s.size ≤ maxLen) (ht : t.size ≤ maxLen) : Calls Try.prog 12 #[.string s, .string t, .int .u8 x, .bool b] w fun e w' => SaysBool ((s.size : Int) + t.size) w e w' := by
  have hs' : (s.size : Int) ≤ 9223372036854775807 := by unfold maxLen at hs; omega
  have ht' : (t.size : Int) ≤ 9223372036854775807 := by unfold maxLen at ht; omega
  clear hs ht
  by_cases h1 : (s.size : Int) ≤ 1048576
  · by_cases h2 : (t.size : Int) ≤ 1048576
    · by_cases h : (s.size : Int) + t.size ≤ 1048576
      · go_enter Try.func12, Try.ntmps12
        go_wp2
        go_ret
        exact ⟨_, rfl, fun _ => h, rfl⟩
      · go_enter Try.func12, Try.ntmps12
        go_wp2
        go_ret
        exact ⟨_, rfl, (fun h => by cases h), rfl⟩
    · go_enter Try.func12, Try.ntmps12
      go_wp2
      go_ret
      exact ⟨_, rfl, (fun h => by cases h), rfl⟩
  · go_enter Try.func12, Try.ntmps12
    go_wp2
    go_ret
    exact ⟨_, rfl, (fun h => by cases h), rfl⟩

def Done (w : World) (e : Ending) (w' : World) : Prop := e = .returned (.bool true) ∧ Below w.heap.size w w'

set_option maxRecDepth 20000 in
set_option maxHeartbeats 1000000 in
theorem main_any (a0 a1 : ByteArray) (a2 : Int) (a3 : Bool) (w0 : a0.size ≤ maxLen) (w1 : a1.size ≤ maxLen) (g0 : 0 ≤ a2) (g1 : a2 ≤ 255) (w : World) :
    Calls Try.prog 5 #[.string a0, .string a1, .int .u8 a2, .bool a3] w fun e w' => Done w e w' := by
  have B := bytes12_any a0 a1 a2 a3 w w0 w1
  have m0 : (a0.size : Int) ≤ 9223372036854775807 := by unfold maxLen at w0; omega
  have m1 : (a1.size : Int) ≤ 9223372036854775807 := by unfold maxLen at w1; omega
  clear w0 w1
  go_enter Try.func5, Try.ntmps5
  go_wp2_with fail
  refine B.mono ?_
  rintro e w' ⟨b, rfl, hb, rfl⟩
  clear B
  cases b with
  | false =>
    clear hb
    go_wp2
    go_ret
    exact ⟨rfl, Below.refl _ _⟩
  | true =>
    have hs := hb rfl
    have hs0 : (a0.size : Int) ≤ 1048576 := by omega
    have hs1 : (a1.size : Int) ≤ 1048576 := by omega
    clear hb m0 m1
    go_wp2
    go_loop [9] (fun i => ∃ k : Nat, k ≤ a0.size ∧ i = .int .i64 k ∧ ∀ j, j < k → ((a0.data.toList.getD j 0).toNat ≠ 101 ∧ (a0.data.toList.getD j 0).toNat ≠ 69)) (fun i => a0.size - (intOf i).toNat)
    case atStart => exact ⟨0, Nat.zero_le _, rfl, fun j hj => absurd hj (by omega)⟩
    case round =>
      obtain ⟨k, hk, rfl, hall⟩ := hrel
      have HA : Hid (∀ j, j < k → ((a0.data.toList.getD j 0).toNat ≠ 101 ∧ (a0.data.toList.getD j 0).toNat ≠ 69)) := hall
      clear hall
      by_cases hlt : k < a0.size
      · by_cases h1 : ((a0[k]'hlt).toNat : Int) = 101
        · have e1 : (((a0[k]'hlt).toNat : Int) == 101) = true := by simp only [beq_iff_eq]; exact h1
          clear h1
          go_wp2
          go_ret
          exact ⟨rfl, Below.refl _ _⟩
        have e1 : (((a0[k]'hlt).toNat : Int) == 101) = false := by simp only [beq_eq_false_iff_ne]; exact h1
        by_cases h2 : ((a0[k]'hlt).toNat : Int) = 69
        · have e2 : (((a0[k]'hlt).toNat : Int) == 69) = true := by simp only [beq_iff_eq]; exact h2
          clear h1 h2
          go_wp2
          go_ret
          exact ⟨rfl, Below.refl _ _⟩
        have e2 : (((a0[k]'hlt).toNat : Int) == 69) = false := by simp only [beq_eq_false_iff_ne]; exact h2
        have H1 : Hid (((a0[k]'hlt).toNat : Int) ≠ 101) := h1
        have H2 : Hid (((a0[k]'hlt).toNat : Int) ≠ 69) := h2
        clear h1 h2
        go_wp2
        go_round
        case rel =>
          refine ⟨k + 1, by omega, by go_num, fun j hj => ?_⟩
          by_cases hjk : j = k
          · subst hjk
            rw [get_list a0 j hlt]
            have := H1.out
            have := H2.out
            omega
          · exact HA.out j (by omega)
        case measure => simp [intOf]; omega
      · have hkn : k = a0.size := by omega
        have HNE : Hid (noE a0.data.toList) := by
          show noE a0.data.toList
          intro c hc
          obtain ⟨j, hj, rfl⟩ := List.getElem_of_mem hc
          have := HA.out j (by simp at hj; omega)
          rw [List.getD_eq_getElem?_getD, List.getElem?_eq_getElem hj] at this
          exact this
        subst hkn
        clear HA hlt hk
        go_upto_if 52 with fail
        go_cut [10] from 52 to 52 (fun x wx => x = .string ⟨#[if a3 then 69 else 101]⟩ ∧ wx = w)
        case first =>
          cases a3
          · go_wp2
            go_meet
            case rel => exact ⟨rfl, rfl⟩
          · go_wp2
            go_meet
            case rel => exact ⟨rfl, rfl⟩
        case rest =>
          obtain ⟨rfl, hwc⟩ := hcut
          rw [hwc]
          clear hwc wc
          go_upto_block 2 with fail
          go_cut [10] from 55 to 62 (fun x wx => ∃ m : ByteArray, x = .string m ∧ m.data.toList = markL a3 (a2 % 3) ∧ wx = w)
          case first =>
            obtain ⟨m, hm⟩ : ∃ m : ByteArray, m = ⟨#[if a3 = true then 69 else 101]⟩ := ⟨_, rfl⟩
            have HM : Hid (m.data.toList = [if a3 = true then 69 else 101]) := by
              show m.data.toList = [if a3 = true then 69 else 101]
              rw [hm]
            have hms : m.size = 1 := by rw [hm]; rfl
            rw [← hm]
            clear hm
            by_cases k1 : a2 % 3 = 1
            · have e1 : (a2 % 3 == 1) = true := by simp only [beq_iff_eq]; exact k1
              have HK : Hid (a2 % 3 = 1) := k1
              clear k1
              go_wp2
              go_meet
              case rel => exact ⟨_, rfl, by rw [ByteArray.data_append, Array.toList_append, HM.out]; unfold markL; rw [HK.out]; simp, rfl⟩
            have e1 : (a2 % 3 == 1) = false := by simp only [beq_eq_false_iff_ne]; exact k1
            by_cases k2 : a2 % 3 = 2
            · have e2 : (a2 % 3 == 2) = true := by simp only [beq_iff_eq]; exact k2
              have HK : Hid (a2 % 3 = 2) := k2
              clear k1 k2
              go_wp2
              go_meet
              case rel => exact ⟨_, rfl, by rw [ByteArray.data_append, Array.toList_append, HM.out]; unfold markL; rw [HK.out]; simp, rfl⟩
            have e2 : (a2 % 3 == 2) = false := by simp only [beq_eq_false_iff_ne]; exact k2
            have HK1 : Hid (¬ a2 % 3 = 1) := k1
            have HK2 : Hid (¬ a2 % 3 = 2) := k2
            clear k1 k2
            go_wp2
            go_meet
            case rel => exact ⟨m, rfl, by rw [HM.out]; unfold markL; simp [HK1.out, HK2.out], rfl⟩
          case rest =>
            obtain ⟨m, rfl, hm, hwc⟩ := hcut
            rw [hwc]
            clear hwc wc
            have HM : Hid (m.data.toList = markL a3 (a2 % 3)) := hm
            have hms : (m.size : Int) ≤ 2 := by
              have h := congrArg List.length hm
              unfold markL at h
              simp at h
              have : (if a2 % 3 = 1 then [43] else if a2 % 3 = 2 then [45] else ([] : List UInt8)).length ≤ 1 := by
                split
                · simp
                split <;> simp
              omega
            clear hm
            go_upto_if 69 with (refine make_new _ rfl _ _ rfl _ (a1.size + 1) rfl rfl (by omega) (by omega) ?_; intro v1 w1 hown1 hb1)
            have HO : Hid (Own w1 w.heap.size v1 []) := hown1
            have HB : Hid (Below w.heap.size w w1) := hb1
            have hWs : w.heap.size ≤ w1.heap.size := hb1.size
            clear hown1 hb1
            go_cut [11] from 69 to 72 (fun v wx => ∃ ds : List Int, ds.length ≤ 1 ∧ (∀ x ∈ ds, 48 ≤ x ∧ x ≤ 57) ∧ (a1.size = 0 → ds ≠ []) ∧ Own wx w.heap.size v ds ∧ Below w.heap.size w wx)
            case first =>
              by_cases hz : a1.size = 0
              · have hz1 : ((a1.size : Int) == 0) = true := by simp only [beq_iff_eq]; omega
                have hz2 : a1.toList.isEmpty = true := by rw [toList_data, List.eq_nil_of_length_eq_zero (by simpa using hz : a1.data.toList.length = 0)]; rfl
                clear hz
                go_wp2_with (at_builtin; refine app_new _ rfl (.tmp 70) (.tmp 71) rfl w.heap.size _ [] rfl HO.out _ [48] 1 rfl rfl rfl (by simp) hWs ?_; intro v2 w2 hown2 hb2)
                go_wp2
                go_meet
                case rel => exact ⟨[48], by simp, by simp, by simp, hown2, HB.out.trans hb2⟩
              · have hz1 : ((a1.size : Int) == 0) = false := by simp only [beq_eq_false_iff_ne]; omega
                have hz2 : a1.toList.isEmpty = false := by
                  rw [toList_data]
                  cases h : a1.data.toList with
                  | nil => exact absurd (by have := congrArg List.length h; simpa using this) hz
                  | cons c r => rfl
                have HZ : Hid (¬ a1.size = 0) := hz
                clear hz
                go_wp2
                go_meet
                case rel => exact ⟨[], by simp, by simp, fun h => absurd h HZ.out, HO.out, HB.out⟩
            case rest =>
              clear HO HB hWs
              obtain ⟨ds0, hl0, hd0, hn0, ho0, hb0⟩ := hcut
              have HO : Hid (Own wc w.heap.size u11 ds0) := ho0
              have HB : Hid (Below w.heap.size w wc) := hb0
              have HN : Hid (a1.size = 0 → ds0 ≠ []) := hn0
              have HD : Hid (∀ x ∈ ds0, 48 ≤ x ∧ x ≤ 57) := hd0
              clear ho0 hb0 hn0 hd0
              go_wp2
              go_loopw [11, 12] (fun v i wx => ∃ (j : Nat) (ds : List Int), j ≤ a1.size ∧ i = .int .i64 j ∧ ds.length ≤ 1 + j ∧ (∀ x ∈ ds, 48 ≤ x ∧ x ≤ 57) ∧ (a1.size = 0 ∨ 0 < j → ds ≠ []) ∧ Own wx w.heap.size v ds ∧ Below w.heap.size w wx) (fun _ i _ => a1.size - (intOf i).toNat)
              case atStart => exact ⟨0, ds0, by omega, rfl, by omega, HD.out, fun h => HN.out (by omega), HO.out, HB.out⟩
              case round =>
                clear HO HB HN HD hl0 ds0
                obtain ⟨j, ds, hj, rfl, hl, hd, hn, ho, hb⟩ := hrel
                have HO : Hid (Own wr w.heap.size _ ds) := ho
                have HB : Hid (Below w.heap.size w wr) := hb
                have HN : Hid (a1.size = 0 ∨ 0 < j → ds ≠ []) := hn
                have HD : Hid (∀ x ∈ ds, 48 ≤ x ∧ x ≤ 57) := hd
                have hWs : w.heap.size ≤ wr.heap.size := hb.size
                clear ho hb hn hd
                by_cases hlt : j < a1.size
                · have hx255 : (((a1[j]'hlt).toNat : Nat) : Int) ≤ 255 := by have := (a1[j]'hlt).toNat_lt; omega
                  go_wp2_with (at_builtin; refine app_new _ rfl (.tmp 79) (.tmp 85) rfl w.heap.size _ ds rfl HO.out _ [_] 1 rfl rfl rfl (by omega) hWs ?_; intro v2 w2 hown2 hb2)
                  go_wp2
                  go_roundw
                  case rel =>
                    refine ⟨j + 1, _, by omega, by go_num, by simp; omega, ?_, fun _ => by simp, hown2, HB.out.trans hb2⟩
                    intro x hx
                    rcases List.mem_append.1 hx with h | h
                    · exact HD.out x h
                    · simp at h; omega
                  case measure => simp [intOf]; omega
                · have hjn : j = a1.size := by omega
                  have hne : ds ≠ [] := HN.out (by omega)
                  have hpos : 0 < ds.length := List.length_pos_iff.2 hne
                  obtain ⟨g, cap, hv, hcell⟩ := HO.out.view hpos
                  subst hv
                  have hconv := run_convert_bytes_arg wr 24 5 Try.underlying24 Try.underlying5 g 0 ds.length cap ds rfl hcell 9 Try.underlying9
                  obtain ⟨U, hU⟩ : ∃ U, U = strOfNums ds := ⟨_, rfl⟩
                  rw [← hU] at hconv
                  have HU : Hid (∀ c ∈ U.data.toList, dg c = true) := by
                    show ∀ c ∈ U.data.toList, dg c = true
                    rw [hU, strOfNums_data]
                    intro c hc
                    obtain ⟨x, hx, rfl⟩ := List.mem_map.1 hc
                    have := HD.out x hx
                    have h2 : (UInt8.ofNat x.toNat).toNat = x.toNat := by rw [UInt8.toNat_ofNat']; omega
                    unfold dg
                    rw [h2]
                    simp; omega
                  have HUN : Hid (U.data.toList ≠ []) := by
                    show U.data.toList ≠ []
                    rw [hU, strOfNums_data]
                    simpa using hne
                  have hus : (U.size : Int) ≤ 2000000 := by rw [hU, strOfNums_size]; omega
                  clear hU HO HN HD hcell hne hpos
                  have m1 : (a0 ++ m).data.toList = a0.data.toList ++ markL a3 (a2 % 3) := by rw [ByteArray.data_append, Array.toList_append, HM.out]
                  have m2 : (a0 ++ m).size = a0.size + m.size := by simp
                  have m3 : (a0 ++ m ++ U).data.toList = a0.data.toList ++ (markL a3 (a2 % 3) ++ U.data.toList) := by rw [ByteArray.data_append, Array.toList_append, m1, List.append_assoc]
                  have m4 : (a0 ++ m ++ U).size = a0.size + m.size + U.size := by simp
                  have n1 : Hid (isNum (a0 ++ m ++ U).data.toList = isNum a0.data.toList) := by
                    show isNum (a0 ++ m ++ U).data.toList = isNum a0.data.toList
                    rw [m3, (mark_digits a3 (a2 % 3) _ HU.out HUN.out).num _ HNE.out]; simp
                  have n2 : Hid (isNum (a0 ++ m).data.toList = false) := by
                    show isNum (a0 ++ m).data.toList = false
                    rw [m1, (mark_only a3 (a2 % 3)).num _ HNE.out]; simp
                  have n3 : ∀ p : ByteArray, p = ⟨#[46]⟩ → isNum (a0 ++ p).data.toList = false := by
                    intro p hp
                    have : (a0 ++ p).data.toList = a0.data.toList ++ [46] := by rw [ByteArray.data_append, Array.toList_append, hp]
                    rw [this, point_only.num _ HNE.out]; simp
                  have HS46 : Hid (∀ p : ByteArray, p = ⟨#[46]⟩ → ((a0 ++ p).size : Int) ≤ 1000000000) := by
                    show ∀ p : ByteArray, p = ⟨#[46]⟩ → ((a0 ++ p).size : Int) ≤ 1000000000
                    intro p hp
                    have h1 : p.size = 1 := by rw [hp]; rfl
                    rw [ByteArray.size_append, h1]
                    omega
                  have HN3 : Hid (∀ p : ByteArray, p = ⟨#[46]⟩ → isNum (a0 ++ p).data.toList = false) := n3
                  have HM2 : Hid ((a0 ++ m).size = a0.size + m.size) := m2
                  have HM4 : Hid ((a0 ++ m ++ U).size = a0.size + m.size + U.size) := m4
                  clear m1 m2 m3 m4 n3 HU HUN HNE HM
                  go_wp2_with fail
                  refine (zzn_any a0 wr (by omega)).mono ?_
                  rintro e w' ⟨rfl, hw⟩
                  rw [hw]
                  clear hw w'
                  obtain ⟨b, hbb⟩ : ∃ b, b = isNum a0.data.toList := ⟨_, rfl⟩
                  rw [← hbb] at n1 ⊢
                  clear hbb
                  go_wp2_with fail
                  refine (zzn_any _ wr (by have := HM4.out; omega)).mono ?_
                  rintro e w' ⟨rfl, hw⟩
                  rw [hw, n1.out]
                  clear hw w'
                  go_wp2_with fail
                  refine (zzn_any _ wr (by have := HM2.out; omega)).mono ?_
                  rintro e w' ⟨rfl, hw⟩
                  rw [hw, n2.out]
                  clear hw w'
                  go_wp2_with fail
                  refine (zzn_any _ wr (HS46.out _ rfl)).mono ?_
                  rintro e w' ⟨rfl, hw⟩
                  rw [hw, HN3.out _ rfl]
                  clear hw w'
                  go_wp2
                  go_ret
                  exact ⟨rfl, HB.out⟩
end Go.Proofs.Qxb6000848a

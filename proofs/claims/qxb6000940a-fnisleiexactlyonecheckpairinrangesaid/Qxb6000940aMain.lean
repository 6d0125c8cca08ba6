import Derived.Test.Qxb6000940aLei
namespace Go.Proofs.Qxb6000940a
open Go.RowKit

theorem Try.info5 : (Try.prog.info? 5).map (fun i => (i.zero, i.size, i.bytes)) = some (some (.int .u8 0), 1, 1) := by kernel_rfl

/-- The first k cells of block B hold what f says; n cells in all, none of them marked. -/
def Filled (w : World) (B : Nat) (e : TypeId) (n k : Nat) (f : Nat → Value) : Prop :=
  ∃ arr : Array Value, w.heap[B]? = some (.cells arr e (0, 0)) ∧ arr.size = n ∧ ∀ j, j < k → arr[j]? = some (f j)

theorem Filled.start (w : World) (e : TypeId) (n : Nat) (f : Nat → Value) (cs : Array Value) (hcs : cs.size = n) : Filled (w.alloc (.cells cs e)) w.heap.size e n 0 f :=
  ⟨cs, heap_alloc_new w _, hcs, fun j hj => by omega⟩
theorem Filled.cell {w : World} {B : Nat} {e : TypeId} {n k : Nat} {f : Nat → Value} (h : Filled w B e n k f) (j : Nat) (hj : j < k) : w.cell? ⟨B, j, none⟩ = some (f j) := by
  obtain ⟨arr, hh, _, hf⟩ := h
  rw [cell_of_row w B j arr e (0, 0) hh]
  exact hf j hj
theorem Filled.some {w : World} {B : Nat} {e : TypeId} {n k : Nat} {f : Nat → Value} (h : Filled w B e n k f) (j : Nat) (hj : j < n) : ∃ v, w.cell? ⟨B, j, none⟩ = some v := by
  obtain ⟨arr, hh, hs, hf⟩ := h
  rw [cell_of_row w B j arr e (0, 0) hh]
  exact ⟨arr[j], by simp [hs, hj]⟩
theorem Filled.free {w : World} {B : Nat} {e : TypeId} {n k : Nat} {f : Nat → Value} (h : Filled w B e n k f) (j : Nat) : w.frozen? ⟨B, j, none⟩ = false := by
  obtain ⟨arr, hh, _, _⟩ := h
  exact frozen_of_row w B j arr e hh
theorem Filled.store {w : World} {B : Nat} {e : TypeId} {n k : Nat} {f : Nat → Value} (h : Filled w B e n k f) (hk : k < n) : Filled (w.setCell ⟨B, k, none⟩ (f k)) B e n (k + 1) f := by
  obtain ⟨arr, hh, hs, hf⟩ := h
  refine ⟨arr.setIfInBounds k (f k), heap_setCell_same w B k arr e _ hh, by simpa using hs, fun j hj => ?_⟩
  by_cases hjk : j = k
  · subst hjk; simp [hs, hk]
  · rw [Array.getElem?_setIfInBounds_ne (by omega)]; exact hf j (by omega)

/-- The twenty bytes of round k. -/
def xsOf (l : List UInt8) (k : Nat) : List Int := l.map (fun c => (c.toNat : Int)) ++ [48 + (k : Int) / 10, 48 + (k : Int) % 10]

theorem rem_app (r : Int) (l m : List UInt8) : rem r (l ++ m) = rem (rem r l) m := by
  induction l generalizing r with
  | nil => rfl
  | cons c t ih => rw [List.cons_append, rem, rem, ih]
theorem map_back (l : List UInt8) : (l.map (fun c => (c.toNat : Int))).map (fun n => UInt8.ofNat n.toNat) = l := by
  rw [List.map_map]
  conv => rhs; rw [← List.map_id l]
  apply List.map_congr_left
  intro c _
  simp
theorem str_of (l : List UInt8) (k : Nat) : (strOfNums (xsOf l k)).data.toList = l ++ [UInt8.ofNat (48 + k / 10), UInt8.ofNat (48 + k % 10)] := by
  rw [strOfNums_data]
  unfold xsOf
  rw [List.map_append, map_back]
  have h1 : (48 + (k : Int) / 10).toNat = 48 + k / 10 := by omega
  have h2 : (48 + (k : Int) % 10).toNat = 48 + k % 10 := by omega
  simp only [List.map_cons, List.map_nil, h1, h2]
theorem two_nat (x : Nat) (h : x ≤ 57) : (UInt8.ofNat x).toNat = x := by rw [UInt8.toNat_ofNat']; omega

/-- The round's remainder: the eighteen's, times 100, and the pair. -/
theorem rem_pair (l : List UInt8) (k : Nat) (hk : k ≤ 98) : rem 0 (strOfNums (xsOf l k)).data.toList = (rem 0 l * 100 + k) % 97 := by
  rw [str_of, rem_app]
  show nx (nx (rem 0 l) _) _ = _
  rw [two_nat _ (by omega), two_nat _ (by omega)]
  unfold nx
  rw [if_pos (by omega), if_pos (by omega)]
  omega

/-- The one pair that serves. -/
def k0 (R : Int) : Int := 2 + (-1 - R * 100) % 97
theorem k0_one (R : Int) (k : Nat) (h2 : 2 ≤ k) (hk : k ≤ 98) : ((R * 100 + k) % 97 = 1) ↔ (k : Int) = k0 R := by
  unfold k0; omega
theorem k0_bd (R : Int) : 2 ≤ k0 R ∧ k0 R ≤ 98 := by unfold k0; omega

def Done (w : World) (e : Ending) (w' : World) : Prop := e = .returned (.bool true) ∧ Below w.heap.size w w'

set_option maxRecDepth 20000 in
set_option maxHeartbeats 1000000 in
theorem main_any (a0 : ByteArray) (w0 : a0.size ≤ maxLen) (w : World) : Calls Try.prog 3 #[.string a0] w fun e w' => Done w e w' := by
  have B := bytes_any a0 w w0
  have m0 : (a0.size : Int) ≤ 9223372036854775807 := by unfold maxLen at w0; omega
  have hmk : ∀ w : World, (Instr.makeSlice 24 (.int .i64 20) (.int .i64 20)).run Try.prog w = .ok (.slice (some ⟨w.heap.size, 0, none⟩) 20 20) (w.alloc (.cells (madeCells #[.int .u8 0] 20) 5)) := run_make_row' (P := Try.prog) 24 5 (.int .u8 0) 1 Try.underlying24 Try.info5 rfl .i64 .i64 20 (by omega) (by omega)
  clear w0
  go_enter Try.func3, Try.ntmps3
  go_wp2_with fail
  refine B.mono ?_
  rintro e w' ⟨b, rfl, rfl⟩
  clear B
  cases b with
  | false =>
    go_wp2
    go_ret
    exact ⟨rfl, Below.refl _ _⟩
  | true =>
    by_cases h18 : (a0.size : Int) = 18
    · have hne : ((a0.size : Int) != 18) = false := by simp [h18]
      clear m0
      go_wp2
      go_loop [3] (fun i => ∃ k : Nat, k ≤ 18 ∧ i = .int .i64 k ∧ ∀ j, j < k → okc (a0.data.toList.getD j 0).toNat) (fun i => 18 - (intOf i).toNat)
      case atStart => exact ⟨0, Nat.zero_le _, rfl, fun j hj => absurd hj (by omega)⟩
      case round =>
        obtain ⟨k, hk, rfl, hall⟩ := hrel
        have HA : Hid (∀ j, j < k → okc (a0.data.toList.getD j 0).toNat) := hall
        clear hall
        by_cases hlt : k < 18
        · have hlt' : k < a0.size := by omega
          have hx255 : (((a0[k]'hlt').toNat : Nat) : Int) ≤ 255 := by have := (a0[k]'hlt').toNat_lt; omega
          go_wp2_with fail
          refine (class_any _ w (by omega) hx255).mono ?_
          rintro e w' ⟨c, rfl, hc, rfl⟩
          rcases hc with rfl | ⟨hc, hc2⟩
          · go_wp2
            go_ret
            exact ⟨rfl, Below.refl _ _⟩
          · have HC : Hid (okc ((a0[k]'hlt').toNat : Nat)) := hc
            clear hc
            go_wp2
            go_round
            case rel =>
              refine ⟨k + 1, by omega, by go_num, fun j hj => ?_⟩
              by_cases hjk : j = k
              · subst hjk; rw [get_list a0 j hlt']; exact HC.out
              · exact HA.out j (by omega)
            case measure => simp [intOf]; omega
        · have hk18 : k = 18 := by omega
          subst hk18
          clear hk hlt
          obtain ⟨R, hR⟩ : ∃ R, R = rem 0 a0.data.toList := ⟨_, rfl⟩
          have HR : Hid (R = rem 0 a0.data.toList) := hR
          clear hR
          go_wp2
          go_loopw [4, 5] (fun c i wx => ∃ (k : Nat) (x : Int), 2 ≤ k ∧ k ≤ 99 ∧ i = .int .i64 k ∧ c = .int .i64 x ∧ (x = if k0 R < k then 1 else 0) ∧ Below w.heap.size w wx) (fun _ i _ => 99 - (intOf i).toNat)
          case atStart => exact ⟨2, 0, by omega, by omega, rfl, rfl, by have := k0_bd R; rw [if_neg (by omega)], Below.refl _ _⟩
          case round =>
            obtain ⟨k, x, hk2, hk99, rfl, rfl, hx, hb⟩ := hrel
            have HX : Hid (x = if k0 R < k then 1 else 0) := hx
            have hx0 : 0 ≤ x ∧ x ≤ 1 := by rw [hx]; split <;> omega
            have HB : Hid (Below w.heap.size w wr) := hb
            have hWs : w.heap.size ≤ wr.heap.size := hb.size
            clear hx hb
            obtain ⟨W, hW⟩ : ∃ W, W = wr := ⟨_, rfl⟩
            subst hW
            by_cases hlt : k ≤ 98
            · go_wp2
              go_loopw [7] (fun i wx => ∃ j : Nat, j ≤ 18 ∧ i = .int .i64 j ∧ Filled wx W.heap.size 5 20 j (fun j => Value.int .u8 ((xsOf a0.data.toList k).getD j 0)) ∧ Below W.heap.size W wx) (fun i _ => 18 - (intOf i).toNat)
              case atStart => exact ⟨0, Nat.zero_le _, rfl, Filled.start W 5 20 _ _ (by simp [madeCells]), (Below.refl _ _).alloc (Nat.le_refl _) _⟩
              case round =>
                obtain ⟨j, hj, rfl, hf, hbe⟩ := hrel
                have HBE : Hid (Below W.heap.size W wr) := hbe
                clear hbe
                by_cases hlt2 : j < 18
                · have hlt' : j < a0.size := by omega
                  obtain ⟨v0, hold⟩ := hf.some j (by omega)
                  have hfree := hf.free j
                  have HF : Hid (Filled wr W.heap.size 5 20 j (fun j => Value.int .u8 ((xsOf a0.data.toList k).getD j 0))) := hf
                  have HG : Hid ((xsOf a0.data.toList k).getD j 0 = ((a0[j]'hlt').toNat : Nat)) := by
                    show (xsOf a0.data.toList k).getD j 0 = ((a0[j]'hlt').toNat : Nat)
                    unfold xsOf
                    rw [List.getD_eq_getElem?_getD, List.getElem?_append_left (by simpa using hlt'), List.getElem?_map, List.getElem?_eq_getElem (by simpa using hlt')]
                    rfl
                  clear hf
                  go_wp2
                  go_roundw
                  case rel =>
                    refine ⟨j + 1, by omega, by go_num, ?_, HBE.out.setCell (Nat.le_refl _) _⟩
                    have := HF.out.store (by omega)
                    rw [HG.out] at this
                    simpa using this
                  case measure => simp [intOf]; omega
                · have hj18 : j = 18 := by omega
                  subst hj18
                  obtain ⟨v0, hold⟩ := hf.some 18 (by omega)
                  have hfree := hf.free 18
                  have HF : Hid (Filled wr W.heap.size 5 20 18 (fun j => Value.int .u8 ((xsOf a0.data.toList k).getD j 0))) := hf
                  have hlen : a0.data.toList.length = 18 := by simp; omega
                  have HG8 : Hid ((xsOf a0.data.toList k).getD 18 0 = 48 + (k : Int) / 10) := by
                    show (xsOf a0.data.toList k).getD 18 0 = 48 + (k : Int) / 10
                    unfold xsOf
                    rw [List.getD_eq_getElem?_getD, List.getElem?_append_right (by simp [hlen])]
                    simp [hlen]
                  have HG9 : Hid ((xsOf a0.data.toList k).getD 19 0 = 48 + (k : Int) % 10) := by
                    show (xsOf a0.data.toList k).getD 19 0 = 48 + (k : Int) % 10
                    unfold xsOf
                    rw [List.getD_eq_getElem?_getD, List.getElem?_append_right (by simp [hlen])]
                    simp [hlen]
                  have HLEN : Hid (a0.data.toList.length = 18) := hlen
                  clear hf hlen
                  go_upto_region 22 with fail
                  obtain ⟨W1, hW1⟩ : ∃ W1, W1 = (wr.setCell ⟨W.heap.size, 18, none⟩ (Value.int .u8 (48 + (k : Int) / 10))) := ⟨_, rfl⟩
                  have hf1 : Filled W1 W.heap.size 5 20 19 (fun j => Value.int .u8 ((xsOf a0.data.toList k).getD j 0)) := by
                    have := HF.out.store (by omega)
                    rw [HG8.out] at this
                    rw [hW1]; exact this
                  have HB1 : Hid (Below W.heap.size W W1) := by
                    show Below W.heap.size W W1
                    rw [hW1]; exact HBE.out.setCell (Nat.le_refl _) _
                  rw [← hW1]
                  clear hW1 HF HBE hold hfree v0
                  obtain ⟨v0, hold⟩ := hf1.some 19 (by omega)
                  have hfree := hf1.free 19
                  have HF1 : Hid (Filled W1 W.heap.size 5 20 19 (fun j => Value.int .u8 ((xsOf a0.data.toList k).getD j 0))) := hf1
                  clear hf1
                  go_upto_region 23 with fail
                  obtain ⟨W2, hW2⟩ : ∃ W2, W2 = (W1.setCell ⟨W.heap.size, 19, none⟩ (Value.int .u8 (48 + (k : Int) % 10))) := ⟨_, rfl⟩
                  have hf2 : Filled W2 W.heap.size 5 20 20 (fun j => Value.int .u8 ((xsOf a0.data.toList k).getD j 0)) := by
                    have := HF1.out.store (by omega)
                    rw [HG9.out] at this
                    rw [hW2]; exact this
                  have HB2 : Hid (Below W.heap.size W W2) := by
                    show Below W.heap.size W W2
                    rw [hW2]; exact HB1.out.setCell (Nat.le_refl _) _
                  rw [← hW2]
                  clear hW2 HF1 HB1 hold hfree v0 HG8 HG9
                  have hxl : (xsOf a0.data.toList k).length = 20 := by
                    have h := HLEN.out
                    unfold xsOf
                    simp at h ⊢
                    omega
                  have hconv := run_convert_bytes_arg W2 24 5 Try.underlying24 Try.underlying5 W.heap.size 0 20 20 (xsOf a0.data.toList k) hxl (fun i hi => by rw [Nat.zero_add]; exact hf2.cell i hi) 9 Try.underlying9
                  obtain ⟨U, hU⟩ : ∃ U, U = strOfNums (xsOf a0.data.toList k) := ⟨_, rfl⟩
                  rw [← hU] at hconv
                  have hUs : U.size = 20 := by rw [hU, strOfNums_size, hxl]
                  have hUR : rem 0 U.data.toList = (R * 100 + k) % 97 := by rw [hU, rem_pair _ _ hlt, HR.out]
                  have hUok : ∀ j, j < 20 → okc (U.data.toList.getD j 0).toNat := by
                    intro j hj
                    rw [hU, str_of, List.getD_eq_getElem?_getD]
                    by_cases hj2 : j < 18
                    · rw [List.getElem?_append_left (by rw [HLEN.out]; exact hj2), ← List.getD_eq_getElem?_getD]
                      exact HA.out j hj2
                    · rw [List.getElem?_append_right (by rw [HLEN.out]; omega), HLEN.out]
                      have : j = 18 ∨ j = 19 := by omega
                      rcases this with rfl | rfl
                      · show okc ((UInt8.ofNat (48 + k / 10)).toNat : Nat)
                        rw [two_nat _ (by omega)]; exact .inl (by omega)
                      · show okc ((UInt8.ofNat (48 + k % 10)).toNat : Nat)
                        rw [two_nat _ (by omega)]; exact .inl (by omega)
                  have C := zzLEI_any U W2 hUs hUok
                  rw [hUR] at C
                  have HC : Hid (Calls Try.prog 11 #[.string U] W2 fun e w' => e = .returned (.bool (decide ((R * 100 + k) % 97 = 1))) ∧ w' = W2) := C
                  have HEW : Hid (Below w.heap.size w W2) := HB.out.trans (HB2.out.mono hWs)
                  clear C hUok hUR hUs hU hf2 hxl HLEN HB2
                  go_wp2_with fail
                  refine HC.out.mono ?_
                  rintro e w' ⟨rfl, hw⟩
                  rw [hw]
                  clear hw w' HC
                  by_cases hone : (k : Int) = k0 R
                  · have hd : decide ((R * 100 + (k : Int)) % 97 = 1) = true := by rw [decide_eq_true_eq]; exact (k0_one R k hk2 hlt).2 hone
                    rw [hd]
                    have HN : Hid (x + 1 = if k0 R < ((k + 1 : Nat) : Int) then 1 else 0) := by
                      show x + 1 = if k0 R < ((k + 1 : Nat) : Int) then 1 else 0
                      rw [HX.out, if_neg (by omega), if_pos (by omega)]; rfl
                    clear hd hone
                    go_wp2
                    go_roundw
                    case rel => exact ⟨k + 1, x + 1, by omega, by omega, by go_num, by go_num, HN.out, HEW.out⟩
                    case measure => simp [intOf]; omega
                  · have hd : decide ((R * 100 + (k : Int)) % 97 = 1) = false := by rw [decide_eq_false_iff_not]; exact fun h => hone ((k0_one R k hk2 hlt).1 h)
                    rw [hd]
                    have HN : Hid (x = if k0 R < ((k + 1 : Nat) : Int) then 1 else 0) := by
                      show x = if k0 R < ((k + 1 : Nat) : Int) then 1 else 0
                      rw [HX.out]
                      by_cases hq : k0 R < (k : Int)
                      · rw [if_pos hq, if_pos (by omega)]
                      · rw [if_neg hq, if_neg (by omega)]
                    clear hd hone
                    go_wp2
                    go_roundw
                    case rel => exact ⟨k + 1, x, by omega, by omega, by go_num, rfl, HN.out, HEW.out⟩
                    case measure => simp [intOf]; omega
            · have hk : k = 99 := by omega
              have hone : x = 1 := by
                have := k0_bd R
                rw [HX.out, if_pos (by omega)]
              subst hone
              go_wp2
              go_ret
              exact ⟨rfl, HB.out⟩
    · have hne : ((a0.size : Int) != 18) = true := by simp [h18]
      go_wp2
      all_goals
        go_ret
        exact ⟨rfl, Below.refl _ _⟩
end Go.Proofs.Qxb6000940a

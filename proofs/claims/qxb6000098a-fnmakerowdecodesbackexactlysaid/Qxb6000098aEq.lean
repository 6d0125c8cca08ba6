import Derived.Test.Qxb6000098aMain
namespace Go.Proofs.Qxb6000098a
open Go.RowKit

/-- Where field q begins in the row. -/
def rowPos (key : ByteArray) (ks ns : List Int) (ss : List ByteArray) (q : Nat) : Nat :=
  (rowB key.data.toList (fun i => ks.getD i 0) (fun i => ns.getD i 0) (fun i => ss.getD i ByteArray.empty) q).length
theorem rowPos_succ (key : ByteArray) (ks ns : List Int) (ss : List ByteArray) (q : Nat) :
    rowPos key ks ns ss (q + 1) = rowPos key ks ns ss q + (fieldB (ks.getD q 0) (ns.getD q 0) (ss.getD q ByteArray.empty)).length := by
  unfold rowPos; rw [rowB, List.length_append]

theorem hi8_wrap (x : Int) (h0 : -9223372036854775808 ≤ x) (h1 : x ≤ 9223372036854775807) : (wrap64 ((hi8 x 8 : Nat) : Int) != x) = false := by
  have h := hi8_full x h0 h1
  rw [IntKind.wrap_i64] at h
  simp only [bne_eq_false_iff_eq, wrap64]
  omega

theorem size_le_sizes (ss : List ByteArray) (i : Nat) : (ss.getD i ByteArray.empty).size ≤ sizes ss := by
  induction ss generalizing i with
  | nil => simp
  | cons s ss ih =>
    cases i with
    | zero => simp [sizes]
    | succ i => have := ih i; simp [sizes] at *; omega

set_option maxRecDepth 20000 in
set_option maxHeartbeats 1000000 in
theorem main_eq (key : ByteArray) (a1 a2 a3 : Option Addr) (c1 c2 c3 n : Nat) (ks ns : List Int) (ss : List ByteArray) (w : World)
    (l1 : ks.length = n) (l2 : ns.length = n) (l3 : ss.length = n)
    (h0 : key.size ≤ maxLen) (h1 : n ≤ maxLen) (hs : ∀ s ∈ ss, s.size ≤ maxLen)
    (hn1 : a1 = none → ks = []) (hn2 : a2 = none → ns = []) (hn3 : a3 = none → ss = [])
    (wk : ∀ i, 0 ≤ ks.getD i 0 ∧ ks.getD i 0 ≤ 255) (wn : ∀ i, -9223372036854775808 ≤ ns.getD i 0 ∧ ns.getD i 0 ≤ 9223372036854775807)
    (r1 : IntsAt .u8 w a1 ks) (r2 : IntsAt .i64 w a2 ns) (r3 : StrsAt w a3 ss) :
    Calls Try.prog 7 #[.string key, .slice a1 n c1, .slice a2 n c2, .slice a3 n c3] w fun e w' => Done w e w' := by
  have B := bytes_any key a1 a2 a3 n c1 n c2 c3 ss w h0 h1 h1 (by rw [l3]; exact h1) hs r3
  rw [l3] at B
  have L1 : Hid (ks.length = n) := l1
  have L2 : Hid (ns.length = n) := l2
  have L3 : Hid (ss.length = n) := l3
  have R1 : Hid (IntsAt .u8 w a1 ks) := r1
  have R2 : Hid (IntsAt .i64 w a2 ns) := r2
  have R3 : Hid (StrsAt w a3 ss) := r3
  have WK : Hid (∀ i, 0 ≤ ks.getD i 0 ∧ ks.getD i 0 ≤ 255) := wk
  have WN : Hid (∀ i, -9223372036854775808 ≤ ns.getD i 0 ∧ ns.getD i 0 ≤ 9223372036854775807) := wn
  have HS : Hid (∀ s ∈ ss, s.size ≤ maxLen) := hs
  have N1 : Hid (a1 = none → ks = []) := hn1
  have N2 : Hid (a2 = none → ns = []) := hn2
  have N3 : Hid (a3 = none → ss = []) := hn3
  clear l1 l2 l3 r1 r2 r3 wk wn hs hn1 hn2 hn3 h0 h1
  go_enter Try.func7, Try.ntmps7
  go_wp2_with fail
  refine B.mono ?_
  rintro e w' ⟨r, rfl, hw, hfit⟩
  rw [hw]
  clear hw w' B
  cases r
  · clear hfit
    go_wp2
    go_ret
    exact ⟨rfl, Below.refl _ _⟩
  have hfit := hfit rfl
  have F := fits_any key a1 a2 a3 n c1 n c2 c3 ss w (by rw [L3.out]; exact hfit) HS.out R3.out
  rw [L3.out] at F
  have hn : (n : Int) ≤ 1048576 := by omega
  have hk : (key.size : Int) ≤ 1048576 := by omega
  have SZ : Hid (sizes ss ≤ 1048576) := by show sizes ss ≤ 1048576; omega
  clear hfit
  go_wp2_with fail
  refine F.mono ?_
  rintro e w' ⟨r, rfl, hw, _⟩
  rw [hw]
  clear hw w' F
  cases r
  · go_wp2
    go_ret
    exact ⟨rfl, Below.refl _ _⟩
  go_wp2
  go_loop [11] (fun i => ∃ k : Nat, k ≤ n ∧ i = .int .i64 k ∧ KindsOk ks k) (fun i => n - (intOf i).toNat)
  case atStart => exact ⟨0, Nat.zero_le _, rfl, fun j hj => absurd hj (by omega)⟩
  case round =>
    obtain ⟨k, hkn, rfl, hok⟩ := hrel
    have HO : Hid (KindsOk ks k) := hok
    clear hok
    by_cases hlt : k < n
    · obtain ⟨b, off, hx, hcell⟩ := R1.out k (by rw [L1.out]; exact hlt)
      subst hx
      obtain ⟨kd, hkd⟩ : ∃ kd, kd = ks.getD k 0 := ⟨_, rfl⟩
      rw [← hkd] at hcell
      have HKD : Hid (kd = ks.getD k 0) := hkd
      clear hkd
      go_wp2
      · go_round
        case rel =>
          refine ⟨k + 1, by omega, by go_num, fun j hj => ?_⟩
          by_cases hjk : j = k
          · subst hjk; rw [← HKD.out]; exact .inl (by assumption)
          · exact HO.out j (by omega)
        case measure => simp [intOf]; omega
      · go_ret
        exact ⟨rfl, Below.refl _ _⟩
      · have hne : ¬ kd = 1 := by assumption
        have hor : (kd != 1) = false ∨ (kd != 2) = false := by assumption
        go_round
        case rel =>
          refine ⟨k + 1, by omega, by go_num, fun j hj => ?_⟩
          by_cases hjk : j = k
          · subst hjk
            rw [← HKD.out]
            rcases hor with h | h
            · exact .inl (by simpa using h)
            · exact .inr (by simpa using h)
          · exact HO.out j (by omega)
        case measure => simp [intOf]; omega
    · have hkn' : k = n := by omega
      subst hkn'
      clear hlt hkn
      go_wp2_with fail
      have C := cloneU8_any a1 c1 ks w (by rw [L1.out]; exact hn) N1.out R1.out
      rw [L1.out] at C
      refine C.mono ?_
      rintro e w1 ⟨b1, he, S1, hb1⟩
      rw [L1.out] at he
      subst he
      clear C
      go_wp2_with fail
      have C := cloneI64_any a2 c2 ns w1 (by rw [L2.out]; exact hn) N2.out (R2.out.later hb1)
      rw [L2.out] at C
      refine C.mono ?_
      rintro e w2 ⟨b2, he, S2, hb2⟩
      rw [L2.out] at he
      subst he
      clear C
      go_wp2_with fail
      have hb12 := hb1.trans (hb2.mono hb1.size)
      have C := cloneStrs_any a3 c3 ss w2 (by rw [L3.out]; exact hn) N3.out (R3.out.later hb12)
      rw [L3.out] at C
      refine C.mono ?_
      rintro e w3 ⟨b3, he, S3, hb3⟩
      rw [L3.out] at he
      subst he
      clear C
      go_wp2_with fail
      have hb123 := hb12.trans (hb3.mono hb12.size)
      have hb23 := hb2.trans (hb3.mono hb2.size)
      have Z := zz_any key b1 b2 b3 k k k k ks ns ss w3 hn L1.out L2.out L3.out
        (fun h => by
          rcases Nat.eq_zero_or_pos k with h0 | h0
          · exact h0
          · obtain ⟨_, _, hx, _⟩ := S1 0 (by rw [L1.out]; exact h0)
            rw [h] at hx; cases hx)
        hk (fun i => by have := size_le_sizes ss i; have := SZ.out; omega) (fun i _ => WK.out i) (S1.later hb23) (S2.later hb3) S3
      refine Z.mono ?_
      rintro e w4 ⟨rfl, hb4⟩
      clear Z
      have T1 : Hid (IntsAt .u8 w4 b1 ks) := (S1.later hb23).later hb4
      have T2 : Hid (IntsAt .i64 w4 b2 ns) := (S2.later hb3).later hb4
      have T3 : Hid (StrsAt w4 b3 ss) := S3.later hb4
      have HB : Hid (Below w.heap.size w w4) := hb123.trans (hb4.mono hb123.size)
      clear S1 S2 S3 hb1 hb2 hb3 hb4 hb12 hb123 hb23 R1 R2 R3 N1 N2 N3 HS
      generalize hrow : (⟨(rowB key.data.toList (fun i => ks.getD i 0) (fun i => ns.getD i 0) (fun i => ss.getD i ByteArray.empty) k).toArray⟩ : ByteArray) = row
      have ROW : Hid (row.data.toList = rowB key.data.toList (fun i => ks.getD i 0) (fun i => ns.getD i 0) (fun i => ss.getD i ByteArray.empty) k) := by
        show row.data.toList = _
        rw [← hrow]
      clear hrow
      have hrs : (row.size : Int) ≤ 1000000000000000 := by
        have h := rowB_len key.data.toList (fun i => ks.getD i 0) (fun i => ns.getD i 0) (fun i => ss.getD i ByteArray.empty) (fun i => by have := size_le_sizes ss i; have := SZ.out; omega) k
        rw [← ROW.out] at h
        simp at h
        omega
      obtain ⟨hks, hke⟩ := row_key ROW.out
      have hks' : (key.size : Int) ≤ row.size := by omega
      clear hks
      go_wp2
      have hdec : decide (row.size < key.size) = false := by simp; omega
      rw [hdec]
      clear hdec hke
      go_loopw [13, 14] (fun p i wx => ∃ q : Nat, q ≤ k ∧ i = .int .i64 q ∧ p = .int .i64 (rowPos key ks ns ss q) ∧ Below w4.heap.size w4 wx) (fun _ i _ => k - (intOf i).toNat)
      case atStart => exact ⟨0, Nat.zero_le _, rfl, by simp [rowPos, rowB], Below.refl _ _⟩
      case round =>
        obtain ⟨q, hqk, rfl, rfl, hbw⟩ := hrel
        by_cases hq : q < k
        · obtain ⟨t, ht0⟩ := row_field ROW.out q hq
          have HT : Hid (row.data.toList = rowB key.data.toList (fun i => ks.getD i 0) (fun i => ns.getD i 0) (fun i => ss.getD i ByteArray.empty) q ++ (fieldB (ks.getD q 0) (ns.getD q 0) (ss.getD q ByteArray.empty) ++ t)) := ht0
          clear ht0
          obtain ⟨bb, off, hx, hc1⟩ := T1.out q (by rw [L1.out]; exact hq)
          subst hx
          have hsu := rowPos_succ key ks ns ss q
          have HSU : Hid (rowPos key ks ns ss (q + 1) = rowPos key ks ns ss q + (fieldB (ks.getD q 0) (ns.getD q 0) (ss.getD q ByteArray.empty)).length) := hsu
          clear hsu
          replace hc1 := cell_later hbw hc1
          obtain ⟨P, hP⟩ : ∃ P, P = rowPos key ks ns ss q := ⟨_, rfl⟩
          rw [← hP]
          have HP : Hid (P = rowPos key ks ns ss q) := hP
          clear hP
          rcases HO.out q hq with hkd | hkd
          · rw [hkd] at hc1
            obtain ⟨f1, ⟨f2, f3⟩, f4, f5⟩ := field_int HT.out hkd
            have HPL : Hid ((rowB key.data.toList (fun i => ks.getD i 0) (fun i => ns.getD i 0) (fun i => ss.getD i ByteArray.empty) q).length = P) := HP.out.symm
            simp only [HPL.out] at f1 f2 f3 f4
            have g1 : (P : Int) + 9 ≤ row.size := by omega
            have g2 : (1 : Int) ≤ (row[P]'(by omega)).toNat := by rw [f3]; omega
            have g3 : ((row[P]'(by omega)).toNat : Int) ≤ 1 := by rw [f3]; omega
            have F4 : Hid (∀ i, i < 8 → ∃ hp : P + 1 + i < row.size, row[P + 1 + i] = leb (ns.getD q 0) i) := f4
            have F5 : Hid ((fieldB (ks.getD q 0) (ns.getD q 0) (ss.getD q ByteArray.empty)).length = 9) := f5
            clear f1 f3 f4 f5 hkd
            obtain ⟨b2', off2, hx2, hc2⟩ := T2.out q (by rw [L2.out]; exact hq)
            subst hx2
            replace hc2 := cell_later hbw hc2
            obtain ⟨nm, hnm⟩ : ∃ nm, nm = ns.getD q 0 := ⟨_, rfl⟩
            rw [← hnm] at hc2
            have HNM : Hid (nm = ns.getD q 0) := hnm
            clear hnm
            have HBW : Hid (Below w4.heap.size w4 wr) := hbw
            clear hbw
            go_wp2
            go_quiet (fail)
            go_wp2
            · exfalso
              have h : row.size ≤ P ∨ ((row[P]'f2).toNat != (1 : Int)) = true := by assumption
              rcases h with h | h
              · omega
              · simp at h; omega
            · have HBQ : Hid (Below w4.heap.size w4 (wr.drewN nq)) := below_drewN HBW.out _
              clear HBW
              go_loopw [15, 16] (fun u j wx => ∃ i : Nat, i ≤ 8 ∧ j = .int .i64 (7 - (i : Int)) ∧ u = .int .u64 (hi8 nm i) ∧ Below w4.heap.size w4 wx) (fun _ j _ => (intOf j + 1).toNat)
              case atStart => exact ⟨0, by omega, rfl, by rw [hi8_zero]; rfl, HBQ.out⟩
              case round =>
                clear HBQ hc1 hc2
                obtain ⟨i, hi, rfl, rfl, hbi⟩ := hrel
                by_cases hi7 : i < 8
                · obtain ⟨m, hm⟩ : ∃ m : Nat, m = 7 - i := ⟨_, rfl⟩
                  have hm' : (7 - (i : Int)) = (m : Int) := by omega
                  rw [hm']
                  have HM : Hid (m = 7 - i) := hm
                  have hm7 : m ≤ 7 := by omega
                  have x1 : (0 : Int) ≤ (P : Int) + 1 + (m : Int) := by omega
                  have x2 : (P : Int) + 1 + (m : Int) < (row.size : Int) := by omega
                  clear hm hm'
                  have FB := F4.out m (by omega)
                  have HFB : Hid (∃ hp : P + 1 + m < row.size, row[P + 1 + m] = leb nm m) := by
                    show ∃ hp : P + 1 + m < row.size, row[P + 1 + m] = leb nm m
                    rw [HNM.out]; exact FB
                  clear FB
                  have HBI : Hid (Below w4.heap.size w4 _) := hbi
                  clear hbi
                  go_wp2
                  go_roundw
                  case rel =>
                    refine ⟨i + 1, by omega, congrArg (Value.int IntKind.i64) (by have := HM.out; omega), ?_, HBI.out⟩
                    obtain ⟨_, hb8⟩ := HFB.out
                    have ho := hi8_or nm i hi7
                    rw [← HM.out, ← hb8] at ho
                    rw [ho]
                  case measure => simp [intOf]
                · have hi' : i = 8 := by omega
                  have hj : (7 - (i : Int)) = -1 := by omega
                  rw [hj]
                  clear hj
                  subst hi'
                  have hwn : (wrap64 ((hi8 nm 8 : Nat) : Int) != nm) = false := hi8_wrap nm (by rw [HNM.out]; exact (WN.out q).1) (by rw [HNM.out]; exact (WN.out q).2)
                  obtain ⟨b4', off4, hx2, hc2⟩ := T2.out q (by rw [L2.out]; exact hq)
                  cases hx2
                  replace hc2 := cell_later hbi hc2
                  rw [← HNM.out] at hc2
                  have HBI : Hid (Below w4.heap.size w4 _) := hbi
                  clear hbi
                  go_wp2
                  go_roundw
                  case rel => exact ⟨q + 1, by omega, by go_num, by rw [HSU.out, F5.out, ← HP.out]; go_num, HBI.out⟩
                  case measure => simp [intOf]; omega
          · rw [hkd] at hc1
            obtain ⟨f1, ⟨f2, f3⟩, f4, f5, f6⟩ := field_str HT.out hkd
            obtain ⟨b3', off3, hx3, hc3⟩ := T3.out q (by rw [L3.out]; exact hq)
            subst hx3
            replace hc3 := cell_later hbw hc3
            have hz : (ss.getD q ByteArray.empty).size ≤ 1048576 := by have := size_le_sizes ss q; have := SZ.out; omega
            obtain ⟨s, hs⟩ : ∃ s, s = ss.getD q ByteArray.empty := ⟨_, rfl⟩
            rw [← hs] at hc3 f1 f4 f5 f6 hz
            have HPL : Hid ((rowB key.data.toList (fun i => ks.getD i 0) (fun i => ns.getD i 0) (fun i => ss.getD i ByteArray.empty) q).length = P) := HP.out.symm
            simp only [HPL.out] at f1 f2 f3 f4 f5
            have g1 : (P : Int) + 1 + uvLen s.size + s.size ≤ row.size := by omega
            have g2 : (2 : Int) ≤ (row[P]'(by omega)).toNat := by rw [f3]; omega
            have g3 : ((row[P]'(by omega)).toNat : Int) ≤ 2 := by rw [f3]; omega
            have F6 : Hid ((fieldB (ks.getD q 0) (ns.getD q 0) s).length = 1 + uvLen s.size + s.size) := f6
            have F5 : Hid (row.extract (P + 1 + uvLen s.size) (P + 1 + uvLen s.size + s.size) = s) := f5
            have HSS : Hid (s = ss.getD q ByteArray.empty) := hs
            have hul := uvLen_le s.size
            have hsz : (s.size : Int) ≤ 1048576 := by omega
            have RD : Hid (UvAt row (P + 1) s.size) := f4
            have HBW : Hid (Below w4.heap.size w4 wr) := hbw
            clear f1 f3 f4 f5 f6 hkd hs hbw hz
            go_wp2
            go_quiet (fail)
            go_wp2_with fail
            · exfalso
              have h : row.size ≤ P ∨ ((row[P]'f2).toNat != (2 : Int)) = true := by assumption
              rcases h with h | h
              · omega
              · simp at h; omega
            · have RQ := read_any row (P + 1) s.size (wr.drewN nq) hrs (by omega) RD.out
              simp only [Int.natCast_add, Int.natCast_one] at RQ
              refine RQ.mono ?_
              rintro e w6 ⟨rfl, hw6⟩
              rw [hw6]
              clear hw6 w6 RQ RD
              go_wp2
              obtain ⟨U, hU⟩ : ∃ U : Nat, U = P + 1 + uvLen s.size := ⟨_, rfl⟩
              have hU' : ((P : Int) + 1 + (uvLen s.size : Int)) = (U : Int) := by omega
              rw [hU']
              have F5' : row.extract U (U + s.size) = s := by rw [hU]; exact F5.out
              have hUb : (U : Int) + s.size ≤ row.size := by omega
              have HU : Hid (U = P + 1 + uvLen s.size) := hU
              clear hU hU'
              go_quiet (fail)
              go_wp2
              go_roundw
              case rel =>
                refine ⟨q + 1, by omega, by go_num, congrArg (Value.int IntKind.i64) ?_, below_drewN HBW.out _⟩
                have h1 := HSU.out
                rw [← HSS.out, F6.out, ← HP.out] at h1
                have h2 := HU.out
                omega
              case measure => simp [intOf]; omega
        · clear T1 T2 T3
          have hq' : q = k := by omega
          subst hq'
          have hfin : rowPos key ks ns ss q = row.size := by
            unfold rowPos
            rw [← ROW.out]
            simp
          rw [hfin]
          clear hfin
          go_wp2
          go_ret
          exact ⟨rfl, HB.out.trans (hbw.mono HB.out.size)⟩
end Go.Proofs.Qxb6000098a

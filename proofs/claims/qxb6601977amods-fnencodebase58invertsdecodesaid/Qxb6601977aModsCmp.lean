import Derived.Test.Qxb6601977aModsInv
namespace Go.Proofs.Qxb6601977aMods
open Go.RowKit Num

theorem zz25_yes (s t : ByteArray) (w : World) (h : s.size + t.size ≤ 1048576) :
    Calls Trym.prog 25 #[.string s, .string t] w fun e w' => e = .returned (.bool true) ∧ w' = w := by
  go_enter Trym.func25, Trym.ntmps25
  go_wp2
  go_ret
  exact ⟨rfl, rfl⟩

theorem zz25_no (s t : ByteArray) (w : World) (hs : s.size ≤ maxLen) (ht : t.size ≤ maxLen) (h : 1048576 < s.size + t.size) :
    Calls Trym.prog 25 #[.string s, .string t] w fun e w' => e = .returned (.bool false) ∧ w' = w := by
  unfold maxLen at hs ht
  by_cases h1 : 1048576 < s.size
  · go_enter Trym.func25, Trym.ntmps25
    go_wp2
    go_ret
    exact ⟨rfl, rfl⟩
  · by_cases h2 : 1048576 < t.size
    · go_enter Trym.func25, Trym.ntmps25
      go_wp2
      go_ret
      exact ⟨rfl, rfl⟩
    · go_enter Trym.func25, Trym.ntmps25
      go_wp2
      go_ret
      exact ⟨rfl, rfl⟩

theorem zz23_yes (s : ByteArray) (w : World) (h : s.size ≤ 1048576) :
    Calls Trym.prog 23 #[.string s] w fun e w' => e = .returned (.bool true) ∧ w' = w := by
  go_enter Trym.func23, Trym.ntmps23
  go_wp2
  go_ret
  exact ⟨rfl, rfl⟩

theorem zz23_no (s : ByteArray) (w : World) (hs : s.size ≤ maxLen) (h : 1048576 < s.size) :
    Calls Trym.prog 23 #[.string s] w fun e w' => e = .returned (.bool false) ∧ w' = w := by
  unfold maxLen at hs
  go_enter Trym.func23, Trym.ntmps23
  go_wp2
  go_ret
  exact ⟨rfl, rfl⟩

/-- what 'stripOnes' leaves of a valid text: its digits write the same number, and none leads with nought -/
structure Bare (s s' : ByteArray) : Prop where
  size : s'.size ≤ s.size
  valid : validL s'.data.toList = true
  num : num 58 (dgs s'.data.toList) = num 58 (dgs s.data.toList)
  head : 0 < (dgs s'.data.toList).length → (dgs s'.data.toList).getD 0 0 ≠ 0

theorem stripOnes_bare (s : ByteArray) (w : World) (hs : s.size ≤ maxLen) (hv : Hid (validL s.data.toList = true)) :
    Calls Trym.prog 24 #[.string s] w fun e w' => ∃ s', Bare s s' ∧ e = .returned (.string s') ∧ w' = w := by
  refine (stripOnes_ex s w hs).mono ?_
  rintro e w' ⟨k, s', H, rfl, rfl⟩
  obtain ⟨h1, h2, h3, h4⟩ := H.out
  have hl : s.data.toList.length = s.size := by simp
  refine ⟨s', ⟨by omega, ?_, ?_, ?_⟩, rfl, rfl⟩
  · rw [h3]; exact validL_drop _ _ hv.out
  · rw [h3]; exact dgs_drop_ones _ _ h2 (by omega)
  · rw [h3]; exact dgs_head _ _ h2 hv.out

theorem dgs_get (s : ByteArray) (k d : Nat) (h : k < s.size) (hd : b58v (s[k].toNat : Int) = (d : Int)) : (dgs s.data.toList).getD k 0 = d := by
  rw [List.getD_eq_getElem?_getD]
  simp only [dgs, List.getElem?_map]
  rw [List.getElem?_eq_getElem (by simpa using h)]
  have e : s.data.toList[k]'(by simpa using h) = s[k] := rfl
  rw [e, Option.map_some, Option.getD_some, hd]
  rfl

set_option maxHeartbeats 1000000 in
theorem cmpB58_any (s t : ByteArray) (w : World) (hs : s.size ≤ 1048576) (ht : t.size ≤ 1048576) (hvs : Hid (validL s.data.toList = true)) (hvt : Hid (validL t.data.toList = true)) :
    Calls Trym.prog 26 #[.string s, .string t] w fun e w' => e = .returned (.int .i64 (sgn (num 58 (dgs s.data.toList)) (num 58 (dgs t.data.toList)))) ∧ w' = w := by
  go_enter Trym.func26, Trym.ntmps26
  go_wp2_with fail
  refine (stripOnes_bare s _ (by unfold maxLen; omega) hvs).mono ?_
  rintro e w ⟨s', bs', rfl, rfl⟩
  have BS := hid bs'
  have hs' : s'.size ≤ 1048576 := Nat.le_trans bs'.size hs
  clear bs'
  go_wp2_with fail
  refine (stripOnes_bare t _ (by unfold maxLen; omega) hvt).mono ?_
  rintro e w ⟨t', bt', rfl, rfl⟩
  have BT := hid bt'
  have ht' : t'.size ≤ 1048576 := Nat.le_trans bt'.size ht
  clear bt'
  have HE := (show Hid (sgn (num 58 (dgs s.data.toList)) (num 58 (dgs t.data.toList)) = sgn (num 58 (dgs s'.data.toList)) (num 58 (dgs t'.data.toList))) from by
    show sgn (num 58 (dgs s.data.toList)) (num 58 (dgs t.data.toList)) = sgn (num 58 (dgs s'.data.toList)) (num 58 (dgs t'.data.toList))
    rw [BS.out.num, BT.out.num])
  have hls : (dgs s'.data.toList).length = s'.size := by simp [dgs]
  have hlt : (dgs t'.data.toList).length = t'.size := by simp [dgs]
  have LS := hid hls
  have LT := hid hlt
  clear hls hlt
  rcases Nat.lt_trichotomy s'.size t'.size with hc | hc | hc
  · have hb : ((s'.size : Int) != (t'.size : Int)) = true := by rw [bne_iff_ne]; omega
    go_wp2
    go_ret
    refine ⟨ret_int ?_, rfl⟩
    rw [HE.out]
    have h0 := BT.out.head (by rw [LT.out]; omega)
    exact (sgn_lt (sgn_short (by omega) (dgs_lt _) h0 (by rw [LS.out, LT.out]; exact hc))).symm
  · have hb : ((s'.size : Int) != (t'.size : Int)) = false := by simp [hc]
    have HC := hid hc
    have hc1 : s'.size ≤ t'.size := by omega
    have hc2 : t'.size ≤ s'.size := by omega
    clear hc
    go_wp2
    go_loop [5] (fun i => ∃ k : Nat, k ≤ s'.size ∧ i = .int .i64 k ∧ Hid (∀ j, j < k → (dgs s'.data.toList).getD j 0 = (dgs t'.data.toList).getD j 0)) (fun i => s'.size - (intOf i).toNat)
    case atStart => exact ⟨0, Nat.zero_le _, rfl, fun j hj => by omega⟩
    case round =>
      obtain ⟨k, hk, rfl, HS⟩ := hrel
      by_cases hlt : k < s'.size
      · have hkt : k < t'.size := by omega
        have hb1 : (s'[k].toNat : Int) ≤ 255 := by have := s'[k].toNat_lt; omega
        have hb2 : (t'[k].toNat : Int) ≤ 255 := by have := t'[k].toNat_lt; omega
        obtain ⟨d1, hd1⟩ : ∃ d : Nat, b58v (s'[k].toNat : Int) = d := ⟨_, (Int.toNat_of_nonneg (validL_get s' k hlt BS.out.valid)).symm⟩
        obtain ⟨d2, hd2⟩ : ∃ d : Nat, b58v (t'[k].toNat : Int) = d := ⟨_, (Int.toNat_of_nonneg (validL_get t' k hkt BT.out.valid)).symm⟩
        have D1 := hid hd1
        have D2 := hid hd2
        have G1 := hid (dgs_get s' k d1 hlt hd1)
        have G2 := hid (dgs_get t' k d2 hkt hd2)
        have hd58 : d1 < 58 := by have := b58v_lt (s'[k].toNat : Int); omega
        have hd58' : d2 < 58 := by have := b58v_lt (t'[k].toNat : Int); omega
        clear hd1 hd2
        go_wp2_with fail
        refine (b58Value_dig _ d1 _ (by omega) hb1 D1).mono ?_
        rintro e w ⟨rfl, rfl⟩
        go_wp2_with fail
        refine (b58Value_dig _ d2 _ (by omega) hb2 D2).mono ?_
        rintro e w ⟨rfl, rfl⟩
        rcases Nat.lt_trichotomy d1 d2 with hd | hd | hd
        · have hbb : ((d1 : Int) != (d2 : Int)) = true := by rw [bne_iff_ne]; omega
          go_wp2
          go_ret
          refine ⟨ret_int ?_, rfl⟩
          rw [HE.out]
          exact (sgn_lt (num_first (dgs_lt _) (by rw [LS.out, LT.out, HC.out]) (by rw [LS.out]; exact hlt) HS.out (by rw [G1.out, G2.out]; exact hd))).symm
        · subst hd
          have hbb : ((d1 : Int) != (d1 : Int)) = false := by simp
          go_wp2
          go_round
          case rel =>
            refine ⟨k + 1, by omega, by go_num, fun j hj => ?_⟩
            rcases Nat.lt_or_ge j k with h | h
            · exact HS.out j h
            · obtain rfl : j = k := by omega
              rw [G1.out, G2.out]
          case measure => simp [intOf]; omega
        · have hbb : ((d1 : Int) != (d2 : Int)) = true := by rw [bne_iff_ne]; omega
          go_wp2
          go_ret
          refine ⟨ret_int ?_, rfl⟩
          rw [HE.out]
          exact (sgn_gt (num_first (dgs_lt _) (by rw [LS.out, LT.out, HC.out]) (by rw [LT.out]; exact hkt) (fun j hj => (HS.out j hj).symm) (by rw [G1.out, G2.out]; exact hd))).symm
      · go_wp2
        go_ret
        refine ⟨ret_int ?_, rfl⟩
        rw [HE.out]
        have hke : k = s'.size := by omega
        have e : dgs s'.data.toList = dgs t'.data.toList := list_same (by rw [LS.out, LT.out, HC.out]) (fun j hj => HS.out j (by rw [LS.out] at hj; omega))
        exact (sgn_eq (by rw [e])).symm
  · have hb : ((s'.size : Int) != (t'.size : Int)) = true := by rw [bne_iff_ne]; omega
    go_wp2
    go_ret
    refine ⟨ret_int ?_, rfl⟩
    rw [HE.out]
    have h0 := BS.out.head (by rw [LS.out]; omega)
    exact (sgn_gt (sgn_short (by omega) (dgs_lt _) h0 (by rw [LS.out, LT.out]; exact hc))).symm

end Go.Proofs.Qxb6601977aMods

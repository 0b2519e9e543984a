import Derived.Test.Qxb6601977aModsCmp
namespace Go.Proofs.Qxb6601977aMods
open Go.RowKit Num

set_option maxHeartbeats 1000000 in
/-- two numbers in bytes, neither led by nought: the loop of cmpBigEndian over what is behind the leading noughts -/
theorem cmpBig_any (ax ay : Option Addr) (n m cx cy : Nat) (X Y : List Nat) (w : World) (hn : n ≤ 2097152) (hm : m ≤ 2097152) (hnx : n ≤ cx) (hmy : m ≤ cy) (hcx : cx ≤ maxLen) (hcy : cy ≤ maxLen)
    (hx : Hid (Sees w ax n X)) (hy : Hid (Sees w ay m Y)) (hX : Hid (∀ x ∈ X, x < 256)) (hY : Hid (∀ x ∈ Y, x < 256))
    (nx : ax = none → n = 0 ∧ cx = 0) (ny : ay = none → m = 0 ∧ cy = 0) (px : ∀ a, ax = some a → ∃ b o, a = ⟨b, o, none⟩) (py : ∀ a, ay = some a → ∃ b o, a = ⟨b, o, none⟩) :
    Calls Trym.prog 14 #[.slice ax n cx, .slice ay m cy] w fun e w' => e = .returned (.int .i64 (sgn (num 256 X) (num 256 Y))) ∧ ∃ q, w' = w.drewN q := by
  have c1 := stripZero_any ax n cx X w hn hnx hcx hx nx px
  have c2 := stripZero_any ay m cy Y w hm hmy hcy hy ny py
  have C1 := hid c1
  have C2 := hid c2
  have XL := hid hx.out.1
  have YL := hid hy.out.1
  unfold maxLen at hcx hcy
  clear c1 c2 nx ny px py
  go_enter Trym.func14, Trym.ntmps14
  go_wp2_with fail
  refine C1.out.mono ?_
  rintro e w1 ⟨⟨k1, a1, z1, rfl, s1, _⟩, rfl⟩
  have Z1 := hid z1
  have S1 := hid s1
  clear z1 s1
  go_wp2_with fail
  refine C2.out.mono ?_
  rintro e w2 ⟨⟨k2, a2, z2, rfl, s2, _⟩, rfl⟩
  have Z2 := hid z2
  have S2 := hid s2
  clear z2 s2 C1 C2
  have HE := (show Hid (sgn (num 256 X) (num 256 Y) = sgn (num 256 (X.drop k1)) (num 256 (Y.drop k2))) from by
    show sgn (num 256 X) (num 256 Y) = sgn (num 256 (X.drop k1)) (num 256 (Y.drop k2))
    rw [num_drop 256 X k1 Z1.out.2.1, num_drop 256 Y k2 Z2.out.2.1])
  have hk1 : k1 ≤ n := by have := Z1.out.1; rw [XL.out] at this; exact this
  have hk2 : k2 ≤ m := by have := Z2.out.1; rw [YL.out] at this; exact this
  have LX := (show Hid ((X.drop k1).length = n - k1) from S1.out.1)
  have LY := (show Hid ((Y.drop k2).length = m - k2) from S2.out.1)
  have DX := (show Hid (∀ x ∈ X.drop k1, x < 256) from fun x h => hX.out x (List.mem_of_mem_drop h))
  have DY := (show Hid (∀ x ∈ Y.drop k2, x < 256) from fun x h => hY.out x (List.mem_of_mem_drop h))
  have FX := (show Hid (0 < n - k1 → (X.drop k1).getD 0 0 ≠ 0) from fun h => by
    have := Z1.out.2.2 (by rw [XL.out]; omega)
    simpa [List.getD_eq_getElem?_getD] using this)
  have FY := (show Hid (0 < m - k2 → (Y.drop k2).getD 0 0 ≠ 0) from fun h => by
    have := Z2.out.2.2 (by rw [YL.out]; omega)
    simpa [List.getD_eq_getElem?_getD] using this)
  obtain ⟨p, hp⟩ : ∃ p, p = n - k1 := ⟨_, rfl⟩
  obtain ⟨q, hq⟩ : ∃ q, q = m - k2 := ⟨_, rfl⟩
  obtain ⟨P, hP⟩ : ∃ P, P = X.drop k1 := ⟨_, rfl⟩
  obtain ⟨Q, hQ⟩ : ∃ Q, Q = Y.drop k2 := ⟨_, rfl⟩
  rw [← hp, ← hq]
  rw [← hP, ← hQ] at HE
  rw [← hP, ← hp] at LX FX S1
  rw [← hQ, ← hq] at LY FY S2
  rw [← hP] at DX
  rw [← hQ] at DY
  have hpn : p ≤ 2097152 := by omega
  have hqn : q ≤ 2097152 := by omega
  clear hp hq hP hQ Z1 Z2 hk1 hk2
  rcases Nat.lt_trichotomy p q with hc | hc | hc
  · have hb : ((p : Int) != (q : Int)) = true := by rw [bne_iff_ne]; omega
    go_wp2
    go_ret
    refine ⟨ret_int ?_, 0, rfl⟩
    rw [HE.out]
    exact (sgn_lt (sgn_short (by omega) DX.out (FY.out (by omega)) (by rw [LX.out, LY.out]; exact hc))).symm
  · subst hc
    have hb : ((p : Int) != (p : Int)) = false := by simp
    go_wp2
    go_loopw [5] (fun i wr => ∃ (k r : Nat), k ≤ p ∧ i = .int .i64 k ∧ Hid (∀ j, j < k → P.getD j 0 = Q.getD j 0) ∧ wr = w2.drewN r) (fun i _ => p - (intOf i).toNat)
    case atStart => exact ⟨0, 0, Nat.zero_le _, rfl, fun j hj => by omega, rfl⟩
    case round =>
      obtain ⟨k, r, hk, rfl, HS, rfl⟩ := hrel
      by_cases hlt : k < p
      · obtain ⟨b, o, rfl, hc1⟩ := S1.out.2 k hlt
        obtain ⟨b', o', rfl, hc2⟩ := S2.out.2 k hlt
        have h1 := hc1 k hlt
        have h2 := hc2 k hlt
        obtain ⟨x, hxx⟩ : ∃ x : Nat, x = P.getD k 0 := ⟨_, rfl⟩
        obtain ⟨y, hyy⟩ : ∃ y : Nat, y = Q.getD k 0 := ⟨_, rfl⟩
        rw [← hxx] at h1
        rw [← hyy] at h2
        have GX := hid hxx
        have GY := hid hyy
        have hk0 : (0 : Int) ≤ (k : Int) := by omega
        have hkn : (k : Int) < (p : Int) := by omega
        clear hc1 hc2 hxx hyy
        rcases Nat.lt_trichotomy x y with hd | hd | hd
        · have hbb : ((x : Int) != (y : Int)) = true := by rw [bne_iff_ne]; omega
          have hdd : (x : Int) < (y : Int) := by omega
          go_wp2
          go_quiet (fail)
          go_wp2
          go_quiet (fail)
          go_wp2
          go_ret
          refine ⟨ret_int ?_, _, (by rw [World.drewN_drewN, World.drewN_drewN])⟩
          rw [HE.out]
          exact (sgn_lt (num_first DX.out (by rw [LX.out, LY.out]) (by rw [LX.out]; exact hlt) HS.out (by rw [← GX.out, ← GY.out]; exact hd))).symm
        · subst hd
          have hbb : ((x : Int) != (x : Int)) = false := by simp
          go_wp2
          go_quiet (fail)
          go_wp2
          go_roundw
          case rel =>
            refine ⟨k + 1, r + nq, by omega, by go_num, fun j hj => ?_, rfl⟩
            rcases Nat.lt_or_ge j k with h | h
            · exact HS.out j h
            · obtain rfl : j = k := by omega
              rw [← GX.out, ← GY.out]
          case measure => simp [intOf]; omega
        · have hbb : ((x : Int) != (y : Int)) = true := by rw [bne_iff_ne]; omega
          have hdd : ¬ (x : Int) < (y : Int) := by omega
          go_wp2
          go_quiet (fail)
          go_wp2
          go_quiet (fail)
          go_wp2
          go_ret
          refine ⟨ret_int ?_, _, (by rw [World.drewN_drewN, World.drewN_drewN])⟩
          rw [HE.out]
          exact (sgn_gt (num_first DY.out (by rw [LX.out, LY.out]) (by rw [LY.out]; exact hlt) (fun j hj => (HS.out j hj).symm) (by rw [← GX.out, ← GY.out]; exact hd))).symm
      · go_wp2
        go_ret
        refine ⟨ret_int ?_, r, rfl⟩
        rw [HE.out]
        have e : P = Q := list_same (by rw [LX.out, LY.out]) (fun j hj => HS.out j (by rw [LX.out] at hj; omega))
        exact (sgn_eq (by rw [e])).symm
  · have hb : ((p : Int) != (q : Int)) = true := by rw [bne_iff_ne]; omega
    go_wp2
    go_ret
    refine ⟨ret_int ?_, 0, rfl⟩
    rw [HE.out]
    exact (sgn_gt (sgn_short (by omega) DY.out (FX.out (by omega)) (by rw [LX.out, LY.out]; exact hc))).symm

end Go.Proofs.Qxb6601977aMods

import Derived.Test.Qxb6000448aModsAscii
namespace Go.Proofs.Qxb6000448aMods
open Go.RowKit

/-- the four signs of a request's id -/
def signs : List UInt8 := [46, 95, 58, 45]

/-- the rule of a request's id -/
def reqB (s : List UInt8) : Bool := decide (s.length ≤ 64) && wordB signs s

theorem signs_is (c : UInt8) : signs.contains c = decide (c.toNat = 46 ∨ c.toNat = 95 ∨ c.toNat = 58 ∨ c.toNat = 45) := by
  have h : ∀ n : Nat, n < 256 → signs.contains n.toUInt8 = decide (n = 46 ∨ n = 95 ∨ n = 58 ∨ n = 45) := by decide +kernel
  have := h c.toNat c.toNat_lt
  rwa [show c.toNat.toUInt8 = c from UInt8.toNat_inj.1 (by simp)] at this

theorem alnum_is (c : Int) (b : Bool) (w : World) (h0 : 0 ≤ c) (h1 : c ≤ 255) (hb : Hid (alnum c = b)) :
    Calls Trym.prog 25 #[.int .u8 c] w fun e w' => e = .returned (.bool b) ∧ w' = w := by
  have h := isAlnum_any c w h0 h1
  rw [hb.out] at h
  exact h

set_option maxHeartbeats 2000000 in
set_option maxRecDepth 100000 in
theorem model_any (s : ByteArray) (w : World) (hs : s.size ≤ maxLen) :
    Calls Trym.prog 11 #[.string s] w fun e w' => e = .returned (.bool (reqB s.data.toList)) ∧ w' = w := by
  unfold maxLen at hs
  have hl : s.data.toList.length = s.size := by simp
  rcases Nat.eq_zero_or_pos s.size with h0 | h0
  · have HN := (show Hid (reqB s.data.toList = false) from by
      have hn : s.data.toList = [] := List.eq_nil_of_length_eq_zero (by omega)
      show reqB s.data.toList = false
      rw [hn]; rfl)
    clear hl
    go_enter Trym.func11, Trym.ntmps11
    go_wp2
    go_ret
    exact ⟨ret_bool HN.out.symm, rfl⟩
  · by_cases h64 : s.size ≤ 64
    · have HR := (show Hid (reqB s.data.toList = wordB signs s.data.toList) from by
        show reqB s.data.toList = wordB signs s.data.toList
        rw [reqB, hl]; simp [h64])
      clear hl
      go_enter Trym.func11, Trym.ntmps11
      go_wp2
      go_loop [3] (fun i => ∃ k : Nat, k ≤ s.size ∧ i = .int .i64 k ∧ Hid ((s.data.toList.take k).all (okB signs) = true)) (fun i => s.size - (intOf i).toNat)
      case atStart => exact ⟨0, Nat.zero_le _, rfl, by show (s.data.toList.take 0).all (okB signs) = true; simp⟩
      case round =>
        obtain ⟨k, hk, rfl, HA⟩ := hrel
        by_cases hlt : k < s.size
        · have hb : (s[k].toNat : Int) ≤ 255 := by have := s[k].toNat_lt; omega
          cases ha : alnum (s[k].toNat : Int) with
          | true =>
            have HOK := (show Hid (okB signs s[k] = true) from by show okB signs s[k] = true; rw [okB, ha]; rfl)
            have HAL := hid ha
            clear ha
            go_wp2_with (go_at_call 25; refine (alnum_is _ true _ (by omega) hb HAL).mono ?_; rintro e w' ⟨rfl, rfl⟩)
            go_round
            case rel => exact ⟨k + 1, by omega, by go_num, by show (s.data.toList.take (k + 1)).all (okB signs) = true; rw [take_snoc s k hlt, all_snoc, HA.out, HOK.out]; rfl⟩
            case measure => simp [intOf]; omega
          | false =>
            have HAL := hid ha
            have HE := (show Hid (okB signs s[k] = decide (s[k].toNat = 46 ∨ s[k].toNat = 95 ∨ s[k].toNat = 58 ∨ s[k].toNat = 45)) from by
              show okB signs s[k] = _
              rw [okB, ha, signs_is, Bool.false_or]
              rw [Bool.eq_iff_iff]
              simp
              omega)
            clear ha
            obtain ⟨c, hc⟩ : ∃ c : Int, c = (s[k].toNat : Int) := ⟨_, rfl⟩
            have HC := hid hc
            rcases (show c = 46 ∨ c = 95 ∨ c = 58 ∨ c = 45 ∨ (c ≠ 46 ∧ c ≠ 95 ∧ c ≠ 58 ∧ c ≠ 45) from by omega) with h | h | h | h | h
            · have HOK := (show Hid (okB signs s[k] = true) from by show okB signs s[k] = true; rw [HE.out]; simp; omega)
              have q46 : ((s[k].toNat : Int) == 46) = true := by rw [beq_iff_eq]; omega
              have q95 : ((s[k].toNat : Int) == 95) = false := by rw [beq_eq_false_iff_ne]; omega
              have q58 : ((s[k].toNat : Int) == 58) = false := by rw [beq_eq_false_iff_ne]; omega
              have q45 : ((s[k].toNat : Int) == 45) = false := by rw [beq_eq_false_iff_ne]; omega
              clear hc h
              go_wp2_with (go_at_call 25; refine (alnum_is _ false _ (by omega) hb HAL).mono ?_; rintro e w' ⟨rfl, rfl⟩)
              go_round
              case rel => exact ⟨k + 1, by omega, by go_num, by show (s.data.toList.take (k + 1)).all (okB signs) = true; rw [take_snoc s k hlt, all_snoc, HA.out, HOK.out]; rfl⟩
              case measure => simp [intOf]; omega
            · have HOK := (show Hid (okB signs s[k] = true) from by show okB signs s[k] = true; rw [HE.out]; simp; omega)
              have q46 : ((s[k].toNat : Int) == 46) = false := by rw [beq_eq_false_iff_ne]; omega
              have q95 : ((s[k].toNat : Int) == 95) = true := by rw [beq_iff_eq]; omega
              have q58 : ((s[k].toNat : Int) == 58) = false := by rw [beq_eq_false_iff_ne]; omega
              have q45 : ((s[k].toNat : Int) == 45) = false := by rw [beq_eq_false_iff_ne]; omega
              clear hc h
              go_wp2_with (go_at_call 25; refine (alnum_is _ false _ (by omega) hb HAL).mono ?_; rintro e w' ⟨rfl, rfl⟩)
              go_round
              case rel => exact ⟨k + 1, by omega, by go_num, by show (s.data.toList.take (k + 1)).all (okB signs) = true; rw [take_snoc s k hlt, all_snoc, HA.out, HOK.out]; rfl⟩
              case measure => simp [intOf]; omega
            · have HOK := (show Hid (okB signs s[k] = true) from by show okB signs s[k] = true; rw [HE.out]; simp; omega)
              have q46 : ((s[k].toNat : Int) == 46) = false := by rw [beq_eq_false_iff_ne]; omega
              have q95 : ((s[k].toNat : Int) == 95) = false := by rw [beq_eq_false_iff_ne]; omega
              have q58 : ((s[k].toNat : Int) == 58) = true := by rw [beq_iff_eq]; omega
              have q45 : ((s[k].toNat : Int) == 45) = false := by rw [beq_eq_false_iff_ne]; omega
              clear hc h
              go_wp2_with (go_at_call 25; refine (alnum_is _ false _ (by omega) hb HAL).mono ?_; rintro e w' ⟨rfl, rfl⟩)
              go_round
              case rel => exact ⟨k + 1, by omega, by go_num, by show (s.data.toList.take (k + 1)).all (okB signs) = true; rw [take_snoc s k hlt, all_snoc, HA.out, HOK.out]; rfl⟩
              case measure => simp [intOf]; omega
            · have HOK := (show Hid (okB signs s[k] = true) from by show okB signs s[k] = true; rw [HE.out]; simp; omega)
              have q46 : ((s[k].toNat : Int) == 46) = false := by rw [beq_eq_false_iff_ne]; omega
              have q95 : ((s[k].toNat : Int) == 95) = false := by rw [beq_eq_false_iff_ne]; omega
              have q58 : ((s[k].toNat : Int) == 58) = false := by rw [beq_eq_false_iff_ne]; omega
              have q45 : ((s[k].toNat : Int) == 45) = true := by rw [beq_iff_eq]; omega
              clear hc h
              go_wp2_with (go_at_call 25; refine (alnum_is _ false _ (by omega) hb HAL).mono ?_; rintro e w' ⟨rfl, rfl⟩)
              go_round
              case rel => exact ⟨k + 1, by omega, by go_num, by show (s.data.toList.take (k + 1)).all (okB signs) = true; rw [take_snoc s k hlt, all_snoc, HA.out, HOK.out]; rfl⟩
              case measure => simp [intOf]; omega
            · have HN := (show Hid (wordB signs s.data.toList = false) from word_no _ s k hlt (by rw [HE.out]; simp; omega))
              have q46 : ((s[k].toNat : Int) == 46) = false := by rw [beq_eq_false_iff_ne]; omega
              have q95 : ((s[k].toNat : Int) == 95) = false := by rw [beq_eq_false_iff_ne]; omega
              have q58 : ((s[k].toNat : Int) == 58) = false := by rw [beq_eq_false_iff_ne]; omega
              have q45 : ((s[k].toNat : Int) == 45) = false := by rw [beq_eq_false_iff_ne]; omega
              clear hc h
              go_wp2_with (go_at_call 25; refine (alnum_is _ false _ (by omega) hb HAL).mono ?_; rintro e w' ⟨rfl, rfl⟩)
              go_ret
              exact ⟨ret_bool (by rw [HR.out, HN.out]), rfl⟩
        · have HY := (show Hid (wordB signs s.data.toList = true) from word_yes _ s h0 (by
            have := HA.out
            rwa [List.take_of_length_le (by simp; omega)] at this))
          go_wp2
          go_ret
          exact ⟨ret_bool (by rw [HR.out, HY.out]), rfl⟩
    · have HN := (show Hid (reqB s.data.toList = false) from by
        show reqB s.data.toList = false
        rw [reqB, hl]; simp [h64])
      clear hl
      go_enter Trym.func11, Trym.ntmps11
      go_wp2
      go_ret
      exact ⟨ret_bool HN.out.symm, rfl⟩

end Go.Proofs.Qxb6000448aMods

import Derived.Test.Qxb6000448aModsPlain
namespace Go.Proofs.Qxb6000448aMods
open Go.RowKit

theorem below_iter (w : World) (s : ByteArray) (k : Nat) : Below w.heap.size w (w.iter s k) := (Below.refl _ _).alloc (Nat.le_refl _) _

theorem idx_is (p : ByteArray) (c : Nat) (z : Int) (w : World) (hz : Hid (Lib.indexByte p.data.toList c.toUInt8 = z)) :
    Calls Trym.prog 27 #[.string p, .int .u8 (c : Int)] w fun e w' => e = .returned (.int .i64 z) ∧ w' = w := by
  have h := indexByte_any p (c : Int) w
  rw [Int.toNat_natCast, hz.out] at h
  exact h

set_option maxHeartbeats 1000000 in
set_option maxRecDepth 100000 in
theorem ascii_any (s p : ByteArray) (w : World) (hs : s.size ≤ maxLen) :
    Calls Trym.prog 24 #[.string s, .string p] w fun e w' => e = .returned (.bool (wordB p.data.toList s.data.toList)) ∧ Below w.heap.size w w' := by
  unfold maxLen at hs
  have htl : s.toList = s.data.toList := ByteArray.toList_eq s
  rcases Nat.eq_zero_or_pos s.size with h0 | h0
  · have hnil : s.data.toList = [] := List.eq_nil_of_length_eq_zero (by simpa using h0)
    have he : s.toList.isEmpty = true := by rw [htl, hnil]; rfl
    have HW := (show Hid (wordB p.data.toList s.data.toList = false) from by show wordB p.data.toList s.data.toList = false; rw [hnil]; rfl)
    clear htl hnil h0
    go_enter Trym.func24, Trym.ntmps24
    go_wp2
    go_ret
    exact ⟨ret_bool HW.out.symm, Below.refl _ _⟩
  · have he : s.toList.isEmpty = false := by
      rw [htl]
      cases hd : s.data.toList with
      | nil =>
        have : s.data.toList.length = s.size := by simp
        rw [hd] at this
        simp at this
        omega
      | cons a l => rfl
    clear htl
    go_enter Trym.func24, Trym.ntmps24
    go_wp2
    go_loopw [6] (fun _ wr => ∃ k : Nat, k ≤ s.size ∧ wr = w.iter s k ∧ Hid ((s.data.toList.take k).all (okB p.data.toList) = true)) (fun _ wr => s.size - wr.iterPos w.heap.size)
    case atStart => exact ⟨0, Nat.zero_le _, rfl, by show (s.data.toList.take 0).all (okB p.data.toList) = true; simp⟩
    case round =>
      obtain ⟨k, hk, rfl, HA⟩ := hrel
      by_cases hlt : k < s.size
      · by_cases hasc : s[k].toNat < 128
        · have hnx := fun ty => run_next_ascii (P := Trym.prog) w s k ty hlt hasc
          obtain ⟨c, hc⟩ : ∃ c : Nat, c = s[k].toNat := ⟨_, rfl⟩
          rw [← hc] at hasc
          simp only [← hc] at hnx
          have HC := hid hc
          clear hc
          rcases (show (97 ≤ c ∧ c ≤ 122) ∨ (65 ≤ c ∧ c ≤ 90) ∨ (48 ≤ c ∧ c ≤ 57) ∨ (c < 48 ∨ (57 < c ∧ c < 65) ∨ (90 < c ∧ c < 97) ∨ (122 < c ∧ c < 128)) from by omega) with h | h | h | h
          · have HOK := (show Hid (okB p.data.toList s[k] = true) from by
              show okB p.data.toList s[k] = true
              rw [okB, ← HC.out]; unfold alnum; simp; omega)
            go_wp2
            go_roundw
            case rel => exact ⟨k + 1, by omega, rfl, by show (s.data.toList.take (k + 1)).all (okB p.data.toList) = true; rw [take_snoc s k hlt, all_snoc, HA.out, HOK.out]; rfl⟩
            case measure => simp; omega
          · have HOK := (show Hid (okB p.data.toList s[k] = true) from by
              show okB p.data.toList s[k] = true
              rw [okB, ← HC.out]; unfold alnum; simp; omega)
            go_wp2
            go_roundw
            case rel => exact ⟨k + 1, by omega, rfl, by show (s.data.toList.take (k + 1)).all (okB p.data.toList) = true; rw [take_snoc s k hlt, all_snoc, HA.out, HOK.out]; rfl⟩
            case measure => simp; omega
          · have HOK := (show Hid (okB p.data.toList s[k] = true) from by
              show okB p.data.toList s[k] = true
              rw [okB, ← HC.out]; unfold alnum; simp; omega)
            go_wp2
            go_roundw
            case rel => exact ⟨k + 1, by omega, rfl, by show (s.data.toList.take (k + 1)).all (okB p.data.toList) = true; rw [take_snoc s k hlt, all_snoc, HA.out, HOK.out]; rfl⟩
            case measure => simp; omega
          · obtain ⟨z, hz⟩ : ∃ z, Lib.indexByte p.data.toList c.toUInt8 = z := ⟨_, rfl⟩
            have hcu : c.toUInt8 = s[k] := by rw [HC.out]; exact UInt8.toNat_inj.1 (by simp)
            have HOKE := (show Hid (okB p.data.toList s[k] = decide (0 ≤ z)) from by
              show okB p.data.toList s[k] = decide (0 ≤ z)
              rw [okB, contains_index, ← hcu, hz, hcu, ← HC.out]
              have e1 : alnum (c : Int) = false := by unfold alnum; simp; omega
              rw [e1]
              simp; omega)
            have HZ := hid hz
            clear hz hcu
            by_cases hz0 : 0 ≤ z
            · rcases h with h | h | h | h
              all_goals
                go_wp2_with (go_at_call 27; refine (idx_is p c z _ HZ).mono ?_; rintro e wr ⟨rfl, rfl⟩)
                go_roundw
                case rel => exact ⟨k + 1, by omega, rfl, by show (s.data.toList.take (k + 1)).all (okB p.data.toList) = true; rw [take_snoc s k hlt, all_snoc, HA.out, HOKE.out]; simp; omega⟩
                case measure => simp; omega
            · have HN := (show Hid (wordB p.data.toList s.data.toList = false) from word_no _ s k hlt (by rw [HOKE.out]; simp; omega))
              rcases h with h | h | h | h
              all_goals
                go_wp2_with (go_at_call 27; refine (idx_is p c z _ HZ).mono ?_; rintro e wr ⟨rfl, rfl⟩)
                go_ret
                exact ⟨ret_bool HN.out.symm, below_iter _ _ _⟩
        · have hnx := fun ty => run_next_any (P := Trym.prog) w s k ty hlt
          have hdh := decode_high s k hlt (by omega)
          have hdl := decode_le s k
          obtain ⟨r, hr⟩ : ∃ r : Nat, r = (Utf8.decode s k).1 := ⟨_, rfl⟩
          obtain ⟨n2, hn2⟩ : ∃ n2 : Nat, n2 = (Utf8.decode s k).2 := ⟨_, rfl⟩
          simp only [← hr, ← hn2] at hnx
          rw [← hr] at hdl
          have hr1 : 128 ≤ r := by rw [hr]; exact hdh.1
          have HN := (show Hid (wordB p.data.toList s.data.toList = false) from word_no _ s k hlt (by
            rw [okB]; unfold alnum; simp; omega))
          clear hr hn2 hdh
          go_wp2
          go_ret
          exact ⟨ret_bool HN.out.symm, below_iter _ _ _⟩
      · have hnx := fun ty => run_next_end (P := Trym.prog) w s k ty hlt
        have HY := (show Hid (wordB p.data.toList s.data.toList = true) from word_yes _ s h0 (by
          have := HA.out
          rwa [List.take_of_length_le (by simp; omega)] at this))
        go_wp2
        go_ret
        exact ⟨ret_bool HY.out.symm, below_iter _ _ _⟩

end Go.Proofs.Qxb6000448aMods

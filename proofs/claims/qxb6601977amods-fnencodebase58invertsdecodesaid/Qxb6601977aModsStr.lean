import Derived.Test.Qxb6601977aModsSmall
namespace Go.Proofs.Qxb6601977aMods
open Go.RowKit

theorem ret_bool {a b : Bool} (h : a = b) : Ending.returned (.bool a) = .returned (.bool b) := by rw [h]

/-- every byte is a base58 digit -/
def validL (l : List UInt8) : Bool := l.all fun c => decide (0 ≤ b58v (c.toNat : Int))

theorem take_snoc (s : ByteArray) (k : Nat) (h : k < s.size) : s.data.toList.take (k + 1) = s.data.toList.take k ++ [s[k]] := by
  rw [List.take_succ_eq_append_getElem (by simpa using h)]; rfl

theorem validL_snoc (l : List UInt8) (c : UInt8) : validL (l ++ [c]) = (validL l && decide (0 ≤ b58v (c.toNat : Int))) := by simp [validL]

theorem validL_false (s : ByteArray) (k : Nat) (h : k < s.size) (hv : b58v (s[k].toNat : Int) < 0) : validL s.data.toList = false := by
  have hm : s[k] ∈ s.data.toList := by
    have : s[k] = s.data.toList[k]'(by simpa using h) := rfl
    rw [this]; exact List.getElem_mem _
  cases hb : validL s.data.toList with
  | false => rfl
  | true =>
    have := List.all_eq_true.1 hb _ hm
    simp at this
    omega

set_option maxHeartbeats 400000 in
theorem validB58_any (s : ByteArray) (w : World) (hs : s.size ≤ maxLen) :
    Calls Trym.prog 17 #[.string s] w fun e w' => e = .returned (.bool (validL s.data.toList)) ∧ w' = w := by
  unfold maxLen at hs
  go_enter Trym.func17, Trym.ntmps17
  go_wp2
  go_loop [3] (fun i => ∃ k : Nat, k ≤ s.size ∧ i = .int .i64 k ∧ validL (s.data.toList.take k) = true) (fun i => s.size - (intOf i).toNat)
  case atStart => exact ⟨0, Nat.zero_le _, rfl, by simp [validL]⟩
  case round =>
    obtain ⟨k, hk, rfl, hv⟩ := hrel
    have HV := (show Hid (validL (s.data.toList.take k) = true) from hv)
    clear hv
    by_cases hlt : k < s.size
    · have hb : (s[k].toNat : Int) ≤ 255 := by have := s[k].toNat_lt; omega
      by_cases hneg : b58v (s[k].toNat : Int) < 0
      · go_wp2_with (go_at_call 29; refine (b58Value_any _ _ (by omega) (by omega)).mono ?_; rintro e w' ⟨rfl, rfl⟩)
        go_ret
        exact ⟨ret_bool (validL_false s k hlt hneg).symm, rfl⟩
      · go_wp2_with (go_at_call 29; refine (b58Value_any _ _ (by omega) (by omega)).mono ?_; rintro e w' ⟨rfl, rfl⟩)
        go_round
        case rel => exact ⟨k + 1, by omega, by go_num, by rw [take_snoc s k hlt, validL_snoc, HV.out]; simp; omega⟩
        case measure => simp [intOf]; omega
    · go_wp2
      go_ret
      have := HV.out
      rw [List.take_of_length_le (by simp; omega)] at this
      exact ⟨ret_bool this.symm, rfl⟩

theorem zz16_yes (s : ByteArray) (w : World) (h : s.size ≤ 1048576) :
    Calls Trym.prog 16 #[.string s] w fun e w' => e = .returned (.bool true) ∧ w' = w := by
  go_enter Trym.func16, Trym.ntmps16
  go_wp2
  go_ret
  exact ⟨rfl, rfl⟩

theorem zz16_no (s : ByteArray) (w : World) (hs : s.size ≤ maxLen) (h : 1048576 < s.size) :
    Calls Trym.prog 16 #[.string s] w fun e w' => e = .returned (.bool false) ∧ w' = w := by
  unfold maxLen at hs
  go_enter Trym.func16, Trym.ntmps16
  go_wp2
  go_ret
  exact ⟨rfl, rfl⟩

/-- the first k bytes are the digit 1, and the k-th is not -/
def OnesAt (l : List UInt8) (k : Nat) : Prop := (∀ t, t < k → l.getD t 0 = 49) ∧ (k < l.length → l.getD k 0 ≠ 49)

theorem onesAt_here (s : ByteArray) (k : Nat) (h : k < s.size) (H : ∀ t, t < k → s.data.toList.getD t 0 = 49) (hne : ¬ (s[k].toNat : Int) = 49) : OnesAt s.data.toList k := by
  refine ⟨H, fun _ he => hne ?_⟩
  have e : s.data.toList.getD k 0 = s[k] := by
    rw [List.getD_eq_getElem?_getD, List.getElem?_eq_getElem (by simpa using h)]; rfl
  rw [e] at he
  rw [he]; rfl

theorem onesAt_end (s : ByteArray) (k : Nat) (h : ¬ k < s.size) (H : ∀ t, t < k → s.data.toList.getD t 0 = 49) : OnesAt s.data.toList k :=
  ⟨H, fun hk => absurd (by simpa using hk) h⟩

set_option maxHeartbeats 400000 in
theorem stripOnes_any (s : ByteArray) (w : World) (hs : s.size ≤ maxLen) :
    Calls Trym.prog 24 #[.string s] w fun e w' => ∃ k, k ≤ s.size ∧ OnesAt s.data.toList k ∧
      e = .returned (.string (s.extract k s.size)) ∧ w' = w := by
  unfold maxLen at hs
  go_enter Trym.func24, Trym.ntmps24
  go_wp2
  go_loop [3] (fun i => ∃ k : Nat, k ≤ s.size ∧ i = .int .i64 k ∧ Hid (∀ t, t < k → s.data.toList.getD t 0 = 49)) (fun i => s.size - (intOf i).toNat)
  case atStart => exact ⟨0, Nat.zero_le _, rfl, fun t ht => by omega⟩
  case round =>
    obtain ⟨k, hk, rfl, HV⟩ := hrel
    have HD : ∀ h : k < s.size, s.data.toList.getD k 0 = s[k] := by
      intro h
      rw [List.getD_eq_getElem?_getD, List.getElem?_eq_getElem (by simpa using h)]; rfl
    have HD' := (show Hid (∀ h : k < s.size, s.data.toList.getD k 0 = s[k]) from HD)
    clear HD
    by_cases hlt : k < s.size
    · by_cases heq : (s[k].toNat : Int) = 49
      · have heq' : ((s[k].toNat : Int) == 49) = true := by simpa using heq
        have HE := (show Hid ((s[k].toNat : Int) = 49) from heq)
        clear heq
        go_wp2
        go_round
        case rel =>
          refine ⟨k + 1, by omega, by go_num, fun t ht => ?_⟩
          rcases Nat.lt_or_ge t k with h | h
          · exact HV.out t h
          · obtain rfl : t = k := by omega
            rw [HD'.out hlt]
            exact UInt8.toNat_inj.1 (by have := HE.out; simp; omega)
        case measure => simp [intOf]; omega
      · have heq' : ((s[k].toNat : Int) == 49) = false := by simpa using heq
        have HE := (show Hid (¬ (s[k].toNat : Int) = 49) from heq)
        clear heq
        go_wp2
        go_ret
        exact ⟨k, by omega, onesAt_here s k hlt HV.out HE.out, rfl, rfl⟩
    · go_wp2
      go_ret
      exact ⟨k, by omega, onesAt_end s k hlt HV.out, rfl, rfl⟩

set_option maxHeartbeats 1000000 in
set_option maxRecDepth 100000 in
theorem slite_any (s : ByteArray) (c : Int) (w : World) :
    Calls Trym.prog 32 #[.string s, .int .u8 c] w fun e w' => e = .returned (.int .i64 (Lib.indexByte s.data.toList c.toNat.toUInt8)) ∧ w' = w := by
  go_enter Trym.func32, Trym.ntmps32
  go_wp2
  rw [run_callFunc_extern Trym.func33 (by kernel_rfl) (by kernel_rfl) (by kernel_rfl) (e := Extern.BytealgIndexByte.indexByte) (by kernel_rfl), Lib.run_indexByteString]
  simp only [Result.andThen]
  rw [Oper.upon_value]
  go_wp2
  go_ret
  exact ⟨rfl, rfl⟩

theorem indexByte_any (s : ByteArray) (c : Int) (w : World) :
    Calls Trym.prog 31 #[.string s, .int .u8 c] w fun e w' => e = .returned (.int .i64 (Lib.indexByte s.data.toList c.toNat.toUInt8)) ∧ w' = w := by
  go_enter Trym.func31, Trym.ntmps31
  go_wp2_with (go_at_call 32; refine (slite_any _ _ _).mono ?_; rintro e w' ⟨rfl, rfl⟩)
  go_ret
  exact ⟨rfl, rfl⟩
end Go.Proofs.Qxb6601977aMods

import Derived.Test.Qxb6000448aModsProg
import Derived.WalkKit
import Derived.WalkSpells
import Derived.WalkLawsBesides
import Derived.Lib.Bytealg
import Derived.Laws.RangeAny
namespace Go.Proofs.Qxb6000448aMods
open Go.RowKit

theorem hid {p : Prop} (h : p) : Hid p := h
theorem ret_bool {a b : Bool} (h : a = b) : Ending.returned (.bool a) = .returned (.bool b) := by rw [h]

/-- an ASCII letter or digit -/
def alnum (c : Int) : Bool := decide (97 ≤ c ∧ c ≤ 122) || decide (65 ≤ c ∧ c ≤ 90) || decide (48 ≤ c ∧ c ≤ 57)

/-- a byte of a word: a letter, a digit, an ASCII byte of punct -/
def okB (p : List UInt8) (c : UInt8) : Bool := alnum (c.toNat : Int) || (decide (c.toNat < 128) && p.contains c)

/-- one byte or more, each of a word -/
def wordB (p s : List UInt8) : Bool := !s.isEmpty && s.all (okB p)

theorem take_snoc (s : ByteArray) (k : Nat) (h : k < s.size) : s.data.toList.take (k + 1) = s.data.toList.take k ++ [s[k]] := by
  rw [List.take_succ_eq_append_getElem (by simpa using h)]; rfl

theorem mem_at (s : ByteArray) (k : Nat) (h : k < s.size) : s[k] ∈ s.data.toList := by
  have e : s[k] = s.data.toList[k]'(by simpa using h) := rfl
  rw [e]; exact List.getElem_mem _

theorem all_snoc (q : UInt8 → Bool) (l : List UInt8) (c : UInt8) : (l ++ [c]).all q = (l.all q && q c) := by simp

theorem word_no (p : List UInt8) (s : ByteArray) (k : Nat) (h : k < s.size) (hc : okB p s[k] = false) : wordB p s.data.toList = false := by
  cases hw : wordB p s.data.toList with
  | false => rfl
  | true =>
    rw [wordB, Bool.and_eq_true] at hw
    rw [List.all_eq_true.1 hw.2 _ (mem_at s k h)] at hc
    cases hc

theorem word_yes (p : List UInt8) (s : ByteArray) (h0 : 0 < s.size) (h : s.data.toList.all (okB p) = true) : wordB p s.data.toList = true := by
  rw [wordB, h, Bool.and_true, Bool.not_eq_true']
  cases hs : s.data.toList with
  | nil =>
    have : s.data.toList.length = s.size := by simp
    rw [hs] at this
    simp at this
    omega
  | cons a l => rfl

theorem contains_index (l : List UInt8) (c : UInt8) : l.contains c = decide (0 ≤ Lib.indexByte l c) := by
  induction l with
  | nil => rfl
  | cons b l ih =>
    have hge := Lib.indexByte_ge l c
    rw [Lib.indexByte, List.contains_cons, ih]
    by_cases hbc : b = c
    · subst hbc; simp
    · have h1 : (c == b) = false := by simpa using fun e => hbc e.symm
      have h2 : (b == c) = false := by simpa using hbc
      rw [h1, h2, Bool.false_or]
      simp only [Bool.false_eq_true, if_false]
      by_cases h3 : Lib.indexByte l c = -1
      · simp [h3]
      · have h4 : (Lib.indexByte l c == -1) = false := by simpa using h3
        rw [h4]
        simp only [Bool.false_eq_true, if_false]
        have h5 : 0 ≤ Lib.indexByte l c := by omega
        have h6 : 0 ≤ Lib.indexByte l c + 1 := by omega
        simp [h5, h6]

set_option maxHeartbeats 1000000 in
theorem isAlnum_any (c : Int) (w : World) (h0 : 0 ≤ c) (h1 : c ≤ 255) :
    Calls Trym.prog 25 #[.int .u8 c] w fun e w' => e = .returned (.bool (alnum c)) ∧ w' = w := by
  rcases (show (97 ≤ c ∧ c ≤ 122) ∨ (65 ≤ c ∧ c ≤ 90) ∨ (48 ≤ c ∧ c ≤ 57) ∨ c < 48 ∨ (57 < c ∧ c < 65) ∨ (90 < c ∧ c < 97) ∨ 122 < c from by omega) with h | h | h | h | h | h | h
  · have HA := (show Hid (alnum c = true) from by show alnum c = true; unfold alnum; simp; omega)
    go_enter Trym.func25, Trym.ntmps25
    go_wp2
    go_ret
    exact ⟨ret_bool HA.out.symm, rfl⟩
  · have HA := (show Hid (alnum c = true) from by show alnum c = true; unfold alnum; simp; omega)
    go_enter Trym.func25, Trym.ntmps25
    go_wp2
    go_ret
    exact ⟨ret_bool HA.out.symm, rfl⟩
  · have HA := (show Hid (alnum c = true) from by show alnum c = true; unfold alnum; simp; omega)
    go_enter Trym.func25, Trym.ntmps25
    go_wp2
    go_ret
    exact ⟨ret_bool HA.out.symm, rfl⟩
  · have HA := (show Hid (alnum c = false) from by show alnum c = false; unfold alnum; simp; omega)
    go_enter Trym.func25, Trym.ntmps25
    go_wp2
    go_ret
    exact ⟨ret_bool HA.out.symm, rfl⟩
  · have HA := (show Hid (alnum c = false) from by show alnum c = false; unfold alnum; simp; omega)
    go_enter Trym.func25, Trym.ntmps25
    go_wp2
    go_ret
    exact ⟨ret_bool (by rw [HA.out]; simp; omega), rfl⟩
  · have HA := (show Hid (alnum c = false) from by show alnum c = false; unfold alnum; simp; omega)
    go_enter Trym.func25, Trym.ntmps25
    go_wp2
    go_ret
    exact ⟨ret_bool (by rw [HA.out]; simp; omega), rfl⟩
  · have HA := (show Hid (alnum c = false) from by show alnum c = false; unfold alnum; simp; omega)
    go_enter Trym.func25, Trym.ntmps25
    go_wp2
    go_ret
    exact ⟨ret_bool (by rw [HA.out]; simp; omega), rfl⟩

set_option maxHeartbeats 1000000 in
set_option maxRecDepth 100000 in
theorem slite_any (s : ByteArray) (c : Int) (w : World) :
    Calls Trym.prog 28 #[.string s, .int .u8 c] w fun e w' => e = .returned (.int .i64 (Lib.indexByte s.data.toList c.toNat.toUInt8)) ∧ w' = w := by
  go_enter Trym.func28, Trym.ntmps28
  go_wp2
  rw [run_callFunc_extern Trym.func29 (by kernel_rfl) (by kernel_rfl) (by kernel_rfl) (e := Extern.BytealgIndexByte.indexByte) (by kernel_rfl), Lib.run_indexByteString]
  simp only [Result.andThen]
  rw [Oper.upon_value]
  go_wp2
  go_ret
  exact ⟨rfl, rfl⟩

theorem indexByte_any (s : ByteArray) (c : Int) (w : World) :
    Calls Trym.prog 27 #[.string s, .int .u8 c] w fun e w' => e = .returned (.int .i64 (Lib.indexByte s.data.toList c.toNat.toUInt8)) ∧ w' = w := by
  go_enter Trym.func27, Trym.ntmps27
  go_wp2_with (go_at_call 28; refine (slite_any _ _ _).mono ?_; rintro e w' ⟨rfl, rfl⟩)
  go_ret
  exact ⟨rfl, rfl⟩

end Go.Proofs.Qxb6000448aMods

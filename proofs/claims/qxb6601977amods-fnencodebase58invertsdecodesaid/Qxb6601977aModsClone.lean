import Derived.Test.Qxb6601977aModsEnc
namespace Go.Proofs.Qxb6601977aMods
open Go.RowKit Num

theorem ret_slice {a : Option Addr} {n n' c c' : Nat} (h : n = n') (h2 : c = c') : Ending.returned (.slice a n c) = .returned (.slice a n' c') := by rw [h, h2]

theorem take_next (X : List Nat) (j x : Nat) (hj : j < X.length) (hx : x = X.getD j 0) : X.take j ++ [x] = X.take (j + 1) := by
  rw [List.take_succ_eq_append_getElem hj, hx, List.getD_eq_getElem?_getD, List.getElem?_eq_getElem hj]
  rfl

theorem sees_drop {w : World} {b o n : Nat} {X : List Nat} (h : Sees w (some ⟨b, o, none⟩) n X) (k : Nat) (hk : k ≤ n) : Sees w (some ⟨b, o + k, none⟩) (n - k) (X.drop k) := by
  refine ⟨by rw [List.length_drop, h.1], fun t ht => ⟨b, o + k, rfl, fun j hj => ?_⟩⟩
  obtain ⟨b', o', h1, h2⟩ := h.2 0 (by omega)
  simp at h1
  obtain ⟨rfl, rfl⟩ := h1
  have := h2 (k + j) (by omega)
  rw [← Nat.add_assoc] at this
  rw [this]
  simp [List.getD_eq_getElem?_getD]

theorem sees_none {w : World} {ao : Option Addr} {k : Nat} {X : List Nat} (h : X.length ≤ k) : Sees w ao (k - k) (X.drop k) :=
  ⟨by rw [List.length_drop]; omega, fun t ht => by omega⟩

set_option maxHeartbeats 400000 in
/-- a copy of bytes: nil stays nil -/
theorem clone_any (ao : Option Addr) (n c : Nat) (X : List Nat) (w : World) (hn : n ≤ 1048576) (hx : Hid (Sees w ao n X)) (hnil : ao = none → n = 0 ∧ c = 0) :
    Calls Trym.prog 10 #[.slice ao n c] w fun e w' => ∃ ao' c', e = .returned (.slice ao' n c') ∧ Row w' w.heap.size ao' c' X ∧ Below w.heap.size w w' ∧ n ≤ c' := by
  have hq := fun (w : World) (a : Option Addr) (n c : Nat) => Lib.run_eql_slice_nil (P := Trym.prog) w 22 5 a n c 0 0 Trym.underlying22
  obtain ⟨i0, hi, hz0, hz1, hz2⟩ := info_parts info5
  have HXL := hid hx.out.1
  cases hao : ao with
  | none =>
    obtain ⟨rfl, rfl⟩ := hnil hao
    have hX : X = [] := List.eq_nil_of_length_eq_zero HXL.out
    subst hX
    clear hnil hao
    go_enter Trym.func10, Trym.ntmps10
    go_wp2
    go_ret
    exact ⟨none, 0, rfl, Row.nil _ _, Below.refl _ _, Nat.le_refl _⟩
  | some a =>
    subst hao
    clear hnil
    go_enter Trym.func10, Trym.ntmps10
    go_wp2_with (at_make; refine wpList_make_full _ rfl _ _ 22 rfl w.heap.size 5 i0 (.int .u8 0) 1 Trym.underlying22 hi hz0 hz1 _ _ _ _ n rfl rfl rfl rfl (by rw [hz2]; omega) (by unfold maxLen; omega) (Nat.le_refl _) ?_)
    intro w1 hown1 hgrow1
    have hR1 := Row.ofMake hown1
    have hb1 : Below w.heap.size w w1 := (Below.refl _ _).grown hgrow1 (Nat.le_refl _) (by simp)
    obtain ⟨g, hg⟩ : ∃ g, g = w.heap.size := ⟨_, rfl⟩
    rw [← hg] at hR1 ⊢
    have HG := hid hg
    have HR1 := hid hR1
    have HB1 := hid hb1
    clear hR1 hb1 hown1 hgrow1 hg
    go_wp2
    go_loopw [4] (fun i wr => ∃ (j : Nat), j ≤ n ∧ i = .int .i64 j ∧ Row wr w.heap.size (some ⟨g, 0, none⟩) n (X.take j ++ List.replicate (n - j) 0) ∧ Below w.heap.size w wr) (fun i _ => n - (intOf i).toNat)
    case atStart => exact ⟨0, Nat.zero_le _, rfl, by have := HR1.out; rw [← HG.out] at *; simpa using this, by rw [← HG.out] at *; exact HB1.out⟩
    case round =>
      obtain ⟨j, hj, rfl, hr, hb⟩ := hrel
      by_cases hjl : j < n
      · obtain ⟨b, o, hbo, hc⟩ := hx.out.2 j hjl
        simp at hbo
        subst hbo
        obtain ⟨x, hx0⟩ : ∃ x : Nat, x = X.getD j 0 := ⟨_, rfl⟩
        have hcell : wr.cell? ⟨b, o + j, none⟩ = some (.int .u8 (x : Int)) := by
          rw [hb.cell (p := ⟨b, o + j, none⟩) (hx.out.lt (by omega) b o rfl), hx0]
          exact hc j hjl
        have hcR : ∃ v, wr.cell? ⟨g, j, none⟩ = some (.int .u8 v) := ⟨_, hr.cell _ (by have := HXL.out; simp; omega)⟩
        obtain ⟨vR, hcR⟩ := hcR
        have hfR := hr.frozen j
        have HX0 := hid hx0
        have HRr := hid hr
        have HBr := hid hb
        clear hx0 hr hb hc
        go_wp2
        go_roundw
        case rel =>
          have h1 := HRr.out.set j x
          rw [fill_set _ _ _ _ (by simp [HXL.out]; omega) hjl, take_next X j x (by rw [HXL.out]; exact hjl) HX0.out] at h1
          exact ⟨j + 1, by omega, by go_num, h1, HBr.out.setCell (by have := HG.out; simp; omega) _⟩
        case measure => simp [intOf]; omega
      · have hje : j = n := by omega
        subst hje
        have HRr := (show Hid (Row wr w.heap.size (some ⟨g, 0, none⟩) j X) from by
          rw [Nat.sub_self, List.take_of_length_le (by rw [HXL.out]; exact Nat.le_refl _)] at hr
          show Row _ _ _ _ _
          simpa using hr)
        have HBr := hid hb
        clear hr hb
        go_wp2
        go_ret
        exact ⟨some ⟨g, 0, none⟩, j, rfl, HRr.out, HBr.out, Nat.le_refl _⟩

theorem zzencode_any (ao : Option Addr) (n c : Nat) (X : List Nat) (w : World) (hn : n ≤ 1048576) (hx : Hid (Sees w ao n X)) (hX : Hid (∀ x ∈ X, x < 256)) :
    Calls Trym.prog 11 #[.slice ao n c] w fun e w' => ∃ s' L, e = .returned (.string s') ∧ s'.data.toList = (List.reverse L).map chr ∧ Canon 58 L ∧ val 58 L = num 256 X ∧ Below w.heap.size w w' := by
  go_enter Trym.func11, Trym.ntmps11
  go_wp2_with (go_at_call 27; refine (encode_any ao n c X _ hn hx hX).mono ?_; rintro e w1 ⟨s', L, rfl, h1, h2, h3, h4⟩)
  go_ret
  exact ⟨s', L, rfl, h1, h2, h3, h4⟩

/-- the first k numbers are nought, and the k-th is not -/
def ZeroAt (l : List Nat) (k : Nat) : Prop := k ≤ l.length ∧ (∀ t, t < k → l.getD t 0 = 0) ∧ (k < l.length → l.getD k 0 ≠ 0)

def Stripped (w : World) (n c : Nat) (X : List Nat) (e : Ending) : Prop :=
  ∃ k ao', ZeroAt X k ∧ e = .returned (.slice ao' (n - k) (c - k)) ∧ Sees w ao' (n - k) (X.drop k) ∧ (∀ a, ao' = some a → ∃ b o, a = ⟨b, o, none⟩)

set_option maxHeartbeats 400000 in
theorem stripZero_any (ao : Option Addr) (n c : Nat) (X : List Nat) (w : World) (hn : n ≤ 2097152) (hnc : n ≤ c) (hcm : c ≤ maxLen) (hx : Hid (Sees w ao n X)) (hnil : ao = none → n = 0 ∧ c = 0) (hpl : ∀ a, ao = some a → ∃ b o, a = ⟨b, o, none⟩) :
    Calls Trym.prog 22 #[.slice ao n c] w fun e w' => Stripped w n c X e ∧ w' = w := by
  have HXL := hid hx.out.1
  unfold maxLen at hcm
  cases hao : ao with
  | none =>
    obtain ⟨rfl, rfl⟩ := hnil hao
    have hX : X = [] := List.eq_nil_of_length_eq_zero HXL.out
    subst hX
    clear hnil hao hpl
    go_enter Trym.func22, Trym.ntmps22
    go_wp2
    refine wp_loop_rounds 1 ?_
    rw [rounds_succ]
    go_wp2
    go_ret
    exact ⟨⟨0, none, ⟨Nat.le_refl _, fun t ht => by omega, fun h => by simp at h⟩, rfl, ⟨rfl, fun t ht => by omega⟩, by simp⟩, rfl⟩
  | some a =>
    subst hao
    obtain ⟨b, o, rfl⟩ := hpl a rfl
    clear hnil hpl
    go_enter Trym.func22, Trym.ntmps22
    go_wp2
    go_loop [3] (fun i => ∃ k : Nat, k ≤ n ∧ i = .int .i64 k ∧ Hid (∀ t, t < k → X.getD t 0 = 0)) (fun i => n - (intOf i).toNat)
    case atStart => exact ⟨0, Nat.zero_le _, rfl, fun t ht => by omega⟩
    case round =>
      obtain ⟨k, hk, rfl, HZ⟩ := hrel
      by_cases hlt : k < n
      · obtain ⟨b', o', hbo, hc⟩ := hx.out.2 k hlt
        simp at hbo
        obtain ⟨rfl, rfl⟩ := hbo
        obtain ⟨y, hy⟩ : ∃ y : Nat, y = X.getD k 0 := ⟨_, rfl⟩
        have hcell : w.cell? ⟨b, o + k, none⟩ = some (.int .u8 (y : Int)) := by rw [hy]; exact hc k hlt
        have HY := hid hy
        clear hy hc
        by_cases hy0 : y = 0
        · subst hy0
          go_wp2
          go_round
          case rel =>
            refine ⟨k + 1, by omega, by go_num, fun t ht => ?_⟩
            rcases Nat.lt_or_ge t k with h | h
            · exact HZ.out t h
            · obtain rfl : t = k := by omega
              exact HY.out.symm
          case measure => simp [intOf]; omega
        · have hyb : ((y : Int) == 0) = false := by simpa using hy0
          have hne : ¬ c = k := by omega
          go_wp2
          go_ret
          refine ⟨⟨k, some ⟨b, o + k, none⟩, ⟨by rw [HXL.out]; omega, HZ.out, fun _ => by rw [← HY.out]; exact hy0⟩, rfl, sees_drop hx.out k (by omega), ?_⟩, rfl⟩
          intro a ha
          simp at ha
          exact ⟨_, _, ha.symm⟩
      · have hke : k = n := by omega
        subst hke
        by_cases hck : c = k
        · subst hck
          go_wp2
          go_ret
          refine ⟨⟨c, some ⟨b, o, none⟩, ⟨by rw [HXL.out]; omega, HZ.out, fun h => by rw [HXL.out] at h; omega⟩, ret_slice (by omega) (by omega), sees_none (by rw [HXL.out]; exact Nat.le_refl _), ?_⟩, rfl⟩
          intro a ha
          simp at ha
          exact ⟨_, _, ha.symm⟩
        · go_wp2
          go_ret
          refine ⟨⟨k, some ⟨b, o + k, none⟩, ⟨by rw [HXL.out]; omega, HZ.out, fun h => by rw [HXL.out] at h; omega⟩, ret_slice (by omega) (by omega), sees_none (by rw [HXL.out]; exact Nat.le_refl _), ?_⟩, rfl⟩
          intro a ha
          simp at ha
          exact ⟨_, _, ha.symm⟩

theorem zz21_yes (ao : Option Addr) (n c : Nat) (w : World) (h : n ≤ 1048576) :
    Calls Trym.prog 21 #[.slice ao n c] w fun e w' => e = .returned (.bool true) ∧ w' = w := by
  go_enter Trym.func21, Trym.ntmps21
  go_wp2
  go_ret
  exact ⟨rfl, rfl⟩

theorem zz21_no (ao : Option Addr) (n c : Nat) (w : World) (hs : n ≤ maxLen) (h : 1048576 < n) :
    Calls Trym.prog 21 #[.slice ao n c] w fun e w' => e = .returned (.bool false) ∧ w' = w := by
  unfold maxLen at hs
  go_enter Trym.func21, Trym.ntmps21
  go_wp2
  go_ret
  exact ⟨rfl, rfl⟩
end Go.Proofs.Qxb6601977aMods

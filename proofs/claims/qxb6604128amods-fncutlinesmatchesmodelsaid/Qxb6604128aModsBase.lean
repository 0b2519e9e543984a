import Derived.Test.Qxb6604128aModsProg
import Derived.Test.Qxb6604128aModsNl
import Derived.WalkKit
import Derived.Deep.QuietTactic
import Derived.BigQuiet
import Derived.WalkSpells
import Derived.WalkLawsBesides
import Derived.Lib.BytesEntry
namespace Go.Proofs.Qxb6604128aMods
open Go.RowKit Nl

theorem hid {p : Prop} (h : p) : Hid p := h
theorem ret_int {k : IntKind} {a b : Int} (h : a = b) : Ending.returned (.int k a) = .returned (.int k b) := by rw [h]
theorem ret_bool {a b : Bool} (h : a = b) : Ending.returned (.bool a) = .returned (.bool b) := by rw [h]

theorem info5 : (Trym.prog.info? 5).map (fun i => (i.zero, i.size, i.bytes)) = some (some (.int .u8 0), 1, 1) := by kernel_rfl
theorem info3 : (Trym.prog.info? 3).map (fun i => (i.zero, i.size, i.bytes)) = some (some (.int .i64 0), 1, 8) := by kernel_rfl
theorem info23 : (Trym.prog.info? 23).map (fun i => (i.zero, i.size, i.bytes)) = some (some (.slice none 0 0), 1, 24) := by kernel_rfl

/-- a slice that is only read: 'ao, n' shows the numbers l, of kind k -/
def Sees (k : IntKind) (w : World) (ao : Option Addr) (n : Nat) (l : List Nat) : Prop :=
  l.length = n ∧ ∀ t, t < n → ∃ b o, ao = some ⟨b, o, none⟩ ∧ ∀ j, j < n → w.cell? ⟨b, o + j, none⟩ = some (.int k (l.getD j 0 : Nat))

theorem Sees.below {k : IntKind} {w w' : World} {ao : Option Addr} {n B : Nat} {l : List Nat} (h : Sees k w ao n l) (hb : Below B w w') (hB : ∀ b o, ao = some ⟨b, o, none⟩ → b < B) : Sees k w' ao n l := by
  refine ⟨h.1, fun t ht => ?_⟩
  obtain ⟨b, o, h1, h2⟩ := h.2 t ht
  refine ⟨b, o, h1, fun j hj => ?_⟩
  rw [hb.cell (p := ⟨b, o + j, none⟩) (hB b o h1)]
  exact h2 j hj

theorem Sees.lt {k : IntKind} {w : World} {ao : Option Addr} {n : Nat} {l : List Nat} (h : Sees k w ao n l) (hn : 0 < n) : ∀ b o, ao = some ⟨b, o, none⟩ → b < w.heap.size := by
  intro b o he
  obtain ⟨b', o', h1, h2⟩ := h.2 0 hn
  rw [he] at h1
  simp at h1
  obtain ⟨rfl, rfl⟩ := h1
  exact World.block_lt_of_cell? w ⟨b, o + 0, none⟩ (h2 0 hn)

theorem Sees.later {k : IntKind} {w w' : World} {ao : Option Addr} {n : Nat} {l : List Nat} (h : Sees k w ao n l) (hb : Below w.heap.size w w') : Sees k w' ao n l := by
  rcases Nat.eq_zero_or_pos n with h0 | h0
  · exact ⟨h.1, fun t ht => by omega⟩
  · exact h.below hb (h.lt h0)

theorem Sees.grown {k : IntKind} {w w' : World} {ao : Option Addr} {n : Nat} {l : List Nat} {row : Option Nat} (h : Sees k w ao n l) (hg : w.grownBy w' row) (hr : ∀ b o, ao = some ⟨b, o, none⟩ → some b ≠ row) : Sees k w' ao n l := by
  refine ⟨h.1, fun t ht => ?_⟩
  obtain ⟨b, o, h1, h2⟩ := h.2 t ht
  refine ⟨b, o, h1, fun j hj => ?_⟩
  exact hg.cell (h2 j hj) (hr b o h1)

/-- what is behind the first p -/
theorem Sees.drop {k : IntKind} {w : World} {b o n : Nat} {l : List Nat} (h : Sees k w (some ⟨b, o, none⟩) n l) (p : Nat) (hp : p ≤ n) : Sees k w (some ⟨b, o + p, none⟩) (n - p) (l.drop p) := by
  refine ⟨by rw [List.length_drop, h.1], fun t ht => ⟨b, o + p, rfl, fun j hj => ?_⟩⟩
  obtain ⟨b', o', h1, h2⟩ := h.2 0 (by omega)
  simp at h1
  obtain ⟨rfl, rfl⟩ := h1
  have := h2 (p + j) (by omega)
  rw [← Nat.add_assoc] at this
  rw [this]
  simp [List.getD_eq_getElem?_getD]

/-- the first p -/
theorem Sees.take {k : IntKind} {w : World} {b o n : Nat} {l : List Nat} (h : Sees k w (some ⟨b, o, none⟩) n l) (p : Nat) (hp : p ≤ n) : Sees k w (some ⟨b, o, none⟩) p (l.take p) := by
  refine ⟨by rw [List.length_take, h.1]; omega, fun t ht => ⟨b, o, rfl, fun j hj => ?_⟩⟩
  obtain ⟨b', o', h1, h2⟩ := h.2 0 (by omega)
  simp at h1
  obtain ⟨rfl, rfl⟩ := h1
  rw [h2 j (by omega)]
  simp [List.getD_eq_getElem?_getD, hj]

theorem Sees.none {k : IntKind} {w : World} {ao : Option Addr} : Sees k w ao 0 [] := ⟨rfl, fun t ht => by omega⟩

set_option maxHeartbeats 400000 in
/-- 'cutLinesB1EqualRange' where the bytes are the same -/
theorem equalRange_same (aa ad : Option Addr) (n ca m cd fr : Nat) (l D : List Nat) (to : Int) (w : World) (ha : Hid (Sees .u8 w aa n l)) (hd : Hid (Sees .u8 w ad m D)) (hm : m ≤ 2097152) (hto : to = (fr : Int) + (n : Int)) (hle : fr + n ≤ m)
    (hsame : Hid (∀ j, j < n → l.getD j 0 = D.getD (fr + j) 0)) :
    Calls Trym.prog 13 #[.slice aa n ca, .slice ad m cd, .int .i64 (fr : Int), .int .i64 to] w fun e w' => e = .returned (.bool true) ∧ ∃ q, w' = w.drewN q := by
  subst hto
  have hnn : ((n : Int) != ((fr : Int) + (n : Int) - (fr : Int))) = false := by rw [show (fr : Int) + (n : Int) - (fr : Int) = (n : Int) from by omega]; simp
  go_enter Trym.func13, Trym.ntmps13
  go_wp2
  go_loopw [9] (fun i wr => ∃ (k q : Nat), k ≤ n ∧ i = .int .i64 k ∧ wr = w.drewN q) (fun i _ => n - (intOf i).toNat)
  case atStart => exact ⟨0, 0, Nat.zero_le _, rfl, rfl⟩
  case round =>
    obtain ⟨k, q, hk, rfl, rfl⟩ := hrel
    by_cases hlt : k < n
    · obtain ⟨b, o, rfl, hcx⟩ := ha.out.2 k hlt
      obtain ⟨b', o', rfl, hcy⟩ := hd.out.2 0 (by omega)
      have h1 := hcx k hlt
      have h2 := hcy (fr + k) (by omega)
      rw [← hsame.out k hlt] at h2
      obtain ⟨x, hxx⟩ : ∃ x : Nat, x = l.getD k 0 := ⟨_, rfl⟩
      rw [← hxx] at h1 h2
      have hk0 : (0 : Int) ≤ (k : Int) := by omega
      have hkn : (k : Int) < (n : Int) := by omega
      have hf0 : (0 : Int) ≤ (fr : Int) + (k : Int) := by omega
      have hfm : (fr : Int) + (k : Int) < (m : Int) := by omega
      have hne : ((x : Int) != (x : Int)) = false := by simp
      clear hcx hcy hxx
      go_wp2
      go_quiet (fail)
      go_wp2
      go_roundw
      case rel => exact ⟨k + 1, q + nq, by omega, by go_num, rfl⟩
      case measure => simp [intOf]; omega
    · go_wp2
      go_ret
      exact ⟨rfl, q, rfl⟩

/-- 'cutLinesB1Start' -/
theorem start_any (ae : Option Addr) (n ce j : Nat) (E : List Nat) (w : World) (hE : Hid (Sees .i64 w ae n E)) (hj : j ≤ n) (hn : n ≤ 2097152) (hb : ∀ q, q < n → E.getD q 0 ≤ 2097152) :
    Calls Trym.prog 14 #[.slice ae n ce, .int .i64 (j : Int)] w fun e w' => e = .returned (.int .i64 (st E j : Nat)) ∧ w' = w := by
  rcases Nat.eq_zero_or_pos j with h0 | h0
  · subst h0
    go_enter Trym.func14, Trym.ntmps14
    go_wp2
    go_ret
    exact ⟨rfl, rfl⟩
  · obtain ⟨b, o, rfl, hc⟩ := hE.out.2 (j - 1) (by omega)
    have h1 := hc (j - 1) (by omega)
    have h2 := hb (j - 1) (by omega)
    obtain ⟨x, hx⟩ : ∃ x : Nat, x = E.getD (j - 1) 0 := ⟨_, rfl⟩
    rw [← hx] at h1 h2
    have HX := (show Hid (st E j = x + 1) from by show st E j = x + 1; rw [hx]; unfold st; rw [if_neg (by omega)])
    have hj0 : ((j : Int) == 0) = false := by rw [beq_eq_false_iff_ne]; omega
    clear hc hx hb
    go_enter Trym.func14, Trym.ntmps14
    go_wp2
    go_ret
    exact ⟨ret_int (by rw [HX.out]; omega), rfl⟩

theorem zz15_yes (ao : Option Addr) (n c : Nat) (w : World) (h : n ≤ 1048576) :
    Calls Trym.prog 15 #[.slice ao n c] w fun e w' => e = .returned (.bool true) ∧ w' = w := by
  go_enter Trym.func15, Trym.ntmps15
  go_wp2
  go_ret
  exact ⟨rfl, rfl⟩

theorem zz15_no (ao : Option Addr) (n c : Nat) (w : World) (hs : n ≤ maxLen) (h : 1048576 < n) :
    Calls Trym.prog 15 #[.slice ao n c] w fun e w' => e = .returned (.bool false) ∧ w' = w := by
  unfold maxLen at hs
  go_enter Trym.func15, Trym.ntmps15
  go_wp2
  go_ret
  exact ⟨rfl, rfl⟩

/-- 'cutLinesB1WholeLines' -/
def wholeB (D : List Nat) : Bool := decide (D.length = 0) || decide (D.getD (D.length - 1) 0 = 10)

set_option maxHeartbeats 400000 in
theorem whole_any (ad : Option Addr) (n c : Nat) (D : List Nat) (w : World) (hd : Hid (Sees .u8 w ad n D)) (hn : n ≤ 1048576) :
    Calls Trym.prog 7 #[.slice ad n c] w fun e w' => e = .returned (.bool (wholeB D)) ∧ w' = w := by
  have HL := hid hd.out.1
  rcases Nat.eq_zero_or_pos n with h0 | h0
  · subst h0
    go_enter Trym.func7, Trym.ntmps7
    go_wp2
    go_ret
    exact ⟨ret_bool (by simp [wholeB, HL.out]), rfl⟩
  · obtain ⟨b, o, rfl, hc⟩ := hd.out.2 (n - 1) (by omega)
    have h1 := hc (n - 1) (by omega)
    obtain ⟨x, hx⟩ : ∃ x : Nat, x = D.getD (n - 1) 0 := ⟨_, rfl⟩
    rw [← hx] at h1
    have hn0 : ((n : Int) == 0) = false := by rw [beq_eq_false_iff_ne]; omega
    have HX := hid hx
    clear hc hx
    have HW := (show Hid (wholeB D = decide (x = 10)) from by
      show wholeB D = decide (x = 10)
      have : ¬ n = 0 := by omega
      rw [wholeB, HL.out, HX.out]; simp [this])
    by_cases hx10 : x = 10
    · have hb : ((x : Int) == 10) = true := by rw [beq_iff_eq]; omega
      have H10 := hid hx10
      clear hx10
      go_enter Trym.func7, Trym.ntmps7
      go_wp2
      go_ret
      exact ⟨ret_bool (by rw [HW.out]; simp [H10.out]), rfl⟩
    · have hb : ((x : Int) == 10) = false := by rw [beq_eq_false_iff_ne]; omega
      go_enter Trym.func7, Trym.ntmps7
      go_wp2
      go_ret
      exact ⟨ret_bool (by rw [HW.out]; simp [hx10]), rfl⟩

end Go.Proofs.Qxb6604128aMods

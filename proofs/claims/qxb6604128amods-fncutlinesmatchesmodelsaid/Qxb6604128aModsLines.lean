import Derived.Test.Qxb6604128aModsBatch
import Derived.Laws.CopyOwn
namespace Go.Proofs.Qxb6604128aMods
open Go.RowKit Nl

/-- a slice of slices of bytes that is only read -/
structure LArg (w : World) (al : Option Addr) (nl cl : Nat) (A : Nat → Option Addr) (N C : Nat → Nat) (X : Nat → List Nat) : Prop where
  nil : al = none → nl = 0 ∧ cl = 0
  cell : ∀ t, t < nl → ∃ b o, al = some ⟨b, o, none⟩ ∧ ∀ j, j < nl → w.cell? ⟨b, o + j, none⟩ = some (.slice (A j) (N j) (C j))
  sees : ∀ t, t < nl → Sees .u8 w (A t) (N t) (X t)
  enil : ∀ t, t < nl → A t = none → N t = 0 ∧ C t = 0

theorem LArg.lt {w : World} {al : Option Addr} {nl cl : Nat} {A : Nat → Option Addr} {N C : Nat → Nat} {X : Nat → List Nat} (h : LArg w al nl cl A N C X) (hn : 0 < nl) : ∀ b o, al = some ⟨b, o, none⟩ → b < w.heap.size := by
  intro b o he
  obtain ⟨b', o', h1, h2⟩ := h.cell 0 hn
  rw [he] at h1
  simp at h1
  obtain ⟨rfl, rfl⟩ := h1
  exact World.block_lt_of_cell? w ⟨b, o + 0, none⟩ (h2 0 hn)

theorem LArg.later {w w' : World} {al : Option Addr} {nl cl : Nat} {A : Nat → Option Addr} {N C : Nat → Nat} {X : Nat → List Nat} (h : LArg w al nl cl A N C X) (hb : Below w.heap.size w w') : LArg w' al nl cl A N C X := by
  refine ⟨h.nil, fun t ht => ?_, fun t ht => (h.sees t ht).later hb, h.enil⟩
  obtain ⟨b, o, h1, h2⟩ := h.cell t ht
  refine ⟨b, o, h1, fun j hj => ?_⟩
  rw [hb.cell (p := ⟨b, o + j, none⟩) (h.lt (by omega) b o h1)]
  exact h2 j hj

/-- some bool -/
def IsBool (e : Ending) : Prop := ∃ b, e = .returned (.bool b)

/-! ### the guards -/
set_option maxHeartbeats 400000 in
set_option maxRecDepth 100000 in
theorem zz5_any (al ad : Option Addr) (nl cl m c : Nat) (A : Nat → Option Addr) (N C : Nat → Nat) (X : Nat → List Nat) (w : World) (hl : Hid (LArg w al nl cl A N C X)) (hn : nl ≤ maxLen) (hm : m ≤ maxLen) :
    Calls Trym.prog 5 #[.slice al nl cl, .slice ad m c] w fun e w' => IsBool e ∧ w' = w := by
  unfold maxLen at hn hm
  by_cases h1 : nl ≤ 1048576
  · go_enter Trym.func5, Trym.ntmps5
    go_wp2
    go_loop [5, 6] (fun z i => ∃ (k T : Nat), k ≤ nl ∧ i = .int .i64 (k : Int) ∧ z = .int .i64 (T : Int) ∧ T ≤ 1048576) (fun _ i => nl - (intOf i).toNat)
    case atStart => exact ⟨0, nl, Nat.zero_le _, rfl, by simp, h1⟩
    case round =>
      obtain ⟨k, T, hk, rfl, rfl, hT⟩ := hrel
      by_cases hlt : k < nl
      · obtain ⟨b, o, rfl, hc⟩ := hl.out.cell k hlt
        have hcell := hc k hlt
        obtain ⟨a1, ha1⟩ : ∃ a1, a1 = A k := ⟨_, rfl⟩
        obtain ⟨n1, hn1⟩ : ∃ n1, n1 = N k := ⟨_, rfl⟩
        obtain ⟨c1, hc1⟩ : ∃ c1, c1 = C k := ⟨_, rfl⟩
        rw [← ha1, ← hn1, ← hc1] at hcell
        clear hc ha1 hn1 hc1
        by_cases h2 : n1 ≤ 1048576
        · by_cases h3 : T + n1 ≤ 1048576
          · go_wp2
            go_round
            case rel => exact ⟨k + 1, T + n1, by omega, by go_num, by go_num, h3⟩
            case measure => simp [intOf]; omega
          · go_wp2
            go_ret
            exact ⟨⟨_, rfl⟩, rfl⟩
        · go_wp2
          go_ret
          exact ⟨⟨_, rfl⟩, rfl⟩
      · by_cases h2 : m ≤ 1048576
        · by_cases h3 : T + m ≤ 1048576
          · go_wp2
            go_ret
            exact ⟨⟨_, rfl⟩, rfl⟩
          · go_wp2
            go_ret
            exact ⟨⟨_, rfl⟩, rfl⟩
        · go_wp2
          go_ret
          exact ⟨⟨_, rfl⟩, rfl⟩
  · go_enter Trym.func5, Trym.ntmps5
    go_wp2
    go_ret
    exact ⟨⟨_, rfl⟩, rfl⟩

set_option maxHeartbeats 400000 in
set_option maxRecDepth 100000 in
theorem size_any (al ad : Option Addr) (nl cl m c : Nat) (A : Nat → Option Addr) (N C : Nat → Nat) (X : Nat → List Nat) (w : World) (hl : Hid (LArg w al nl cl A N C X)) (hn : nl ≤ 65536) (hm : m ≤ 1048576) :
    Calls Trym.prog 6 #[.slice al nl cl, .slice ad m c] w fun e w' => ∃ z : Nat, e = .returned (.int .i64 (z : Int)) ∧ Hid (z ≤ 1048576 → ∀ t, t < nl → N t ≤ 1048576) ∧ z ≤ 1048577 ∧ w' = w := by
  by_cases h0 : m + 24 * nl ≤ 1048576
  · go_enter Trym.func6, Trym.ntmps6
    go_wp2
    go_loop [5, 6] (fun z i => ∃ (k T : Nat), k ≤ nl ∧ i = .int .i64 (k : Int) ∧ z = .int .i64 (T : Int) ∧ T ≤ 1048576 ∧ Hid (∀ t, t < k → N t ≤ 1048576)) (fun _ i => nl - (intOf i).toNat)
    case atStart => exact ⟨0, m + 24 * nl, Nat.zero_le _, rfl, by go_num, h0, fun t ht => by omega⟩
    case round =>
      obtain ⟨k, T, hk, rfl, rfl, hT, HN⟩ := hrel
      by_cases hlt : k < nl
      · obtain ⟨b, o, rfl, hc⟩ := hl.out.cell k hlt
        have hcell := hc k hlt
        obtain ⟨a1, ha1⟩ : ∃ a1, a1 = A k := ⟨_, rfl⟩
        obtain ⟨n1, hn1⟩ : ∃ n1, n1 = N k := ⟨_, rfl⟩
        obtain ⟨c1, hc1⟩ : ∃ c1, c1 = C k := ⟨_, rfl⟩
        rw [← ha1, ← hn1, ← hc1] at hcell
        have HN1 := hid hn1
        clear hc ha1 hn1 hc1
        by_cases h2 : n1 ≤ 1048576
        · by_cases h3 : T + n1 ≤ 1048576
          · go_wp2
            go_round
            case rel =>
              refine ⟨k + 1, T + n1, by omega, by go_num, by go_num, h3, fun t ht => ?_⟩
              rcases Nat.lt_or_ge t k with h | h
              · exact HN.out t h
              · obtain rfl : t = k := by omega
                rw [← HN1.out]; exact h2
            case measure => simp [intOf]; omega
          · go_wp2
            go_ret
            exact ⟨1048577, rfl, fun h => by omega, by omega, rfl⟩
        · go_wp2
          go_ret
          exact ⟨1048577, rfl, fun h => by omega, by omega, rfl⟩
      · go_wp2
        go_ret
        exact ⟨T, rfl, fun _ t ht => HN.out t (by omega), by omega, rfl⟩
  · go_enter Trym.func6, Trym.ntmps6
    go_wp2
    go_ret
    exact ⟨1048577, rfl, fun h => by omega, by omega, rfl⟩

/-- how many lines a batch takes -/
def cnt (n e : Nat) : Nat := if 256 ≤ n then 0 else min e (256 - n)

theorem count_any (n e : Nat) (w : World) (hn : n ≤ 1048576) :
    Calls Trym.prog 10 #[.int .i64 (n : Int), .int .i64 (e : Int)] w fun e' w' => e' = .returned (.int .i64 (cnt n e : Nat)) ∧ w' = w := by
  by_cases h1 : 256 ≤ n
  · go_enter Trym.func10, Trym.ntmps10
    go_wp2
    go_ret
    exact ⟨ret_int (by unfold cnt; rw [if_pos h1]; rfl), rfl⟩
  · by_cases h2 : e < 256 - n
    · go_enter Trym.func10, Trym.ntmps10
      go_wp2
      go_ret
      exact ⟨ret_int (by unfold cnt; rw [if_neg h1, Nat.min_eq_left (by omega)]), rfl⟩
    · go_enter Trym.func10, Trym.ntmps10
      go_wp2
      go_ret
      exact ⟨ret_int (by unfold cnt; rw [if_neg h1, Nat.min_eq_right (by omega)]; omega), rfl⟩

set_option maxHeartbeats 400000 in
/-- 'cutLinesB1Same' where the two are the same: both nil or both not, the same bytes -/
theorem same_any (aa ab : Option Addr) (n ca cb : Nat) (l : List Nat) (w : World) (ha : Hid (Sees .u8 w aa n l)) (hb : Hid (Sees .u8 w ab n l)) (hn : n ≤ 2097152) (hnil : aa.isNone = ab.isNone) :
    Calls Trym.prog 12 #[.slice aa n ca, .slice ab n cb] w fun e w' => e = .returned (.bool true) ∧ ∃ q, w' = w.drewN q := by
  have hq := fun (w : World) (a : Option Addr) (n c : Nat) => Lib.run_eql_slice_nil (P := Trym.prog) w 23 5 a n c 0 0 Trym.underlying23
  have hnn : ((n : Int) != (n : Int)) = false := by simp
  rcases Nat.eq_zero_or_pos n with h0 | h0
  · subst h0
    obtain ⟨z, hz⟩ : ∃ z, z = ab.isNone := ⟨_, rfl⟩
    have hz1 : aa.isNone = z := by rw [hnil, hz]
    have hz2 : ab.isNone = z := hz.symm
    have hzz : (z != z) = false := by simp
    clear hz hnil
    go_enter Trym.func12, Trym.ntmps12
    go_wp2
    refine wp_loop_rounds 1 ?_
    rw [rounds_succ]
    go_wp2
    go_ret
    exact ⟨rfl, 0, rfl⟩
  · obtain ⟨b, o, rfl, hcx⟩ := ha.out.2 0 h0
    obtain ⟨b', o', rfl, hcy⟩ := hb.out.2 0 h0
    have HX := hid hcx
    have HY := hid hcy
    clear hcx hcy hnil
    go_enter Trym.func12, Trym.ntmps12
    go_wp2
    go_loopw [5] (fun i wr => ∃ (k q : Nat), k ≤ n ∧ i = .int .i64 k ∧ wr = w.drewN q) (fun i _ => n - (intOf i).toNat)
    case atStart => exact ⟨0, 0, Nat.zero_le _, rfl, rfl⟩
    case round =>
      obtain ⟨k, q, hk, rfl, rfl⟩ := hrel
      by_cases hlt : k < n
      · have h1 := HX.out k hlt
        have h2 := HY.out k hlt
        obtain ⟨x, hxx⟩ : ∃ x : Nat, x = l.getD k 0 := ⟨_, rfl⟩
        rw [← hxx] at h1 h2
        have hk0 : (0 : Int) ≤ (k : Int) := by omega
        have hkn : (k : Int) < (n : Int) := by omega
        have hne : ((x : Int) != (x : Int)) = false := by simp
        clear hxx
        go_wp2
        go_quiet (fail)
        go_wp2
        go_roundw
        case rel => exact ⟨k + 1, q + nq, by omega, by go_num, rfl⟩
        case measure => simp [intOf]; omega
      · go_wp2
        go_ret
        exact ⟨rfl, q, rfl⟩

end Go.Proofs.Qxb6604128aMods

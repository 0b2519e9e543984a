import Derived.Test.Qxb6000448aModsReq
namespace Go.Proofs.Qxb6000448aMods
open Go.RowKit

def table0 : List Bool := List.replicate 128 false

/-- a table's cells -/
def tab (T : List Bool) : Array Value := (T.map Value.bool).toArray

theorem zero45 (w : World) : (zeroValue 45).run Trym.prog w = .ok (.agg (tab table0)) w := by kernel_rfl

/-- the table lies in block g -/
def Tab (w : World) (g : Nat) (T : List Bool) : Prop := w.heap[g]? = some (.cells (tab T) 45 (0, 0))

theorem Tab.cell {w : World} {g : Nat} {T : List Bool} (h : Tab w g T) (t : Nat) (ht : t < T.length) : w.cell? ⟨g, t, none⟩ = some (.bool (T.getD t false)) := by
  rw [cell_of_row w g t _ 45 (0, 0) h, tab, List.getD_eq_getElem?_getD]
  simp [ht]

theorem Tab.frozen {w : World} {g : Nat} {T : List Bool} (h : Tab w g T) (t : Nat) : w.frozen? ⟨g, t, none⟩ = false := frozen_of_row w g t _ 45 h

theorem Tab.set {w : World} {g : Nat} {T : List Bool} (h : Tab w g T) (j : Nat) (u : Bool) : Tab (w.setCell ⟨g, j, none⟩ (.bool u)) g (T.set j u) := by
  have := heap_setCell_same w g j _ 45 (.bool u) h
  unfold Tab
  rw [this]
  simp [tab, List.map_set]

/-- the table says which ASCII bytes occur in l -/
def TabOk (l : List UInt8) (T : List Bool) : Prop := T.length = 128 ∧ ∀ c, c < 128 → T.getD c false = l.contains c.toUInt8

theorem TabOk.start : TabOk [] table0 := by
  refine ⟨by simp [table0], fun c hc => ?_⟩
  rw [table0, List.getD_eq_getElem?_getD, List.getElem?_replicate, if_pos hc]
  rfl

theorem contains_snoc (l : List UInt8) (x y : UInt8) : (l ++ [x]).contains y = (l.contains y || y == x) := by
  rw [Bool.eq_iff_iff]
  simp

theorem TabOk.low {l : List UInt8} {T : List Bool} (h : TabOk l T) (x : UInt8) (hx : x.toNat < 128) : TabOk (l ++ [x]) (T.set x.toNat true) := by
  refine ⟨by simp [h.1], fun c hc => ?_⟩
  rw [contains_snoc, ← h.2 c hc, List.getD_eq_getElem?_getD, List.getElem?_set]
  by_cases he : x.toNat = c
  · subst he
    rw [if_pos rfl, if_pos (by rw [h.1]; exact hx)]
    have : (x.toNat.toUInt8 == x) = true := by rw [beq_iff_eq]; exact UInt8.toNat_inj.1 (by simp)
    rw [this, Bool.or_true]
    rfl
  · rw [if_neg he]
    have : (c.toUInt8 == x) = false := by
      rw [beq_eq_false_iff_ne]
      intro hh
      have := congrArg UInt8.toNat hh
      simp at this
      omega
    rw [this, Bool.or_false, List.getD_eq_getElem?_getD]

theorem TabOk.high {l : List UInt8} {T : List Bool} (h : TabOk l T) (x : UInt8) (hx : ¬ x.toNat < 128) : TabOk (l ++ [x]) T := by
  refine ⟨h.1, fun c hc => ?_⟩
  rw [contains_snoc, ← h.2 c hc]
  have : (c.toUInt8 == x) = false := by
    rw [beq_eq_false_iff_ne]
    intro hh
    have := congrArg UInt8.toNat hh
    simp at this
    omega
  rw [this, Bool.or_false]

theorem tab_okB {l : List UInt8} {T : List Bool} (h : TabOk l T) (x : UInt8) (hx : x.toNat < 128) (ha : alnum (x.toNat : Int) = false) : okB l x = T.getD x.toNat false := by
  rw [okB, ha, Bool.false_or, h.2 _ hx, show x.toNat.toUInt8 = x from UInt8.toNat_inj.1 (by simp)]
  simp [hx]

set_option maxHeartbeats 1000000 in
set_option maxRecDepth 100000 in
theorem word_any (s p : ByteArray) (w : World) (hs : s.size ≤ 262144) (hp : p.size ≤ 262144) :
    Calls Trym.prog 22 #[.string s, .string p] w fun e w' => e = .returned (.bool (wordB p.data.toList s.data.toList)) ∧ Below w.heap.size w w' := by
  have hal := zero45
  go_enter Trym.func22, Trym.ntmps22
  go_wp2
  obtain ⟨g, hg⟩ : ∃ g, g = w.heap.size := ⟨_, rfl⟩
  have HT0 := (show Hid (Tab (w.alloc (Obj.cells (tab table0) 45)) g table0) from by
    show Tab (w.alloc (Obj.cells (tab table0) 45)) g table0
    rw [hg]; exact (MapKept.heap_alloc w _).1)
  have HB0 := (show Hid (Below w.heap.size w (w.alloc (Obj.cells (tab table0) 45))) from (Below.refl _ _).alloc (Nat.le_refl _) _)
  rw [← hg]
  have HG := hid hg
  clear hg hal
  go_loopw [6] (fun i wr => ∃ (k : Nat) (T : List Bool), k ≤ p.size ∧ i = .int .i64 (k : Int) ∧ Tab wr g T ∧ TabOk (p.data.toList.take k) T ∧ Below w.heap.size w wr) (fun i _ => p.size - (intOf i).toNat)
  case atStart => exact ⟨0, table0, Nat.zero_le _, rfl, HT0.out, TabOk.start, HB0.out⟩
  case round =>
    obtain ⟨k, T, hk, rfl, ht, hok, hb⟩ := hrel
    by_cases hlt : k < p.size
    · by_cases hasc : p[k].toNat < 128
      · have hcell := ht.cell p[k].toNat (by rw [hok.1]; exact hasc)
        obtain ⟨v0, hv0⟩ : ∃ v0, v0 = T.getD p[k].toNat false := ⟨_, rfl⟩
        rw [← hv0] at hcell
        have hfro := ht.frozen p[k].toNat
        have HTT := hid ht
        have HOK := hid hok
        have HB := hid hb
        have hi : (p[k].toNat : Int) < 128 := by omega
        clear ht hok hb hv0
        go_wp2
        go_roundw
        case rel =>
          exact ⟨k + 1, _, by omega, by go_num, HTT.out.set _ true, by rw [take_snoc p k hlt]; exact HOK.out.low _ hasc, HB.out.setCell (by have := HG.out; simp; omega) _⟩
        case measure => simp [intOf]; omega
      · have HTT := hid ht
        have HOK := hid hok
        have HB := hid hb
        have hi : ¬ (p[k].toNat : Int) < 128 := by omega
        clear ht hok hb
        go_wp2
        go_roundw
        case rel => exact ⟨k + 1, T, by omega, by go_num, HTT.out, by rw [take_snoc p k hlt]; exact HOK.out.high _ hasc, HB.out⟩
        case measure => simp [intOf]; omega
    · have HOK := (show Hid (TabOk p.data.toList T) from by
        rw [List.take_of_length_le (by simp; omega)] at hok
        exact hok)
      have HTT := hid ht
      have HB := hid hb
      clear ht hok hb
      rcases Nat.eq_zero_or_pos s.size with h0 | h0
      · have HN := (show Hid (wordB p.data.toList s.data.toList = false) from by
          have hn : s.data.toList = [] := List.eq_nil_of_length_eq_zero (by simpa using h0)
          show wordB p.data.toList s.data.toList = false
          rw [hn]; rfl)
        have hz : ((s.size : Int) == 0) = true := by rw [beq_iff_eq]; omega
        go_wp2
        go_ret
        exact ⟨ret_bool HN.out.symm, HB.out⟩
      · have hz : ((s.size : Int) == 0) = false := by rw [beq_eq_false_iff_ne]; omega
        go_wp2
        go_loop [7] (fun i => ∃ j : Nat, j ≤ s.size ∧ i = .int .i64 (j : Int) ∧ Hid ((s.data.toList.take j).all (okB p.data.toList) = true)) (fun i => s.size - (intOf i).toNat)
        case atStart => exact ⟨0, Nat.zero_le _, rfl, by show (s.data.toList.take 0).all (okB p.data.toList) = true; simp⟩
        case round =>
          obtain ⟨j, hj, rfl, HA⟩ := hrel
          by_cases hjl : j < s.size
          · have hb255 : (s[j].toNat : Int) ≤ 255 := by have := s[j].toNat_lt; omega
            cases ha : alnum (s[j].toNat : Int) with
            | true =>
              have HOKB := (show Hid (okB p.data.toList s[j] = true) from by show okB p.data.toList s[j] = true; rw [okB, ha]; rfl)
              have HAL := hid ha
              clear ha
              go_wp2_with (go_at_call 25; refine (alnum_is _ true _ (by omega) hb255 HAL).mono ?_; rintro e wr ⟨rfl, rfl⟩)
              go_round
              case rel => exact ⟨j + 1, by omega, by go_num, by show (s.data.toList.take (j + 1)).all (okB p.data.toList) = true; rw [take_snoc s j hjl, all_snoc, HA.out, HOKB.out]; rfl⟩
              case measure => simp [intOf]; omega
            | false =>
              have HAL := hid ha
              by_cases hasc : s[j].toNat < 128
              · have HE := hid (tab_okB HOK.out s[j] hasc ha)
                have hcell := HTT.out.cell s[j].toNat (by rw [HOK.out.1]; exact hasc)
                obtain ⟨v0, hv0⟩ : ∃ v0, v0 = T.getD s[j].toNat false := ⟨_, rfl⟩
                rw [← hv0] at hcell HE
                have hi : (s[j].toNat : Int) < 128 := by omega
                clear ha hv0
                cases v0 with
                | true =>
                  go_wp2_with (go_at_call 25; refine (alnum_is _ false _ (by omega) hb255 HAL).mono ?_; rintro e wr ⟨rfl, rfl⟩)
                  go_round
                  case rel => exact ⟨j + 1, by omega, by go_num, by show (s.data.toList.take (j + 1)).all (okB p.data.toList) = true; rw [take_snoc s j hjl, all_snoc, HA.out, HE.out]; rfl⟩
                  case measure => simp [intOf]; omega
                | false =>
                  have HN := (show Hid (wordB p.data.toList s.data.toList = false) from word_no _ s j hjl HE.out)
                  go_wp2_with (go_at_call 25; refine (alnum_is _ false _ (by omega) hb255 HAL).mono ?_; rintro e wr ⟨rfl, rfl⟩)
                  go_ret
                  exact ⟨ret_bool HN.out.symm, HB.out⟩
              · have HN := (show Hid (wordB p.data.toList s.data.toList = false) from word_no _ s j hjl (by rw [okB, ha]; simp; omega))
                have hi : ¬ (s[j].toNat : Int) < 128 := by omega
                clear ha
                go_wp2_with (go_at_call 25; refine (alnum_is _ false _ (by omega) hb255 HAL).mono ?_; rintro e wr ⟨rfl, rfl⟩)
                go_ret
                exact ⟨ret_bool HN.out.symm, HB.out⟩
          · have HY := (show Hid (wordB p.data.toList s.data.toList = true) from word_yes _ s h0 (by
              have := HA.out
              rwa [List.take_of_length_le (by simp; omega)] at this))
            go_wp2
            go_ret
            exact ⟨ret_bool HY.out.symm, HB.out⟩

end Go.Proofs.Qxb6000448aMods

import Derived.Test.Qxb6601977aModsMem
namespace Go.Proofs.Qxb6601977aMods
open Go.RowKit Num

/-- the digits that a text writes -/
def dgs (l : List UInt8) : List Nat := l.map fun c => (b58v (c.toNat : Int)).toNat

theorem validL_get (s : ByteArray) (k : Nat) (h : k < s.size) (hv : validL s.data.toList = true) : 0 ≤ b58v (s[k].toNat : Int) := by
  rcases Int.lt_or_le (b58v (s[k].toNat : Int)) 0 with h1 | h1
  · rw [validL_false s k h h1] at hv; cases hv
  · exact h1

theorem dgs_snoc (l : List UInt8) (c : UInt8) : dgs (l ++ [c]) = dgs l ++ [(b58v (c.toNat : Int)).toNat] := by simp [dgs]

theorem b58v_lt (c : Int) : b58v c < 58 := by unfold b58v; repeat' split <;> omega

theorem dgs_lt (l : List UInt8) : ∀ x ∈ dgs l, x < 58 := by
  intro x hx
  obtain ⟨c, _, rfl⟩ := List.mem_map.1 hx
  have := b58v_lt (c.toNat : Int)
  omega

def alpha : List UInt8 := [49, 50, 51, 52, 53, 54, 55, 56, 57, 65, 66, 67, 68, 69, 70, 71, 72, 74, 75, 76, 77, 78, 80, 81, 82, 83, 84, 85, 86, 87, 88, 89, 90, 97, 98, 99, 100, 101, 102, 103, 104, 105, 106, 107, 109, 110, 111, 112, 113, 114, 115, 116, 117, 118, 119, 120, 121, 122]

theorem alpha_index : ∀ n : Nat, n < 256 → Lib.indexByte alpha n.toUInt8 = b58v (n : Int) := by decide +kernel

theorem index58_any (c : Int) (d : Nat) (w : World) (h0 : 0 ≤ c) (h1 : c ≤ 255) (hd : Hid (b58v c = d)) :
    Calls Trym.prog 31 #[.string ⟨#[49, 50, 51, 52, 53, 54, 55, 56, 57, 65, 66, 67, 68, 69, 70, 71, 72, 74, 75, 76, 77, 78, 80, 81, 82, 83, 84, 85, 86, 87, 88, 89, 90, 97, 98, 99, 100, 101, 102, 103, 104, 105, 106, 107, 109, 110, 111, 112, 113, 114, 115, 116, 117, 118, 119, 120, 121, 122]⟩, .int .u8 c] w fun e w' => e = .returned (.int .i64 d) ∧ w' = w := by
  refine (indexByte_any _ c w).mono ?_
  rintro e w' ⟨rfl, rfl⟩
  refine ⟨ret_int ?_, rfl⟩
  rw [← hd.out]
  have := alpha_index c.toNat (by omega)
  rw [Int.toNat_of_nonneg h0] at this
  exact this

theorem set_mid (D L : List Nat) (j v : Nat) (hD : D.length = j) (hj : j < L.length) : (D ++ L.drop j).set j v = (D ++ [v]) ++ L.drop (j + 1) := by
  rw [List.set_append, if_neg (by omega), hD, Nat.sub_self, List.drop_eq_getElem_cons hj, List.set_cons_zero, List.append_assoc]
  rfl

theorem Car.len {b T : Nat} {l : List Nat} {c m : Nat} (hb : 1 < b) (h : Car b T l c) (hT : T < b ^ m) : l.length ≤ m := by
  rcases Nat.eq_zero_or_pos l.length with h0 | h0
  · omega
  · have h1 := h.top h0
    have h2 : b ^ (l.length - 1) < b ^ m := by omega
    have := (Nat.pow_lt_pow_iff_right hb).1 h2
    omega

theorem num58_lt (l : List UInt8) (n : Nat) (h : l.length = n) : num 58 (dgs l) < 256 ^ n := by
  have h1 := num_lt 58 (dgs l) (dgs_lt l)
  have h2 : (dgs l).length = n := by simp [dgs, h]
  rw [h2] at h1
  exact Nat.lt_of_lt_of_le h1 (Nat.pow_le_pow_left (by omega) n)

theorem append_below {w wr w1 : World} {ao : Option Addr} {cap : Nat} {M : List Nat} {o : Obj} (hr : Row wr w.heap.size ao cap M) (hb : Below w.heap.size w wr)
    (hg : (wr.alloc o).grownBy w1 (Value.slice ao M.length cap).ownBlock) : Below w.heap.size w w1 := by
  have hsz := hb.size
  refine (hb.alloc hsz o).grown hg (by simp; omega) ?_
  intro k hk
  exact (hr.owns.lt k hk).1

theorem rev_set (L : List Nat) (j x : Nat) (hj : j < L.length) (hx : x = L.getD j 0) :
    (List.replicate (L.length - j) 0 ++ (L.take j).reverse).set (L.length - 1 - j) x = List.replicate (L.length - (j + 1)) 0 ++ (L.take (j + 1)).reverse := by
  have e : L.length - j = (L.length - (j + 1)) + 1 := by omega
  rw [List.set_append, if_pos (by simp; omega), e, List.replicate_succ', List.set_append, if_neg (by simp; omega)]
  rw [List.take_succ_eq_append_getElem hj]
  have e2 : L.length - 1 - j - (List.replicate (L.length - (j + 1)) 0).length = 0 := by simp; omega
  rw [e2, List.set_cons_zero]
  have e3 : x = L[j] := by rw [hx, List.getD_eq_getElem?_getD, List.getElem?_eq_getElem hj]; rfl
  rw [e3, List.reverse_append, List.append_assoc]
  rfl

set_option maxHeartbeats 1000000 in
theorem decode_any (s : ByteArray) (w : World) (hs : s.size ≤ 1048576) (hv : Hid (validL s.data.toList = true)) :
    Calls Trym.prog 30 #[.string s] w fun e w' => ∃ g L, e = .returned (.slice (some ⟨g, 0, none⟩) (List.length L) (List.length L)) ∧ Row w' w.heap.size (some ⟨g, 0, none⟩) L.length L.reverse ∧
      Canon 256 L ∧ val 256 L = num 58 (dgs s.data.toList) ∧ Below w.heap.size w w' := by
  go_enter Trym.func30, Trym.ntmps30
  go_wp2
  go_loopw [3, 4] (fun v i wr => ∃ (k : Nat) (ao : Option Addr) (cap : Nat) (L : List Nat), k ≤ s.size ∧ i = .int .i64 k ∧ v = .slice ao L.length cap ∧ Row wr w.heap.size ao cap L ∧ Canon 256 L ∧ val 256 L = num 58 (dgs (s.data.toList.take k)) ∧ Below w.heap.size w wr ∧ L.length ≤ k) (fun _ i _ => s.size - (intOf i).toNat)
  case atStart => exact ⟨0, none, 0, [], Nat.zero_le _, rfl, rfl, Row.nil _ _, Canon.nil _, by simp [val, num, dgs], Below.refl _ _, by simp⟩
  case round =>
    obtain ⟨k, ao, cap, L, hk, rfl, rfl, hrow, hcan, hval, hbel, hlen⟩ := hrel
    have HR := (show Hid (Row wr w.heap.size ao cap L) from hrow)
    have HC := (show Hid (Canon 256 L) from hcan)
    have HV := (show Hid (val 256 L = num 58 (dgs (s.data.toList.take k))) from hval)
    have HB := (show Hid (Below w.heap.size w wr) from hbel)
    clear hrow hcan hval hbel
    by_cases hlt : k < s.size
    · have hb : (s[k].toNat : Int) ≤ 255 := by have := s[k].toNat_lt; omega
      obtain ⟨d, hd⟩ : ∃ d : Nat, b58v (s[k].toNat : Int) = d := by
        have := validL_get s k hlt hv.out
        exact ⟨_, (Int.toNat_of_nonneg this).symm⟩
      have hd58 : d < 58 := by have := b58v_lt (s[k].toNat : Int); omega
      have HD := (show Hid (b58v (s[k].toNat : Int) = d) from hd)
      clear hd
      go_wp2_with (go_at_call 31; refine (index58_any _ d _ (by omega) (by omega) HD).mono ?_; rintro e wr ⟨rfl, rfl⟩)
      obtain ⟨wo, rfl⟩ : ∃ wo : World, wo = wr := ⟨_, rfl⟩
      go_loopw [5, 22] (fun c i wr => ∃ (j : Nat) (D : List Nat) (c' : Nat), i = .int .i64 j ∧ c = .int .i64 c' ∧ Mul 256 58 L d j D c' ∧ Row wr w.heap.size ao cap (D ++ L.drop j) ∧ Below w.heap.size w wr) (fun _ i _ => L.length - (intOf i).toNat)
      case atStart => exact ⟨0, [], d, rfl, rfl, Mul.start L hd58, HR.out, HB.out⟩
      case round =>
        obtain ⟨j, D, c', rfl, rfl, hmul, hrow, hbel⟩ := hrel
        have hjl := hmul.le
        have hcl := hmul.carry
        by_cases hj : j < L.length
        · obtain ⟨g, rfl, hBg, hgs⟩ := hrow.adr (by simp [hmul.len]; omega)
          obtain ⟨x, hx⟩ : ∃ x : Nat, x = L[j] := ⟨_, rfl⟩
          have hx256 : x < 256 := by rw [hx]; exact HC.out.dig _ (List.getElem_mem hj)
          have hcell : wr.cell? ⟨g, j, none⟩ = some (.int .u8 (x : Int)) := by
            have := hrow.cell j (by simp [hmul.len]; omega)
            rw [List.getD_eq_getElem?_getD, List.getElem?_append_right (by rw [hmul.len]; exact Nat.le_refl _), hmul.len] at this
            simp [hj] at this
            rw [this, hx]
          have hfro := hrow.frozen j
          have HX := (show Hid (x = L[j]) from hx)
          have HM := (show Hid (Mul 256 58 L d j D c') from hmul)
          have HW := (show Hid (Row wr w.heap.size (some ⟨g, 0, none⟩) cap (D ++ L.drop j)) from hrow)
          have HL := (show Hid (Below w.heap.size w wr) from hbel)
          clear hx hmul hrow hbel
          go_wp2
          go_roundw
          case rel =>
            have e1 : ((c' : Int) + x * 58) % 256 = (((c' + x * 58) % 256 : Nat) : Int) := by omega
            have e2 : ((c' : Int) + x * 58) / 256 = (((c' + x * 58) / 256 : Nat) : Int) := by omega
            have hs := HM.out.step hj HC.out.dig
            rw [← HX.out] at hs
            have hr := HW.out.set j ((c' + x * 58) % 256)
            rw [set_mid D L j _ HM.out.len hj] at hr
            refine ⟨j + 1, _, _, by go_num, by rw [e2], hs, ?_, ?_⟩
            · rw [e1]; exact hr
            · exact HL.out.setCell hBg _
          case measure => simp [intOf]; omega
        · have hje : j = L.length := by omega
          have hcar : Car 256 (val 256 L * 58 + d) D c' := by
            subst hje
            exact hmul.car HC.out (by omega)
          have hD : D ++ L.drop j = D := by rw [List.drop_of_length_le (by omega)]; simp
          have hDl : L.length = D.length := by rw [hmul.len]; omega
          have hT : val 256 L * 58 + d = num 58 (dgs (s.data.toList.take (k + 1))) := by
            rw [take_snoc s k hlt, dgs_snoc, num_snoc, HV.out, HD.out]; simp
          rw [hD] at hrow
          rw [hT] at hcar
          have HT := (show Hid (num 58 (dgs (s.data.toList.take (k + 1))) < 256 ^ (k + 1)) from num58_lt _ _ (by simp; omega))
          have HCR := (show Hid (Car 256 (num 58 (dgs (s.data.toList.take (k + 1)))) D c') from hcar)
          have HW := (show Hid (Row wr w.heap.size ao cap D) from hrow)
          have HL := (show Hid (Below w.heap.size w wr) from hbel)
          have HDL := (show Hid (L.length = D.length) from hDl)
          have hj' : ¬ j < L.length := hj
          clear hrow hcar hbel hmul hT hD hDl hje
          go_wp2
          obtain ⟨i0, hi, hz0, hz1, hz2⟩ := info_parts info5
          go_loopw [3, 5] (fun v c wr => ∃ (ao : Option Addr) (cap : Nat) (M : List Nat) (c' : Nat), v = .slice ao M.length cap ∧ c = .int .i64 c' ∧ Car 256 (num 58 (dgs (s.data.toList.take (k + 1)))) M c' ∧ Row wr w.heap.size ao cap M ∧ Below w.heap.size w wr ∧ c' < 58) (fun _ c _ => (intOf c).toNat)
          case atStart => exact ⟨ao, cap, D, c', by rw [HDL.out], rfl, HCR.out, HW.out, HL.out, hcl⟩
          case round => 
            obtain ⟨ao2, cap2, M, c2, rfl, rfl, hcar, hrow, hbel, hc2⟩ := hrel
            have hml := Car.len (by omega) hcar HT.out
            have hsz := hbel.size
            have HCA := (show Hid (Car 256 (num 58 (dgs (s.data.toList.take (k + 1)))) M c2) from hcar)
            have HRW := (show Hid (Row wr w.heap.size ao2 cap2 M) from hrow)
            have HBL := (show Hid (Below w.heap.size w wr) from hbel)
            clear hcar hrow hbel
            by_cases hpos : 0 < c2
            · go_wp2_with (at_builtin; refine wpList_append_own _ rfl _ _ 22 rfl w.heap.size 5 i0 (.int .u8 0) 1 1 Trym.underlying22 hi hz0 hz1 hz2 rfl (by decide) _ _ _ rfl (HRW.out.owns.alloc _) ⟨wr.heap.size, 0, none⟩ 1 1 [.int .u8 (c2 : Int)] rfl rfl (cell_one_new _ _ _) ?c2 ?c3 ?c4 ?c5 ?_)
              case c2 => intro u hu; simp at hu; subst hu; rfl
              case c3 => unfold maxLen; omega
              case c4 => omega
              case c5 => simp; omega
              intro v' w1 hown' hgrow _
              obtain ⟨ao3, cap3, hv3, hrow3⟩ := Row.ofAppend hown'
              have hb3 : Below w.heap.size w w1 := append_below HRW.out HBL.out hgrow
              subst hv3
              have HR3 := (show Hid (Row w1 w.heap.size ao3 cap3 (M ++ [c2])) from hrow3)
              have HB3 := (show Hid (Below w.heap.size w w1) from hb3)
              clear hown' hgrow hrow3 hb3
              go_wp2
              go_roundw
              case rel =>
                have hst := HCA.out.step (by omega) hpos
                rw [Nat.mod_eq_of_lt (show c2 < 256 by omega)] at hst
                exact ⟨ao3, cap3, M ++ [c2], c2 / 256, by simp, by go_num, hst, HR3.out, HB3.out, by omega⟩
              case measure => simp [intOf]; omega
            · have hc0 : c2 = 0 := by omega
              subst hc0
              go_wp2
              go_roundw
              case rel =>
                obtain ⟨h1, h2⟩ := HCA.out.canon
                exact ⟨k + 1, ao2, cap2, M, by omega, by go_num, rfl, HRW.out, h1, h2, HBL.out, hml⟩
              case measure => simp [intOf]; omega
    · obtain ⟨i0, hi, hz0, hz1, hz2⟩ := info_parts info5
      have hsz := HB.out.size
      have hke : k = s.size := by omega
      have HV2 := (show Hid (val 256 L = num 58 (dgs s.data.toList)) from by
        have := HV.out
        rwa [List.take_of_length_le (by simp; omega)] at this)
      clear HV
      go_wp2_with (at_make; refine wpList_make_full _ rfl _ _ 22 rfl w.heap.size 5 i0 (.int .u8 0) 1 Trym.underlying22 hi hz0 hz1 _ _ _ _ L.length rfl rfl rfl rfl (by rw [hz2]; omega) (by unfold maxLen; omega) hsz ?_)
      intro w1 hown1 hgrow1
      have hR1 := Row.ofMake hown1
      have hL1 := HR.out.grown hgrow1
      have hb1 : Below w.heap.size w w1 := HB.out.grown hgrow1 hsz (by simp)
      obtain ⟨g, hg⟩ : ∃ g, g = wr.heap.size := ⟨_, rfl⟩
      rw [← hg] at hR1 ⊢
      have hgB : w.heap.size ≤ g := by omega
      have hne : ∀ g', ao = some ⟨g', 0, none⟩ → g' ≠ g := by
        intro g' h
        rcases HR.out.addr with ⟨h0, _⟩ | ⟨g2, h2, _, hlt2⟩
        · rw [h0] at h; simp at h
        · rw [h2] at h; simp at h; omega
      have HR1 := (show Hid (Row w1 w.heap.size (some ⟨g, 0, none⟩) L.length (List.replicate L.length 0)) from hR1)
      have HL1 := (show Hid (Row w1 w.heap.size ao cap L) from hL1)
      have HB1 := (show Hid (Below w.heap.size w w1) from hb1)
      have HNE := (show Hid (∀ g', ao = some ⟨g', 0, none⟩ → g' ≠ g) from hne)
      clear hR1 hL1 hb1 hown1 hgrow1 hg hne
      go_wp2
      go_loopw [55] (fun i wr => ∃ (j : Nat), j ≤ L.length ∧ i = .int .i64 j ∧ Row wr w.heap.size (some ⟨g, 0, none⟩) L.length (List.replicate (L.length - j) 0 ++ (L.take j).reverse) ∧ Row wr w.heap.size ao cap L ∧ Below w.heap.size w wr) (fun i _ => L.length - (intOf i).toNat)
      case atStart => exact ⟨0, Nat.zero_le _, rfl, by simpa using HR1.out, HL1.out, HB1.out⟩
      case round =>
        obtain ⟨j, hj, rfl, hr, hl, hb⟩ := hrel
        by_cases hjl : j < L.length
        · obtain ⟨g', rfl, hBg, hgs⟩ := hl.adr (by omega)
          have hne : g' ≠ g := HNE.out g' rfl
          obtain ⟨x, hx⟩ : ∃ x : Nat, x = L.getD j 0 := ⟨_, rfl⟩
          have hcell : wr.cell? ⟨g', j, none⟩ = some (.int .u8 (x : Int)) := by rw [hx]; exact hl.cell j hjl
          have hcR : ∃ v, wr.cell? ⟨g, L.length - 1 - j, none⟩ = some (.int .u8 v) := ⟨_, hr.cell _ (by simp; omega)⟩
          obtain ⟨vR, hcR⟩ := hcR
          have hfR := hr.frozen (L.length - 1 - j)
          have HX := (show Hid (x = L.getD j 0) from hx)
          have HRr := (show Hid (Row wr w.heap.size (some ⟨g, 0, none⟩) L.length (List.replicate (L.length - j) 0 ++ (L.take j).reverse)) from hr)
          have HLr := (show Hid (Row wr w.heap.size (some ⟨g', 0, none⟩) cap L) from hl)
          have HBr := (show Hid (Below w.heap.size w wr) from hb)
          clear hx hr hl hb
          go_wp2
          go_roundw
          case rel =>
            have h1 := HRr.out.set (L.length - 1 - j) x
            rw [rev_set L j x hjl HX.out] at h1
            exact ⟨j + 1, by omega, by go_num, h1, HLr.out.setOther (fun g2 h2 => by simp at h2; simp; omega) _, HBr.out.setCell hgB _⟩
          case measure => simp [intOf]; omega
        · have hje : j = L.length := by omega
          subst hje
          have HRr := (show Hid (Row wr w.heap.size (some ⟨g, 0, none⟩) L.length L.reverse) from by show Row wr w.heap.size (some ⟨g, 0, none⟩) L.length L.reverse; simpa using hr)
          have HBr := (show Hid (Below w.heap.size w wr) from hb)
          clear hr hl hb
          go_wp2
          go_ret
          exact ⟨g, L, rfl, HRr.out, HC.out, HV2.out, HBr.out⟩
end Go.Proofs.Qxb6601977aMods

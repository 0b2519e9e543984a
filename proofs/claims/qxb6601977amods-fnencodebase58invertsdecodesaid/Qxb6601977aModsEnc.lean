import Derived.Test.Qxb6601977aModsEq
import Derived.Laws.BytesArg
namespace Go.Proofs.Qxb6601977aMods
open Go.RowKit Num

/-- the base58 digit of a value -/
def chr (d : Nat) : UInt8 := alpha.getD d 0
/-- its byte, as a number -/
def chrN (d : Nat) : Nat := (chr d).toNat

theorem Sees.lt {w : World} {ao : Option Addr} {n : Nat} {l : List Nat} (h : Sees w ao n l) (hn : 0 < n) : ∀ b o, ao = some ⟨b, o, none⟩ → b < w.heap.size := by
  intro b o he
  obtain ⟨b', o', h1, h2⟩ := h.2 0 hn
  rw [he] at h1
  simp at h1
  obtain ⟨rfl, rfl⟩ := h1
  exact World.block_lt_of_cell? w ⟨b, o + 0, none⟩ (h2 0 hn)

theorem num256_lt (X : List Nat) (k : Nat) (hX : ∀ x ∈ X, x < 256) (hk : X.length = k) : num 256 X < 58 ^ (2 * k) := by
  have h1 := num_lt 256 X hX
  rw [hk] at h1
  have h2 : (256 : Nat) ^ k ≤ (58 ^ 2) ^ k := Nat.pow_le_pow_left (by omega) k
  rw [← Nat.pow_mul] at h2
  omega

theorem chr_at (x : Nat) (h : x < 58) : (({ data := #[49, 50, 51, 52, 53, 54, 55, 56, 57, 65, 66, 67, 68, 69, 70, 71, 72, 74, 75, 76, 77, 78, 80, 81, 82, 83, 84, 85, 86, 87, 88, 89, 90, 97, 98, 99, 100, 101, 102, 103, 104, 105, 106, 107, 109, 110, 111, 112, 113, 114, 115, 116, 117, 118, 119, 120, 121, 122] } : ByteArray)[x]'h).toNat = chrN x := by
  unfold chrN chr
  rw [List.getD_eq_getElem?_getD, List.getElem?_eq_getElem (show x < alpha.length from h)]
  rfl

theorem chrN_get (L : List Nat) (j x : Nat) (hj : j < L.length) (hx : x = L[j]) : chrN x = (L.map chrN).getD j 0 := by
  rw [List.getD_eq_getElem?_getD, List.getElem?_map, List.getElem?_eq_getElem hj, hx]
  rfl

theorem str_chr (L : List Nat) : (strOfNums ((L.map chrN).reverse.map Int.ofNat)).data.toList = (List.reverse L).map chr := by
  rw [strOfNums_data, ← List.map_reverse, List.map_map, List.map_map]
  apply List.map_congr_left
  intro d _
  simp [chrN]

set_option maxHeartbeats 1000000 in
theorem encode_any (ao : Option Addr) (n c : Nat) (X : List Nat) (w : World) (hn : n ≤ 1048576) (hx : Hid (Sees w ao n X)) (hX : Hid (∀ x ∈ X, x < 256)) :
    Calls Trym.prog 27 #[.slice ao n c] w fun e w' => ∃ s' L, e = .returned (.string s') ∧ s'.data.toList = (List.reverse L).map chr ∧ Canon 58 L ∧ val 58 L = num 256 X ∧ Below w.heap.size w w' := by
  obtain ⟨i0, hi, hz0, hz1, hz2⟩ := info_parts info5
  have HXL := hid hx.out.1
  go_enter Trym.func27, Trym.ntmps27
  go_wp2
  go_loopw [3, 13] (fun v i wr => ∃ (k : Nat) (ao : Option Addr) (cap : Nat) (L : List Nat), k ≤ n ∧ i = .int .i64 k ∧ v = .slice ao L.length cap ∧ Row wr w.heap.size ao cap L ∧ Canon 58 L ∧ val 58 L = num 256 (X.take k) ∧ Below w.heap.size w wr ∧ L.length ≤ 2 * k) (fun _ i _ => n - (intOf i).toNat)
  case atStart => exact ⟨0, none, 0, [], Nat.zero_le _, rfl, rfl, Row.nil _ _, Canon.nil _, by simp [val, num], Below.refl _ _, by simp⟩
  case round =>
    obtain ⟨k, av, cap, L, hk, rfl, rfl, hrow, hcan, hval, hbel, hlen⟩ := hrel
    have HR := hid hrow
    have HC := hid hcan
    have HV := hid hval
    have HB := hid hbel
    clear hrow hcan hval hbel
    by_cases hlt : k < n
    · obtain ⟨b, o, rfl, hc⟩ := hx.out.2 k hlt
      obtain ⟨d, hd⟩ : ∃ d : Nat, d = X.getD k 0 := ⟨_, rfl⟩
      have hcx : wr.cell? ⟨b, o + k, none⟩ = some (.int .u8 (d : Int)) := by
        rw [HB.out.cell (p := ⟨b, o + k, none⟩) (hx.out.lt (by omega) b o rfl), hd]
        exact hc k hlt
      have hkX : k < X.length := by rw [HXL.out]; exact hlt
      have hdX : d = X[k] := by rw [hd, List.getD_eq_getElem?_getD, List.getElem?_eq_getElem hkX]; rfl
      have hd256 : d < 256 := by rw [hdX]; exact hX.out _ (List.getElem_mem hkX)
      have HD := hid hdX
      clear hc hd hdX
      go_wp2
      go_loopw [6, 21] (fun c i wr => ∃ (j : Nat) (D : List Nat) (c' : Nat), i = .int .i64 j ∧ c = .int .i64 c' ∧ Mul 58 256 L d j D c' ∧ Row wr w.heap.size av cap (D ++ L.drop j) ∧ Below w.heap.size w wr) (fun _ i _ => L.length - (intOf i).toNat)
      case atStart => exact ⟨0, [], d, rfl, rfl, Mul.start L hd256, HR.out, HB.out⟩
      case round =>
        obtain ⟨j, D, c', rfl, rfl, hmul, hrow, hbel⟩ := hrel
        have hjl := hmul.le
        have hcl := hmul.carry
        by_cases hj : j < L.length
        · obtain ⟨g, rfl, hBg, hgs⟩ := hrow.adr (by simp [hmul.len]; omega)
          obtain ⟨x, hxx⟩ : ∃ x : Nat, x = L[j] := ⟨_, rfl⟩
          have hx58 : x < 58 := by rw [hxx]; exact HC.out.dig _ (List.getElem_mem hj)
          have hcell : wr.cell? ⟨g, j, none⟩ = some (.int .u8 (x : Int)) := by
            have := hrow.cell j (by simp [hmul.len]; omega)
            rw [List.getD_eq_getElem?_getD, List.getElem?_append_right (by rw [hmul.len]; exact Nat.le_refl _), hmul.len] at this
            simp [hj] at this
            rw [this, hxx]
          have hfro := hrow.frozen j
          have HXX := hid hxx
          have HM := hid hmul
          have HW := hid hrow
          have HL := hid hbel
          clear hxx hmul hrow hbel
          go_wp2
          go_roundw
          case rel =>
            have e1 : ((c' : Int) + x * 256) % 58 = (((c' + x * 256) % 58 : Nat) : Int) := by omega
            have e2 : ((c' : Int) + x * 256) / 58 = (((c' + x * 256) / 58 : Nat) : Int) := by omega
            have hs := HM.out.step hj HC.out.dig
            rw [← HXX.out] at hs
            have hr := HW.out.set j ((c' + x * 256) % 58)
            rw [set_mid D L j _ HM.out.len hj] at hr
            refine ⟨j + 1, _, _, by go_num, by rw [e2], hs, ?_, ?_⟩
            · rw [e1]; exact hr
            · exact HL.out.setCell hBg _
          case measure => simp [intOf]; omega
        · have hje : j = L.length := by omega
          have hcar : Car 58 (val 58 L * 256 + d) D c' := by
            subst hje
            exact hmul.car HC.out (by omega)
          have hD : D ++ L.drop j = D := by rw [List.drop_of_length_le (by omega)]; simp
          have hDl : L.length = D.length := by rw [hmul.len]; omega
          have hT : val 58 L * 256 + d = num 256 (X.take (k + 1)) := by
            rw [List.take_succ_eq_append_getElem hkX, num_snoc, HV.out, HD.out]
          rw [hD] at hrow
          rw [hT] at hcar
          have HT := hid (num256_lt (X.take (k + 1)) (k + 1) (fun x h => hX.out x (List.mem_of_mem_take h)) (by simp; omega))
          have HCR := hid hcar
          have HW := hid hrow
          have HL := hid hbel
          have HDL := hid hDl
          have hj' : ¬ j < L.length := hj
          clear hrow hcar hbel hmul hT hD hDl hje
          go_wp2
          go_loopw [3, 6] (fun v c wr => ∃ (ao : Option Addr) (cap : Nat) (M : List Nat) (c' : Nat), v = .slice ao M.length cap ∧ c = .int .i64 c' ∧ Car 58 (num 256 (X.take (k + 1))) M c' ∧ Row wr w.heap.size ao cap M ∧ Below w.heap.size w wr ∧ c' < 256) (fun _ c _ => (intOf c).toNat)
          case atStart => exact ⟨av, cap, D, c', by rw [HDL.out], rfl, HCR.out, HW.out, HL.out, hcl⟩
          case round =>
            obtain ⟨ao2, cap2, M, c2, rfl, rfl, hcar, hrow, hbel, hc2⟩ := hrel
            have hml := Car.len (by omega) hcar HT.out
            have hsz := hbel.size
            have HCA := hid hcar
            have HRW := hid hrow
            have HBL := hid hbel
            clear hcar hrow hbel
            by_cases hpos : 0 < c2
            · go_wp2_with (at_builtin; refine wpList_append_own _ rfl _ _ 22 rfl w.heap.size 5 i0 (.int .u8 0) 1 1 Trym.underlying22 hi hz0 hz1 hz2 rfl (by decide) _ _ _ rfl (HRW.out.owns.alloc _) ⟨wr.heap.size, 0, none⟩ 1 1 [.int .u8 ((c2 : Int) % 58)] rfl rfl (cell_one_new _ _ _) ?c2 ?c3 ?c4 ?c5 ?_)
              case c2 => intro u hu; simp at hu; subst hu; rfl
              case c3 => unfold maxLen; omega
              case c4 => omega
              case c5 => simp; omega
              intro v' w1 hown' hgrow _
              have em : (c2 : Int) % 58 = ((c2 % 58 : Nat) : Int) := by omega
              rw [em] at hown'
              obtain ⟨ao3, cap3, hv3, hrow3⟩ := Row.ofAppend hown'
              have hb3 : Below w.heap.size w w1 := append_below HRW.out HBL.out hgrow
              subst hv3
              have HR3 := hid hrow3
              have HB3 := hid hb3
              clear hown' hgrow hrow3 hb3 em
              go_wp2
              go_roundw
              case rel =>
                have hst := HCA.out.step (by omega) hpos
                exact ⟨ao3, cap3, M ++ [c2 % 58], c2 / 58, by simp, by go_num, hst, HR3.out, HB3.out, by omega⟩
              case measure => simp [intOf]; omega
            · have hc0 : c2 = 0 := by omega
              subst hc0
              go_wp2
              go_roundw
              case rel =>
                obtain ⟨h1, h2⟩ := HCA.out.canon
                exact ⟨k + 1, ao2, cap2, M, by omega, by go_num, rfl, HRW.out, h1, h2, HBL.out, hml⟩
              case measure => simp [intOf]; omega
    · have hsz := HB.out.size
      have hke : k = n := by omega
      have HV2 := (show Hid (val 58 L = num 256 X) from by
        have := HV.out
        rwa [List.take_of_length_le (by rw [HXL.out]; omega)] at this)
      clear HV
      go_wp2_with (at_make; refine wpList_make_full _ rfl _ _ 22 rfl w.heap.size 5 i0 (.int .u8 0) 1 Trym.underlying22 hi hz0 hz1 _ _ _ _ L.length rfl rfl rfl rfl (by rw [hz2]; omega) (by unfold maxLen; omega) hsz ?_)
      intro w1 hown1 hgrow1
      have hR1 := Row.ofMake hown1
      have hL1 := HR.out.grown hgrow1
      have hb1 : Below w.heap.size w w1 := HB.out.grown hgrow1 hsz (by simp)
      obtain ⟨g, hg⟩ : ∃ g, g = wr.heap.size := ⟨_, rfl⟩
      rw [← hg] at hR1 ⊢
      have hgB : w.heap.size ≤ g := by omega
      have hne : ∀ g', av = some ⟨g', 0, none⟩ → g' ≠ g := by
        intro g' h
        rcases HR.out.addr with ⟨h0, _⟩ | ⟨g2, h2, _, hlt2⟩
        · rw [h0] at h; simp at h
        · rw [h2] at h; simp at h; omega
      have HR1 := hid hR1
      have HL1 := hid hL1
      have HB1 := hid hb1
      have HNE := hid hne
      clear hR1 hL1 hb1 hown1 hgrow1 hg hne
      go_wp2
      go_loopw [57] (fun i wr => ∃ (j : Nat), j ≤ L.length ∧ i = .int .i64 j ∧ Row wr w.heap.size (some ⟨g, 0, none⟩) L.length (List.replicate (L.length - j) 0 ++ ((L.map chrN).take j).reverse) ∧ Row wr w.heap.size av cap L ∧ Below w.heap.size w wr) (fun i _ => L.length - (intOf i).toNat)
      case atStart => exact ⟨0, Nat.zero_le _, rfl, by simpa using HR1.out, HL1.out, HB1.out⟩
      case round =>
        obtain ⟨j, hj, rfl, hr, hl, hb⟩ := hrel
        by_cases hjl : j < L.length
        · obtain ⟨g', rfl, hBg, hgs⟩ := hl.adr (by omega)
          have hne : g' ≠ g := HNE.out g' rfl
          obtain ⟨x, hx0⟩ : ∃ x : Nat, x = L.getD j 0 := ⟨_, rfl⟩
          have hxj : x = L[j] := by rw [hx0, List.getD_eq_getElem?_getD, List.getElem?_eq_getElem hjl]; rfl
          have hx58 : x < 58 := by rw [hxj]; exact HC.out.dig _ (List.getElem_mem hjl)
          have hcell : wr.cell? ⟨g', j, none⟩ = some (.int .u8 (x : Int)) := by rw [hx0]; exact hl.cell j hjl
          have hcR : ∃ v, wr.cell? ⟨g, L.length - 1 - j, none⟩ = some (.int .u8 v) := ⟨_, hr.cell _ (by simp; omega)⟩
          obtain ⟨vR, hcR⟩ := hcR
          have hfR := hr.frozen (L.length - 1 - j)
          have HXJ := hid hxj
          have HRr := hid hr
          have HLr := hid hl
          have HBr := hid hb
          clear hx0 hr hl hb hxj
          go_wp2
          go_roundw
          case rel =>
            have h1 := HRr.out.set (L.length - 1 - j) (chrN x)
            have h2 := rev_set (L.map chrN) j (chrN x) (by simpa using hjl) (chrN_get L j x hjl HXJ.out)
            rw [List.length_map] at h2
            rw [h2] at h1
            refine ⟨j + 1, by omega, by go_num, ?_, ?_, ?_⟩
            · rw [chr_at x hx58]; exact h1
            · exact HLr.out.setOther (fun g2 h2 => by simp at h2; simp; omega) _
            · exact HBr.out.setCell hgB _
          case measure => simp [intOf]; omega
        · have hje : j = L.length := by omega
          subst hje
          have hr' : Row wr w.heap.size (some ⟨g, 0, none⟩) L.length (L.map chrN).reverse := by
            rw [Nat.sub_self, List.take_of_length_le (by simp)] at hr
            simpa using hr
          have hconv := run_convert_bytes_arg (P := Trym.prog) wr 22 5 Trym.underlying22 Trym.underlying5 g 0 L.length L.length ((L.map chrN).reverse.map Int.ofNat) (by simp) (by
            intro i hi
            rw [Nat.zero_add, hr'.cell i (by simpa using hi)]
            congr 2
            rw [List.getD_eq_getElem?_getD, List.getD_eq_getElem?_getD, List.getElem?_map, List.getElem?_eq_getElem (by simpa using hi)]
            rfl) 9 Trym.underlying9
          obtain ⟨s', hs'⟩ : ∃ s', s' = strOfNums ((L.map chrN).reverse.map Int.ofNat) := ⟨_, rfl⟩
          rw [← hs'] at hconv
          have HS := (show Hid (s'.data.toList = (List.reverse L).map chr) from by rw [hs']; exact str_chr L)
          have HBr := hid hb
          clear hr hl hb hs' hr'
          go_wp2
          go_ret
          exact ⟨s', L, rfl, HS.out, HC.out, HV2.out, HBr.out⟩
end Go.Proofs.Qxb6601977aMods

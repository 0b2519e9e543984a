import Derived.Test.Qxb6604128aModsSupp
namespace Go.Proofs.Qxb6604128aMods
open Go.RowKit Nl

theorem sees_drawn {k : IntKind} {w wr : World} {r : Nat} {ao : Option Addr} {n : Nat} {l : List Nat} (h : wr = w.drewN r) (hs : Sees k w ao n l) : Sees k wr ao n l := by
  rw [h]; exact hs

set_option maxHeartbeats 4000000 in
set_option maxRecDepth 100000 in
theorem main_some (al : Option Addr) (a1 : Addr) (nl cl m c : Nat) (A : Nat → Option Addr) (N C : Nat → Nat) (X : Nat → List Nat) (D : List Nat) (w : World)
    (hl : Hid (LArg w al nl cl A N C X)) (hs : Hid (Sees .u8 w (some a1) m D)) (hDb : Hid (∀ x ∈ D, x < 256)) (hnl : nl ≤ 65536) (hm : m ≤ 1048576) (hwh : Hid (wholeB D = true)) :
    Calls Trym.prog 3 #[.slice al nl cl, .slice (some a1) m c] w fun e w' => e = .returned (.bool true) ∧ Below w.heap.size w w' := by
  have hqd := fun (w : World) (a : Option Addr) (n c : Nat) => Lib.run_eql_slice_nil (P := Trym.prog) w 23 5 a n c 0 0 Trym.underlying23
  have hqn := fun (w : World) (a : Option Addr) (n c : Nat) => run_neq_slice_nil_any (P := Trym.prog) w 23 5 a n c 0 0 Trym.underlying23
  have hql := fun (w : World) (a : Option Addr) (n c : Nat) => Lib.run_eql_slice_nil (P := Trym.prog) w 22 23 a n c 0 0 Trym.underlying22
  obtain ⟨i0, hi, hz0, hz1, hz2⟩ := info_parts info5
  have HL := hid hs.out.1
  have hwc := whole_any (some a1) m c D w hs hm
  rw [hwh.out] at hwc
  have HWC := hid hwc
  clear hwc
  go_enter Trym.func3, Trym.ntmps3
  go_wp2_with fail
  refine (zz5_any al (some a1) nl cl m c A N C X _ hl (by unfold maxLen; omega) (by unfold maxLen; omega)).mono ?_
  rintro e w ⟨⟨b, rfl⟩, rfl⟩
  cases b with
  | false =>
    go_wp2
    go_ret
    exact ⟨rfl, Below.refl _ _⟩
  | true =>
    go_wp2_with fail
    refine (size_any al (some a1) nl cl m c A N C X _ hl hnl hm).mono ?_
    rintro e w ⟨z, rfl, HZ, hz, rfl⟩
    by_cases hzz : z ≤ 1048576
    · have HN := hid (HZ.out hzz)
      go_wp2_with fail
      refine HWC.out.mono ?_
      rintro e w ⟨rfl, rfl⟩
      clear HZ HWC
      go_wp2_with (at_make; refine wpList_make_full _ rfl _ _ 23 rfl w.heap.size 5 i0 (.int .u8 0) 1 Trym.underlying23 hi hz0 hz1 _ _ _ _ m rfl rfl rfl rfl (by rw [hz2]; omega) (by unfold maxLen; omega) (Nat.le_refl _) ?_)
      intro w1 hown1 hgrow1
      have hR1 := Blk.ofMake hown1
      have hb1 : Below w.heap.size w w1 := (Below.refl _ _).grown hgrow1 (Nat.le_refl _) (by simp)
      obtain ⟨g, hg⟩ : ∃ g, g = w.heap.size := ⟨_, rfl⟩
      rw [← hg] at hR1 ⊢
      obtain ⟨w2, hcp, hR2, hb2⟩ := copy_eq (a := a1) (c := c) hs.out hR1 hb1 (by omega)
      have HG := hid hg
      have HSD := (show Hid (Sees .u8 w2 (some ⟨g, 0, none⟩) m D) from by
        have h := hR2.sees
        rw [HL.out] at h
        exact h)
      have HBA := hid hb2
      have HDLT := (show Hid (∀ b o, (some ⟨g, 0, none⟩ : Option Addr) = some ⟨b, o, none⟩ → b < w2.heap.size) from fun b o he => by simp at he; have := hR2.lt; omega)
      have hcd : m ≤ m := Nat.le_refl _
      have HLA := hid (hl.out.later hb2)
      clear hown1 hgrow1 hR1 hb1 hg hR2 hb2
      go_wp2_with fail
      refine (cloneLines_any al nl cl A N C X _ hnl HLA HN).mono ?_
      rintro e w3 ⟨ao, co, xs1, rfl, ho1, hc1, hn1, hb3⟩
      have HV1 := hid (SeesV.ofOwns ho1)
      have HC1 := hid hc1
      have HB3 := hid hb3
      have HN1 := hid hn1
      clear ho1 hc1 hb3 hn1
      go_wp2_with fail
      refine (cloneLines_any al nl cl A N C X _ hnl (HLA.out.later HB3.out) HN).mono ?_
      rintro e w4 ⟨ag, cg, xs2, rfl, ho2, hc2, hn2, hb4⟩
      have HO2 := hid ho2
      have HC2 := hid hc2
      have HN2 := hid hn2
      have HB4 := hid hb4
      have HSD4 := hid ((HSD.out.later HB3.out).later HB4.out)
      clear ho2 hc2 hn2 hb4
      obtain ⟨zn, hzn⟩ : ∃ zn, ag.isNone = zn := ⟨_, rfl⟩
      have HZN := hid hzn
      go_wp2_with fail
      refine (ends_any _ _ _ D _ HSD4 (by omega)).mono ?_
      rintro e w5 ⟨ae, cape, E, rfl, hrow, hto, hb5⟩
      have hEl := len_le hto
      have HW := (show Hid (Whole D E) from by
        refine Whole.of (by rw [HL.out]; exact hto) ?_
        have := hwh.out
        simpa [wholeB] using this)
      have HEO := hid hrow
      have HB5 := hid hb5
      have HO5 := (show Hid (w5.ownsRow w3.heap.size 23 1 (.slice ag nl cg) nl xs2) from HO2.out.kept (row := none) ⟨hb5.os, hb5.tape, hb5.output, hb5.size, fun k hk _ => hb5.block k hk⟩ (by cases (Value.slice ag nl cg).ownBlock <;> simp))
      have HSD5 := hid (HSD4.out.later hb5)
      clear hrow hto hb5
      go_wp2_with fail
      refine (count_any nl E.length _ (by omega)).mono ?_
      rintro e w5 ⟨rfl, rfl⟩
      obtain ⟨k, hk⟩ : ∃ k, k = cnt nl E.length := ⟨_, rfl⟩
      rw [← hk]
      have HK := hid hk
      have hkE : k ≤ E.length := by rw [hk]; exact cnt_le _ _
      clear hk
      go_wp2_with fail
      refine (zzcut0 ag _ nl cg w3.heap.size m _ xs2 D E _ HO5 (Nat.le_trans HB4.out.size HB5.out.size) (by omega) hm HL hDb HSD5 HW hcd (show Hid _ from fun b o he hb => (by
        have h1 := HDLT.out b o he
        have h2 := (HO5.out.lt b hb.symm).1
        have h3 := HB3.out.size
        omega))).mono ?_
      rintro e w6 ⟨j, av, capv, vs, ad', c', bd, od, rfl, ho6, hl6, hbd6, hg6, hj6, hs6, hnn6, hni6, hrest6⟩
      have hkj : k = j := HK.out.trans hj6.symm
      subst hkj
      have hb36 : Below w3.heap.size w3 w6 := (HB4.out.trans (HB5.out.mono HB4.out.size)).grown hg6 (Nat.le_trans HB4.out.size HB5.out.size) (fun k hk => (HO5.out.lt k hk).1)
      have HV1' := hid (HV1.out.later hb36)
      have HC1' := hid (HC1.out.later hb36)
      have HSD6 := hid ((HSD.out.later HB3.out).later hb36)
      have HE6 := hid (HEO.out.sees.grown hg6 (fun b o he hb => by
        have h1 := (HEO.out.owns.lt b (by rw [he]; rfl)).1
        have h2 := (HO2.out.lt b hb.symm).2
        omega))
      have HC2' := hid ((HC2.out.later HB5.out).grown hg6)
      have HV6 := hid (SeesV.ofOwns ho6)
      have HBZ := hid ((HBA.out.trans (HB3.out.mono HBA.out.size)).trans (hb36.mono (Nat.le_trans HBA.out.size HB3.out.size)))
      have HLN := hid hl6
      have HBD6 := hid hbd6
      have HRS := hid (rest_sees HSD6.out HL.out HW.out hkE hrest6)
      have HNI := hid hni6
      have HAVF := (show Hid (ag.isNone = false → av.isNone = false) from fun h => by
        rcases Nat.eq_zero_or_pos k with h0 | h0
        · have := hs6 h0
          simp only [Value.slice.injEq] at this
          rw [this.1]; exact h
        · obtain ⟨x, hx⟩ := hnn6 h0
          rw [hx]; rfl)
      have HAV0 := (show Hid (k = 0 → av.isNone = ag.isNone) from fun h => by
        have := hs6 h
        simp only [Value.slice.injEq] at this
        rw [this.1])
      have HAVP := (show Hid (0 < k → av.isNone = false) from fun h => by
        obtain ⟨x, hx⟩ := hnn6 h
        rw [hx]; rfl)
      have HEB := (show Hid (∀ q, q < E.length → E.getD q 0 ≤ 2097152) from fun q hq => by have := (HW.out.pos q hq).2.1; have := HL.out; omega)
      have hne1 : (((nl : Int) + (k : Int)) != ((nl : Int) + (k : Int))) = false := by simp
      have hkb : k ≤ 1048576 := by have := HL.out; omega
      clear ho6 hl6 hbd6 hg6 hj6 hs6 hnn6 hni6 hrest6 hb36 HV1 HC1 HSD HC2 HO2 HO5 HSD4 HSD5 HEO HDLT hzn
      have hsplit : (zn = false ∧ av.isNone = false) ∨ (zn = true ∧ ((k : Int) == 0) = true ∧ av.isNone = true) ∨ (zn = true ∧ ((k : Int) == 0) = false ∧ av.isNone = false) := by
        cases hz : zn with
        | false => exact .inl ⟨rfl, HAVF.out (by rw [HZN.out, hz])⟩
        | true =>
          rcases Nat.eq_zero_or_pos k with h0 | h0
          · exact .inr (.inl ⟨rfl, by rw [h0]; rfl, by rw [HAV0.out h0, HZN.out, hz]⟩)
          · exact .inr (.inr ⟨rfl, by rw [beq_eq_false_iff_ne]; omega, HAVP.out h0⟩)
      rcases hsplit with ⟨rfl, hav⟩ | ⟨rfl, hkz, hav⟩ | ⟨rfl, hkz, hav⟩
      all_goals
        go_wp2
        have HAV := hid hav
        clear hav
        try clear hkz
        go_loopw [13] (fun i wr => ∃ (t r : Nat), i = .int .i64 (t : Int) ∧ t ≤ nl ∧ Hid (wr = w6.drewN r)) (fun i _ => nl - (intOf i).toNat)
        case atStart => exact ⟨0, 0, rfl, Nat.zero_le _, rfl⟩
        case round =>
          obtain ⟨t, r, rfl, htn, HWR⟩ := hrel
          by_cases ht : t < nl
          · obtain ⟨bo, oo, rfl, _, hco⟩ := HV1'.out.2 t ht
            obtain ⟨bg, og, rfl, _, hcg⟩ := HV6.out.2 t (by omega)
            obtain ⟨a1', c1', e1, s1, i1, _⟩ := HC1'.out.2 t ht
            obtain ⟨a2', c2', e2, s2, i2, _⟩ := HC2'.out.2 t ht
            have h1 : wr.cell? ⟨bo, oo + t, none⟩ = some (.slice a1' (N t) c1') := by
              rw [HWR.out]
              show w6.cell? ⟨bo, oo + t, none⟩ = _
              rw [hco t ht, e1]
            have h2 : wr.cell? ⟨bg, og + t, none⟩ = some (.slice a2' (N t) c2') := by
              rw [HWR.out]
              show w6.cell? ⟨bg, og + t, none⟩ = _
              rw [hcg t (by omega), List.getElem?_append_left (by rw [HC2'.out.1]; exact ht), e2]
            have S1 := (show Hid (Sees .u8 wr a1' (N t) (X t)) from by show Sees .u8 wr a1' (N t) (X t); rw [HWR.out]; exact s1)
            have S2 := (show Hid (Sees .u8 wr a2' (N t) (X t)) from by show Sees .u8 wr a2' (N t) (X t); rw [HWR.out]; exact s2)
            have HII := (show Hid (a2'.isNone = a1'.isNone) from by show a2'.isNone = a1'.isNone; rw [i1, i2])
            have hNt := HN.out t ht
            have ht0' : (0 : Int) ≤ (t : Int) := by omega
            have htn' : (t : Int) < (nl : Int) := by omega
            have htk' : (t : Int) < (nl : Int) + (k : Int) := by omega
            clear hco hcg e1 e2 s1 s2 i1 i2
            go_wp2
            go_quiet ((go_at_call 12; exact Calls.quiet_of (same_any _ _ _ _ _ (X t) _ S2 S1 (by omega) HII.out)))
            go_wp2
            go_roundw
            case rel => exact ⟨t + 1, r + nq, by go_num, by omega, (by show wr.drewN nq = w6.drewN (r + nq); rw [HWR.out, World.drewN_drewN])⟩
            case measure => simp [intOf]; omega
          · go_wp2
            go_loopw [14] (fun i wr => ∃ (p r : Nat), i = .int .i64 (p : Int) ∧ p ≤ k ∧ Hid (wr = w6.drewN r)) (fun i _ => k - (intOf i).toNat)
            case atStart => exact ⟨0, r, rfl, Nat.zero_le _, HWR⟩
            case round =>
              obtain ⟨p, r2, rfl, hpk, HWR2⟩ := hrel
              by_cases hp : p < k
              · have hpE : p < E.length := by omega
                have HDA := HBD6.out (by omega)
                obtain ⟨be, oe, rfl, hce⟩ := HE6.out.2 p hpE
                obtain ⟨bg, og, rfl, _, hcg⟩ := HV6.out.2 (nl + p) (by omega)
                obtain ⟨x, hx⟩ : ∃ x : Nat, x = E.getD p 0 := ⟨_, rfl⟩
                obtain ⟨S, hS⟩ : ∃ S : Nat, S = st E p := ⟨_, rfl⟩
                have hpp := HW.out.pos p hpE
                rw [← hx, ← hS] at hpp
                obtain ⟨ct, hct⟩ := HLN.out.2 p hp
                rw [Nat.zero_add, ← hx, ← hS] at hct
                have h1 : wr.cell? ⟨be, oe + p, none⟩ = some (.int .i64 (x : Int)) := by
                  rw [HWR2.out]
                  show w6.cell? ⟨be, oe + p, none⟩ = _
                  rw [hce p hpE, hx]
                have h2 : wr.cell? ⟨bg, og + (nl + p), none⟩ = some (.slice (some ⟨bd, od + S, none⟩) (x - S) ct) := by
                  rw [HWR2.out]
                  show w6.cell? ⟨bg, og + (nl + p), none⟩ = _
                  rw [hcg (nl + p) (by omega), List.getElem?_append_right (by rw [HC2'.out.1]; omega), HC2'.out.1, Nat.add_sub_cancel_left]
                  exact hct
                have HDW := (show Hid (Sees .u8 wr (some ⟨bd, od, none⟩) m D) from by
                  show Sees .u8 wr (some ⟨bd, od, none⟩) m D
                  rw [HWR2.out, ← HDA]; exact HSD6.out)
                have HDW0 := hid (sees_drawn HWR2.out HSD6.out)
                have HEW := (show Hid (Sees .i64 wr (some ⟨be, oe, none⟩) E.length E) from by
                  show Sees .i64 wr (some ⟨be, oe, none⟩) E.length E
                  rw [HWR2.out]; exact HE6.out)
                have HLS := (show Hid (Sees .u8 wr (some ⟨bd, od + S, none⟩) (x - S) ((D.drop S).take (x - S))) from by
                  have hD3 := HDW.out
                  rw [← HL.out] at hD3
                  have := line_sees hD3 HW.out p hpE
                  rw [← hx, ← hS] at this
                  exact this)
                have HSA := (show Hid (∀ i, i < x - S → ((D.drop S).take (x - S)).getD i 0 = D.getD (S + i) 0) from line_same D S (x - S))
                have HCS := (show Hid (∀ w', Sees .i64 w' (some ⟨be, oe, none⟩) E.length E → Calls Trym.prog 14 #[.slice (some ⟨be, oe, none⟩) E.length cape, .int .i64 (p : Int)] w' fun e w'' => e = .returned (.int .i64 (S : Int)) ∧ w'' = w') from fun w' h => by
                  have := start_any (some ⟨be, oe, none⟩) E.length cape p E w' h (by omega) (by omega) HEB.out
                  rw [← hS] at this
                  exact this)
                have HTO := (show Hid ((x : Int) = (S : Int) + ((x - S : Nat) : Int)) from by have := hpp.1; show (x : Int) = (S : Int) + ((x - S : Nat) : Int); omega)
                have HLE := (show Hid (S + (x - S) ≤ m) from by have := hpp.1; have := hpp.2.1; have := HL.out; show S + (x - S) ≤ m; omega)
                have hp0' : (0 : Int) ≤ (p : Int) := by omega
                have hpE' : (p : Int) < (E.length : Int) := by omega
                have hnp0 : (0 : Int) ≤ (nl : Int) + (p : Int) := by omega
                have hnpk : (nl : Int) + (p : Int) < (nl : Int) + (k : Int) := by omega
                clear hce hcg hct hpp hx hS HDA
                go_wp2
                go_quiet ((first | (go_at_call 14; exact Calls.quiet_of_same (HCS.out _ HEW.out)) | (go_at_call 13; exact Calls.quiet_of (equalRange_same _ _ _ _ _ _ S _ D _ _ HLS HDW0 (by omega) HTO.out HLE.out HSA))))
                go_wp2
                go_roundw
                case rel => exact ⟨p + 1, r2 + nq, by go_num, by omega, (by show wr.drewN nq = w6.drewN (r2 + nq); rw [HWR2.out, World.drewN_drewN])⟩
                case measure => simp [intOf]; omega
              · have HDW0 := hid (sees_drawn HWR2.out HSD6.out)
                have HRW := hid (sees_drawn HWR2.out HRS.out)
                have HEW := hid (sees_drawn HWR2.out HE6.out)
                have hpk' : p = k := by omega
                obtain ⟨S, hS⟩ : ∃ S : Nat, S = st E k := ⟨_, rfl⟩
                have hSm : S ≤ m := by rw [hS, ← HL.out]; exact HW.out.st_le k hkE
                have hcs := start_any ae E.length cape k E wr HEW hkE (by omega) HEB.out
                rw [← hS] at HRW hcs ⊢
                have HCS := hid hcs
                have HSA := (show Hid (∀ i, i < m - S → (D.drop S).getD i 0 = D.getD (S + i) 0) from fun i _ => tail_same D S i)
                have hni := HNI.out
                clear hcs hS hpk'
                go_wp2_with fail
                refine HCS.out.mono ?_
                rintro e w7 ⟨rfl, rfl⟩
                go_wp2_with fail
                refine (equalRange_same _ _ _ _ _ _ S _ D (m : Int) _ HRW HDW0 (by omega) (by omega) (by omega) HSA).mono ?_
                rintro e w8 ⟨rfl, r3, rfl⟩
                go_wp2
                go_ret
                exact ⟨rfl, by rw [HWR2.out]; exact below_drewN (below_drewN HBZ.out r2) r3⟩
    · go_wp2
      go_ret
      exact ⟨rfl, Below.refl _ _⟩


end Go.Proofs.Qxb6604128aMods

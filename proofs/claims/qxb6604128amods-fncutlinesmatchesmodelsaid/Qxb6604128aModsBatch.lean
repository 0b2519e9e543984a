import Derived.Test.Qxb6604128aModsCut
namespace Go.Proofs.Qxb6604128aMods
open Go.RowKit Nl

theorem Sees.drewN {k : IntKind} {w : World} {ao : Option Addr} {n : Nat} {l : List Nat} (h : Sees k w ao n l) (r : Nat) : Sees k (w.drewN r) ao n l := h

theorem zzcut_any (av0 : Option Addr) (n cap0 B q bd od c0 : Nat) (xs : List Value) (D E : List Nat) (w : World)
    (hown : Hid (w.ownsRow B 23 1 (.slice av0 n cap0) n xs)) (hB : B ≤ w.heap.size) (hn : n ≤ 1048576) (hD : D.length ≤ 1048576) (hDb : Hid (∀ x ∈ D, x < 256))
    (hs : Hid (Sees .u8 w (some ⟨bd, od, none⟩) D.length D)) (hW : Hid (Whole D E)) (hq : q < E.length) (hc0 : D.length - st E q ≤ c0) (hbd : Hid (some bd ≠ (Value.slice av0 n cap0).ownBlock)) :
    Calls Trym.prog 11 #[.slice av0 n cap0, .slice (some ⟨bd, od + st E q, none⟩) (D.length - st E q) c0] w fun e w' => CutOk w B n q (.slice av0 n cap0) xs D E bd od e w' := by
  go_enter Trym.func11, Trym.ntmps11
  go_wp2_with fail
  refine (cut_any av0 n cap0 B q bd od c0 xs D E _ hown hB hn hD hDb hs hW hq hc0 hbd.out).mono ?_
  rintro e w1 ⟨j, av, capv, vs, a, c, rfl, h⟩
  have H := hid h
  clear h
  go_wp2
  go_ret2
  exact ⟨j, av, capv, vs, a, c, rfl, H.out⟩

theorem line_same (D : List Nat) (p n : Nat) : ∀ t, t < n → ((D.drop p).take n).getD t 0 = D.getD (p + t) 0 := by
  intro t ht
  simp [List.getD_eq_getElem?_getD, ht]

theorem equalRange_int (aa ad : Option Addr) (n ca m cd fr : Nat) (l D : List Nat) (fi to : Int) (w : World) (ha : Hid (Sees .u8 w aa n l)) (hd : Hid (Sees .u8 w ad m D)) (hm : m ≤ 2097152) (hfi : fi = (fr : Int)) (hto : to = (fr : Int) + (n : Int)) (hle : fr + n ≤ m)
    (hsame : Hid (∀ j, j < n → l.getD j 0 = D.getD (fr + j) 0)) :
    Calls Trym.prog 13 #[.slice aa n ca, .slice ad m cd, .int .i64 fi, .int .i64 to] w fun e w' => e = .returned (.bool true) ∧ ∃ q, w' = w.drewN q := by
  subst hfi
  exact equalRange_same aa ad n ca m cd fr l D to w ha hd hm hto hle hsame

theorem tail_same (D : List Nat) (p : Nat) : ∀ t, (D.drop p).getD t 0 = D.getD (p + t) 0 := by
  intro t
  simp [List.getD_eq_getElem?_getD]

/-- a line, as it lies in D's memory -/
theorem line_sees {w : World} {bd od : Nat} {D E : List Nat} (h : Sees .u8 w (some ⟨bd, od, none⟩) D.length D) (hW : Whole D E) (q : Nat) (hq : q < E.length) :
    Sees .u8 w (some ⟨bd, od + st E q, none⟩) (E.getD q 0 - st E q) ((D.drop (st E q)).take (E.getD q 0 - st E q)) := by
  have hp := hW.pos q hq
  exact (h.drop (st E q) (by omega)).take _ (by omega)

set_option maxHeartbeats 400000 in
/-- no byte at all -/
theorem batch_none (ad : Option Addr) (c : Nat) (w : World) :
    Calls Trym.prog 4 #[.slice ad 0 c] w fun e w' => e = .returned (.bool true) ∧ Below w.heap.size w w' := by
  have HS := hid (Sees.none (k := .u8) (w := w) (ao := ad))
  go_enter Trym.func4, Trym.ntmps4
  go_wp2_with (go_at_call 15; refine (zz15_yes _ _ _ _ (by omega)).mono ?_; rintro e w ⟨rfl, rfl⟩)
  refine (whole_any ad 0 c [] _ HS (by omega)).mono ?_
  rintro e w ⟨rfl, rfl⟩
  have hwh : wholeB [] = true := by decide
  go_wp2_with fail
  refine (ends_any ad 0 c [] _ HS (by omega)).mono ?_
  rintro e w1 ⟨ae, cap, E, rfl, hrow, hto, hb⟩
  have hE : E = [] := List.eq_nil_of_length_eq_zero (by have := len_le hto; omega)
  subst hE
  have HB := hid hb
  clear hrow hto hb
  go_wp2
  refine wp_loop_rounds 1 ?_
  rw [rounds_succ]
  go_wp2
  go_ret
  exact ⟨rfl, HB.out⟩

set_option maxHeartbeats 2000000 in
set_option maxRecDepth 100000 in
theorem batch_some (bd od m c : Nat) (D : List Nat) (w : World) (hs : Hid (Sees .u8 w (some ⟨bd, od, none⟩) m D)) (hDb : Hid (∀ x ∈ D, x < 256)) (hm : m ≤ 1048576) (hm0 : 0 < m) (hmc : m ≤ c) (hwh : Hid (wholeB D = true)) :
    Calls Trym.prog 4 #[.slice (some ⟨bd, od, none⟩) m c] w fun e w' => e = .returned (.bool true) ∧ Below w.heap.size w w' := by
  have HL := hid hs.out.1
  go_enter Trym.func4, Trym.ntmps4
  go_wp2_with (go_at_call 15; refine (zz15_yes _ _ _ _ (by omega)).mono ?_; rintro e w ⟨rfl, rfl⟩)
  have hwc := whole_any (some ⟨bd, od, none⟩) m c D w hs (by omega)
  rw [hwh.out] at hwc
  refine hwc.mono ?_
  rintro e w ⟨rfl, rfl⟩
  clear hwc
  go_wp2_with fail
  refine (ends_any (some ⟨bd, od, none⟩) m c D _ hs (by omega)).mono ?_
  rintro e w1 ⟨ae, cap, E, rfl, hrow, hto, hb⟩
  have hW : Whole D E := by
    refine Whole.of (by rw [HL.out]; exact hto) ?_
    have := hwh.out
    simpa [wholeB] using this
  have hEl := len_le hto
  have HE := hid hrow.sees
  have HW := hid hW
  have HB := hid hb
  have HD := (show Hid (Sees .u8 w1 (some ⟨bd, od, none⟩) D.length D) from by
    show Sees .u8 w1 (some ⟨bd, od, none⟩) D.length D
    rw [HL.out]; exact hs.out.later hb)
  have HEB := (show Hid (∀ q, q < E.length → E.getD q 0 ≤ 2097152) from fun q hq => by have := (hW.pos q hq).2.1; have := HL.out; omega)
  have hst0 : st E 0 = 0 := rfl
  have HST0 := hid hst0
  have hDm : D.length ≤ 1048576 := by rw [HL.out]; exact hm
  clear hrow hto hb hW hst0
  go_wp2
  go_loopw [4, 5] (fun rv nv wr => ∃ (q : Nat) (ar : Option Addr) (cr : Nat), nv = .int .i64 (q : Int) ∧ rv = .slice ar (D.length - st E q) cr ∧ q ≤ E.length ∧ (q < E.length → ar = some ⟨bd, od + st E q, none⟩) ∧ D.length - st E q ≤ cr ∧ Below w1.heap.size w1 wr) (fun rv _ _ => lenOf rv)
  case atStart => exact ⟨0, some ⟨bd, od, none⟩, c, rfl, (by rw [HST0.out, HL.out]; rfl), Nat.zero_le _, fun _ => rfl, (by rw [HST0.out, HL.out]; exact hmc), Below.refl _ _⟩
  case round =>
    obtain ⟨q, ar, cr, rfl, rfl, hqE, har, hcr, hbel⟩ := hrel
    by_cases hmore : q < E.length
    · obtain rfl := har hmore
      have hpos := (HW.out.more q hqE).2 hmore
      have HBL := hid hbel
      have HDr := hid (HD.out.later hbel)
      have HEr := hid (HE.out.later hbel)
      have HOW := (show Hid (wr.ownsRow wr.heap.size 23 1 (.slice none 0 0) 0 []) from World.ownsRow_nil _ _ _ _)
      have HNB := (show Hid (some bd ≠ (Value.slice none 0 0).ownBlock) from by simp [Value.ownBlock, Hid])
      have hstl := HW.out.st_le q hqE
      clear har hbel
      go_wp2_with fail
      refine (zzcut_any none 0 0 wr.heap.size q bd od cr [] D E _ HOW (Nat.le_refl _) (by omega) hDm hDb HDr HW hmore hcr HNB).mono ?_
      rintro e w2 ⟨j, av, capv, vs, a, c', rfl, ho, hl, hg, hqj, hj256, hend, hsame, hnn, ha, hfc⟩
      simp only [Nat.zero_add, List.nil_append] at ho hj256 hend hsame ⊢
      have hj1 : 0 < j := by
        rcases Nat.eq_zero_or_pos j with h0 | h0
        · subst h0
          rcases hend with h | h
          · exact absurd hmore h
          · exact absurd (by omega) h
        · exact h0
      have hj2 : j ≤ 256 := by rcases hj256 with h | h <;> omega
      obtain ⟨g, cap', hv, hgB, hglt⟩ := ho.form hj1
      simp only [Value.slice.injEq, true_and] at hv
      obtain ⟨rfl, rfl⟩ := hv
      have hb2 : Below wr.heap.size wr w2 := (Below.refl _ _).grown hg (Nat.le_refl _) (by simp [Value.ownBlock])
      have HB2 := hid (HBL.out.trans (hb2.mono HBL.out.size))
      have HD2 := hid (HDr.out.later hb2)
      have HDm := (show Hid (Sees .u8 w2 (some ⟨bd, od, none⟩) m D) from by
        have := HD2.out
        rw [HL.out] at this
        exact this)
      have HE2 := hid (HEr.out.later hb2)
      have hstj : st E q < st E (q + j) := by
        have h1 := HW.out.pos q hmore
        have h2 := st_succ E q
        have h3 := HW.out.st_mono (q + 1) (j - 1) (by omega)
        rw [show q + 1 + (j - 1) = q + j from by omega] at h3
        omega
      have hstl2 := HW.out.st_le (q + j) hqj
      have HNX := (show Hid (Sees .u8 w2 (some a) (D.length - st E (q + j)) (D.drop (st E (q + j)))) from by
        show Sees .u8 w2 (some a) (D.length - st E (q + j)) (D.drop (st E (q + j)))
        by_cases hmr : q + j < E.length
        · rw [ha hmr]; exact HD2.out.drop _ hstl2
        · have h0 := fun h => hmr ((HW.out.more (q + j) hqj).1 h)
          exact ⟨by simp, fun t ht => absurd (by omega) h0⟩)
      have HO := hid ho
      have HLN := hid hl
      have HA := hid ha
      have HFC := hid hfc
      have HEND := hid hend
      have HMO := hid (HW.out.more (q + j) hqj)
      clear ho hl hg hsame hnn ha hfc hb2 hend hj256
      obtain ⟨m0, hm0e⟩ : ∃ m0, m0 = D.length - st E q := ⟨_, rfl⟩
      obtain ⟨m1, hm1e⟩ : ∃ m1, m1 = D.length - st E (q + j) := ⟨_, rfl⟩
      have HM1 := hid hm1e
      have HM0 := hid hm0e
      have hm01 : m1 < m0 := by omega
      have hm0b : m0 ≤ 1048576 := by omega
      rw [← hm0e] at hpos hcr ⊢
      rw [← hm1e] at HNX HFC HMO ⊢
      have hb1 : ((j : Int) == 0) = false := by rw [beq_eq_false_iff_ne]; omega
      clear hm0e hm1e hstj hstl hstl2
      go_wp2
      go_loopw [5, 8] (fun nv jv wr => ∃ (p t r : Nat), nv = .int .i64 (p : Int) ∧ jv = .int .i64 (t : Int) ∧ Hid (p = q + t) ∧ t ≤ j ∧ Hid (wr = w2.drewN r)) (fun _ jv _ => j - (intOf jv).toNat)
      case atStart => exact ⟨q, 0, 0, rfl, rfl, rfl, Nat.zero_le _, rfl⟩
      case round =>
        obtain ⟨p, t, r, rfl, rfl, HP, htj, HWR⟩ := hrel
        have HD3 := (show Hid (Sees .u8 wr (some ⟨bd, od, none⟩) m D) from by show Sees .u8 wr (some ⟨bd, od, none⟩) m D; rw [HWR.out]; exact HDm.out)
        have HE3 := (show Hid (Sees .i64 wr ae E.length E) from by show Sees .i64 wr ae E.length E; rw [HWR.out]; exact HE2.out)
        by_cases ht : t < j
        · have hpE : p < E.length := by have := HP.out; omega
          obtain ⟨be, oe, rfl, hce⟩ := HE3.out.2 p hpE
          have hc1 := hce p hpE
          obtain ⟨x, hx⟩ : ∃ x : Nat, x = E.getD p 0 := ⟨_, rfl⟩
          obtain ⟨S, hS⟩ : ∃ S : Nat, S = st E p := ⟨_, rfl⟩
          rw [← hx] at hc1
          have hp := HW.out.pos p hpE
          rw [← hx, ← hS] at hp
          obtain ⟨ct, hct⟩ := HLN.out.2 t ht
          rw [← HP.out, ← hx, ← hS] at hct
          have hc2 : wr.cell? ⟨g, t, none⟩ = some (.slice (some ⟨bd, od + S, none⟩) (x - S) ct) := by
            rw [HWR.out]
            show w2.cell? ⟨g, t, none⟩ = _
            rw [HO.out.cellAt t (by omega)]; exact hct
          have HLS := (show Hid (Sees .u8 wr (some ⟨bd, od + S, none⟩) (x - S) ((D.drop S).take (x - S))) from by
            have hD3 := HD3.out
            rw [← HL.out] at hD3
            have := line_sees hD3 HW.out p hpE
            rw [← hx, ← hS] at this
            exact this)
          have HSA := (show Hid (∀ i, i < x - S → ((D.drop S).take (x - S)).getD i 0 = D.getD (S + i) 0) from line_same D S (x - S))
          have hp1 : S ≤ x := hp.1
          have hp2 : x < D.length := hp.2.1
          have hce1 := start_any (some ⟨be, oe, none⟩) E.length cap p E
          have HCS := (show Hid (∀ w', Sees .i64 w' (some ⟨be, oe, none⟩) E.length E → Calls Trym.prog 14 #[.slice (some ⟨be, oe, none⟩) E.length cap, .int .i64 (p : Int)] w' fun e w'' => e = .returned (.int .i64 (S : Int)) ∧ w'' = w') from fun w' h => by
            have := start_any (some ⟨be, oe, none⟩) E.length cap p E w' h (by omega) (by omega) HEB.out
            rw [← hS] at this
            exact this)
          have hp0' : (0 : Int) ≤ (p : Int) := by omega
          have hpE' : (p : Int) < (E.length : Int) := by omega
          have ht0' : (0 : Int) ≤ (t : Int) := by omega
          have htj' : (t : Int) < (j : Int) := by omega
          have hto : (x : Int) = (S : Int) + ((x - S : Nat) : Int) := by omega
          have hle : S + (x - S) ≤ m := by have := HL.out; omega
          have HTO := hid hto
          have HLE := hid hle
          clear hce hct hp hce1 hx hS hto hle
          go_wp2
          go_quiet ((first | (go_at_call 14; exact Calls.quiet_of_same (HCS.out _ HE3.out)) | (go_at_call 13; exact Calls.quiet_of (equalRange_same _ _ _ _ _ _ S _ D _ _ HLS HD3 (by omega) HTO.out HLE.out HSA))))
          go_wp2
          go_roundw
          case rel => exact ⟨p + 1, t + 1, r + nq, by go_num, by go_num, (by have := HP.out; show p + 1 = q + (t + 1); omega), by omega, (by show wr.drewN nq = w2.drewN (r + nq); rw [HWR.out, World.drewN_drewN])⟩
          case measure => simp [intOf]; omega
        · have htj' : t = j := by omega
          have hpq : p = q + j := by have := HP.out; omega
          have hp0 : 0 < p := by omega
          obtain ⟨be, oe, rfl, hce⟩ := HE3.out.2 (p - 1) (by omega)
          have hc1 := hce (p - 1) (by omega)
          obtain ⟨y, hy⟩ : ∃ y : Nat, y = E.getD (p - 1) 0 := ⟨_, rfl⟩
          rw [← hy] at hc1
          have hyp : y + 1 = st E p := by rw [hy]; unfold st; rw [if_neg (by omega)]
          have hstl := HW.out.st_le p (by omega)
          have HNX' := (show Hid (Sees .u8 wr (some a) m1 (D.drop (y + 1))) from by
            show Sees .u8 wr (some a) m1 (D.drop (y + 1))
            rw [HWR.out]
            have := HNX.out
            rw [← hpq, ← hyp] at this
            exact this)
          have HM1' := (show Hid (m1 = D.length - (y + 1)) from by
            have := HM1.out
            rw [← hpq, ← hyp] at this
            exact this)
          have HTO := (show Hid ((m : Int) = ((y + 1 : Nat) : Int) + (m1 : Int)) from by
            show (m : Int) = ((y + 1 : Nat) : Int) + (m1 : Int)
            have := HM1'.out
            have := HL.out
            omega)
          have HLE := (show Hid (y + 1 + m1 ≤ m) from by
            show y + 1 + m1 ≤ m
            have := HM1'.out
            have := HL.out
            omega)
          have HSA := (show Hid (∀ i, i < m1 → (D.drop (y + 1)).getD i 0 = D.getD (y + 1 + i) 0) from fun i _ => tail_same D (y + 1) i)
          have hyb : y ≤ 1048576 := by have := HL.out; omega
          have HPQ := hid hpq
          have HJE := (show Hid (0 < m1 → j = 256) from fun h => by
            have h1 := HMO.out.1 h
            rcases HEND.out with h2 | h2
            · exact absurd h1 h2
            · omega)
          clear hce hy hyp hpq htj' hstl
          have hp1' : (0 : Int) ≤ (p : Int) - 1 := by omega
          have hp2' : (p : Int) ≤ 1048576 := by have := HP.out; omega
          have hp3' : (p : Int) - 1 < (E.length : Int) := by have := HP.out; omega
          by_cases hmm : 0 < m1
          · have hj256 := HJE.out hmm
            have hbn : ((j : Int) != 256) = false := by rw [hj256]; rfl
            clear hj256
            go_wp2_with fail
            refine (equalRange_int _ _ _ _ _ _ (y + 1) _ D ((y : Int) + 1) (m : Int) _ HNX' HD3 (by omega) (by omega) HTO.out HLE.out HSA).mono ?_
            rintro e w3 ⟨rfl, r3, rfl⟩
            go_wp2
            go_roundw
            case rel => exact ⟨p, some a, c', rfl, (by rw [HPQ.out, ← HM1.out]), (by rw [HPQ.out]; exact hqj), (fun h => by rw [HPQ.out] at h ⊢; rw [HA.out h]), (by rw [HPQ.out, ← HM1.out]; exact HFC.out), (by rw [HWR.out]; exact below_drewN (below_drewN HB2.out r) r3)⟩
            case measure => have := HM0.out; simp [lenOf]; omega
          · go_wp2_with fail
            refine (equalRange_int _ _ _ _ _ _ (y + 1) _ D ((y : Int) + 1) (m : Int) _ HNX' HD3 (by omega) (by omega) HTO.out HLE.out HSA).mono ?_
            rintro e w3 ⟨rfl, r3, rfl⟩
            go_wp2
            go_roundw
            case rel => exact ⟨p, some a, c', rfl, (by rw [HPQ.out, ← HM1.out]), (by rw [HPQ.out]; exact hqj), (fun h => by rw [HPQ.out] at h ⊢; rw [HA.out h]), (by rw [HPQ.out, ← HM1.out]; exact HFC.out), (by rw [HWR.out]; exact below_drewN (below_drewN HB2.out r) r3)⟩
            case measure => have := HM0.out; simp [lenOf]; omega
    · have hqe : q = E.length := by omega
      have hz : D.length - st E q = 0 := by
        rcases Nat.eq_zero_or_pos (D.length - st E q) with h | h
        · exact h
        · exact absurd ((HW.out.more q hqE).1 h) hmore
      have hbq : ((q : Int) == (E.length : Int)) = true := by rw [beq_iff_eq]; omega
      have HBL := hid hbel
      rw [hz]
      clear har hbel hz hqe
      go_wp2
      go_ret
      exact ⟨rfl, HB.out.trans (HBL.out.mono HB.out.size)⟩

end Go.Proofs.Qxb6604128aMods

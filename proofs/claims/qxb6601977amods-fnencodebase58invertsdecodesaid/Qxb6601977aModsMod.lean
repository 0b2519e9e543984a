import Derived.Test.Qxb6601977aModsDec
namespace Go.Proofs.Qxb6601977aMods
open Go.RowKit Num

/-- ints that the call itself made, from offset o of block g on -/
def IRow (w : World) (g o : Nat) (l : List Nat) : Prop :=
  ∃ cur : Array Value, w.heap[g]? = some (.cells cur 3 (0, 0)) ∧ ∀ t, t < l.length → cur[o + t]? = some (.int .i64 (l.getD t 0 : Nat))

theorem IRow.cell {w : World} {g o : Nat} {l : List Nat} (h : IRow w g o l) (t : Nat) (ht : t < l.length) : w.cell? ⟨g, o + t, none⟩ = some (.int .i64 (l.getD t 0 : Nat)) := by
  obtain ⟨cur, h1, h2⟩ := h
  rw [cell_of_row w g _ cur 3 (0, 0) h1]
  exact h2 t ht

theorem IRow.frozen {w : World} {g o : Nat} {l : List Nat} (h : IRow w g o l) (t : Nat) : w.frozen? ⟨g, t, none⟩ = false := by
  obtain ⟨cur, h1, _⟩ := h
  exact frozen_of_row w g t cur 3 h1

theorem IRow.lt {w : World} {g o : Nat} {l : List Nat} (h : IRow w g o l) : g < w.heap.size := by
  obtain ⟨cur, h1, _⟩ := h
  exact (Array.getElem?_eq_some_iff.1 h1).1

theorem getD_set (l : List Nat) (j x t : Nat) (hj : j < l.length) : (l.set j x).getD t 0 = if t = j then x else l.getD t 0 := by
  rw [List.getD_eq_getElem?_getD, List.getElem?_set]
  split
  · rename_i h; subst h; simp
  · rename_i h; rw [if_neg (fun e => h e.symm), List.getD_eq_getElem?_getD]

theorem IRow.set {w : World} {g o : Nat} {l : List Nat} (h : IRow w g o l) (j x : Nat) (hj : j < l.length) : IRow (w.setCell ⟨g, o + j, none⟩ (.int .i64 (x : Int))) g o (l.set j x) := by
  obtain ⟨cur, h1, h2⟩ := h
  refine ⟨_, heap_setCell_same w g (o + j) cur 3 _ h1, fun t ht => ?_⟩
  rw [List.length_set] at ht
  rw [getD_set l j x t hj, Array.getElem?_setIfInBounds]
  have hin : o + j < cur.size := (Array.getElem?_eq_some_iff.1 (h2 j hj)).1
  split
  · rename_i he
    have : t = j := by omega
    subst this
    simp
  · rename_i he
    rw [if_neg (by omega)]
    exact h2 t ht

theorem IRow.grown {w w' : World} {g o : Nat} {l : List Nat} {row : Option Nat} (h : IRow w g o l) (hg : w.grownBy w' row) (hr : some g ≠ row) : IRow w' g o l := by
  have hlt := h.lt
  obtain ⟨cur, h1, h2⟩ := h
  exact ⟨cur, by rw [hg.block g hlt hr]; exact h1, h2⟩

theorem IRow.setOther {w : World} {g o : Nat} {l : List Nat} (h : IRow w g o l) {a : Addr} (ha : g ≠ a.block) (u : Value) : IRow (w.setCell a u) g o l :=
  h.grown (grownBy_setCell w a u) (by simpa using ha)

theorem IRow.drop {w : World} {g o : Nat} {l : List Nat} (h : IRow w g o l) (k : Nat) : IRow w g (o + k) (l.drop k) := by
  obtain ⟨cur, h1, h2⟩ := h
  refine ⟨cur, h1, fun t ht => ?_⟩
  rw [List.length_drop] at ht
  have := h2 (k + t) (by omega)
  rw [← Nat.add_assoc] at this
  rw [this]
  simp [List.getD_eq_getElem?_getD]

theorem IRow.ofMake {w : World} {B g n : Nat} (h : w.ownsRow B 3 1 (.slice (some ⟨g, 0, none⟩) n n) n (madeCells #[.int .i64 0] n).toList) : IRow w g 0 (List.replicate n 0) := by
  rw [toList_madeCells_one] at h
  rcases h.2 with ⟨h1, _⟩ | ⟨g', cap, cur, h1, _, hg, _, _, hcs, ht⟩
  · simp at h1
  · simp at h1
    obtain ⟨rfl, rfl⟩ := h1
    refine ⟨cur, hg, fun t ht' => ?_⟩
    rw [List.length_replicate] at ht'
    have e : cur.toList = List.replicate n (.int .i64 0) := by
      rw [← ht, List.take_of_length_le (by rw [Array.length_toList, hcs]; exact Nat.le_refl _)]
    have e2 : cur[0 + t]? = cur.toList[t]? := by simp
    rw [e2, e]
    simp [ht', List.getD_eq_getElem?_getD]

theorem Row.base {w : World} {B B' : Nat} {ao : Option Addr} {cap : Nat} {l : List Nat} (h : Row w B' ao cap l) (hB : B ≤ B') : Row w B ao cap l := by
  refine ⟨h.1, ?_⟩
  rcases h.2 with h2 | ⟨g, c, cur, h1, hb, r⟩
  · exact Or.inl h2
  · exact Or.inr ⟨g, c, cur, h1, Nat.le_trans hB hb, r⟩

theorem Rep.len {b D T : Nat} {rev L : List Nat} {m : Nat} (hb : 1 < D) (h : Rep b D T rev L) (hT : T < D ^ m) : rev.length ≤ m := by
  rcases Nat.eq_zero_or_pos rev.length with h0 | h0
  · omega
  · have h1 := h.top h0
    have h2 : D ^ (rev.length - 1) < D ^ m := by omega
    have := (Nat.pow_lt_pow_iff_right hb).1 h2
    omega

/-- what 'stripOnes' leaves, as a text of its own -/
theorem stripOnes_ex (s : ByteArray) (w : World) (hs : s.size ≤ maxLen) :
    Calls Trym.prog 24 #[.string s] w fun e w' => ∃ k s', Hid (k ≤ s.size ∧ OnesAt s.data.toList k ∧ s'.data.toList = s.data.toList.drop k ∧ s'.size = s.size - k) ∧ e = .returned (.string s') ∧ w' = w := by
  refine (stripOnes_any s w hs).mono ?_
  rintro e w' ⟨k, hk, ho, rfl, rfl⟩
  refine ⟨k, _, ⟨hk, ho, ?_, ?_⟩, rfl, rfl⟩
  · rw [Lib.extract_data]
    exact List.take_of_length_le (by simp)
  · simp

theorem dgs_drop_ones (l : List UInt8) (k : Nat) (h : OnesAt l k) (hk : k ≤ l.length) : num 58 (dgs (l.drop k)) = num 58 (dgs l) := by
  have e : dgs (l.drop k) = (dgs l).drop k := by simp [dgs]
  rw [e]
  refine num_drop 58 _ k fun t ht => ?_
  have h1 := h.1 t ht
  rw [List.getD_eq_getElem?_getD, List.getElem?_eq_getElem (by omega)] at h1
  simp at h1
  rw [List.getD_eq_getElem?_getD]
  simp only [dgs, List.getElem?_map, List.getElem?_eq_getElem (show t < l.length by omega), Option.map_some, Option.getD_some, h1]
  decide

theorem b58v_zero (c : Int) (h0 : 0 ≤ b58v c) (h : (b58v c).toNat = 0) : c = 49 := by
  revert h0 h
  unfold b58v
  repeat' split
  all_goals omega

theorem dgs_head (l : List UInt8) (k : Nat) (h : OnesAt l k) (hv : validL l = true) (hl : 0 < (dgs (l.drop k)).length) : (dgs (l.drop k)).getD 0 0 ≠ 0 := by
  have hkl : k < l.length := by simp [dgs] at hl; omega
  have h1 := h.2 hkl
  have hm : l[k] ∈ l := List.getElem_mem hkl
  have h2 := List.all_eq_true.1 hv _ hm
  simp at h2
  intro h3
  apply h1
  rw [List.getD_eq_getElem?_getD] at h3 ⊢
  simp only [dgs, List.getElem?_map, List.getElem?_drop, Nat.add_zero, List.getElem?_eq_getElem hkl, Option.map_some, Option.getD_some] at h3 ⊢
  have := b58v_zero _ h2 h3
  exact UInt8.toNat_inj.1 (by simp; omega)

theorem validL_drop (l : List UInt8) (k : Nat) (hv : validL l = true) : validL (l.drop k) = true := by
  rw [validL, List.all_eq_true] at *
  intro x hx
  exact hv x (List.mem_of_mem_drop hx)

theorem fill_set (A : List Nat) (n j x : Nat) (hA : A.length = j) (hj : j < n) : (A ++ List.replicate (n - j) 0).set j x = (A ++ [x]) ++ List.replicate (n - (j + 1)) 0 := by
  have e : n - j = (n - (j + 1)) + 1 := by omega
  rw [List.set_append, if_neg (by omega), hA, Nat.sub_self, e, List.replicate_succ, List.set_cons_zero, List.append_assoc]
  rfl

theorem rev_take (R : List Nat) (j x : Nat) (hj : j < R.length) (hx : x = R.getD (R.length - 1 - j) 0) : R.reverse.take j ++ [x] = R.reverse.take (j + 1) := by
  rw [List.take_succ_eq_append_getElem (show j < R.reverse.length by simpa using hj), List.getElem_reverse]
  rw [hx, List.getD_eq_getElem?_getD, List.getElem?_eq_getElem (by omega)]
  rfl

/-- the length in a slot -/
def lenOf : Value → Nat
  | .slice _ n _ => n
  | _ => 0

theorem b58Value_dig (c : Int) (d : Nat) (w : World) (h0 : 0 ≤ c) (h1 : c ≤ 255) (hd : Hid (b58v c = d)) :
    Calls Trym.prog 29 #[.int .u8 c] w fun e w' => e = .returned (.int .i64 d) ∧ w' = w := by
  refine (b58Value_any c w h0 h1).mono ?_
  rintro e w' ⟨rfl, rfl⟩
  exact ⟨ret_int hd.out, rfl⟩

set_option maxHeartbeats 1000000 in
theorem model_any (s : ByteArray) (w : World) (hs : s.size ≤ 1048576) (hv : Hid (validL s.data.toList = true)) :
    Calls Trym.prog 20 #[.string s] w fun e w' => ∃ g L, e = .returned (.slice (some ⟨g, 0, none⟩) (List.length L) (List.length L)) ∧ Row w' w.heap.size (some ⟨g, 0, none⟩) L.length L.reverse ∧
      Canon 256 L ∧ val 256 L = num 58 (dgs s.data.toList) ∧ Below w.heap.size w w' := by
  obtain ⟨i0, hi, hz0, hz1, hz2⟩ := info_parts info5
  obtain ⟨j0, ji, jz0, jz1, jz2⟩ := info_parts info3
  go_enter Trym.func20, Trym.ntmps20
  go_wp2_with (first | (go_at_call 24; refine (stripOnes_ex s _ (by unfold maxLen; omega)).mono ?_; rintro e w ⟨k0, s', HS, rfl, rfl⟩; have hs' : s'.size ≤ 1048576 := (by have := HS.out.2.2.2; omega)) | (at_make; refine wpList_make_full _ rfl _ _ 35 rfl w.heap.size 3 j0 (.int .i64 0) 1 Trym.underlying35 ji jz0 jz1 _ _ _ _ s'.size rfl rfl rfl rfl (by rw [jz2]; omega) (by unfold maxLen; omega) (Nat.le_refl _) ?_))
  intro w1 hown1 hgrow1
  have HI1 := (show Hid (IRow w1 w.heap.size 0 (List.replicate s'.size 0)) from IRow.ofMake hown1)
  have HB1 := (show Hid (Below w.heap.size w w1) from (Below.refl _ _).grown hgrow1 (Nat.le_refl _) (by simp))
  clear hown1 hgrow1
  obtain ⟨g, hg⟩ : ∃ g, g = w.heap.size := ⟨_, rfl⟩
  have HG := (show Hid (g = w.heap.size) from hg)
  rw [← hg] at HI1 ⊢
  clear hg
  go_wp2
  go_loopw [4] (fun i wr => ∃ j : Nat, j ≤ s'.size ∧ i = .int .i64 j ∧ IRow wr g 0 (dgs (s'.data.toList.take j) ++ List.replicate (s'.size - j) 0) ∧ Below w.heap.size w wr) (fun i _ => s'.size - (intOf i).toNat)
  case atStart => exact ⟨0, Nat.zero_le _, rfl, by simpa [dgs] using HI1.out, HB1.out⟩
  case round =>
    obtain ⟨j, hj, rfl, hr, hb⟩ := hrel
    have hlen0 : (dgs (s'.data.toList.take j)).length = j := by simp [dgs]; omega
    by_cases hlt : j < s'.size
    · have hb255 : (s'[j].toNat : Int) ≤ 255 := by have := s'[j].toNat_lt; omega
      obtain ⟨d, hd⟩ : ∃ d : Nat, b58v (s'[j].toNat : Int) = d := by
        have hv' := validL_drop _ k0 hv.out
        rw [← HS.out.2.2.1] at hv'
        exact ⟨_, (Int.toNat_of_nonneg (validL_get s' j hlt hv')).symm⟩
      have HD := (show Hid (b58v (s'[j].toNat : Int) = d) from hd)
      clear hd
      have hcell : ∃ v, wr.cell? ⟨g, j, none⟩ = some (.int .i64 v) := by
        have := hr.cell j (by simp [hlen0]; omega)
        rw [Nat.zero_add] at this
        exact ⟨_, this⟩
      obtain ⟨v0, hcell⟩ := hcell
      have hfro := hr.frozen j
      have HR := (show Hid (IRow wr g 0 (dgs (s'.data.toList.take j) ++ List.replicate (s'.size - j) 0)) from hr)
      have HB := (show Hid (Below w.heap.size w wr) from hb)
      have HL0 := (show Hid ((dgs (s'.data.toList.take j)).length = j) from hlen0)
      clear hr hb hlen0
      go_wp2_with (go_at_call 29; refine (b58Value_dig _ d _ (by omega) (by omega) HD).mono ?_; rintro e wr ⟨rfl, rfl⟩)
      go_roundw
      case rel =>
        have h1 := HR.out.set j d (by simp [HL0.out]; omega)
        rw [Nat.zero_add, fill_set _ _ _ _ HL0.out hlt] at h1
        refine ⟨j + 1, by omega, by go_num, ?_, HB.out.setCell (by have := HG.out; simp; omega) _⟩
        rw [take_snoc s' j hlt, dgs_snoc, HD.out]
        exact h1
      case measure => simp [intOf]; omega
    · have hje : j = s'.size := by omega
      subst hje
      have hT : num 58 (dgs s'.data.toList) = num 58 (dgs s.data.toList) := by
        rw [HS.out.2.2.1]; exact dgs_drop_ones _ _ HS.out.2.1 (by have := HS.out.1; simpa using this)
      have hL0 : (dgs s'.data.toList).length = s'.size := by simp [dgs]
      have hRep : Rep 58 256 (num 58 (dgs s.data.toList)) [] (dgs s'.data.toList) := by
        rw [← hT]
        refine Rep.start (dgs_lt _) ?_
        rw [HS.out.2.2.1]
        exact dgs_head _ _ HS.out.2.1 hv.out
      have HI := (show Hid (IRow wr g 0 (dgs s'.data.toList)) from by
        show IRow wr g 0 (dgs s'.data.toList)
        rw [List.take_of_length_le (by simp)] at hr
        simpa using hr)
      have HB := (show Hid (Below w.heap.size w wr) from hb)
      have HRep := (show Hid (Rep 58 256 (num 58 (dgs s.data.toList)) [] (dgs s'.data.toList)) from hRep)
      have HL0 := (show Hid ((dgs s'.data.toList).length = s'.size) from hL0)
      have HT := (show Hid (num 58 (dgs s.data.toList) < 256 ^ s.size) from num58_lt _ _ (by simp))
      clear hr hb hT hRep hL0 hlen0 HI1 HB1
      go_wp2
      obtain ⟨wo, rfl⟩ : ∃ wo : World, wo = wr := ⟨_, rfl⟩
      go_loopw [3, 5] (fun nm rv wr => ∃ (o : Nat) (L : List Nat) (ao : Option Addr) (cap : Nat) (R : List Nat), nm = .slice (some ⟨g, o, none⟩) L.length L.length ∧ rv = .slice ao R.length cap ∧ IRow wr g o L ∧ Row wr (g + 1) ao cap R ∧ Rep 58 256 (num 58 (dgs s.data.toList)) R L ∧ Below w.heap.size w wr ∧ L.length ≤ s'.size) (fun nm _ _ => lenOf nm)
      case atStart => exact ⟨0, dgs s'.data.toList, none, 0, [], by rw [HL0.out], rfl, HI.out, Row.nil _ _, HRep.out, HB.out, by rw [HL0.out]; exact Nat.le_refl _⟩
      case round =>
        obtain ⟨o, L, ao, cap, R, rfl, rfl, hi3, hrow, hrep, hbel, hLs⟩ := hrel
        have hRl := Rep.len (by omega) hrep HT.out
        have HI3 := (show Hid (IRow wr g o L) from hi3)
        have HRW := (show Hid (Row wr (g + 1) ao cap R) from hrow)
        have HRP := (show Hid (Rep 58 256 (num 58 (dgs s.data.toList)) R L) from hrep)
        have HBL := (show Hid (Below w.heap.size w wr) from hbel)
        clear hi3 hrow hrep hbel
        by_cases hpos : 0 < L.length
        · go_wp2
          obtain ⟨wp, rfl⟩ : ∃ wp : World, wp = wr := ⟨_, rfl⟩
          go_loopw [6, 7] (fun rm i wr => ∃ (j : Nat) (Q : List Nat) (r : Nat), i = .int .i64 j ∧ rm = .int .i64 r ∧ Div 58 256 L j Q r ∧ IRow wr g o (Q ++ L.drop j) ∧ Row wr (g + 1) ao cap R ∧ Below w.heap.size w wr) (fun _ i _ => L.length - (intOf i).toNat)
          case atStart => exact ⟨0, [], 0, rfl, rfl, Div.start L (by omega), HI3.out, HRW.out, HBL.out⟩
          case round =>
            obtain ⟨j, Q, r, rfl, rfl, hdiv, hir, hrr, hbr⟩ := hrel
            have hjl := hdiv.le
            have hr256 := hdiv.rem
            by_cases hj : j < L.length
            · obtain ⟨x, hx⟩ : ∃ x : Nat, x = L[j] := ⟨_, rfl⟩
              have hx58 : x < 58 := by rw [hx]; exact HRP.out.ldig _ (List.getElem_mem hj)
              have hcell : wr.cell? ⟨g, o + j, none⟩ = some (.int .i64 (x : Int)) := by
                have := hir.cell j (by simp [hdiv.len]; omega)
                rw [List.getD_eq_getElem?_getD, List.getElem?_append_right (by rw [hdiv.len]; exact Nat.le_refl _), hdiv.len] at this
                simp [hj] at this
                rw [this, hx]
              have hfro := hir.frozen (o + j)
              have HX := (show Hid (x = L[j]) from hx)
              have HDV := (show Hid (Div 58 256 L j Q r) from hdiv)
              have HIR := (show Hid (IRow wr g o (Q ++ L.drop j)) from hir)
              have HRR := (show Hid (Row wr (g + 1) ao cap R) from hrr)
              have HBR := (show Hid (Below w.heap.size w wr) from hbr)
              clear hx hdiv hir hrr hbr
              go_wp2
              go_roundw
              case rel =>
                have e1 : ((r : Int) * 58 + x) % 256 = (((r * 58 + x) % 256 : Nat) : Int) := by omega
                have e2 : ((r : Int) * 58 + x) / 256 = (((r * 58 + x) / 256 : Nat) : Int) := by omega
                have hst := HDV.out.step hj HRP.out.ldig
                rw [← HX.out] at hst
                have h1 := HIR.out.set j ((r * 58 + x) / 256) (by simp [HDV.out.len]; omega)
                rw [set_mid Q L j _ HDV.out.len hj] at h1
                refine ⟨j + 1, _, _, by go_num, by rw [e1], hst, ?_, ?_, ?_⟩
                · rw [e2]; exact h1
                · exact HRR.out.setOther (fun g2 h2 => by
                    rcases HRR.out.addr with ⟨h0, _⟩ | ⟨g3, h3, hb3, _⟩
                    · rw [h0] at h2; simp at h2
                    · rw [h3] at h2; simp at h2; simp; omega) _
                · exact HBR.out.setCell (by have := HG.out; simp; omega) _
              case measure => simp [intOf]; omega
            · have hje : j = L.length := by omega
              have HDV := (show Hid (Div 58 256 L L.length Q r) from by subst hje; exact hdiv)
              have hQl : Q.length = L.length := by rw [HDV.out.len]
              have HIR := (show Hid (IRow wr g o Q) from by
                show IRow wr g o Q
                rw [List.drop_of_length_le (by omega)] at hir
                simpa using hir)
              have HRR := (show Hid (Row wr (g + 1) ao cap R) from hrr)
              have HBR := (show Hid (Below w.heap.size w wr) from hbr)
              have HQL := (show Hid (Q.length = L.length) from hQl)
              have hgs := hir.lt
              have hsz := hbr.size
              clear hje hdiv hir hrr hbr hQl
              go_wp2_with (at_builtin; refine wpList_append_own _ rfl _ _ 22 rfl (g + 1) 5 i0 (.int .u8 0) 1 1 Trym.underlying22 hi hz0 hz1 hz2 rfl (by decide) _ _ _ rfl (HRR.out.owns.alloc _) ⟨wr.heap.size, 0, none⟩ 1 1 [.int .u8 (r : Int)] rfl rfl (cell_one_new _ _ _) ?c2 ?c3 ?c4 ?c5 ?_)
              case c2 => intro u hu; simp at hu; subst hu; rfl
              case c3 => unfold maxLen; omega
              case c4 => omega
              case c5 => simp; omega
              intro v' w1 hown' hgrow _
              obtain ⟨ao3, cap3, hv3, hrow3⟩ := Row.ofAppend hown'
              have hb3 : Below w.heap.size w w1 := by
                refine (HBR.out.alloc hsz _).grown hgrow (by simp; omega) ?_
                intro kk hkk
                have := (HRR.out.owns.lt kk hkk).1
                have := HG.out
                omega
              have hi3 : IRow w1 g o Q := by
                refine (HIR.out.grown (World.grownBy_alloc wr _ none) (by simp)).grown hgrow ?_
                intro he
                have := (HRR.out.owns.lt g he.symm).1
                omega
              subst hv3
              have HR3 := (show Hid (Row w1 (g + 1) ao3 cap3 (R ++ [r])) from hrow3)
              have HB3 := (show Hid (Below w.heap.size w w1) from hb3)
              have HI4 := (show Hid (IRow w1 g o Q) from hi3)
              clear hown' hgrow hrow3 hb3 hi3
              go_wp2
              go_loop [9] (fun i => ∃ kk : Nat, kk ≤ L.length ∧ i = .int .i64 kk ∧ Hid (∀ t, t < kk → Q.getD t 0 = 0)) (fun i => L.length - (intOf i).toNat)
              case atStart => exact ⟨0, Nat.zero_le _, rfl, fun t ht => by omega⟩
              case round =>
                obtain ⟨kk, hkk, rfl, HZ⟩ := hrel
                by_cases hkl : kk < L.length
                · obtain ⟨y, hy⟩ : ∃ y : Nat, y = Q.getD kk 0 := ⟨_, rfl⟩
                  have hcell : w1.cell? ⟨g, o + kk, none⟩ = some (.int .i64 (y : Int)) := by
                    rw [hy]; exact HI4.out.cell kk (by rw [HQL.out]; exact hkl)
                  have HY := (show Hid (y = Q.getD kk 0) from hy)
                  clear hy
                  by_cases hy0 : y = 0
                  · subst hy0
                    go_wp2
                    go_round
                    case rel =>
                      refine ⟨kk + 1, by omega, by go_num, fun t ht => ?_⟩
                      rcases Nat.lt_or_ge t kk with h | h
                      · exact HZ.out t h
                      · obtain rfl : t = kk := by omega
                        exact HY.out.symm
                    case measure => simp [intOf]; omega
                  · have hyb : ((y : Int) == 0) = false := by simpa using hy0
                    have hk1 : 0 < kk := by
                      rcases Nat.eq_zero_or_pos kk with h0 | h0
                      · subst h0
                        have := HDV.out.head (by omega) HRP.out.ldig
                        rw [← HY.out] at this
                        omega
                      · exact h0
                    have hne : ¬ L.length = kk := by omega
                    go_wp2
                    go_roundw
                    case rel =>
                      have h1 := HRP.out.step (by omega) hpos HDV.out HZ.out (fun _ => by rw [← HY.out]; exact hy0)
                      exact ⟨o + kk, Q.drop kk, ao3, cap3, R ++ [r], by simp [HQL.out], by simp, HI4.out.drop kk, HR3.out, h1, HB3.out, by simp [HQL.out]; omega⟩
                    case measure => simp [lenOf]; omega
                · have hke : L.length = kk := by omega
                  subst hke
                  go_wp2
                  go_roundw
                  case rel =>
                    have h1 := HRP.out.step (by omega) hpos HDV.out HZ.out (fun h => by rw [HQL.out] at h; omega)
                    rw [List.drop_of_length_le (by rw [HQL.out]; exact Nat.le_refl _)] at h1
                    exact ⟨o, [], ao3, cap3, R ++ [r], by simp, by simp, ⟨_, HI4.out.choose_spec.1, by simp⟩, HR3.out, h1, HB3.out, by simp⟩
                  case measure => simp [lenOf]; omega
        · have hL0 : L = [] := List.eq_nil_of_length_eq_zero (by omega)
          have hcan := (show Rep 58 256 (num 58 (dgs s.data.toList)) R [] from by rw [← hL0]; exact HRP.out).canon
          have HCA := (show Hid (Canon 256 R) from hcan.1)
          have HVA := (show Hid (val 256 R = num 58 (dgs s.data.toList)) from hcan.2)
          have hsz := HBL.out.size
          have HIG := (show Hid (g < wr.heap.size) from HI3.out.lt)
          clear hcan hL0
          go_wp2_with (at_make; refine wpList_make_full _ rfl _ _ 22 rfl w.heap.size 5 i0 (.int .u8 0) 1 Trym.underlying22 hi hz0 hz1 _ _ _ _ R.length rfl rfl rfl rfl (by rw [hz2]; omega) (by unfold maxLen; omega) hsz ?_)
          intro w1 hown1 hgrow1
          have hR1 := Row.ofMake hown1
          have hL1 := HRW.out.grown hgrow1
          have hb1 : Below w.heap.size w w1 := HBL.out.grown hgrow1 hsz (by simp)
          obtain ⟨g2, hg2⟩ : ∃ g2, g2 = wr.heap.size := ⟨_, rfl⟩
          rw [← hg2] at hR1 ⊢
          have hgB : w.heap.size ≤ g2 := by omega
          have hne : ∀ g', ao = some ⟨g', 0, none⟩ → g' ≠ g2 := by
            intro g' h
            rcases HRW.out.addr with ⟨h0, _⟩ | ⟨g3, h2, _, hlt2⟩
            · rw [h0] at h; simp at h
            · rw [h2] at h; simp at h; omega
          have HR1 := (show Hid (Row w1 w.heap.size (some ⟨g2, 0, none⟩) R.length (List.replicate R.length 0)) from hR1)
          have HL1 := (show Hid (Row w1 (g + 1) ao cap R) from hL1)
          have HB1 := (show Hid (Below w.heap.size w w1) from hb1)
          have HNE := (show Hid (∀ g', ao = some ⟨g', 0, none⟩ → g' ≠ g2) from hne)
          clear hR1 hL1 hb1 hown1 hgrow1 hg2 hne
          go_wp2
          go_loopw [11] (fun i wr => ∃ (j : Nat), j ≤ R.length ∧ i = .int .i64 j ∧ Row wr w.heap.size (some ⟨g2, 0, none⟩) R.length (R.reverse.take j ++ List.replicate (R.length - j) 0) ∧ Row wr (g + 1) ao cap R ∧ Below w.heap.size w wr) (fun i _ => R.length - (intOf i).toNat)
          case atStart => exact ⟨0, Nat.zero_le _, rfl, by simpa using HR1.out, HL1.out, HB1.out⟩
          case round =>
            obtain ⟨j, hj, rfl, hr, hl, hb⟩ := hrel
            by_cases hjl : j < R.length
            · obtain ⟨g', rfl, hBg, hgs⟩ := hl.adr (by omega)
              have hne : g' ≠ g2 := HNE.out g' rfl
              obtain ⟨x, hx⟩ : ∃ x : Nat, x = R.getD (R.length - 1 - j) 0 := ⟨_, rfl⟩
              have hcell : wr.cell? ⟨g', R.length - 1 - j, none⟩ = some (.int .u8 (x : Int)) := by rw [hx]; exact hl.cell _ (by omega)
              have hcR : ∃ v, wr.cell? ⟨g2, j, none⟩ = some (.int .u8 v) := ⟨_, hr.cell _ (by simp; omega)⟩
              obtain ⟨vR, hcR⟩ := hcR
              have hfR := hr.frozen j
              have HX := (show Hid (x = R.getD (R.length - 1 - j) 0) from hx)
              have HRr := (show Hid (Row wr w.heap.size (some ⟨g2, 0, none⟩) R.length (R.reverse.take j ++ List.replicate (R.length - j) 0)) from hr)
              have HLr := (show Hid (Row wr (g + 1) (some ⟨g', 0, none⟩) cap R) from hl)
              have HBr := (show Hid (Below w.heap.size w wr) from hb)
              clear hx hr hl hb
              go_wp2
              go_roundw
              case rel =>
                have h1 := HRr.out.set j x
                rw [fill_set _ _ _ _ (by simp; omega) hjl, rev_take R j x hjl HX.out] at h1
                exact ⟨j + 1, by omega, by go_num, h1, HLr.out.setOther (fun g3 h2 => by simp at h2; simp; omega) _, HBr.out.setCell hgB _⟩
              case measure => simp [intOf]; omega
            · have hje : j = R.length := by omega
              subst hje
              have HRr := (show Hid (Row wr w.heap.size (some ⟨g2, 0, none⟩) R.length R.reverse) from by
                show Row wr w.heap.size (some ⟨g2, 0, none⟩) R.length R.reverse
                rw [List.take_of_length_le (by simp)] at hr
                simpa using hr)
              have HBr := (show Hid (Below w.heap.size w wr) from hb)
              clear hr hl hb
              go_wp2
              go_ret
              exact ⟨g2, R, rfl, HRr.out, HCA.out, HVA.out, HBr.out⟩
end Go.Proofs.Qxb6601977aMods

import Derived.Test.Qxb6604128aModsLines
namespace Go.Proofs.Qxb6604128aMods
open Go.RowKit Nl

/-- a block that the call itself made, whole -/
def Blk (w : World) (g : Nat) (e : TypeId) (vs : List Value) : Prop := w.heap[g]? = some (.cells vs.toArray e (0, 0))

theorem Blk.lt {w : World} {g : Nat} {e : TypeId} {vs : List Value} (h : Blk w g e vs) : g < w.heap.size := (Array.getElem?_eq_some_iff.1 h).1

theorem Blk.cell {w : World} {g : Nat} {e : TypeId} {vs : List Value} (h : Blk w g e vs) (t : Nat) : w.cell? ⟨g, t, none⟩ = vs[t]? := by
  rw [cell_of_row w g t _ e (0, 0) h]; simp

theorem Blk.frozen {w : World} {g : Nat} {e : TypeId} {vs : List Value} (h : Blk w g e vs) (t : Nat) : w.frozen? ⟨g, t, none⟩ = false := frozen_of_row w g t _ e h

theorem Blk.set {w : World} {g : Nat} {e : TypeId} {vs : List Value} (h : Blk w g e vs) (j : Nat) (u : Value) : Blk (w.setCell ⟨g, j, none⟩ u) g e (vs.set j u) := by
  have := heap_setCell_same w g j _ e u h
  unfold Blk
  rw [this]
  simp

theorem Blk.later {w w' : World} {g : Nat} {e : TypeId} {vs : List Value} (h : Blk w g e vs) (hb : Below w.heap.size w w') : Blk w' g e vs := by
  unfold Blk
  rw [hb.block g h.lt]
  exact h

theorem Blk.ofMake {w : World} {B g n : Nat} {e : TypeId} {z : Value} (h : w.ownsRow B e 1 (.slice (some ⟨g, 0, none⟩) n n) n (madeCells #[z] n).toList) : Blk w g e (List.replicate n z) := by
  rw [toList_madeCells_one] at h
  rcases h.2 with ⟨h1, _⟩ | ⟨g', cap, cur, h1, _, hg, _, _, hcs, ht⟩
  · simp at h1
  · simp at h1
    obtain ⟨rfl, rfl⟩ := h1
    unfold Blk
    rw [hg]
    have e1 : cur.toList = List.replicate n z := by
      rw [← ht, List.take_of_length_le (by rw [Array.length_toList, hcs]; exact Nat.le_refl _)]
    rw [← e1]

theorem Blk.owns {w : World} {B g n : Nat} {e : TypeId} {vs : List Value} (h : Blk w g e vs) (hl : vs.length = n) (hB : B ≤ g) (hn : n ≤ maxLen) : w.ownsRow B e 1 (.slice (some ⟨g, 0, none⟩) n n) n vs :=
  ⟨by simpa using hl, .inr ⟨g, n, vs.toArray, rfl, hB, h, Nat.le_refl _, hn, by simp [hl], by rw [List.take_of_length_le (by simp [hl])]⟩⟩

def bs (l : List Nat) : List Value := l.map fun d : Nat => Value.int .u8 (d : Int)

theorem Blk.sees {w : World} {g : Nat} {l : List Nat} (h : Blk w g 5 (bs l)) : Sees .u8 w (some ⟨g, 0, none⟩) l.length l := by
  refine ⟨rfl, fun t ht => ⟨g, 0, rfl, fun j hj => ?_⟩⟩
  rw [Nat.zero_add, h.cell, List.getD_eq_getElem?_getD, List.getElem?_eq_getElem hj]
  simp [bs, hj]

theorem bs_at (l : List Nat) (j : Nat) (h : j < l.length) : (bs l)[j]? = some (.int .u8 (l.getD j 0 : Nat)) := by
  rw [List.getD_eq_getElem?_getD]
  simp only [bs, List.getElem?_map, List.getElem?_eq_getElem h, Option.map_some, Option.getD_some]

theorem bs_set (l : List Nat) (j x : Nat) : (bs l).set j (.int .u8 (x : Int)) = bs (l.set j x) := by simp [bs, List.map_set]

theorem fill_set (A : List Nat) (n j x : Nat) (hA : A.length = j) (hj : j < n) : (A ++ List.replicate (n - j) 0).set j x = (A ++ [x]) ++ List.replicate (n - (j + 1)) 0 := by
  have e : n - j = (n - (j + 1)) + 1 := by omega
  rw [List.set_append, if_neg (by omega), hA, Nat.sub_self, e, List.replicate_succ, List.set_cons_zero, List.append_assoc]
  rfl

theorem fill_setV (A : List Value) (n j : Nat) (x z : Value) (hA : A.length = j) (hj : j < n) : (A ++ List.replicate (n - j) z).set j x = (A ++ [x]) ++ List.replicate (n - (j + 1)) z := by
  have e : n - j = (n - (j + 1)) + 1 := by omega
  rw [List.set_append, if_neg (by omega), hA, Nat.sub_self, e, List.replicate_succ, List.set_cons_zero, List.append_assoc]
  rfl

theorem take_next (X : List Nat) (j x : Nat) (hj : j < X.length) (hx : x = X.getD j 0) : X.take j ++ [x] = X.take (j + 1) := by
  rw [List.take_succ_eq_append_getElem hj, hx, List.getD_eq_getElem?_getD, List.getElem?_eq_getElem hj]
  rfl

/-- what a clone of bytes is -/
def CloneOk (w : World) (ao : Option Addr) (n : Nat) (X : List Nat) (e : Ending) (w' : World) : Prop :=
  ∃ (a' : Option Addr) (c' : Nat), e = .returned (.slice a' n c') ∧ Sees .u8 w' a' n X ∧ a'.isNone = ao.isNone ∧ (∀ b o, a' = some ⟨b, o, none⟩ → w.heap.size ≤ b) ∧ Below w.heap.size w w'

set_option maxHeartbeats 400000 in
theorem cloneBytes_any (ao : Option Addr) (n c : Nat) (X : List Nat) (w : World) (hn : n ≤ 1048576) (hx : Hid (Sees .u8 w ao n X)) (hnil : ao = none → n = 0 ∧ c = 0) :
    Calls Trym.prog 16 #[.slice ao n c] w fun e w' => CloneOk w ao n X e w' := by
  have hq := fun (w : World) (a : Option Addr) (n c : Nat) => Lib.run_eql_slice_nil (P := Trym.prog) w 23 5 a n c 0 0 Trym.underlying23
  obtain ⟨i0, hi, hz0, hz1, hz2⟩ := info_parts info5
  have HXL := hid hx.out.1
  cases hao : ao with
  | none =>
    obtain ⟨rfl, rfl⟩ := hnil hao
    have hX : X = [] := List.eq_nil_of_length_eq_zero HXL.out
    subst hX
    clear hnil hao
    go_enter Trym.func16, Trym.ntmps16
    go_wp2
    go_ret
    exact ⟨none, 0, rfl, Sees.none, rfl, by simp, Below.refl _ _⟩
  | some a =>
    subst hao
    clear hnil
    go_enter Trym.func16, Trym.ntmps16
    go_wp2_with (at_make; refine wpList_make_full _ rfl _ _ 23 rfl w.heap.size 5 i0 (.int .u8 0) 1 Trym.underlying23 hi hz0 hz1 _ _ _ _ n rfl rfl rfl rfl (by rw [hz2]; omega) (by unfold maxLen; omega) (Nat.le_refl _) ?_)
    intro w1 hown1 hgrow1
    have hR1 := Blk.ofMake hown1
    have hb1 : Below w.heap.size w w1 := (Below.refl _ _).grown hgrow1 (Nat.le_refl _) (by simp)
    obtain ⟨g, hg⟩ : ∃ g, g = w.heap.size := ⟨_, rfl⟩
    rw [← hg] at hR1 ⊢
    have HG := hid hg
    have HR1 := hid hR1
    have HB1 := hid hb1
    clear hR1 hb1 hown1 hgrow1 hg
    go_wp2
    go_loopw [4] (fun i wr => ∃ (j : Nat), j ≤ n ∧ i = .int .i64 j ∧ Blk wr g 5 (bs (X.take j ++ List.replicate (n - j) 0)) ∧ Below w.heap.size w wr) (fun i _ => n - (intOf i).toNat)
    case atStart => exact ⟨0, Nat.zero_le _, rfl, by have := HR1.out; simpa [bs] using this, by rw [← HG.out] at *; exact HB1.out⟩
    case round =>
      obtain ⟨j, hj, rfl, hr, hb⟩ := hrel
      by_cases hjl : j < n
      · obtain ⟨b, o, hbo, hc⟩ := hx.out.2 j hjl
        simp at hbo
        subst hbo
        obtain ⟨x, hx0⟩ : ∃ x : Nat, x = X.getD j 0 := ⟨_, rfl⟩
        have hcell : wr.cell? ⟨b, o + j, none⟩ = some (.int .u8 (x : Int)) := by
          rw [hb.cell (p := ⟨b, o + j, none⟩) (hx.out.lt (by omega) b o rfl), hx0]
          exact hc j hjl
        have hcR : ∃ v, wr.cell? ⟨g, j, none⟩ = some (.int .u8 v) := by
          have hjl' : j < (X.take j ++ List.replicate (n - j) 0).length := by have := HXL.out; simp; omega
          exact ⟨_, (hr.cell j).trans (bs_at _ _ hjl')⟩
        obtain ⟨vR, hcR⟩ := hcR
        have hfR := hr.frozen j
        have HX0 := hid hx0
        have HRr := hid hr
        have HBr := hid hb
        clear hx0 hr hb hc
        go_wp2
        go_roundw
        case rel =>
          have h1 := HRr.out.set j (.int .u8 (x : Int))
          rw [bs_set, fill_set _ _ _ _ (by simp [HXL.out]; omega) hjl, take_next X j x (by rw [HXL.out]; exact hjl) HX0.out] at h1
          exact ⟨j + 1, by omega, by go_num, h1, HBr.out.setCell (by have := HG.out; simp; omega) _⟩
        case measure => simp [intOf]; omega
      · have hje : j = n := by omega
        subst hje
        have HRr := (show Hid (Sees .u8 wr (some ⟨g, 0, none⟩) j X) from by
          rw [Nat.sub_self, List.take_of_length_le (by rw [HXL.out]; exact Nat.le_refl _)] at hr
          simp only [List.replicate_zero, List.append_nil] at hr
          have := hr.sees
          rw [HXL.out] at this
          exact this)
        have HBr := hid hb
        clear hr hb
        go_wp2
        go_ret
        exact ⟨some ⟨g, 0, none⟩, j, rfl, HRr.out, rfl, fun b o h => by simp at h; have := HG.out; omega, HBr.out⟩

/-- the cloned lines: each shows its line's bytes, nil where the line was nil, and lies outside the row itself -/
def Cloned (w : World) (row : Option Nat) (n : Nat) (xs : List Value) (A : Nat → Option Addr) (N : Nat → Nat) (X : Nat → List Nat) : Prop :=
  xs.length = n ∧ ∀ t, t < n → ∃ (a : Option Addr) (c : Nat), xs[t]? = some (.slice a (N t) c) ∧ Sees .u8 w a (N t) (X t) ∧ a.isNone = (A t).isNone ∧ ∀ b o, a = some ⟨b, o, none⟩ → some b ≠ row

theorem Cloned.later {w w' : World} {row : Option Nat} {n : Nat} {xs : List Value} {A : Nat → Option Addr} {N : Nat → Nat} {X : Nat → List Nat} (h : Cloned w row n xs A N X) (hb : Below w.heap.size w w') : Cloned w' row n xs A N X := by
  refine ⟨h.1, fun t ht => ?_⟩
  obtain ⟨a, c, h1, h2, h3, h4⟩ := h.2 t ht
  exact ⟨a, c, h1, h2.later hb, h3, h4⟩

theorem sees_setOther {k : IntKind} {w : World} {ao : Option Addr} {n : Nat} {l : List Nat} (h : Sees k w ao n l) (p : Addr) (hp : ∀ b o, ao = some ⟨b, o, none⟩ → b ≠ p.block) (u : Value) : Sees k (w.setCell p u) ao n l := by
  refine ⟨h.1, fun t ht => ?_⟩
  obtain ⟨b, o, h1, h2⟩ := h.2 t ht
  refine ⟨b, o, h1, fun j hj => ?_⟩
  rw [World.cell?_of_block (w := w) (Below.heap_setCell w p u b (hp b o h1))]
  exact h2 j hj

theorem Cloned.push {w : World} {g n : Nat} {xs : List Value} {A : Nat → Option Addr} {N : Nat → Nat} {X : Nat → List Nat} (h : Cloned w (some g) n xs A N X) (j : Nat) (a' : Option Addr) (c' : Nat) (hs : Sees .u8 w a' (N n) (X n)) (hnil : a'.isNone = (A n).isNone) (hb : ∀ b o, a' = some ⟨b, o, none⟩ → b ≠ g) (u : Value) :
    Cloned (w.setCell ⟨g, j, none⟩ u) (some g) (n + 1) (xs ++ [.slice a' (N n) c']) A N X := by
  refine ⟨by simp [h.1], fun t ht => ?_⟩
  rcases Nat.lt_or_ge t n with h1 | h1
  · obtain ⟨a, c, e1, e2, e3, e4⟩ := h.2 t h1
    exact ⟨a, c, by rw [List.getElem?_append_left (by rw [h.1]; exact h1)]; exact e1, sees_setOther e2 _ (fun b o he => by have := e4 b o he; simp at this; exact this) u, e3, e4⟩
  · obtain rfl : t = n := by omega
    exact ⟨a', c', by rw [List.getElem?_append_right (by rw [h.1]; exact Nat.le_refl _), h.1]; simp, sees_setOther hs _ hb u, hnil, fun b o he => by have := hb b o he; simp; exact this⟩

/-- what a clone of lines is -/
def CloneLOk (w : World) (al : Option Addr) (nl : Nat) (A : Nat → Option Addr) (N : Nat → Nat) (X : Nat → List Nat) (e : Ending) (w' : World) : Prop :=
  ∃ (ag : Option Addr) (cg : Nat) (xs : List Value), e = .returned (.slice ag nl cg) ∧ w'.ownsRow w.heap.size 23 1 (.slice ag nl cg) nl xs ∧ Cloned w' (Value.slice ag nl cg).ownBlock nl xs A N X ∧ ag.isNone = al.isNone ∧ Below w.heap.size w w'

set_option maxHeartbeats 1000000 in
theorem cloneLines_any (al : Option Addr) (nl cl : Nat) (A : Nat → Option Addr) (N C : Nat → Nat) (X : Nat → List Nat) (w : World) (hn : nl ≤ 65536) (hl : Hid (LArg w al nl cl A N C X)) (hN : Hid (∀ t, t < nl → N t ≤ 1048576)) :
    Calls Trym.prog 8 #[.slice al nl cl] w fun e w' => CloneLOk w al nl A N X e w' := by
  have hq := fun (w : World) (a : Option Addr) (n c : Nat) => Lib.run_eql_slice_nil (P := Trym.prog) w 22 23 a n c 0 0 Trym.underlying22
  obtain ⟨i0, hi, hz0, hz1, hz2⟩ := info_parts info23
  cases hal : al with
  | none =>
    obtain ⟨rfl, rfl⟩ := hl.out.nil hal
    clear hal
    go_enter Trym.func8, Trym.ntmps8
    go_wp2
    go_ret
    exact ⟨none, 0, [], rfl, World.ownsRow_nil _ _ _ _, ⟨rfl, fun t ht => by omega⟩, rfl, Below.refl _ _⟩
  | some a =>
    subst hal
    go_enter Trym.func8, Trym.ntmps8
    go_wp2_with (at_make; refine wpList_make_full _ rfl _ _ 22 rfl w.heap.size 23 i0 (.slice none 0 0) 1 Trym.underlying22 hi hz0 hz1 _ _ _ _ nl rfl rfl rfl rfl (by rw [hz2]; omega) (by unfold maxLen; omega) (Nat.le_refl _) ?_)
    intro w1 hown1 hgrow1
    have hR1 := Blk.ofMake hown1
    have hb1 : Below w.heap.size w w1 := (Below.refl _ _).grown hgrow1 (Nat.le_refl _) (by simp)
    obtain ⟨g, hg⟩ : ∃ g, g = w.heap.size := ⟨_, rfl⟩
    rw [← hg] at hR1 ⊢
    have HG := hid hg
    have HR1 := hid hR1
    have HB1 := hid hb1
    clear hR1 hb1 hown1 hgrow1 hg
    go_wp2
    go_loopw [4] (fun i wr => ∃ (j : Nat) (xs : List Value), j ≤ nl ∧ i = .int .i64 j ∧ Blk wr g 23 (xs ++ List.replicate (nl - j) (.slice none 0 0)) ∧ Cloned wr (some g) j xs A N X ∧ Below w.heap.size w wr) (fun i _ => nl - (intOf i).toNat)
    case atStart => exact ⟨0, [], Nat.zero_le _, rfl, by simpa using HR1.out, ⟨rfl, fun t ht => by omega⟩, HB1.out⟩
    case round =>
      obtain ⟨j, xs, hj, rfl, hr, hcl, hb⟩ := hrel
      by_cases hjl : j < nl
      · obtain ⟨b, o, hbo, hc⟩ := hl.out.cell j hjl
        simp at hbo
        subst hbo
        have hcell : wr.cell? ⟨b, o + j, none⟩ = some (.slice (A j) (N j) (C j)) := by
          rw [hb.cell (p := ⟨b, o + j, none⟩) (hl.out.lt (by omega) b o rfl)]
          exact hc j hjl
        have HSJ := hid ((hl.out.sees j hjl).later hb)
        have HEN := hid (hl.out.enil j hjl)
        have hNj := hN.out j hjl
        have hgb : g < wr.heap.size := hr.lt
        have HRr := hid hr
        have HCr := hid hcl
        have HBr := hid hb
        clear hr hcl hb hc
        go_wp2_with fail
        refine (cloneBytes_any (A j) (N j) (C j) (X j) _ hNj HSJ HEN.out).mono ?_
        rintro e w2 ⟨a', c', rfl, hs2, hni2, hbl2, hb2⟩
        have HR2 := hid (HRr.out.later hb2)
        have HC2 := hid (HCr.out.later hb2)
        have HB2 := hid (HBr.out.trans (hb2.mono HBr.out.size))
        have HS2 := hid hs2
        have HNI2 := hid hni2
        have HBL2 := (show Hid (∀ b o, a' = some ⟨b, o, none⟩ → b ≠ g) from fun b o he => by have := hbl2 b o he; omega)
        have hcR : ∃ v, w2.cell? ⟨g, j, none⟩ = some v := by
          have h1 := HR2.out.cell j
          rw [List.getElem?_append_right (by rw [HC2.out.1]; exact Nat.le_refl _), HC2.out.1, Nat.sub_self] at h1
          have h2 : (List.replicate (nl - j) (Value.slice none 0 0))[0]? = some (.slice none 0 0) := by
            rw [List.getElem?_replicate, if_pos (by omega)]
          exact ⟨_, h1.trans h2⟩
        obtain ⟨vR, hcR⟩ := hcR
        have hfR := HR2.out.frozen j
        clear hs2 hni2 hbl2 hb2
        go_wp2
        go_roundw
        case rel =>
          have h1 := HR2.out.set j (.slice a' (N j) c')
          rw [fill_setV _ _ _ _ _ HC2.out.1 hjl] at h1
          exact ⟨j + 1, _, by omega, by go_num, h1, HC2.out.push j a' c' HS2.out HNI2.out HBL2.out _, HB2.out.setCell (by have := HG.out; simp; omega) _⟩
        case measure => simp [intOf]; omega
      · have hje : j = nl := by omega
        subst hje
        have HRr := (show Hid (wr.ownsRow w.heap.size 23 1 (.slice (some ⟨g, 0, none⟩) j j) j xs) from by
          show wr.ownsRow w.heap.size 23 1 (.slice (some ⟨g, 0, none⟩) j j) j xs
          rw [Nat.sub_self] at hr
          simp only [List.replicate_zero, List.append_nil] at hr
          exact hr.owns hcl.1 (by have := HG.out; omega) (by unfold maxLen; omega))
        have HCr := hid hcl
        have HBr := hid hb
        clear hr hcl hb
        go_wp2
        go_ret
        exact ⟨some ⟨g, 0, none⟩, j, xs, rfl, HRr.out, HCr.out, rfl, HBr.out⟩

end Go.Proofs.Qxb6604128aMods

import Derived.Test.Qxb6604128aModsBase
namespace Go.Proofs.Qxb6604128aMods
open Go.RowKit Nl

def is (l : List Nat) : List Value := l.map fun d : Nat => Value.int .i64 (d : Int)
theorem is_get (l : List Nat) (t : Nat) : (is l)[t]? = l[t]?.map fun d : Nat => Value.int .i64 (d : Int) := by simp [is]

/-- ints that the call itself made -/
def IRow (w : World) (B : Nat) (ao : Option Addr) (cap : Nat) (l : List Nat) : Prop :=
  w.ownsRow B 3 1 (.slice ao l.length cap) l.length (is l)

theorem IRow.owns {w : World} {B : Nat} {ao : Option Addr} {cap : Nat} {l : List Nat} (h : IRow w B ao cap l) : w.ownsRow B 3 1 (.slice ao l.length cap) l.length (is l) := h

theorem IRow.nil (w : World) (B : Nat) : IRow w B none 0 [] := World.ownsRow_nil w B 3 1

theorem IRow.ofAppend {w : World} {B : Nat} {l : List Nat} {x : Nat} {v : Value} (h : w.ownsRow B 3 1 v (l.length + 1) (is l ++ [.int .i64 (x : Int)])) :
    ∃ ao cap, v = .slice ao (l.length + 1) cap ∧ IRow w B ao cap (l ++ [x]) := by
  have e : is l ++ [.int .i64 (x : Int)] = is (l ++ [x]) := by simp [is]
  rw [e] at h
  rcases h.2 with ⟨_, h0⟩ | ⟨g, cap, cur, rfl, hr⟩
  · omega
  · exact ⟨_, cap, rfl, by unfold IRow; rw [List.length_append, List.length_singleton]; exact h⟩

theorem IRow.sees {w : World} {B : Nat} {ao : Option Addr} {cap : Nat} {l : List Nat} (h : IRow w B ao cap l) : Sees .i64 w ao l.length l := by
  refine ⟨rfl, fun t ht => ?_⟩
  rcases h.2 with ⟨_, h0⟩ | ⟨g, c, cur, hv, hb, hg, _⟩
  · omega
  · simp at hv
    obtain ⟨rfl, rfl⟩ := hv
    refine ⟨g, 0, rfl, fun j hj => ?_⟩
    rw [Nat.zero_add, World.ownsRow.cellAt h j (by omega), is_get, List.getD_eq_getElem?_getD, List.getElem?_eq_getElem hj]
    rfl

theorem grow_below {w wr w1 : World} {v : Value} {n : Nat} {e : TypeId} {xs : List Value} {o : Obj} {B : Nat} (hB : w.heap.size ≤ B) (hr : wr.ownsRow B e 1 v n xs) (hb : Below w.heap.size w wr)
    (hg : (wr.alloc o).grownBy w1 v.ownBlock) : Below w.heap.size w w1 := by
  have hsz := hb.size
  refine (hb.alloc hsz o).grown hg (by simp; omega) ?_
  intro k hk
  have := (hr.lt k hk).1
  omega

set_option maxHeartbeats 400000 in
/-- 'cutLinesB1Ends': the places of the newlines -/
theorem ends_any (ad : Option Addr) (m c : Nat) (D : List Nat) (w : World) (hd : Hid (Sees .u8 w ad m D)) (hm : m ≤ 1048576) :
    Calls Trym.prog 9 #[.slice ad m c] w fun e w' => ∃ (ae : Option Addr) (cap : Nat) (E : List Nat), e = .returned (.slice ae E.length cap) ∧ IRow w' w.heap.size ae cap E ∧ To D m E ∧ Below w.heap.size w w' := by
  obtain ⟨i0, hi, hz0, hz1, hz2⟩ := info_parts info3
  have HL := hid hd.out.1
  go_enter Trym.func9, Trym.ntmps9
  go_wp2
  go_loopw [3, 4] (fun v i wr => ∃ (k : Nat) (ae : Option Addr) (cap : Nat) (E : List Nat), k ≤ m ∧ i = .int .i64 k ∧ v = .slice ae E.length cap ∧ IRow wr w.heap.size ae cap E ∧ To D k E ∧ Below w.heap.size w wr) (fun _ i _ => m - (intOf i).toNat)
  case atStart => exact ⟨0, none, 0, [], Nat.zero_le _, rfl, rfl, IRow.nil _ _, To.start D, Below.refl _ _⟩
  case round =>
    obtain ⟨k, ae, cap, E, hk, rfl, rfl, hrow, hto, hbel⟩ := hrel
    have hEl := len_le hto
    have hsz := hbel.size
    have HR := hid hrow
    have HT := hid hto
    have HB := hid hbel
    clear hrow hto hbel
    by_cases hlt : k < m
    · obtain ⟨b, o, rfl, hc⟩ := hd.out.2 k hlt
      obtain ⟨x, hx⟩ : ∃ x : Nat, x = D.getD k 0 := ⟨_, rfl⟩
      have hcell : wr.cell? ⟨b, o + k, none⟩ = some (.int .u8 (x : Int)) := by
        rw [HB.out.cell (p := ⟨b, o + k, none⟩) (hd.out.lt (by omega) b o rfl), hx]
        exact hc k hlt
      have HX := hid hx
      clear hc hx
      by_cases hx10 : x = 10
      · have hb : ((x : Int) == 10) = true := by rw [beq_iff_eq]; omega
        have H10 := hid hx10
        clear hx10
        go_wp2_with (at_builtin; refine wpList_append_own _ rfl _ _ 28 rfl w.heap.size 3 i0 (.int .i64 0) 1 8 Trym.underlying28 hi hz0 hz1 hz2 rfl (by decide) _ _ _ rfl (HR.out.owns.alloc _) ⟨wr.heap.size, 0, none⟩ 1 1 [.int .i64 (k : Int)] rfl rfl (cell_one_new _ _ _) ?c2 ?c3 ?c4 ?c5 ?_)
        case c2 => intro u hu; simp at hu; subst hu; rfl
        case c3 => unfold maxLen; omega
        case c4 => omega
        case c5 => simp; omega
        intro v' w1 hown' hgrow _
        obtain ⟨ao3, cap3, hv3, hrow3⟩ := IRow.ofAppend hown'
        have hb3 : Below w.heap.size w w1 := grow_below (Nat.le_refl _) HR.out.owns HB.out hgrow
        subst hv3
        have HR3 := hid hrow3
        have HB3 := hid hb3
        clear hown' hgrow hrow3 hb3
        go_wp2
        go_roundw
        case rel => exact ⟨k + 1, ao3, cap3, E ++ [k], by omega, by go_num, by simp, HR3.out, HT.out.yes (by rw [HL.out]; exact hlt) (by rw [← HX.out]; exact H10.out), HB3.out⟩
        case measure => simp [intOf]; omega
      · have hb : ((x : Int) == 10) = false := by rw [beq_eq_false_iff_ne]; omega
        go_wp2
        go_roundw
        case rel => exact ⟨k + 1, ae, cap, E, by omega, by go_num, rfl, HR.out, HT.out.no (by rw [HL.out]; exact hlt) (by rw [← HX.out]; exact hx10), HB.out⟩
        case measure => simp [intOf]; omega
    · have hke : k = m := by omega
      subst hke
      go_wp2
      go_ret
      exact ⟨ae, cap, E, rfl, HR.out, HT.out, HB.out⟩

/-- the place of the first newline -/
theorem indexByte_first : ∀ (l : List Nat) (i : Nat), (∀ x ∈ l, x < 256) → i < l.length → l.getD i 0 = 10 → (∀ t, t < i → l.getD t 0 ≠ 10) → Lib.indexByte (Lib.bytesOf (l.map Int.ofNat)) 10 = (i : Int)
  | [], i, _, h, _, _ => by simp at h
  | x :: l, 0, _, _, h, _ => by
    simp at h
    subst h
    simp [Lib.bytesOf, Lib.indexByte]
  | x :: l, i + 1, hb, hi, h, hg => by
    have hx : x ≠ 10 := by simpa using hg 0 (by omega)
    have hx256 : x < 256 := hb x (by simp)
    have ih := indexByte_first l i (fun y hy => hb y (by simp [hy])) (by simpa using hi) (by simpa using h) (fun t ht => by simpa using hg (t + 1) (by omega))
    have e : Lib.bytesOf ((x :: l).map Int.ofNat) = (Int.ofNat x).toNat.toUInt8 :: Lib.bytesOf (l.map Int.ofNat) := by simp [Lib.bytesOf]
    rw [e, Lib.indexByte, ih]
    have hne : ((Int.ofNat x).toNat.toUInt8 == 10) = false := by
      rw [beq_eq_false_iff_ne]
      intro he
      have := congrArg UInt8.toNat he
      simp at this
      omega
    rw [hne]
    have h2 : (((i : Nat) : Int) == -1) = false := by rw [beq_eq_false_iff_ne]; omega
    simp only [h2, Bool.false_eq_true, if_false]
    omega

set_option maxHeartbeats 1000000 in
set_option maxRecDepth 100000 in
/-- bytes.IndexByte(data, newline), where a newline is there -/
theorem indexByte_any (b o n c i : Nat) (l : List Nat) (w : World) (hl : Hid (Sees .u8 w (some ⟨b, o, none⟩) n l)) (hb : Hid (∀ x ∈ l, x < 256)) (hi : Hid (i < l.length ∧ l.getD i 0 = 10 ∧ ∀ t, t < i → l.getD t 0 ≠ 10)) :
    Calls Trym.prog 18 #[.slice (some ⟨b, o, none⟩) n c, .int .u8 10] w fun e w' => e = .returned (.int .i64 (i : Int)) ∧ w' = w := by
  have hr := Lib.run_indexByteSlice (P := Trym.prog) w b o n c (l.map Int.ofNat) (by rw [List.length_map, hl.out.1]) (by
    intro j hj
    obtain ⟨b', o', h1, h2⟩ := hl.out.2 j hj
    simp at h1
    obtain ⟨rfl, rfl⟩ := h1
    rw [h2 j hj]
    congr 2
    have : j < l.length := by rw [hl.out.1]; exact hj
    rw [List.getD_eq_getElem?_getD, List.getD_eq_getElem?_getD, List.getElem?_map, List.getElem?_eq_getElem this]
    rfl) 10
  have e10 : (10 : Int).toNat.toUInt8 = (10 : UInt8) := by decide
  rw [e10, indexByte_first l i hb.out hi.out.1 hi.out.2.1 hi.out.2.2] at hr
  have HR := hid hr
  clear hr e10
  go_enter Trym.func18, Trym.ntmps18
  go_wp2
  rw [run_callFunc_extern Trym.func19 (by kernel_rfl) (by kernel_rfl) (by kernel_rfl) (e := Extern.BytealgIndexByte.indexByte) (by kernel_rfl), HR.out]
  simp only [Result.andThen]
  rw [Oper.upon_value]
  go_wp2
  go_ret
  exact ⟨rfl, rfl⟩

end Go.Proofs.Qxb6604128aMods

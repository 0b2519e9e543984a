import Derived.Test.Qxb6604128aModsCut0
namespace Go.Proofs.Qxb6604128aMods
open Go.RowKit Nl

/-- a slice of whatever one-cell values that is only read -/
def SeesV (w : World) (ao : Option Addr) (n : Nat) (xs : List Value) : Prop :=
  xs.length = n ∧ ∀ t, t < n → ∃ b o, ao = some ⟨b, o, none⟩ ∧ b < w.heap.size ∧ ∀ j, j < n → w.cell? ⟨b, o + j, none⟩ = xs[j]?

theorem SeesV.ofOwns {w : World} {B n cap : Nat} {e : TypeId} {ao : Option Addr} {xs : List Value} (h : w.ownsRow B e 1 (.slice ao n cap) n xs) : SeesV w ao n xs := by
  refine ⟨by simpa using h.1, fun t ht => ?_⟩
  obtain ⟨g, cap', hv, _, hlt⟩ := h.form (by omega)
  simp at hv
  obtain ⟨rfl, rfl⟩ := hv
  exact ⟨g, 0, rfl, hlt, fun j hj => by rw [Nat.zero_add]; exact h.cellAt j (by omega)⟩

theorem SeesV.later {w w' : World} {ao : Option Addr} {n : Nat} {xs : List Value} (h : SeesV w ao n xs) (hb : Below w.heap.size w w') : SeesV w' ao n xs := by
  refine ⟨h.1, fun t ht => ?_⟩
  obtain ⟨b, o, h1, h2, h3⟩ := h.2 t ht
  refine ⟨b, o, h1, Nat.lt_of_lt_of_le h2 hb.size, fun j hj => ?_⟩
  rw [hb.cell (p := ⟨b, o + j, none⟩) h2]
  exact h3 j hj

theorem SeesV.grown {w w' : World} {ao : Option Addr} {n : Nat} {xs : List Value} {row : Option Nat} (h : SeesV w ao n xs) (hg : w.grownBy w' row) (hr : ∀ b o, ao = some ⟨b, o, none⟩ → some b ≠ row) : SeesV w' ao n xs := by
  refine ⟨h.1, fun t ht => ?_⟩
  obtain ⟨b, o, h1, h2, h3⟩ := h.2 t ht
  refine ⟨b, o, h1, Nat.lt_of_lt_of_le h2 hg.size, fun j hj => ?_⟩
  rw [hg.cell_far ⟨b, o + j, none⟩ h2 (hr b o h1)]
  exact h3 j hj

theorem Cloned.grown {w w' : World} {row : Option Nat} {n : Nat} {xs : List Value} {A : Nat → Option Addr} {N : Nat → Nat} {X : Nat → List Nat} (h : Cloned w row n xs A N X) (hg : w.grownBy w' row) : Cloned w' row n xs A N X := by
  refine ⟨h.1, fun t ht => ?_⟩
  obtain ⟨a, c, h1, h2, h3, h4⟩ := h.2 t ht
  exact ⟨a, c, h1, h2.grown hg h4, h3, h4⟩

theorem copy_eq {w w1 : World} {g m c : Nat} {a : Addr} {D : List Nat} (hs : Sees .u8 w (some a) m D) (hr : Blk w1 g 5 (List.replicate m (.int .u8 0))) (hb : Below w.heap.size w w1) (hg : w.heap.size ≤ g) :
    ∃ w2, (∀ ty, (Builtin.copy_ #[23, 23] ty #[.slice (some ⟨g, 0, none⟩) m m, .slice (some a) m c]).run Trym.prog w1 = .ok (.int .i64 (m : Int)) w2) ∧ Blk w2 g 5 (bs D) ∧ Below w.heap.size w w2 := by
  have hsz : (Trym.prog.info? 5).map (·.size) = some 1 := by kernel_rfl
  rcases Nat.eq_zero_or_pos m with h0 | h0
  · subst h0
    have hD : D = [] := List.eq_nil_of_length_eq_zero hs.1
    subst hD
    exact ⟨w1, fun ty => run_copy_none w1 23 23 ty 5 _ _ 0 0 0 c Trym.underlying23 hsz rfl, hr, hb⟩
  · obtain ⟨b, o, ha, hc⟩ := hs.2 0 h0
    simp at ha
    subst ha
    have hlen : (bs D).length = m := by simp [bs, hs.1]
    have hrow := fun ty => run_copy_row (P := Trym.prog) w1 23 23 ty 5 g 0 m m ⟨b, o, none⟩ m c (List.replicate m (Value.int .u8 0)).toArray 5 (bs D) Trym.underlying23 hsz hr (by rw [hlen]; exact (Nat.min_self m).symm) (by
      intro j v hv
      have hj : j < m := by
        have := (List.getElem?_eq_some_iff.1 hv).1
        rw [hlen] at this
        exact this
      rw [bs_at D j (by rw [hs.1]; exact hj)] at hv
      rw [Addr.add_lit, hb.cell (p := ⟨b, o + j, none⟩) (hs.lt h0 b o rfl), hc j hj]
      exact hv) (by simp [hlen]) (by
      intro v hv
      obtain ⟨d, _, rfl⟩ := List.mem_map.1 hv
      rfl)
    refine ⟨_, fun ty => by rw [hrow ty, hlen]; rfl, ?_, below_setRow hb hg _⟩
    unfold Blk
    rw [setRow_heap w1 g _ _ 5 _ hr]
    simp

/-- where the data lies that the rest shows -/
theorem rest_sees {w : World} {ad ad' : Option Addr} {m j : Nat} {D E : List Nat} (hs : Sees .u8 w ad m D) (hL : D.length = m) (hW : Whole D E) (hj : j ≤ E.length) (hr : j < E.length → ∃ b o, ad = some ⟨b, o, none⟩ ∧ ad' = some ⟨b, o + st E j, none⟩) :
    Sees .u8 w ad' (m - st E j) (D.drop (st E j)) := by
  have hle := hW.st_le j hj
  by_cases hm : j < E.length
  · obtain ⟨b, o, rfl, rfl⟩ := hr hm
    exact hs.drop (st E j) (by omega)
  · have h0 := fun h => hm ((hW.more j hj).1 h)
    exact ⟨by rw [List.length_drop, hL], fun t ht => absurd (by omega) h0⟩

theorem cnt_le (n e : Nat) : cnt n e ≤ e := by unfold cnt; split <;> omega

end Go.Proofs.Qxb6604128aMods

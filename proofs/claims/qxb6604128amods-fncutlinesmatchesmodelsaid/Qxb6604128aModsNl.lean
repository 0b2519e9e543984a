namespace Go.Proofs.Qxb6604128aMods.Nl

/-- where line j begins, E the places of the newlines -/
def st (E : List Nat) (j : Nat) : Nat := if j = 0 then 0 else E.getD (j - 1) 0 + 1

/-- E: the places of the newlines among the first i bytes of D -/
structure To (D : List Nat) (i : Nat) (E : List Nat) : Prop where
  le : i ≤ D.length
  at_ : ∀ q, q < E.length → E.getD q 0 < i ∧ D.getD (E.getD q 0) 0 = 10
  lo : ∀ q, q < E.length → st E q ≤ E.getD q 0
  gap : ∀ q, q < E.length → ∀ t, st E q ≤ t → t < E.getD q 0 → D.getD t 0 ≠ 10
  tail : ∀ t, st E E.length ≤ t → t < i → D.getD t 0 ≠ 10
  stle : st E E.length ≤ i

theorem To.start (D : List Nat) : To D 0 [] :=
  ⟨by simp, by simp, by simp, by simp, fun t _ h => by omega, by simp [st]⟩

theorem getD_snoc_lt (E : List Nat) (x q : Nat) (h : q < E.length) : (E ++ [x]).getD q 0 = E.getD q 0 := by
  rw [List.getD_eq_getElem?_getD, List.getD_eq_getElem?_getD, List.getElem?_append_left h]

theorem getD_snoc_eq (E : List Nat) (x : Nat) : (E ++ [x]).getD E.length 0 = x := by
  rw [List.getD_eq_getElem?_getD, List.getElem?_append_right (Nat.le_refl _)]
  simp

theorem st_snoc (E : List Nat) (x q : Nat) (h : q ≤ E.length) : st (E ++ [x]) q = st E q := by
  unfold st
  split
  · rfl
  · rw [getD_snoc_lt E x (q - 1) (by omega)]

theorem st_succ (E : List Nat) (q : Nat) : st E (q + 1) = E.getD q 0 + 1 := by simp [st]

theorem To.yes {D : List Nat} {i : Nat} {E : List Nat} (h : To D i E) (hi : i < D.length) (hd : D.getD i 0 = 10) : To D (i + 1) (E ++ [i]) := by
  have hl : (E ++ [i]).length = E.length + 1 := by simp
  have key : ∀ q, q < (E ++ [i]).length → (q < E.length ∧ (E ++ [i]).getD q 0 = E.getD q 0) ∨ (q = E.length ∧ (E ++ [i]).getD q 0 = i) := by
    intro q hq
    rw [hl] at hq
    rcases Nat.lt_or_ge q E.length with h1 | h1
    · exact .inl ⟨h1, getD_snoc_lt E i q h1⟩
    · obtain rfl : q = E.length := by omega
      exact .inr ⟨rfl, getD_snoc_eq E i⟩
  refine ⟨by omega, ?_, ?_, ?_, ?_, ?_⟩
  · intro q hq
    rcases key q hq with ⟨h1, h2⟩ | ⟨h1, h2⟩
    · rw [h2]; have := h.at_ q h1; exact ⟨by omega, this.2⟩
    · rw [h2]; exact ⟨by omega, hd⟩
  · intro q hq
    rcases key q hq with ⟨h1, h2⟩ | ⟨h1, h2⟩
    · rw [h2, st_snoc E i q (by omega)]; exact h.lo q h1
    · rw [h2, st_snoc E i q (by omega), h1]; exact h.stle
  · intro q hq t h3 h4
    rcases key q hq with ⟨h1, h2⟩ | ⟨h1, h2⟩
    · rw [h2] at h4; rw [st_snoc E i q (by omega)] at h3; exact h.gap q h1 t h3 h4
    · rw [h2] at h4; rw [st_snoc E i q (by omega), h1] at h3; exact h.tail t h3 h4
  · intro t h3 h4
    rw [hl, st_succ, getD_snoc_eq] at h3
    omega
  · rw [hl, st_succ, getD_snoc_eq]
    exact Nat.le_refl _

theorem To.no {D : List Nat} {i : Nat} {E : List Nat} (h : To D i E) (hi : i < D.length) (hd : D.getD i 0 ≠ 10) : To D (i + 1) E := by
  refine ⟨by omega, fun q hq => ?_, h.lo, h.gap, fun t h1 h2 => ?_, by have := h.stle; omega⟩
  · have := h.at_ q hq; exact ⟨by omega, this.2⟩
  · rcases Nat.lt_or_ge t i with h3 | h3
    · exact h.tail t h1 h3
    · obtain rfl : t = i := by omega
      exact hd

/-- whole lines: all of D's newlines, and D ends behind the last -/
structure Whole (D : List Nat) (E : List Nat) : Prop where
  to : To D D.length E
  last : st E E.length = D.length

theorem Whole.of {D : List Nat} {E : List Nat} (h : To D D.length E) (hw : D.length = 0 ∨ D.getD (D.length - 1) 0 = 10) : Whole D E := by
  refine ⟨h, ?_⟩
  have h1 := h.stle
  rcases Nat.lt_or_ge (st E E.length) D.length with h2 | h2
  · rcases hw with h3 | h3
    · omega
    · exact absurd h3 (h.tail (D.length - 1) (by omega) (by omega))
  · omega

theorem Whole.pos {D E : List Nat} (h : Whole D E) (q : Nat) (hq : q < E.length) : st E q ≤ E.getD q 0 ∧ E.getD q 0 < D.length ∧ D.getD (E.getD q 0) 0 = 10 :=
  ⟨h.to.lo q hq, (h.to.at_ q hq).1, (h.to.at_ q hq).2⟩

theorem Whole.st_le {D E : List Nat} (h : Whole D E) (q : Nat) (hq : q ≤ E.length) : st E q ≤ D.length := by
  rcases Nat.lt_or_ge q E.length with h1 | h1
  · have := h.pos q h1; omega
  · obtain rfl : q = E.length := by omega
    rw [h.last]; exact Nat.le_refl _

theorem Whole.st_mono {D E : List Nat} (h : Whole D E) (q j : Nat) (hq : q + j ≤ E.length) : st E q ≤ st E (q + j) := by
  induction j with
  | zero => exact Nat.le_refl _
  | succ j ih =>
    have h1 := ih (by omega)
    have h2 := h.to.lo (q + j) (by omega)
    have h3 : st E (q + (j + 1)) = E.getD (q + j) 0 + 1 := st_succ E (q + j)
    omega

/-- what is left is empty just at the end -/
theorem Whole.more {D E : List Nat} (h : Whole D E) (q : Nat) (hq : q ≤ E.length) : 0 < D.length - st E q ↔ q < E.length := by
  constructor
  · intro h1
    rcases Nat.lt_or_ge q E.length with h2 | h2
    · exact h2
    · obtain rfl : q = E.length := by omega
      rw [h.last] at h1
      omega
  · intro h1
    have := h.pos q h1
    omega

theorem len_le {D : List Nat} {i : Nat} {E : List Nat} (h : To D i E) : E.length ≤ i := by
  have key : ∀ q, q ≤ E.length → q ≤ st E q := by
    intro q
    induction q with
    | zero => intro _; omega
    | succ q ih =>
      intro hq
      have h1 := ih (by omega)
      have h2 := h.lo q (by omega)
      rw [st_succ]
      omega
  have := key E.length (Nat.le_refl _)
  have := h.stle
  omega

end Go.Proofs.Qxb6604128aMods.Nl

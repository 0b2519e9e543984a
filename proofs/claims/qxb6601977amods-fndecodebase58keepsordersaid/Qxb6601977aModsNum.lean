namespace Go.Proofs.Qxb6601977aMods.Num

/-- the number that digits write, least significant first -/
def val (b : Nat) : List Nat → Nat
  | [] => 0
  | d :: l => d + b * val b l

/-- the number that digits write, most significant first -/
def num (b : Nat) (l : List Nat) : Nat := l.foldl (fun a d => a * b + d) 0

theorem val_append (b : Nat) (l m : List Nat) : val b (l ++ m) = val b l + b ^ l.length * val b m := by
  induction l with
  | nil => simp [val]
  | cons d l ih =>
    simp only [List.cons_append, val, ih, List.length_cons, Nat.pow_succ, Nat.mul_add]
    rw [Nat.mul_comm (b ^ l.length) b, Nat.mul_assoc, Nat.add_assoc]

theorem val_snoc (b : Nat) (l : List Nat) (d : Nat) : val b (l ++ [d]) = val b l + b ^ l.length * d := by
  rw [val_append]; simp [val]

theorem foldl_num (b : Nat) (l : List Nat) (a : Nat) : l.foldl (fun a d => a * b + d) a = a * b ^ l.length + num b l := by
  induction l generalizing a with
  | nil => simp [num]
  | cons d l ih =>
    simp only [List.foldl_cons, num, List.length_cons]
    rw [ih, ih (0 * b + d)]
    simp only [Nat.pow_succ, Nat.add_mul, Nat.zero_mul, Nat.zero_add]
    rw [Nat.mul_assoc, Nat.mul_comm b]
    omega

theorem num_snoc (b : Nat) (l : List Nat) (d : Nat) : num b (l ++ [d]) = num b l * b + d := by
  simp [num]

theorem num_cons (b : Nat) (l : List Nat) (d : Nat) : num b (d :: l) = d * b ^ l.length + num b l := by
  have := foldl_num b l d
  simp only [num, List.foldl_cons, Nat.zero_mul, Nat.zero_add]
  rw [this]; rfl

theorem num_nil (b : Nat) : num b [] = 0 := rfl

theorem num_reverse (b : Nat) (l : List Nat) : num b l.reverse = val b l := by
  induction l with
  | nil => rfl
  | cons d l ih => rw [List.reverse_cons, num_snoc, ih, val]; rw [Nat.mul_comm]; omega

theorem val_reverse (b : Nat) (l : List Nat) : val b l.reverse = num b l := by
  rw [← num_reverse, List.reverse_reverse]

theorem val_lt (b : Nat) (l : List Nat) (h : ∀ x ∈ l, x < b) : val b l < b ^ l.length := by
  induction l with
  | nil => simp [val]
  | cons d l ih =>
    have h1 := h d (by simp)
    have h2 := ih (fun x hx => h x (by simp [hx]))
    simp only [val, List.length_cons, Nat.pow_succ]
    have h3 : b * (val b l + 1) ≤ b * b ^ l.length := Nat.mul_le_mul_left b h2
    rw [Nat.mul_add] at h3
    rw [Nat.mul_comm (b ^ l.length) b]
    omega

/-- the digits are digits, and the topmost is not nought -/
structure Canon (b : Nat) (l : List Nat) : Prop where
  dig : ∀ x ∈ l, x < b
  top : 0 < l.length → b ^ (l.length - 1) ≤ val b l

theorem val_inj_len (b : Nat) (l m : List Nat) (hl : ∀ x ∈ l, x < b) (hm : ∀ x ∈ m, x < b) (hlen : l.length = m.length) (hv : val b l = val b m) : l = m := by
  induction l generalizing m with
  | nil => cases m with
    | nil => rfl
    | cons e m => simp at hlen
  | cons d l ih =>
    cases m with
    | nil => simp at hlen
    | cons e m =>
      have h1 := hl d (by simp)
      have h2 := hm e (by simp)
      simp only [val] at hv
      have e1 : (d + b * val b l) % b = d := by rw [Nat.add_mul_mod_self_left, Nat.mod_eq_of_lt h1]
      have e2 : (e + b * val b m) % b = e := by rw [Nat.add_mul_mod_self_left, Nat.mod_eq_of_lt h2]
      have e3 : d = e := by rw [← e1, ← e2, hv]
      subst e3
      have hb : 0 < b := by omega
      have e4 : val b l = val b m := Nat.eq_of_mul_eq_mul_left hb (by omega)
      rw [ih m (fun x hx => hl x (by simp [hx])) (fun x hx => hm x (by simp [hx])) (by simpa using hlen) e4]

theorem Canon.len_le {b : Nat} {l m : List Nat} (hb : 0 < b) (hl : Canon b l) (hm : Canon b m) (hv : val b l ≤ val b m) : l.length ≤ m.length := by
  rcases Nat.lt_or_ge m.length l.length with h | h
  · have h1 := val_lt b m hm.dig
    have h2 := hl.top (by omega)
    have h3 : b ^ m.length ≤ b ^ (l.length - 1) := Nat.pow_le_pow_right hb (by omega)
    omega
  · exact h

theorem Canon.inj {b : Nat} {l m : List Nat} (hb : 0 < b) (hl : Canon b l) (hm : Canon b m) (hv : val b l = val b m) : l = m :=
  val_inj_len b l m hl.dig hm.dig (Nat.le_antisymm (hl.len_le hb hm (by omega)) (hm.len_le hb hl (by omega))) hv

theorem Canon.nil (b : Nat) : Canon b [] := ⟨by simp, by simp⟩

theorem mod_add_div' (t b : Nat) : t % b + b * (t / b) = t := Nat.mod_add_div t b

/-- THE INNER LOOP OF A MULTIPLY-AND-ADD: 'done' are the digits made so far, c the carry. -/
structure Mul (b m : Nat) (L : List Nat) (c0 : Nat) (j : Nat) (done : List Nat) (c : Nat) : Prop where
  le : j ≤ L.length
  len : done.length = j
  dig : ∀ x ∈ done, x < b
  carry : c < m
  eq : val b done + b ^ j * c = val b (L.take j) * m + c0

theorem Mul.start {b m : Nat} (L : List Nat) {c0 : Nat} (h : c0 < m) : Mul b m L c0 0 [] c0 := ⟨by simp, rfl, by simp, h, by simp [val]⟩

theorem Mul.step {b m : Nat} {L : List Nat} {c0 j : Nat} {done : List Nat} {c : Nat} (h : Mul b m L c0 j done c) (hj : j < L.length) (hL : ∀ x ∈ L, x < b) :
    Mul b m L c0 (j + 1) (done ++ [(c + L[j] * m) % b]) ((c + L[j] * m) / b) := by
  have hd : L[j] < b := hL _ (List.getElem_mem hj)
  have hb : 0 < b := by omega
  have hlt : c + L[j] * m < b * m := by
    have h1 := h.carry
    have h2 : (L[j] + 1) * m ≤ b * m := Nat.mul_le_mul_right m hd
    rw [Nat.add_mul, Nat.one_mul] at h2
    omega
  refine ⟨by omega, by simp [h.len], ?_, ?_, ?_⟩
  · intro x hx
    rcases List.mem_append.1 hx with hx | hx
    · exact h.dig x hx
    · simp at hx; rw [hx]; exact Nat.mod_lt _ hb
  · exact Nat.div_lt_of_lt_mul hlt
  · rw [val_snoc, h.len, List.take_succ_eq_append_getElem hj, val_snoc, List.length_take, Nat.min_eq_left (by omega)]
    have h1 := h.eq
    have h2 := Nat.mod_add_div (c + L[j] * m) b
    have h3 : b ^ j * (c + L[j] * m) = b ^ j * ((c + L[j] * m) % b) + b ^ j * b * ((c + L[j] * m) / b) := by
      rw [Nat.mul_assoc, ← Nat.mul_add, h2]
    rw [Nat.pow_succ, Nat.add_mul, Nat.mul_assoc (b ^ j) L[j] m]
    rw [Nat.mul_add] at h3
    omega

/-- THE SECOND LOOP: what is left of the carry goes on top. T: the number that is being written. -/
structure Car (b : Nat) (T : Nat) (l : List Nat) (c : Nat) : Prop where
  dig : ∀ x ∈ l, x < b
  eq : val b l + b ^ l.length * c = T
  top : 0 < l.length → b ^ (l.length - 1) ≤ T

theorem Car.step {b T : Nat} {l : List Nat} {c : Nat} (hb : 0 < b) (h : Car b T l c) (hc : 0 < c) : Car b T (l ++ [c % b]) (c / b) := by
  refine ⟨?_, ?_, ?_⟩
  · intro x hx
    rcases List.mem_append.1 hx with hx | hx
    · exact h.dig x hx
    · simp at hx; rw [hx]; exact Nat.mod_lt _ hb
  · rw [val_snoc, List.length_append, List.length_singleton, Nat.pow_succ, Nat.mul_assoc]
    have h2 : b ^ l.length * (c % b) + b ^ l.length * (b * (c / b)) = b ^ l.length * c := by rw [← Nat.mul_add, Nat.mod_add_div]
    have := h.eq
    omega
  · intro _
    rw [List.length_append, List.length_singleton, Nat.add_sub_cancel]
    have h1 : b ^ l.length * 1 ≤ b ^ l.length * c := Nat.mul_le_mul_left _ hc
    have := h.eq
    omega

theorem Car.canon {b T : Nat} {l : List Nat} (h : Car b T l 0) : Canon b l ∧ val b l = T := by
  have e : val b l = T := by have := h.eq; simpa using this
  exact ⟨⟨h.dig, fun hl => by rw [e]; exact h.top hl⟩, e⟩

/-- behind the first loop the second can begin -/
theorem Mul.car {b m : Nat} {L : List Nat} {c0 : Nat} {done : List Nat} {c : Nat} (h : Mul b m L c0 L.length done c) (hL : Canon b L) (hm : 0 < m) : Car b (val b L * m + c0) done c := by
  have e := h.eq
  rw [List.take_length] at e
  refine ⟨h.dig, by rw [h.len]; exact e, fun hl => ?_⟩
  rw [h.len] at hl ⊢
  have h1 := hL.top hl
  have h2 : val b L * 1 ≤ val b L * m := Nat.mul_le_mul_left _ hm
  omega


/-! ### division, digit by digit -/
structure Div (b D : Nat) (L : List Nat) (i : Nat) (Q : List Nat) (r : Nat) : Prop where
  le : i ≤ L.length
  len : Q.length = i
  dig : ∀ x ∈ Q, x < b
  rem : r < D
  eq : num b (L.take i) = num b Q * D + r

theorem Div.start {b D : Nat} (L : List Nat) (h : 0 < D) : Div b D L 0 [] 0 := ⟨by simp, rfl, by simp, h, by simp [num]⟩

theorem Div.step {b D : Nat} {L : List Nat} {i : Nat} {Q : List Nat} {r : Nat} (h : Div b D L i Q r) (hi : i < L.length) (hL : ∀ x ∈ L, x < b) :
    Div b D L (i + 1) (Q ++ [(r * b + L[i]) / D]) ((r * b + L[i]) % D) := by
  have hd : L[i] < b := hL _ (List.getElem_mem hi)
  have hr := h.rem
  have hlt : r * b + L[i] < D * b := by
    have h2 : (r + 1) * b ≤ D * b := Nat.mul_le_mul_right b hr
    rw [Nat.add_mul, Nat.one_mul] at h2
    omega
  refine ⟨by omega, by simp [h.len], ?_, Nat.mod_lt _ (by omega), ?_⟩
  · intro x hx
    rcases List.mem_append.1 hx with hx | hx
    · exact h.dig x hx
    · simp at hx; rw [hx]; exact Nat.div_lt_of_lt_mul hlt
  · rw [List.take_succ_eq_append_getElem hi, num_snoc, num_snoc, h.eq]
    have h2 := Nat.div_add_mod (r * b + L[i]) D
    have e1 : (num b Q * D + r) * b = num b Q * b * D + r * b := by
      rw [Nat.add_mul, Nat.mul_assoc, Nat.mul_comm D b, ← Nat.mul_assoc]
    rw [e1, Nat.add_mul, Nat.mul_comm _ D]
    rw [Nat.mul_comm D ((r * b + L[i]) / D)] at h2
    rw [Nat.mul_comm D (num b Q * b)]
    omega

theorem Div.head {b D : Nat} {L : List Nat} {i : Nat} {Q : List Nat} {r : Nat} (h : Div b D L i Q r) (hbD : b ≤ D) (hQ : ∀ x ∈ L, x < b) : Q.getD 0 0 = 0 := by
  have hn : num b (L.take i) < b ^ i := by
    have hl : ((L.take i).reverse).length = i := by simp [h.le]
    have := val_lt b (L.take i).reverse (fun x hx => hQ x (List.mem_of_mem_take (by simpa using hx)))
    rw [val_reverse, hl] at this
    exact this
  cases hq : Q with
  | nil => simp
  | cons q Q' =>
    have hlen := h.len
    rw [hq] at hlen
    simp only [List.length_cons] at hlen
    have he := h.eq
    rw [hq, num_cons] at he
    simp only [List.getD_cons_zero]
    rcases Nat.eq_zero_or_pos q with hz | hz
    · exact hz
    · have h1 : 1 * b ^ Q'.length ≤ q * b ^ Q'.length := Nat.mul_le_mul_right _ hz
      have h2 : b ^ Q'.length * b ≤ b ^ Q'.length * D := Nat.mul_le_mul_left _ hbD
      have h3 : b ^ i = b ^ Q'.length * b := by rw [← hlen, Nat.pow_succ]
      have h4 : b ^ Q'.length * D ≤ (q * b ^ Q'.length + num b Q') * D := Nat.mul_le_mul_right D (by omega)
      omega

/-! ### leading noughts -/
theorem num_drop (b : Nat) (l : List Nat) (k : Nat) (h : ∀ t, t < k → l.getD t 0 = 0) : num b (l.drop k) = num b l := by
  induction k generalizing l with
  | zero => simp
  | succ k ih =>
    cases l with
    | nil => simp
    | cons d l =>
      have hd : d = 0 := by simpa using h 0 (by omega)
      subst hd
      rw [List.drop_succ_cons, ih l (fun t ht => by simpa using h (t + 1) (by omega)), num_cons]
      simp

theorem num_pos (b : Nat) (l : List Nat) (hl : 0 < l.length) (h : l.getD 0 0 ≠ 0) : b ^ (l.length - 1) ≤ num b l := by
  cases l with
  | nil => simp at hl
  | cons d l =>
    rw [num_cons]
    simp at h
    have : 1 * b ^ l.length ≤ d * b ^ l.length := Nat.mul_le_mul_right _ (by omega)
    simp only [List.length_cons, Nat.add_sub_cancel]
    omega

theorem canon_of_head {b : Nat} {l : List Nat} (hd : ∀ x ∈ l, x < b) (h : 0 < l.length → l.getD 0 0 ≠ 0) : Canon b l.reverse := by
  refine ⟨by simpa using hd, fun hl => ?_⟩
  rw [List.length_reverse] at hl ⊢
  rw [val_reverse]
  exact num_pos b l hl (h hl)

/-- repeated division: 'rev' are the remainders so far, L what is left to divide -/
structure Rep (b D T : Nat) (rev L : List Nat) : Prop where
  dig : ∀ x ∈ rev, x < D
  ldig : ∀ x ∈ L, x < b
  head : 0 < L.length → L.getD 0 0 ≠ 0
  eq : val D rev + D ^ rev.length * num b L = T
  top : 0 < rev.length → D ^ (rev.length - 1) ≤ T

theorem Rep.step {b D T : Nat} {rev L Q : List Nat} {r k : Nat} (hb : 0 < b) (h : Rep b D T rev L) (hL : 0 < L.length) (hd : Div b D L L.length Q r)
    (hk : ∀ t, t < k → Q.getD t 0 = 0) (hh : k < Q.length → Q.getD k 0 ≠ 0) : Rep b D T (rev ++ [r]) (Q.drop k) := by
  have he := hd.eq
  rw [List.take_length] at he
  refine ⟨?_, fun x hx => hd.dig x (List.mem_of_mem_drop hx), ?_, ?_, ?_⟩
  · intro x hx
    rcases List.mem_append.1 hx with hx | hx
    · exact h.dig x hx
    · simp at hx; rw [hx]; exact hd.rem
  · intro hl
    rw [List.length_drop] at hl
    have := hh (by omega)
    simpa [List.getD_eq_getElem?_getD] using this
  · rw [val_snoc, List.length_append, List.length_singleton, num_drop b Q k hk, Nat.pow_succ]
    have h1 := h.eq
    rw [he, Nat.mul_add] at h1
    rw [Nat.mul_assoc, Nat.mul_comm D (num b Q)]
    omega
  · intro _
    rw [List.length_append, List.length_singleton, Nat.add_sub_cancel]
    have h1 := h.eq
    have h2 := num_pos b L hL (h.head hL)
    have h3 : 0 < b ^ (L.length - 1) := Nat.pow_pos hb
    have h4 : D ^ rev.length * 1 ≤ D ^ rev.length * num b L := Nat.mul_le_mul_left _ (by omega)
    omega

theorem Rep.canon {b D T : Nat} {rev : List Nat} (h : Rep b D T rev []) : Canon D rev ∧ val D rev = T := by
  have e : val D rev = T := by have := h.eq; rw [num_nil] at this; simpa using this
  exact ⟨⟨h.dig, fun hl => by rw [e]; exact h.top hl⟩, e⟩

theorem Rep.start {b D : Nat} {L : List Nat} (hd : ∀ x ∈ L, x < b) (hh : 0 < L.length → L.getD 0 0 ≠ 0) : Rep b D (num b L) [] L :=
  ⟨by simp, hd, hh, by simp [val], by simp⟩

/-! ### comparing -/
def sgn (a b : Nat) : Int := if a < b then -1 else if a = b then 0 else 1

theorem num_lt (b : Nat) (l : List Nat) (h : ∀ x ∈ l, x < b) : num b l < b ^ l.length := by
  have := val_lt b l.reverse (by simpa using h)
  rwa [val_reverse, List.length_reverse] at this

theorem sgn_short {b : Nat} {l m : List Nat} (hb : 0 < b) (hl : ∀ x ∈ l, x < b) (hm : m.getD 0 0 ≠ 0) (hlt : l.length < m.length) : num b l < num b m := by
  have h1 := num_lt b l hl
  have h2 := num_pos b m (by omega) hm
  have h3 : b ^ l.length ≤ b ^ (m.length - 1) := Nat.pow_le_pow_right hb (by omega)
  omega

theorem num_append (b : Nat) (l m : List Nat) : num b (l ++ m) = num b l * b ^ m.length + num b m := by
  simp only [num, List.foldl_append]
  rw [foldl_num]; rfl

theorem num_first {b : Nat} {l m : List Nat} {i : Nat} (hl : ∀ x ∈ l, x < b) (hlen : l.length = m.length) (hi : i < l.length) (hsame : ∀ t, t < i → l.getD t 0 = m.getD t 0) (hlt : l.getD i 0 < m.getD i 0) : num b l < num b m := by
  have ht : l.take i = m.take i := by
    apply List.ext_getElem?
    intro t
    simp only [List.getElem?_take]
    split
    · rename_i hti
      have := hsame t hti
      rw [List.getD_eq_getElem?_getD, List.getD_eq_getElem?_getD, List.getElem?_eq_getElem (by omega), List.getElem?_eq_getElem (by omega)] at this
      rw [List.getElem?_eq_getElem (by omega), List.getElem?_eq_getElem (by omega)]
      simpa using this
    · rfl
  have e1 : l = l.take i ++ l[i] :: l.drop (i + 1) := by rw [← List.drop_eq_getElem_cons hi, List.take_append_drop]
  have e2 : m = m.take i ++ m[i] :: m.drop (i + 1) := by rw [← List.drop_eq_getElem_cons (by omega), List.take_append_drop]
  have hv : l[i] < m[i] := by
    rw [List.getD_eq_getElem?_getD, List.getD_eq_getElem?_getD, List.getElem?_eq_getElem hi, List.getElem?_eq_getElem (by omega)] at hlt
    simpa using hlt
  rw [e1, e2, num_append, num_append, ht, num_cons, num_cons]
  have hl2 := num_lt b (l.drop (i + 1)) (fun x hx => hl x (List.mem_of_mem_drop hx))
  have hle : (l.drop (i + 1)).length = (m.drop (i + 1)).length := by simp [hlen]
  simp only [List.length_cons, hle]
  rw [hle] at hl2
  have h3 : (l[i] + 1) * b ^ (m.drop (i + 1)).length ≤ m[i] * b ^ (m.drop (i + 1)).length := Nat.mul_le_mul_right _ hv
  rw [Nat.add_mul, Nat.one_mul] at h3
  omega

theorem list_same {l m : List Nat} (hlen : l.length = m.length) (hsame : ∀ t, t < l.length → l.getD t 0 = m.getD t 0) : l = m := by
  apply List.ext_getElem? 
  intro t
  by_cases h : t < l.length
  · have := hsame t h
    rw [List.getD_eq_getElem?_getD, List.getD_eq_getElem?_getD, List.getElem?_eq_getElem h, List.getElem?_eq_getElem (by omega)] at this
    rw [List.getElem?_eq_getElem h, List.getElem?_eq_getElem (by omega)]
    simpa using this
  · rw [List.getElem?_eq_none (by omega), List.getElem?_eq_none (by omega)]

theorem sgn_lt {a b : Nat} (h : a < b) : sgn a b = -1 := by simp [sgn, h]
theorem sgn_gt {a b : Nat} (h : b < a) : sgn a b = 1 := by
  have h1 : ¬ a < b := by omega
  have h2 : ¬ a = b := by omega
  simp [sgn, h1, h2]
theorem sgn_eq {a b : Nat} (h : a = b) : sgn a b = 0 := by simp [sgn, h]

end Go.Proofs.Qxb6601977aMods.Num

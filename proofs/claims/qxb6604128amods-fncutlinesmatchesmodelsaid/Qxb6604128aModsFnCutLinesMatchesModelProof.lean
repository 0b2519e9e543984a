/-
  THE PROOF OF 'Rows.FnCutLinesMatchesModelSaid'. The frame is that of the shell of the seat's other statement (proof-skeleton.mjs), turned by hand to two parameters, a slice of slices of bytes and a slice of bytes. Not trusted: the kernel checks it.
-/
import Derived.Test.Qxb6604128aModsRows
import Derived.WalkKit
import Derived.ProofKit
import Derived.Test.Qxb6604128aModsMainS
import Derived.Test.Qxb6604128aModsMainN
import Derived.Deep.Matrix
import Derived.OpenShut
import Derived.ShutString
import Derived.ChangeOld
import Derived.Below
namespace Go.Proofs.Qxb6604128aMods.fnCutLinesMatchesModel
open Go.ChangeShapes Go.WideShapes Go.ChangeAt Go.RowKit
open Go.ChangeMaps (open_string shut_string)
set_option linter.unusedVariables false

theorem own : ownKnob Trym.prog.godebug = none := by kernel_rfl
theorem laidOut : laidOutB Trym.prog = true := by kernel_rfl

/-- WHAT THE WALK IS TOLD OF A SLICE OF INTEGERS THAT CAME IN: it is nil; or it leads to a row of 'cap' cells, the numbers 'zs' (the first 'len' are its elements, the rest its spare room), each fitting its kind. -/
def IsRow (k : IntKind) (w : World) (a : Option Addr) (len cap : Nat) (zs : List Int) : Prop :=
  (a = none ∧ len = 0 ∧ cap = 0 ∧ zs = []) ∨
  ∃ x, a = some x ∧ len ≤ cap ∧ cap ≤ maxLen ∧ zs.length = cap ∧ (∀ i, i < zs.length → w.cell? (x.add i) = some (.int k (zs.getD i 0))) ∧ ∀ n ∈ zs, (Lit.int k n).wf = true

/-! ### STEP 1: THE WALK: the Go text returns true; nothing that was there has turned. -/
theorem sees_of {w : World} {a : Option Addr} {len cap : Nat} {zs : List Int} (h : IsRow .u8 w a len cap zs) :
    ∃ X : List Nat, Sees .u8 w a len X ∧ (∀ x ∈ X, x < 256) ∧ (a = none → len = 0 ∧ cap = 0) ∧ len ≤ maxLen ∧ len ≤ cap := by
  rcases h with ⟨rfl, rfl, rfl, rfl⟩ | ⟨x, rfl, hl, hm, hz, hc, hw⟩
  · exact ⟨[], ⟨rfl, fun t ht => by omega⟩, by simp, fun _ => ⟨rfl, rfl⟩, by unfold maxLen; omega, Nat.le_refl _⟩
  · have hX : ∀ t, t < len → ((zs.take len).map Int.toNat).getD t 0 = (zs.getD t 0).toNat := by
      intro t ht
      rw [List.getD_eq_getElem?_getD, List.getElem?_map, List.getElem?_take, if_pos ht, List.getD_eq_getElem?_getD, List.getElem?_eq_getElem (by omega)]
      rfl
    refine ⟨(zs.take len).map Int.toNat, ⟨by simp; omega, fun t ht => ?_⟩, ?_, by simp, by omega, hl⟩
    · obtain ⟨b, off, rfl, hcell⟩ := ints_at hc (by omega)
      refine ⟨b, off, rfl, fun j hj => ?_⟩
      rw [hcell j (by omega), hX j hj]
      have hmem : zs.getD j 0 ∈ zs := by
        rw [List.getD_eq_getElem?_getD, List.getElem?_eq_getElem (by omega)]
        exact List.getElem_mem _
      have hb := bounds_u8 (hw _ hmem)
      rw [Int.toNat_of_nonneg hb.1]
    · intro y hy
      obtain ⟨n, hn, rfl⟩ := List.mem_map.1 hy
      have hb := bounds_u8 (hw _ (List.mem_of_mem_take hn))
      omega

/-- a slice of slices of bytes that came in, as the walks ask it -/
theorem larg_of {w : World} {a : Addr} {len cap : Nat} {A : Nat → Option Addr} {L C : Nat → Nat} {Z : Nat → List Int} (hl : len ≤ cap)
    (h : ∀ r, r < cap → w.cell? (a.add r) = some (.slice (A r) (L r) (C r)) ∧ L r ≤ C r ∧ C r ≤ maxLen ∧ (Z r).length = C r ∧ (∀ n ∈ Z r, (Lit.int .u8 n).wf = true) ∧ (A r = none → C r = 0) ∧
        ∀ a', A r = some a' → 0 ≤ a'.block ∧ ∀ c, c < C r → w.cell? (a'.add c) = some (.int .u8 ((Z r).getD c 0))) :
    ∃ X : Nat → List Nat, LArg w (some a) len cap A L C X := by
  have each : ∀ r, r < len → ∃ X : List Nat, Sees .u8 w (A r) (L r) X := by
    intro r hr
    obtain ⟨_, h2, h3, h4, h5, h6, h7⟩ := h r (by omega)
    have hrow : IsRow .u8 w (A r) (L r) (C r) (Z r) := by
      cases ha : A r with
      | none =>
        have h0 := h6 ha
        exact .inl ⟨rfl, by omega, h0, List.eq_nil_of_length_eq_zero (by omega)⟩
      | some a' => exact .inr ⟨a', rfl, h2, h3, h4, fun i hi => (h7 a' ha).2 i (by omega), h5⟩
    obtain ⟨X, hX, _⟩ := sees_of hrow
    exact ⟨X, hX⟩
  obtain ⟨X, hX⟩ := Go.Deep.choose_lt each
  refine ⟨X, ⟨by simp, fun t ht => ?_, hX, fun t ht ha => ?_⟩⟩
  · obtain ⟨b, off, spot⟩ := a
    have hspot : spot = none := by simpa [Addr.add] using World.cell?_spot (h 0 (by omega)).1
    subst hspot
    exact ⟨b, off, rfl, fun j hj => by rw [← Go.WideShapes.add_plain]; exact (h j (by omega)).1⟩
  · obtain ⟨_, h2, _, _, _, h6, _⟩ := h t (by omega)
    have := h6 ha
    exact ⟨by omega, this⟩

theorem larg_nil (w : World) : LArg w none 0 0 (fun _ => none) (fun _ => 0) (fun _ => 0) (fun _ => []) :=
  ⟨fun _ => ⟨rfl, rfl⟩, fun t ht => by omega, fun t ht => by omega, fun t ht => by omega⟩

set_option maxHeartbeats 400000 in
theorem walk (al : Option Addr) (nl cl : Nat) (A : Nat → Option Addr) (N C : Nat → Nat) (X : Nat → List Nat) (a1 : Option Addr) (len1 cap1 : Nat) (z1 : List Int) (w : World) (hl : LArg w al nl cl A N C X) (hnm : nl ≤ maxLen) (w1 : IsRow .u8 w a1 len1 cap1 z1) :
    Calls Trym.prog 3 #[.slice al nl cl, .slice a1 len1 cap1] w fun e w' => e = .returned (.bool true) ∧ Below w.heap.size w w' := by
  obtain ⟨D, hx, hD, hnil, hlm, hlc⟩ := sees_of w1
  clear w1
  by_cases h1 : nl ≤ 65536 ∧ len1 ≤ 1048576
  · cases hw : wholeB D with
    | true =>
      cases a1 with
      | none => exact main_none al nl cl len1 cap1 A N C X D w hl hx hD (hnil rfl).1 h1.1 h1.2 hw
      | some a => exact main_some al a nl cl len1 cap1 A N C X D w hl hx hD h1.1 h1.2 hw
    | false =>
      have hwc := whole_any a1 len1 cap1 D w hx h1.2
      rw [hw] at hwc
      have HWC := hid hwc
      have HL := hid hl
      have h2 := h1.1
      have h3 := h1.2
      clear hwc hw hx hD hnil hl h1
      go_enter Trym.func3, Trym.ntmps3
      go_wp2_with fail
      refine (zz5_any al a1 nl cl len1 cap1 A N C X _ HL hnm hlm).mono ?_
      rintro e w ⟨⟨b, rfl⟩, rfl⟩
      cases b with
      | false =>
        go_wp2
        go_ret
        exact ⟨rfl, Below.refl _ _⟩
      | true =>
        go_wp2_with fail
        refine (size_any al a1 nl cl len1 cap1 A N C X _ HL h2 h3).mono ?_
        rintro e w ⟨z, rfl, HZ, hz, rfl⟩
        by_cases hzz : z ≤ 1048576
        · go_wp2_with fail
          refine HWC.out.mono ?_
          rintro e w ⟨rfl, rfl⟩
          go_wp2
          go_ret
          exact ⟨rfl, Below.refl _ _⟩
        · go_wp2
          go_ret
          exact ⟨rfl, Below.refl _ _⟩
  · have HL := hid hl
    have hnm' := hnm
    have hlm' := hlm
    unfold maxLen at hnm' hlm'
    have h2 : 65536 < nl ∨ (nl ≤ 65536 ∧ 1048576 < len1) := by omega
    clear h1 hx hD hnil hl
    rcases h2 with h2 | ⟨h2, h3⟩
    · go_enter Trym.func3, Trym.ntmps3
      go_wp2_with fail
      refine (zz5_any al a1 nl cl len1 cap1 A N C X _ HL hnm hlm).mono ?_
      rintro e w ⟨⟨b, rfl⟩, rfl⟩
      cases b with
      | false =>
        go_wp2
        go_ret
        exact ⟨rfl, Below.refl _ _⟩
      | true =>
        go_wp2
        go_ret
        exact ⟨rfl, Below.refl _ _⟩
    · go_enter Trym.func3, Trym.ntmps3
      go_wp2_with fail
      refine (zz5_any al a1 nl cl len1 cap1 A N C X _ HL hnm hlm).mono ?_
      rintro e w ⟨⟨b, rfl⟩, rfl⟩
      cases b with
      | false =>
        go_wp2
        go_ret
        exact ⟨rfl, Below.refl _ _⟩
      | true =>
        go_wp2
        go_ret
        exact ⟨rfl, Below.refl _ _⟩

/-! ### THE ROW's STEP -/
set_option maxRecDepth 100000 in
theorem lifted (os : Os) (started : os.Started) (H : Type) (enc : TypeId × Value → H) :
    ReturnsInHanded {} Trym.checked os 3 .any (Rows.fnCutLinesMatchesModelSpec.pre6 enc Trym.prog Trym.f3 Rows.fnCutLinesMatchesModelRow.domain false) (Rows.fnCutLinesMatchesModelSpec.post enc Trym.prog Trym.f3 false true false false) := by
  refine returnsInHanded_of_change (C := Trym.checked) own started (by kernel_rfl) Trym.func3
    (ChangeSpec.witness6 (enc := enc) (C := Trym.checked) false ⟨#[], #[.slice none 0 0, .slice none 0 0], []⟩ 8 (by kernel_rfl) (by kernel_rfl) (by kernel_rfl) (by kernel_rfl)) ?_
  intro W base args ds gs before hval0 hW hcnd _
  have hval : ∀ (j : Nat) t v, Trym.f3.params[j]? = some t → args[j]? = some v → Value.okWide Trym.prog W .any base t v := hval0
  have hW' := hW
  obtain ⟨p, q, hA0, hV, rfl, hfz, hnd⟩ := hW
  have hA : DataW.TrodAll enc Trym.prog W 0 (fun _ => true) true Trym.f3.params.toList args.toList ds p := hA0
  rw [Trym.params3] at hA hval
  obtain ⟨v0, vs0, d0, ds0, p0, q0, hargs, rfl, rfl, h0, r0⟩ := trodAll_cons hA
  obtain ⟨v1, vs1, d1, ds1, p1, q1, rfl, rfl, rfl, h1, r1⟩ := trodAll_cons r0
  obtain ⟨rfl, rfl, rfl⟩ := trodAll_nil r1
  obtain rfl : args = #[v0, v1] := by cases args; simp_all
  obtain ⟨rfl, rfl⟩ := trodVars_none hV
  obtain ⟨a0, len0, cap0, rfl⟩ := okWide_slice Trym.underlying22 (hval 0 22 v0 rfl rfl)
  obtain ⟨a1, len1, cap1, rfl⟩ := okWide_slice Trym.underlying23 (hval 1 23 v1 rfl rfl)
  have k0 := h0
  have k1 := h1
  have lt0 : ∀ x ∈ p0, x.block < W.heap.size := by obtain ⟨m, hm⟩ := k0; exact DataW.trod_lt m _ _ _ hm
  have lt1 : ∀ x ∈ p1, x.block < W.heap.size := by obtain ⟨m, hm⟩ := k1; exact DataW.trod_lt m _ _ _ hm
  obtain ⟨A, N, C, X, hlarg, hlen0⟩ : ∃ A N C X, LArg W a0 len0 cap0 A N C X ∧ len0 ≤ maxLen := by
    obtain ⟨fuel, hf⟩ := h0
    rcases Go.Deep.open_int_rows Trym.underlying22 Trym.underlying23 Trym.underlying5 (by kernel_rfl) (by kernel_rfl) hf with ⟨hcs, _⟩ | ⟨a, len, cap, A, L, C, Z, hcs, _, hl, hm, _, hall⟩
    · simp [Value.cells] at hcs
      obtain ⟨rfl, rfl, rfl⟩ := hcs
      exact ⟨_, _, _, _, larg_nil W, by unfold maxLen; omega⟩
    · simp [Value.cells] at hcs
      obtain ⟨rfl, rfl, rfl⟩ := hcs
      obtain ⟨X, hX⟩ := larg_of hl hall
      exact ⟨A, L, C, X, hX, Nat.le_trans hl hm⟩
  obtain ⟨z1, w1⟩ : ∃ zs, IsRow .u8 W a1 len1 cap1 zs := by
    obtain ⟨fuel, hf⟩ := h1
    rcases open_ints Trym.underlying23 Trym.underlying5 (by kernel_rfl) hf with ⟨hcs, _⟩ | ⟨x, l, c, zs, hcs, _, hl, hm, hz, _, hcell, hwz⟩
    · simp [Value.cells] at hcs
      obtain ⟨rfl, rfl, rfl⟩ := hcs
      exact ⟨[], .inl ⟨rfl, rfl, rfl, rfl⟩⟩
    · simp [Value.cells] at hcs
      obtain ⟨rfl, rfl, rfl⟩ := hcs
      exact ⟨zs, .inr ⟨_, rfl, hl, hm, by simpa using hz, hcell, hwz⟩⟩
  clear hA0 hval0
  refine (walk a0 len0 cap0 A N C X a1 len1 cap1 z1 W hlarg hlen0 w1).mono fun e W' ⟨he, bel⟩ => ?_
  subst he
  exact ⟨_, rfl, _, _, _, [], _, [], hW', trodAll_mk1 (shut_bool Trym.underlying4 _), (trodAll_cons_mk (Below.trod laidOut (by kernel_rfl) (of_decide_eq_true (by kernel_rfl)) k0 bel lt0) (trodAll_cons_mk (Below.trod laidOut (by kernel_rfl) (of_decide_eq_true (by kernel_rfl)) k1 bel lt1) trodAll_mk0)), rfl, bel.frame _, fun h => by cases h⟩

theorem over : Rows.fnCutLinesMatchesModelRow.holds Trym.pinned (OpenSpec.ofChange Rows.fnCutLinesMatchesModelSpec) :=
  OpenClaim.holds_of_wide 3 Trym.f3 rfl rfl rfl rfl rfl rfl rfl ⟨rfl, rfl, rfl, rfl, rfl⟩ rfl rfl rfl rfl rfl (by kernel_rfl) Trym.func3 (by kernel_rfl)
    (of_decide_eq_true (by kernel_rfl)) (by unfold Func.isWrapper; first | (rw [if_pos (by decide +kernel)]; kernel_rfl) | (rw [if_neg (by decide +kernel)]; exact ⟨rfl, rfl⟩))
    (fun os started H enc _ => lifted os started H enc)

/-- ████ THE STATEMENT ████ -/
theorem proved : Rows.FnCutLinesMatchesModelSaid := over
#print axioms proved
end Go.Proofs.Qxb6604128aMods.fnCutLinesMatchesModel

/-
  THE SHELL OF A PROOF OF 'Rows.FnCutLinesBatchesGiveEveryLineOnceSaid' ('example.com/policy-ledger/policy-ledger/zzlaws_internal_ledger_b1.FnCutLinesBatchesGiveEveryLineOnce'), WRITTEN BY PROGRAM (proof-skeleton.mjs, third state) off the guide's own print for that function. Not trusted: Lean checks it.
  ALL BUT THE WALK IS THE GUIDE's OWN WAY (howto/template/XProofs.lean; Derived/Test/ChunkProofs.lean for 'Below') at this function's number and types: leave it.
-/
import Derived.Test.Qxb6604128aModsRows
import Derived.WalkKit
import Derived.ProofKit
import Derived.Test.Qxb6604128aModsBatch
import Derived.OpenShut
import Derived.ShutString
import Derived.ChangeOld
import Derived.Below
namespace Go.Proofs.Qxb6604128aMods.fnCutLinesBatchesGiveEveryLineOnce
open Go.ChangeShapes Go.WideShapes Go.ChangeAt Go.RowKit
open Go.ChangeMaps (open_string shut_string)
set_option linter.unusedVariables false

theorem own : ownKnob Trym.prog.godebug = none := by kernel_rfl
theorem laidOut : laidOutB Trym.prog = true := by kernel_rfl

/-- WHAT THE WALK IS TOLD OF A SLICE OF INTEGERS THAT CAME IN: it is nil; or it leads to a row of 'cap' cells, the numbers 'zs' (the first 'len' are its elements, the rest its spare room), each fitting its kind. -/
def IsRow (k : IntKind) (w : World) (a : Option Addr) (len cap : Nat) (zs : List Int) : Prop :=
  (a = none ∧ len = 0 ∧ cap = 0 ∧ zs = []) ∨
  ∃ x, a = some x ∧ len ≤ cap ∧ cap ≤ maxLen ∧ zs.length = cap ∧ (∀ i, i < zs.length → w.cell? (x.add i) = some (.int k (zs.getD i 0))) ∧ ∀ n ∈ zs, (Lit.int k n).wf = true

/-! ### STEP 1: THE WALK: the Go text returns true; nothing that was there has turned. -/
theorem sees_of {w : World} {a : Option Addr} {len cap : Nat} {zs : List Int} (h : IsRow .u8 w a len cap zs) :
    ∃ X : List Nat, Sees .u8 w a len X ∧ (∀ x ∈ X, x < 256) ∧ (a = none → len = 0 ∧ cap = 0) ∧ len ≤ maxLen ∧ len ≤ cap := by
  rcases h with ⟨rfl, rfl, rfl, rfl⟩ | ⟨x, rfl, hl, hm, hz, hc, hw⟩
  · exact ⟨[], ⟨rfl, fun t ht => by omega⟩, by simp, fun _ => ⟨rfl, rfl⟩, by unfold maxLen; omega, Nat.le_refl _⟩
  · have hX : ∀ t, t < len → ((zs.take len).map Int.toNat).getD t 0 = (zs.getD t 0).toNat := by
      intro t ht
      rw [List.getD_eq_getElem?_getD, List.getElem?_map, List.getElem?_take, if_pos ht, List.getD_eq_getElem?_getD, List.getElem?_eq_getElem (by omega)]
      rfl
    refine ⟨(zs.take len).map Int.toNat, ⟨by simp; omega, fun t ht => ?_⟩, ?_, by simp, by omega, hl⟩
    · obtain ⟨b, off, rfl, hcell⟩ := ints_at hc (by omega)
      refine ⟨b, off, rfl, fun j hj => ?_⟩
      rw [hcell j (by omega), hX j hj]
      have hmem : zs.getD j 0 ∈ zs := by
        rw [List.getD_eq_getElem?_getD, List.getElem?_eq_getElem (by omega)]
        exact List.getElem_mem _
      have hb := bounds_u8 (hw _ hmem)
      rw [Int.toNat_of_nonneg hb.1]
    · intro y hy
      obtain ⟨n, hn, rfl⟩ := List.mem_map.1 hy
      have hb := bounds_u8 (hw _ (List.mem_of_mem_take hn))
      omega

set_option maxHeartbeats 400000 in
theorem walk (a0 : Option Addr) (len0 cap0 : Nat) (z0 : List Int) (w : World) (w0 : IsRow .u8 w a0 len0 cap0 z0) :
    Calls Trym.prog 4 #[.slice a0 len0 cap0] w fun e w' => e = .returned (.bool true) ∧ Below w.heap.size w w' := by
  obtain ⟨X, hx, hX, hnil, hlm, hlc⟩ := sees_of w0
  clear w0
  have hlm' := hlm
  unfold maxLen at hlm'
  by_cases h1 : len0 ≤ 1048576
  · rcases Nat.eq_zero_or_pos len0 with h0 | h0
    · subst h0
      exact batch_none a0 cap0 w
    · cases hw : wholeB X with
      | true =>
        obtain ⟨b, o, rfl, _⟩ := hx.2 0 h0
        exact batch_some b o len0 cap0 X w hx hX h1 h0 hlc hw
      | false =>
        have hwc := whole_any a0 len0 cap0 X w hx h1
        rw [hw] at hwc
        have HWC := hid hwc
        clear hwc hw hx hX hnil
        go_enter Trym.func4, Trym.ntmps4
        go_wp2_with (go_at_call 15; refine (zz15_yes _ _ _ _ h1).mono ?_; rintro e w ⟨rfl, rfl⟩)
        refine HWC.out.mono ?_
        rintro e w ⟨rfl, rfl⟩
        go_wp2
        go_ret
        exact ⟨rfl, Below.refl _ _⟩
  · clear hx hX hnil
    go_enter Trym.func4, Trym.ntmps4
    go_wp2_with (go_at_call 15; refine (zz15_no _ _ _ _ hlm (by omega)).mono ?_; rintro e w ⟨rfl, rfl⟩)
    go_ret
    exact ⟨rfl, Below.refl _ _⟩

/-! ### THE ROW's STEP: WRITTEN OUT: LEAVE IT -/
set_option maxRecDepth 100000 in
theorem lifted (os : Os) (started : os.Started) (H : Type) (enc : TypeId × Value → H) :
    ReturnsInHanded {} Trym.checked os 4 .any (Rows.fnCutLinesBatchesGiveEveryLineOnceSpec.pre6 enc Trym.prog Trym.f4 Rows.fnCutLinesBatchesGiveEveryLineOnceRow.domain false) (Rows.fnCutLinesBatchesGiveEveryLineOnceSpec.post enc Trym.prog Trym.f4 false true false false) := by
  refine returnsInHanded_of_change (C := Trym.checked) own started (by kernel_rfl) Trym.func4
    (ChangeSpec.witness6 (enc := enc) (C := Trym.checked) false ⟨#[], #[.slice none 0 0], []⟩ 8 (by kernel_rfl) (by kernel_rfl) (by kernel_rfl) (by kernel_rfl)) ?_
  intro W base args ds gs before hval0 hW hcnd _
  have hval : ∀ (j : Nat) t v, Trym.f4.params[j]? = some t → args[j]? = some v → Value.okWide Trym.prog W .any base t v := hval0
  have hW' := hW
  obtain ⟨p, q, hA0, hV, rfl, hfz, hnd⟩ := hW
  have hA : DataW.TrodAll enc Trym.prog W 0 (fun _ => true) true Trym.f4.params.toList args.toList ds p := hA0
  rw [Trym.params4] at hA hval
  obtain ⟨v0, vs0, d0, ds0, p0, q0, hargs, rfl, rfl, h0, r0⟩ := trodAll_cons hA
  obtain ⟨rfl, rfl, rfl⟩ := trodAll_nil r0
  obtain rfl : args = #[v0] := by cases args; simp_all
  obtain ⟨rfl, rfl⟩ := trodVars_none hV
  obtain ⟨a0, len0, cap0, rfl⟩ := okWide_slice Trym.underlying23 (hval 0 23 v0 rfl rfl)
  have k0 := h0
  have lt0 : ∀ x ∈ p0, x.block < W.heap.size := by obtain ⟨m, hm⟩ := k0; exact DataW.trod_lt m _ _ _ hm
  obtain ⟨z0, w0⟩ : ∃ zs, IsRow .u8 W a0 len0 cap0 zs := by
    obtain ⟨fuel, hf⟩ := h0
    rcases open_ints Trym.underlying23 Trym.underlying5 (by kernel_rfl) hf with ⟨hcs, _⟩ | ⟨x, l, c, zs, hcs, _, hl, hm, hz, _, hcell, hwz⟩
    · simp [Value.cells] at hcs
      obtain ⟨rfl, rfl, rfl⟩ := hcs
      exact ⟨[], .inl ⟨rfl, rfl, rfl, rfl⟩⟩
    · simp [Value.cells] at hcs
      obtain ⟨rfl, rfl, rfl⟩ := hcs
      exact ⟨zs, .inr ⟨_, rfl, hl, hm, by simpa using hz, hcell, hwz⟩⟩
  clear hA0 hval0
  refine (walk a0 len0 cap0 z0 W w0).mono fun e W' ⟨he, bel⟩ => ?_
  subst he
  exact ⟨_, rfl, _, _, _, [], _, [], hW', trodAll_mk1 (shut_bool Trym.underlying4 _), (trodAll_cons_mk (Below.trod laidOut (by kernel_rfl) (of_decide_eq_true (by kernel_rfl)) k0 bel lt0) trodAll_mk0), rfl, bel.frame _, fun h => by cases h⟩

theorem over : Rows.fnCutLinesBatchesGiveEveryLineOnceRow.holds Trym.pinned (OpenSpec.ofChange Rows.fnCutLinesBatchesGiveEveryLineOnceSpec) :=
  OpenClaim.holds_of_wide 4 Trym.f4 rfl rfl rfl rfl rfl rfl rfl ⟨rfl, rfl, rfl, rfl, rfl⟩ rfl rfl rfl rfl rfl (by kernel_rfl) Trym.func4 (by kernel_rfl)
    (of_decide_eq_true (by kernel_rfl)) (by unfold Func.isWrapper; first | (rw [if_pos (by decide +kernel)]; kernel_rfl) | (rw [if_neg (by decide +kernel)]; exact ⟨rfl, rfl⟩))
    (fun os started H enc _ => lifted os started H enc)

/-- ████ THE STATEMENT ████ -/
theorem proved : Rows.FnCutLinesBatchesGiveEveryLineOnceSaid := over
#print axioms proved
end Go.Proofs.Qxb6604128aMods.fnCutLinesBatchesGiveEveryLineOnce

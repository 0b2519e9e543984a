/-
  THE SHELL OF A PROOF OF 'Rows.FnValidRequestIDIsTheCharsetRuleSaid' ('example.com/onceward/onceward/zzlaws_root_b1.FnValidRequestIDIsTheCharsetRule'), WRITTEN BY PROGRAM (proof-skeleton.mjs) off the guide's own print for that function. Not trusted: Lean checks it.
  ALL BUT THE WALK IS THE GUIDE's TEMPLATE (howto/template/XProofs.lean) at this function's number and types: leave it.
-/
import Derived.Test.Qxb6000448aModsRows
import Derived.WalkKit
import Derived.ProofKit
import Derived.OpenShut
import Derived.ShutString
import Derived.Test.Qxb6000448aModsReq
namespace Go.Proofs.Qxb6000448aMods.fnValidRequestIDIsTheCharsetRule
open Go.ChangeShapes Go.WideShapes Go.ChangeAt Go.RowKit
open Go.ChangeMaps (open_string shut_string)
set_option linter.unusedVariables false      -- a walk need not use every 'w<i>' (that an integer argument fits its kind)

theorem own : ownKnob Trym.prog.godebug = none := by kernel_rfl

/-! ### STEP 1: THE WALK: the Go text returns true; nothing that was there has turned. -/
theorem zz9_yes (s : ByteArray) (w : World) (h : s.size ≤ 1048576) :
    Calls Trym.prog 9 #[.string s] w fun e w' => e = .returned (.bool true) ∧ w' = w := by
  go_enter Trym.func9, Trym.ntmps9
  go_wp2
  go_ret
  exact ⟨rfl, rfl⟩

theorem zz9_no (s : ByteArray) (w : World) (hs : s.size ≤ maxLen) (h : 1048576 < s.size) :
    Calls Trym.prog 9 #[.string s] w fun e w' => e = .returned (.bool false) ∧ w' = w := by
  unfold maxLen at hs
  go_enter Trym.func9, Trym.ntmps9
  go_wp2
  go_ret
  exact ⟨rfl, rfl⟩

set_option maxHeartbeats 400000 in
theorem valid_any (s : ByteArray) (w : World) (hs : s.size ≤ maxLen) :
    Calls Trym.prog 10 #[.string s] w fun e w' => e = .returned (.bool (reqB s.data.toList)) ∧ Below w.heap.size w w' := by
  have hl : s.data.toList.length = s.size := by simp
  have hs' := hs
  unfold maxLen at hs'
  by_cases h64 : s.size ≤ 64
  · have HR := (show Hid (reqB s.data.toList = wordB signs s.data.toList) from by
      show reqB s.data.toList = wordB signs s.data.toList
      rw [reqB, hl]; simp [h64])
    have c := ascii_any s ⟨#[46, 95, 58, 45]⟩ w hs
    have e : (⟨#[46, 95, 58, 45]⟩ : ByteArray).data.toList = signs := rfl
    rw [e, ← HR.out] at c
    obtain ⟨z, hz⟩ : ∃ z, z = reqB s.data.toList := ⟨_, rfl⟩
    rw [← hz] at c ⊢
    have C := hid c
    clear c hz hl e
    go_enter Trym.func10, Trym.ntmps10
    go_wp2_with fail
    refine C.out.mono ?_
    rintro e w1 ⟨rfl, hb⟩
    have HB := hid hb
    clear hb
    go_wp2
    go_ret
    exact ⟨rfl, HB.out⟩
  · have HN := (show Hid (reqB s.data.toList = false) from by
      show reqB s.data.toList = false
      rw [reqB, hl]; simp [h64])
    clear hl
    go_enter Trym.func10, Trym.ntmps10
    go_wp2
    go_ret
    exact ⟨ret_bool HN.out.symm, Below.refl _ _⟩

set_option maxHeartbeats 400000 in
theorem walk (a0 : ByteArray) (w0 : a0.size ≤ maxLen) (w : World) :
    Calls Trym.prog 3 #[.string a0] w fun e w' => e = .returned (.bool true) ∧ Below w.heap.size w w' := by
  have w0' := w0
  unfold maxLen at w0'
  by_cases h1 : a0.size ≤ 1048576
  · have c1 := valid_any a0 w w0
    obtain ⟨z, hz⟩ : ∃ z, z = reqB a0.data.toList := ⟨_, rfl⟩
    rw [← hz] at c1
    have C1 := hid c1
    have C2 := (show Hid (∀ w' : World, Calls Trym.prog 11 #[.string a0] w' fun e w'' => e = .returned (.bool z) ∧ w'' = w') from fun w' => by
      have := model_any a0 w' w0
      rwa [← hz] at this)
    have hzz : (z == z) = true := by simp
    clear c1 hz
    go_enter Trym.func3, Trym.ntmps3
    go_wp2_with (go_at_call 9; refine (zz9_yes a0 _ h1).mono ?_; rintro e w ⟨rfl, rfl⟩)
    refine C1.out.mono ?_
    rintro e w1 ⟨rfl, hb⟩
    have HB := hid hb
    clear hb
    go_wp2_with fail
    refine (C2.out _).mono ?_
    rintro e w2 ⟨rfl, rfl⟩
    go_wp2
    go_ret
    exact ⟨rfl, HB.out⟩
  · go_enter Trym.func3, Trym.ntmps3
    go_wp2_with (go_at_call 9; refine (zz9_no a0 _ w0 (by omega)).mono ?_; rintro e w ⟨rfl, rfl⟩)
    go_ret
    exact ⟨rfl, Below.refl _ _⟩

/-! ### THE ROW's STEP: WRITTEN OUT: LEAVE IT -/
set_option maxRecDepth 100000 in
theorem lifted (os : Os) (started : os.Started) (H : Type) (enc : TypeId × Value → H) :
    ReturnsInHanded {} Trym.checked os 3 .any (Rows.fnValidRequestIDIsTheCharsetRuleSpec.pre6 enc Trym.prog Trym.f3 Rows.fnValidRequestIDIsTheCharsetRuleRow.domain false) (Rows.fnValidRequestIDIsTheCharsetRuleSpec.post enc Trym.prog Trym.f3 false true false false) := by
  refine returnsInHanded_of_change (C := Trym.checked) own started (by kernel_rfl) Trym.func3
    (ChangeSpec.witness6 (enc := enc) (C := Trym.checked) false ⟨#[], #[.string ByteArray.empty], []⟩ 8 (by kernel_rfl) (by kernel_rfl) (by kernel_rfl) (by kernel_rfl)) ?_
  intro W base args ds gs before hval0 hW hcnd _
  have hval : ∀ (j : Nat) t v, Trym.f3.params[j]? = some t → args[j]? = some v → Value.okWide Trym.prog W .any base t v := hval0
  have hW' := hW
  obtain ⟨p, q, hA0, hV, rfl, hfz, hnd⟩ := hW
  have hA : DataW.TrodAll enc Trym.prog W 0 (fun _ => true) true Trym.f3.params.toList args.toList ds p := hA0
  rw [Trym.params3] at hA hval
  obtain ⟨v0, vs0, d0, ds0, p0, q0, hargs, rfl, rfl, h0, r0⟩ := trodAll_cons hA
  obtain ⟨rfl, rfl, rfl⟩ := trodAll_nil r0
  obtain rfl : args = #[v0] := by cases args; simp_all
  obtain ⟨rfl, rfl⟩ := trodVars_none hV
  obtain ⟨a0, rfl, rfl, rfl, w0⟩ := open_string Trym.underlying9 (hval 0 9 v0 rfl rfl) h0
  clear hA0 hval0
  simp only [List.append_nil] at hW'
  refine (walk a0 w0 W).mono fun e W' ⟨he, bel⟩ => ?_
  subst he
  exact ⟨_, rfl, _, _, _, [], [], [], hW', trodAll_mk1 (shut_bool Trym.underlying4 _), (trodAll_cons_mk (shut_string Trym.underlying9 w0) trodAll_mk0), rfl, bel.frame _, fun h => by cases h⟩

theorem over : Rows.fnValidRequestIDIsTheCharsetRuleRow.holds Trym.pinned (OpenSpec.ofChange Rows.fnValidRequestIDIsTheCharsetRuleSpec) :=
  OpenClaim.holds_of_wide 3 Trym.f3 rfl rfl rfl rfl rfl rfl rfl ⟨rfl, rfl, rfl, rfl, rfl⟩ rfl rfl rfl rfl rfl (by kernel_rfl) Trym.func3 (by kernel_rfl)
    (of_decide_eq_true (by kernel_rfl)) (by unfold Func.isWrapper; first | (rw [if_pos (by decide +kernel)]; kernel_rfl) | (rw [if_neg (by decide +kernel)]; exact ⟨rfl, rfl⟩))
    (fun os started H enc _ => lifted os started H enc)

/-- ████ THE STATEMENT ████ -/
theorem proved : Rows.FnValidRequestIDIsTheCharsetRuleSaid :=
  over
#print axioms proved
end Go.Proofs.Qxb6000448aMods.fnValidRequestIDIsTheCharsetRule

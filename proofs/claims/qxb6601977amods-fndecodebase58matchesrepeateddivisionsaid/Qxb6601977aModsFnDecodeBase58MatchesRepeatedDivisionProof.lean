/-
  THE SHELL OF A PROOF OF 'Rows.FnDecodeBase58MatchesRepeatedDivisionSaid' ('example.com/sealstone/sealstone/zzlaws_root_b1.FnDecodeBase58MatchesRepeatedDivision'), WRITTEN BY PROGRAM (proof-skeleton.mjs) off the guide's own print for that function. Not trusted: Lean checks it.
  ALL BUT THE WALK IS THE GUIDE's TEMPLATE (howto/template/XProofs.lean) at this function's number and types: leave it.
-/
import Derived.Test.Qxb6601977aModsRows
import Derived.WalkKit
import Derived.ProofKit
import Derived.OpenShut
import Derived.ShutString
import Derived.Test.Qxb6601977aModsEq
namespace Go.Proofs.Qxb6601977aMods.fnDecodeBase58MatchesRepeatedDivision
open Go.ChangeShapes Go.WideShapes Go.ChangeAt Go.RowKit
open Go.ChangeMaps (open_string shut_string)
set_option linter.unusedVariables false      -- a walk need not use every 'w<i>' (that an integer argument fits its kind)

theorem own : ownKnob Trym.prog.godebug = none := by kernel_rfl

/-! ### STEP 1: THE WALK: the Go text returns true; nothing that was there has turned. -/
set_option maxHeartbeats 400000 in
theorem walk (a0 : ByteArray) (w0 : a0.size ≤ maxLen) (w : World) :
    Calls Trym.prog 5 #[.string a0] w fun e w' => e = .returned (.bool true) ∧ Below w.heap.size w w' := by
  have w0' := w0
  unfold maxLen at w0'
  by_cases h1 : a0.size ≤ 1048576
  · by_cases h2 : a0.size ≤ 4096
    · cases hv : validL a0.data.toList with
      | false =>
        have HV := (show Hid (validL a0.data.toList = false) from hv)
        clear hv
        go_enter Trym.func5, Trym.ntmps5
        go_wp2_with (first | (go_at_call 16; refine (zz16_yes a0 _ h1).mono ?_; rintro e w ⟨rfl, rfl⟩) | (go_at_call 17; refine (validB58_any a0 _ w0).mono ?_; rw [HV.out]; rintro e w ⟨rfl, rfl⟩))
        go_ret
        exact ⟨rfl, Below.refl _ _⟩
      | true =>
        have HV := (show Hid (validL a0.data.toList = true) from hv)
        clear hv
        go_enter Trym.func5, Trym.ntmps5
        go_wp2_with (first | (go_at_call 16; refine (zz16_yes a0 _ h1).mono ?_; rintro e w ⟨rfl, rfl⟩) | (go_at_call 17; refine (validB58_any a0 _ w0).mono ?_; rw [HV.out]; rintro e w ⟨rfl, rfl⟩))
        refine (zzdecode_any a0 _ h1 HV).mono ?_
        rintro e w1 ⟨g1, L1, rfl, r1, c1, v1, b1⟩
        have R1 := hid r1
        have B1 := hid b1
        have C1 := hid c1
        have V1 := hid v1
        clear r1 b1 c1 v1
        go_wp2_with fail
        refine (model_any a0 _ h1 HV).mono ?_
        rintro e w2 ⟨g2, L2, rfl, r2, c2, v2, b2⟩
        have hL : L1 = L2 := C1.out.inj (by omega) c2 (by rw [V1.out, v2])
        subst hL
        have hlen := Decoded.len c2 v2
        have hlen' : L1.length ≤ 2097152 := by
          have e : a0.data.toList.length = a0.size := by simp
          omega
        have hs1 : Sees w2 (some ⟨g1, 0, none⟩) L1.length L1.reverse := by
          have h := R1.out.sees
          rw [List.length_reverse] at h
          refine h.below b2 ?_
          intro b o he
          have := R1.out.blk
          simp at he
          omega
        have hs2 : Sees w2 (some ⟨g2, 0, none⟩) L1.length L1.reverse := by
          have h := r2.sees
          rw [List.length_reverse] at h
          exact h
        have hb : Below w.heap.size w w2 := B1.out.trans (b2.mono B1.out.size)
        have S1 := hid hs1
        have S2 := hid hs2
        have HB := hid hb
        clear hs1 hs2 hb r2 c2 v2 b2 R1 B1 C1 V1 hlen
        go_wp2_with fail
        refine (bytesEqual_same _ _ _ _ _ L1.reverse _ S1 S2 hlen').mono ?_
        rintro e w3 ⟨rfl, m, rfl⟩
        go_wp2
        go_ret
        exact ⟨rfl, below_drewN HB.out m⟩
    · go_enter Trym.func5, Trym.ntmps5
      go_wp2_with (go_at_call 16; refine (zz16_yes a0 _ h1).mono ?_; rintro e w ⟨rfl, rfl⟩)
      go_ret
      exact ⟨rfl, Below.refl _ _⟩
  · go_enter Trym.func5, Trym.ntmps5
    go_wp2_with (go_at_call 16; refine (zz16_no a0 _ w0 (by omega)).mono ?_; rintro e w ⟨rfl, rfl⟩)
    go_ret
    exact ⟨rfl, Below.refl _ _⟩

/-! ### THE ROW's STEP: WRITTEN OUT: LEAVE IT -/
set_option maxRecDepth 100000 in
theorem lifted (os : Os) (started : os.Started) (H : Type) (enc : TypeId × Value → H) :
    ReturnsInHanded {} Trym.checked os 5 .any (Rows.fnDecodeBase58MatchesRepeatedDivisionSpec.pre6 enc Trym.prog Trym.f5 Rows.fnDecodeBase58MatchesRepeatedDivisionRow.domain false) (Rows.fnDecodeBase58MatchesRepeatedDivisionSpec.post enc Trym.prog Trym.f5 false true false false) := by
  refine returnsInHanded_of_change (C := Trym.checked) own started (by kernel_rfl) Trym.func5
    (ChangeSpec.witness6 (enc := enc) (C := Trym.checked) false ⟨#[], #[.string ByteArray.empty], []⟩ 8 (by kernel_rfl) (by kernel_rfl) (by kernel_rfl) (by kernel_rfl)) ?_
  intro W base args ds gs before hval0 hW hcnd _
  have hval : ∀ (j : Nat) t v, Trym.f5.params[j]? = some t → args[j]? = some v → Value.okWide Trym.prog W .any base t v := hval0
  have hW' := hW
  obtain ⟨p, q, hA0, hV, rfl, hfz, hnd⟩ := hW
  have hA : DataW.TrodAll enc Trym.prog W 0 (fun _ => true) true Trym.f5.params.toList args.toList ds p := hA0
  rw [Trym.params5] at hA hval
  obtain ⟨v0, vs0, d0, ds0, p0, q0, hargs, rfl, rfl, h0, r0⟩ := trodAll_cons hA
  obtain ⟨rfl, rfl, rfl⟩ := trodAll_nil r0
  obtain rfl : args = #[v0] := by cases args; simp_all
  obtain ⟨rfl, rfl⟩ := trodVars_none hV
  obtain ⟨a0, rfl, rfl, rfl, w0⟩ := open_string Trym.underlying9 (hval 0 9 v0 rfl rfl) h0
  clear hA0 hval0
  simp only [List.append_nil] at hW'
  refine (walk a0 w0 W).mono fun e W' ⟨he, bel⟩ => ?_
  subst he
  exact ⟨_, rfl, _, _, _, [], [], [], hW', trodAll_mk1 (shut_bool Trym.underlying4 _), (trodAll_cons_mk (shut_string Trym.underlying9 w0) trodAll_mk0), rfl, bel.frame _, fun h => by cases h⟩

theorem over : Rows.fnDecodeBase58MatchesRepeatedDivisionRow.holds Trym.pinned (OpenSpec.ofChange Rows.fnDecodeBase58MatchesRepeatedDivisionSpec) :=
  OpenClaim.holds_of_wide 5 Trym.f5 rfl rfl rfl rfl rfl rfl rfl ⟨rfl, rfl, rfl, rfl, rfl⟩ rfl rfl rfl rfl rfl (by kernel_rfl) Trym.func5 (by kernel_rfl)
    (of_decide_eq_true (by kernel_rfl)) (by unfold Func.isWrapper; first | (rw [if_pos (by decide +kernel)]; kernel_rfl) | (rw [if_neg (by decide +kernel)]; exact ⟨rfl, rfl⟩))
    (fun os started H enc _ => lifted os started H enc)

/-- ████ THE STATEMENT ████ -/
theorem proved : Rows.FnDecodeBase58MatchesRepeatedDivisionSaid :=
  over
#print axioms proved
end Go.Proofs.Qxb6601977aMods.fnDecodeBase58MatchesRepeatedDivision

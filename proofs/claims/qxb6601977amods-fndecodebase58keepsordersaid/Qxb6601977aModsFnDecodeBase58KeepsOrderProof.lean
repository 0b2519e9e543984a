/-
  THE SHELL OF A PROOF OF 'Rows.FnDecodeBase58KeepsOrderSaid' ('example.com/sealstone/sealstone/zzlaws_root_b1.FnDecodeBase58KeepsOrder'), WRITTEN BY PROGRAM (proof-skeleton.mjs) off the guide's own print for that function. Not trusted: Lean checks it.
  ALL BUT THE WALK IS THE GUIDE's TEMPLATE (howto/template/XProofs.lean) at this function's number and types: leave it.
-/
import Derived.Test.Qxb6601977aModsRows
import Derived.WalkKit
import Derived.ProofKit
import Derived.OpenShut
import Derived.ShutString
import Derived.Test.Qxb6601977aModsBig
namespace Go.Proofs.Qxb6601977aMods.fnDecodeBase58KeepsOrder
open Go.ChangeShapes Go.WideShapes Go.ChangeAt Go.RowKit
open Go.ChangeMaps (open_string shut_string)
open Num
set_option linter.unusedVariables false      -- a walk need not use every 'w<i>' (that an integer argument fits its kind)

theorem own : ownKnob Trym.prog.godebug = none := by kernel_rfl

/-! ### STEP 1: THE WALK: the Go text returns true; nothing that was there has turned. -/
theorem valid_is (s : ByteArray) (b : Bool) (w : World) (hs : s.size ≤ maxLen) (h : Hid (validL s.data.toList = b)) :
    Calls Trym.prog 17 #[.string s] w fun e w' => e = .returned (.bool b) ∧ w' = w := by
  have c := validB58_any s w hs
  rw [h.out] at c
  exact c

set_option maxHeartbeats 400000 in
theorem walk (a0 : ByteArray) (a1 : ByteArray) (w0 : a0.size ≤ maxLen) (w1 : a1.size ≤ maxLen) (w : World) :
    Calls Trym.prog 8 #[.string a0, .string a1] w fun e w' => e = .returned (.bool true) ∧ Below w.heap.size w w' := by
  have w0' := w0
  have w1' := w1
  unfold maxLen at w0' w1'
  by_cases h1 : a0.size + a1.size ≤ 1048576
  · have q1 : a0.size ≤ 1048576 := by omega
    have q2 : a1.size ≤ 1048576 := by omega
    by_cases h2 : a0.size ≤ 4096
    · by_cases h3 : a1.size ≤ 4096
      · cases hv : validL a0.data.toList with
        | false =>
          have HV := hid hv
          clear hv
          go_enter Trym.func8, Trym.ntmps8
          go_wp2_with (first | (go_at_call 25; refine (zz25_yes a0 a1 _ h1).mono ?_; rintro e w ⟨rfl, rfl⟩) | (go_at_call 17; refine (valid_is a0 false _ w0 HV).mono ?_; rintro e w ⟨rfl, rfl⟩))
          go_ret
          exact ⟨rfl, Below.refl _ _⟩
        | true =>
          have HV := hid hv
          clear hv
          cases hu : validL a1.data.toList with
          | false =>
            have HU := hid hu
            clear hu
            go_enter Trym.func8, Trym.ntmps8
            go_wp2_with (go_at_call 25; refine (zz25_yes a0 a1 _ h1).mono ?_; rintro e w ⟨rfl, rfl⟩)
            refine (valid_is a0 true _ w0 HV).mono ?_
            rintro e w ⟨rfl, rfl⟩
            go_wp2_with fail
            refine (valid_is a1 false _ w1 HU).mono ?_
            rintro e w ⟨rfl, rfl⟩
            go_wp2
            go_ret
            exact ⟨rfl, Below.refl _ _⟩
          | true =>
            have HU := hid hu
            clear hu
            go_enter Trym.func8, Trym.ntmps8
            go_wp2_with (go_at_call 25; refine (zz25_yes a0 a1 _ h1).mono ?_; rintro e w ⟨rfl, rfl⟩)
            refine (valid_is a0 true _ w0 HV).mono ?_
            rintro e w ⟨rfl, rfl⟩
            go_wp2_with fail
            refine (valid_is a1 true _ w1 HU).mono ?_
            rintro e w ⟨rfl, rfl⟩
            go_wp2_with fail
            refine (zzdecode_any a0 _ q1 HV).mono ?_
            rintro e u1 ⟨g1, L1, rfl, r1, c1, v1, b1⟩
            have hl1 := Decoded.len c1 v1
            have e1 : a0.data.toList.length = a0.size := by simp
            have hl1' : L1.length ≤ 2097152 := by omega
            have R1 := hid r1
            have C1 := hid c1
            have V1 := hid v1
            have B1 := hid b1
            clear r1 c1 v1 b1 hl1 e1
            go_wp2_with fail
            refine (zzdecode_any a1 _ q2 HU).mono ?_
            rintro e u2 ⟨g2, L2, rfl, r2, c2, v2, b2⟩
            have hl2 := Decoded.len c2 v2
            have e2 : a1.data.toList.length = a1.size := by simp
            have hl2' : L2.length ≤ 2097152 := by omega
            have R1' := hid (R1.out.later b2)
            have R2 := hid r2
            have C2 := hid c2
            have V2 := hid v2
            have HB := hid (B1.out.trans (b2.mono B1.out.size))
            clear r2 c2 v2 b2 hl2 e2 R1 B1
            obtain ⟨z, hz⟩ : ∃ z, z = sgn (num 58 (dgs a0.data.toList)) (num 58 (dgs a1.data.toList)) := ⟨_, rfl⟩
            have k1 := cmpB58_any a0 a1 u2 q1 q2 HV HU
            rw [← hz] at k1
            have S1 := (show Hid (Sees u2 (some ⟨g1, 0, none⟩) L1.length L1.reverse) from by
              have h := R1'.out.sees
              rw [List.length_reverse] at h
              exact h)
            have S2 := (show Hid (Sees u2 (some ⟨g2, 0, none⟩) L2.length L2.reverse) from by
              have h := R2.out.sees
              rw [List.length_reverse] at h
              exact h)
            have X1 := (show Hid (∀ x ∈ L1.reverse, x < 256) from fun x hx => C1.out.dig x (by simpa using hx))
            have X2 := (show Hid (∀ x ∈ L2.reverse, x < 256) from fun x hx => C2.out.dig x (by simpa using hx))
            have k2 := cmpBig_any (some ⟨g1, 0, none⟩) (some ⟨g2, 0, none⟩) L1.length L2.length L1.length L2.length L1.reverse L2.reverse u2 hl1' hl2' (Nat.le_refl _) (Nat.le_refl _) (by unfold maxLen; omega) (by unfold maxLen; omega) S1 S2 X1 X2 (by simp) (by simp) R1'.out.plain R2.out.plain
            rw [num_reverse, num_reverse, V1.out, V2.out, ← hz] at k2
            have K1 := hid k1
            have K2 := hid k2
            clear k1 k2 hz S1 S2 X1 X2 R1' R2 C1 C2 V1 V2
            go_wp2_with fail
            refine K1.out.mono ?_
            rintro e u3 ⟨rfl, rfl⟩
            go_wp2_with fail
            refine K2.out.mono ?_
            rintro e u4 ⟨rfl, m, rfl⟩
            have hzz : (z == z) = true := by simp
            go_wp2
            go_ret
            exact ⟨rfl, below_drewN HB.out m⟩
      · go_enter Trym.func8, Trym.ntmps8
        go_wp2_with (go_at_call 25; refine (zz25_yes a0 a1 _ h1).mono ?_; rintro e w ⟨rfl, rfl⟩)
        go_ret
        exact ⟨rfl, Below.refl _ _⟩
    · go_enter Trym.func8, Trym.ntmps8
      go_wp2_with (go_at_call 25; refine (zz25_yes a0 a1 _ h1).mono ?_; rintro e w ⟨rfl, rfl⟩)
      go_ret
      exact ⟨rfl, Below.refl _ _⟩
  · go_enter Trym.func8, Trym.ntmps8
    go_wp2_with (go_at_call 25; refine (zz25_no a0 a1 _ w0 w1 (by omega)).mono ?_; rintro e w ⟨rfl, rfl⟩)
    go_ret
    exact ⟨rfl, Below.refl _ _⟩

/-! ### THE ROW's STEP: WRITTEN OUT: LEAVE IT -/
set_option maxRecDepth 100000 in
theorem lifted (os : Os) (started : os.Started) (H : Type) (enc : TypeId × Value → H) :
    ReturnsInHanded {} Trym.checked os 8 .any (Rows.fnDecodeBase58KeepsOrderSpec.pre6 enc Trym.prog Trym.f8 Rows.fnDecodeBase58KeepsOrderRow.domain false) (Rows.fnDecodeBase58KeepsOrderSpec.post enc Trym.prog Trym.f8 false true false false) := by
  refine returnsInHanded_of_change (C := Trym.checked) own started (by kernel_rfl) Trym.func8
    (ChangeSpec.witness6 (enc := enc) (C := Trym.checked) false ⟨#[], #[.string ByteArray.empty, .string ByteArray.empty], []⟩ 8 (by kernel_rfl) (by kernel_rfl) (by kernel_rfl) (by kernel_rfl)) ?_
  intro W base args ds gs before hval0 hW hcnd _
  have hval : ∀ (j : Nat) t v, Trym.f8.params[j]? = some t → args[j]? = some v → Value.okWide Trym.prog W .any base t v := hval0
  have hW' := hW
  obtain ⟨p, q, hA0, hV, rfl, hfz, hnd⟩ := hW
  have hA : DataW.TrodAll enc Trym.prog W 0 (fun _ => true) true Trym.f8.params.toList args.toList ds p := hA0
  rw [Trym.params8] at hA hval
  obtain ⟨v0, vs0, d0, ds0, p0, q0, hargs, rfl, rfl, h0, r0⟩ := trodAll_cons hA
  obtain ⟨v1, vs1, d1, ds1, p1, q1, rfl, rfl, rfl, h1, r1⟩ := trodAll_cons r0
  obtain ⟨rfl, rfl, rfl⟩ := trodAll_nil r1
  obtain rfl : args = #[v0, v1] := by cases args; simp_all
  obtain ⟨rfl, rfl⟩ := trodVars_none hV
  obtain ⟨a0, rfl, rfl, rfl, w0⟩ := open_string Trym.underlying9 (hval 0 9 v0 rfl rfl) h0
  obtain ⟨a1, rfl, rfl, rfl, w1⟩ := open_string Trym.underlying9 (hval 1 9 v1 rfl rfl) h1
  clear hA0 hval0
  simp only [List.append_nil] at hW'
  refine (walk a0 a1 w0 w1 W).mono fun e W' ⟨he, bel⟩ => ?_
  subst he
  exact ⟨_, rfl, _, _, _, [], [], [], hW', trodAll_mk1 (shut_bool Trym.underlying4 _), (trodAll_cons_mk (shut_string Trym.underlying9 w0) (trodAll_cons_mk (shut_string Trym.underlying9 w1) trodAll_mk0)), rfl, bel.frame _, fun h => by cases h⟩

theorem over : Rows.fnDecodeBase58KeepsOrderRow.holds Trym.pinned (OpenSpec.ofChange Rows.fnDecodeBase58KeepsOrderSpec) :=
  OpenClaim.holds_of_wide 8 Trym.f8 rfl rfl rfl rfl rfl rfl rfl ⟨rfl, rfl, rfl, rfl, rfl⟩ rfl rfl rfl rfl rfl (by kernel_rfl) Trym.func8 (by kernel_rfl)
    (of_decide_eq_true (by kernel_rfl)) (by unfold Func.isWrapper; first | (rw [if_pos (by decide +kernel)]; kernel_rfl) | (rw [if_neg (by decide +kernel)]; exact ⟨rfl, rfl⟩))
    (fun os started H enc _ => lifted os started H enc)

/-- ████ THE STATEMENT ████ -/
theorem proved : Rows.FnDecodeBase58KeepsOrderSaid :=
  over
#print axioms proved
end Go.Proofs.Qxb6601977aMods.fnDecodeBase58KeepsOrder

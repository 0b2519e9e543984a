/-
  THE SHELL OF A PROOF OF 'Rows.FnAsciiWordMatchesByteModelSaid' ('example.com/onceward/onceward/zzlaws_root_b1.FnAsciiWordMatchesByteModel'), WRITTEN BY PROGRAM (proof-skeleton.mjs) off the guide's own print for that function. Not trusted: Lean checks it.
  ALL BUT THE WALK IS THE GUIDE's TEMPLATE (howto/template/XProofs.lean) at this function's number and types: leave it.
-/
import Derived.Test.Qxb6000448aModsRows
import Derived.WalkKit
import Derived.ProofKit
import Derived.OpenShut
import Derived.ShutString
import Derived.Test.Qxb6000448aModsWord
namespace Go.Proofs.Qxb6000448aMods.fnAsciiWordMatchesByteModel
open Go.ChangeShapes Go.WideShapes Go.ChangeAt Go.RowKit
open Go.ChangeMaps (open_string shut_string)
set_option linter.unusedVariables false      -- a walk need not use every 'w<i>' (that an integer argument fits its kind)

theorem own : ownKnob Trym.prog.godebug = none := by kernel_rfl

/-! ### STEP 1: THE WALK: the Go text returns true; nothing that was there has turned. -/
theorem zz20_yes (s t : ByteArray) (w : World) (h : s.size + t.size ≤ 1048576) :
    Calls Trym.prog 20 #[.string s, .string t] w fun e w' => e = .returned (.bool true) ∧ w' = w := by
  go_enter Trym.func20, Trym.ntmps20
  go_wp2
  go_ret
  exact ⟨rfl, rfl⟩

theorem zz20_no (s t : ByteArray) (w : World) (hs : s.size ≤ maxLen) (ht : t.size ≤ maxLen) (h : 1048576 < s.size + t.size) :
    Calls Trym.prog 20 #[.string s, .string t] w fun e w' => e = .returned (.bool false) ∧ w' = w := by
  unfold maxLen at hs ht
  by_cases h1 : 1048576 < s.size
  · go_enter Trym.func20, Trym.ntmps20
    go_wp2
    go_ret
    exact ⟨rfl, rfl⟩
  · by_cases h2 : 1048576 < t.size
    · go_enter Trym.func20, Trym.ntmps20
      go_wp2
      go_ret
      exact ⟨rfl, rfl⟩
    · go_enter Trym.func20, Trym.ntmps20
      go_wp2
      go_ret
      exact ⟨rfl, rfl⟩

theorem zzword_any (s p : ByteArray) (w : World) (hs : s.size ≤ maxLen) :
    Calls Trym.prog 21 #[.string s, .string p] w fun e w' => e = .returned (.bool (wordB p.data.toList s.data.toList)) ∧ Below w.heap.size w w' := by
  obtain ⟨z, hz⟩ : ∃ z, z = wordB p.data.toList s.data.toList := ⟨_, rfl⟩
  have c := ascii_any s p w hs
  rw [← hz] at c ⊢
  have C := hid c
  clear c hz
  go_enter Trym.func21, Trym.ntmps21
  go_wp2_with fail
  refine C.out.mono ?_
  rintro e w1 ⟨rfl, hb⟩
  have HB := hid hb
  clear hb
  go_wp2
  go_ret
  exact ⟨rfl, HB.out⟩

set_option maxHeartbeats 400000 in
theorem walk (a0 : ByteArray) (a1 : ByteArray) (w0 : a0.size ≤ maxLen) (w1 : a1.size ≤ maxLen) (w : World) :
    Calls Trym.prog 7 #[.string a0, .string a1] w fun e w' => e = .returned (.bool true) ∧ Below w.heap.size w w' := by
  have w0' := w0
  have w1' := w1
  unfold maxLen at w0' w1'
  by_cases h1 : a0.size + a1.size ≤ 1048576
  · by_cases h2 : a0.size ≤ 262144
    · by_cases h3 : a1.size ≤ 262144
      · obtain ⟨z, hz⟩ : ∃ z, z = wordB a1.data.toList a0.data.toList := ⟨_, rfl⟩
        have c1 := zzword_any a0 a1 w w0
        rw [← hz] at c1
        have C1 := hid c1
        have C2 := (show Hid (∀ w' : World, Calls Trym.prog 22 #[.string a0, .string a1] w' fun e w'' => e = .returned (.bool z) ∧ Below w'.heap.size w' w'') from fun w' => by
          have := word_any a0 a1 w' h2 h3
          rwa [← hz] at this)
        have hzz : (z == z) = true := by simp
        clear c1 hz
        go_enter Trym.func7, Trym.ntmps7
        go_wp2_with (go_at_call 20; refine (zz20_yes a0 a1 _ h1).mono ?_; rintro e w ⟨rfl, rfl⟩)
        refine C1.out.mono ?_
        rintro e u1 ⟨rfl, hb⟩
        have HB := hid hb
        clear hb
        go_wp2_with fail
        refine (C2.out _).mono ?_
        rintro e u2 ⟨rfl, hb2⟩
        have HB2 := hid (HB.out.trans (hb2.mono HB.out.size))
        clear hb2
        go_wp2
        go_ret
        exact ⟨rfl, HB2.out⟩
      · go_enter Trym.func7, Trym.ntmps7
        go_wp2_with (go_at_call 20; refine (zz20_yes a0 a1 _ h1).mono ?_; rintro e w ⟨rfl, rfl⟩)
        go_ret
        exact ⟨rfl, Below.refl _ _⟩
    · go_enter Trym.func7, Trym.ntmps7
      go_wp2_with (go_at_call 20; refine (zz20_yes a0 a1 _ h1).mono ?_; rintro e w ⟨rfl, rfl⟩)
      go_ret
      exact ⟨rfl, Below.refl _ _⟩
  · go_enter Trym.func7, Trym.ntmps7
    go_wp2_with (go_at_call 20; refine (zz20_no a0 a1 _ w0 w1 (by omega)).mono ?_; rintro e w ⟨rfl, rfl⟩)
    go_ret
    exact ⟨rfl, Below.refl _ _⟩

/-! ### THE ROW's STEP: WRITTEN OUT: LEAVE IT -/
set_option maxRecDepth 100000 in
theorem lifted (os : Os) (started : os.Started) (H : Type) (enc : TypeId × Value → H) :
    ReturnsInHanded {} Trym.checked os 7 .any (Rows.fnAsciiWordMatchesByteModelSpec.pre6 enc Trym.prog Trym.f7 Rows.fnAsciiWordMatchesByteModelRow.domain false) (Rows.fnAsciiWordMatchesByteModelSpec.post enc Trym.prog Trym.f7 false true false false) := by
  refine returnsInHanded_of_change (C := Trym.checked) own started (by kernel_rfl) Trym.func7
    (ChangeSpec.witness6 (enc := enc) (C := Trym.checked) false ⟨#[], #[.string ByteArray.empty, .string ByteArray.empty], []⟩ 8 (by kernel_rfl) (by kernel_rfl) (by kernel_rfl) (by kernel_rfl)) ?_
  intro W base args ds gs before hval0 hW hcnd _
  have hval : ∀ (j : Nat) t v, Trym.f7.params[j]? = some t → args[j]? = some v → Value.okWide Trym.prog W .any base t v := hval0
  have hW' := hW
  obtain ⟨p, q, hA0, hV, rfl, hfz, hnd⟩ := hW
  have hA : DataW.TrodAll enc Trym.prog W 0 (fun _ => true) true Trym.f7.params.toList args.toList ds p := hA0
  rw [Trym.params7] at hA hval
  obtain ⟨v0, vs0, d0, ds0, p0, q0, hargs, rfl, rfl, h0, r0⟩ := trodAll_cons hA
  obtain ⟨v1, vs1, d1, ds1, p1, q1, rfl, rfl, rfl, h1, r1⟩ := trodAll_cons r0
  obtain ⟨rfl, rfl, rfl⟩ := trodAll_nil r1
  obtain rfl : args = #[v0, v1] := by cases args; simp_all
  obtain ⟨rfl, rfl⟩ := trodVars_none hV
  obtain ⟨a0, rfl, rfl, rfl, w0⟩ := open_string Trym.underlying9 (hval 0 9 v0 rfl rfl) h0
  obtain ⟨a1, rfl, rfl, rfl, w1⟩ := open_string Trym.underlying9 (hval 1 9 v1 rfl rfl) h1
  clear hA0 hval0
  simp only [List.append_nil] at hW'
  refine (walk a0 a1 w0 w1 W).mono fun e W' ⟨he, bel⟩ => ?_
  subst he
  exact ⟨_, rfl, _, _, _, [], [], [], hW', trodAll_mk1 (shut_bool Trym.underlying4 _), (trodAll_cons_mk (shut_string Trym.underlying9 w0) (trodAll_cons_mk (shut_string Trym.underlying9 w1) trodAll_mk0)), rfl, bel.frame _, fun h => by cases h⟩

theorem over : Rows.fnAsciiWordMatchesByteModelRow.holds Trym.pinned (OpenSpec.ofChange Rows.fnAsciiWordMatchesByteModelSpec) :=
  OpenClaim.holds_of_wide 7 Trym.f7 rfl rfl rfl rfl rfl rfl rfl ⟨rfl, rfl, rfl, rfl, rfl⟩ rfl rfl rfl rfl rfl (by kernel_rfl) Trym.func7 (by kernel_rfl)
    (of_decide_eq_true (by kernel_rfl)) (by unfold Func.isWrapper; first | (rw [if_pos (by decide +kernel)]; kernel_rfl) | (rw [if_neg (by decide +kernel)]; exact ⟨rfl, rfl⟩))
    (fun os started H enc _ => lifted os started H enc)

/-- ████ THE STATEMENT ████ -/
theorem proved : Rows.FnAsciiWordMatchesByteModelSaid :=
  over
#print axioms proved
end Go.Proofs.Qxb6000448aMods.fnAsciiWordMatchesByteModel

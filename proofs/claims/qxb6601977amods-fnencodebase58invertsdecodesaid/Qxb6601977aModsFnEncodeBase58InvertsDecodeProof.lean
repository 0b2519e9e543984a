/-
  THE SHELL OF A PROOF OF 'Rows.FnEncodeBase58InvertsDecodeSaid' ('example.com/sealstone/sealstone/zzlaws_root_b1.FnEncodeBase58InvertsDecode'), WRITTEN BY PROGRAM (proof-skeleton.mjs) off the guide's own print for that function. Not trusted: Lean checks it.
  ALL BUT THE WALK IS THE GUIDE's TEMPLATE (howto/template/XProofs.lean) at this function's number and types: leave it.
-/
import Derived.Test.Qxb6601977aModsRows
import Derived.WalkKit
import Derived.ProofKit
import Derived.OpenShut
import Derived.ShutString
import Derived.Test.Qxb6601977aModsCmp
namespace Go.Proofs.Qxb6601977aMods.fnEncodeBase58InvertsDecode
open Go.ChangeShapes Go.WideShapes Go.ChangeAt Go.RowKit
open Go.ChangeMaps (open_string shut_string)
open Num
set_option linter.unusedVariables false      -- a walk need not use every 'w<i>' (that an integer argument fits its kind)

theorem own : ownKnob Trym.prog.godebug = none := by kernel_rfl

/-! ### STEP 1: THE WALK: the Go text returns true; nothing that was there has turned. -/
theorem chr_b58 : ∀ n : Nat, n < 256 → 0 ≤ b58v (n : Int) → (chr (b58v (n : Int)).toNat).toNat = n := by decide +kernel

theorem chr_dgs (l : List UInt8) (h : validL l = true) : (dgs l).map chr = l := by
  induction l with
  | nil => rfl
  | cons c l ih =>
    rw [validL, List.all_cons, Bool.and_eq_true] at h
    have h1 := ih h.2
    have h2 := chr_b58 c.toNat c.toNat_lt (by simpa using h.1)
    simp only [dgs, List.map_cons] at h1 ⊢
    rw [h1]
    congr 1
    exact UInt8.toNat_inj.1 h2

theorem bytes_ext {s t : ByteArray} (h : s.data.toList = t.data.toList) : s = t := by
  obtain ⟨⟨l⟩⟩ := s
  obtain ⟨⟨m⟩⟩ := t
  simp at h
  rw [h]

set_option maxHeartbeats 400000 in
theorem walk (a0 : ByteArray) (w0 : a0.size ≤ maxLen) (w : World) :
    Calls Trym.prog 7 #[.string a0] w fun e w' => e = .returned (.bool true) ∧ Below w.heap.size w w' := by
  have w0' := w0
  unfold maxLen at w0'
  by_cases h1 : a0.size ≤ 1048576
  · by_cases h2 : a0.size ≤ 4096
    · cases hv : validL a0.data.toList with
      | false =>
        have HV := hid hv
        clear hv
        go_enter Trym.func7, Trym.ntmps7
        go_wp2_with (first | (go_at_call 23; refine (zz23_yes a0 _ h1).mono ?_; rintro e w ⟨rfl, rfl⟩) | (go_at_call 17; refine (validB58_any a0 _ w0).mono ?_; rw [HV.out]; rintro e w ⟨rfl, rfl⟩))
        go_ret
        exact ⟨rfl, Below.refl _ _⟩
      | true =>
        have HV := hid hv
        clear hv
        go_enter Trym.func7, Trym.ntmps7
        go_wp2_with (first | (go_at_call 23; refine (zz23_yes a0 _ h1).mono ?_; rintro e w ⟨rfl, rfl⟩) | (go_at_call 17; refine (validB58_any a0 _ w0).mono ?_; rw [HV.out]; rintro e w ⟨rfl, rfl⟩))
        refine (zzdecode_any a0 _ h1 HV).mono ?_
        rintro e w1 ⟨g1, L1, rfl, r1, c1, v1, b1⟩
        have hlen := Decoded.len c1 v1
        have hl0 : a0.data.toList.length = a0.size := by simp
        have B1 := hid b1
        have V1 := hid v1
        have S1 := (show Hid (Sees w1 (some ⟨g1, 0, none⟩) L1.length L1.reverse) from by
          have h := r1.sees
          rw [List.length_reverse] at h
          exact h)
        have X1 := (show Hid (∀ x ∈ L1.reverse, x < 256) from fun x hx => c1.dig x (by simpa using hx))
        have hlen' : L1.length ≤ 1048576 := by omega
        clear r1 b1 c1 v1 hlen hl0
        go_wp2_with fail
        refine (zzencode_any _ L1.length L1.length L1.reverse _ hlen' S1 X1).mono ?_
        rintro e w2 ⟨s', M, rfl, hs', cM, vM, b2⟩
        have HS' := hid hs'
        have CM := hid cM
        have VM := (show Hid (val 58 M = num 58 (dgs a0.data.toList)) from by rw [vM, num_reverse]; exact V1.out)
        have HB := hid (B1.out.trans (b2.mono B1.out.size))
        clear hs' cM vM b2 S1 X1
        go_wp2_with fail
        refine (stripOnes_bare a0 _ w0 HV).mono ?_
        rintro e w3 ⟨t', bt, rfl, rfl⟩
        have hM : M = (dgs t'.data.toList).reverse := by
          refine CM.out.inj (by omega) (canon_of_head (dgs_lt _) bt.head) ?_
          rw [val_reverse, VM.out, bt.num]
        have hst : s' = t' := by
          apply bytes_ext
          rw [HS'.out, hM, List.reverse_reverse, chr_dgs _ bt.valid]
        subst hst
        clear bt hM HS' CM VM
        go_wp2
        go_ret
        exact ⟨rfl, HB.out⟩
    · go_enter Trym.func7, Trym.ntmps7
      go_wp2_with (go_at_call 23; refine (zz23_yes a0 _ h1).mono ?_; rintro e w ⟨rfl, rfl⟩)
      go_ret
      exact ⟨rfl, Below.refl _ _⟩
  · go_enter Trym.func7, Trym.ntmps7
    go_wp2_with (go_at_call 23; refine (zz23_no a0 _ w0 (by omega)).mono ?_; rintro e w ⟨rfl, rfl⟩)
    go_ret
    exact ⟨rfl, Below.refl _ _⟩

/-! ### THE ROW's STEP: WRITTEN OUT: LEAVE IT -/
set_option maxRecDepth 100000 in
theorem lifted (os : Os) (started : os.Started) (H : Type) (enc : TypeId × Value → H) :
    ReturnsInHanded {} Trym.checked os 7 .any (Rows.fnEncodeBase58InvertsDecodeSpec.pre6 enc Trym.prog Trym.f7 Rows.fnEncodeBase58InvertsDecodeRow.domain false) (Rows.fnEncodeBase58InvertsDecodeSpec.post enc Trym.prog Trym.f7 false true false false) := by
  refine returnsInHanded_of_change (C := Trym.checked) own started (by kernel_rfl) Trym.func7
    (ChangeSpec.witness6 (enc := enc) (C := Trym.checked) false ⟨#[], #[.string ByteArray.empty], []⟩ 8 (by kernel_rfl) (by kernel_rfl) (by kernel_rfl) (by kernel_rfl)) ?_
  intro W base args ds gs before hval0 hW hcnd _
  have hval : ∀ (j : Nat) t v, Trym.f7.params[j]? = some t → args[j]? = some v → Value.okWide Trym.prog W .any base t v := hval0
  have hW' := hW
  obtain ⟨p, q, hA0, hV, rfl, hfz, hnd⟩ := hW
  have hA : DataW.TrodAll enc Trym.prog W 0 (fun _ => true) true Trym.f7.params.toList args.toList ds p := hA0
  rw [Trym.params7] at hA hval
  obtain ⟨v0, vs0, d0, ds0, p0, q0, hargs, rfl, rfl, h0, r0⟩ := trodAll_cons hA
  obtain ⟨rfl, rfl, rfl⟩ := trodAll_nil r0
  obtain rfl : args = #[v0] := by cases args; simp_all
  obtain ⟨rfl, rfl⟩ := trodVars_none hV
  obtain ⟨a0, rfl, rfl, rfl, w0⟩ := open_string Trym.underlying9 (hval 0 9 v0 rfl rfl) h0
  clear hA0 hval0
  simp only [List.append_nil] at hW'
  refine (walk a0 w0 W).mono fun e W' ⟨he, bel⟩ => ?_
  subst he
  exact ⟨_, rfl, _, _, _, [], [], [], hW', trodAll_mk1 (shut_bool Trym.underlying4 _), (trodAll_cons_mk (shut_string Trym.underlying9 w0) trodAll_mk0), rfl, bel.frame _, fun h => by cases h⟩

theorem over : Rows.fnEncodeBase58InvertsDecodeRow.holds Trym.pinned (OpenSpec.ofChange Rows.fnEncodeBase58InvertsDecodeSpec) :=
  OpenClaim.holds_of_wide 7 Trym.f7 rfl rfl rfl rfl rfl rfl rfl ⟨rfl, rfl, rfl, rfl, rfl⟩ rfl rfl rfl rfl rfl (by kernel_rfl) Trym.func7 (by kernel_rfl)
    (of_decide_eq_true (by kernel_rfl)) (by unfold Func.isWrapper; first | (rw [if_pos (by decide +kernel)]; kernel_rfl) | (rw [if_neg (by decide +kernel)]; exact ⟨rfl, rfl⟩))
    (fun os started H enc _ => lifted os started H enc)

/-- ████ THE STATEMENT ████ -/
theorem proved : Rows.FnEncodeBase58InvertsDecodeSaid :=
  over
#print axioms proved
end Go.Proofs.Qxb6601977aMods.fnEncodeBase58InvertsDecode

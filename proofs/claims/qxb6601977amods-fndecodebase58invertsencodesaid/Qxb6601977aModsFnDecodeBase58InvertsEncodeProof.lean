/-
  THE SHELL OF A PROOF OF 'Rows.FnDecodeBase58InvertsEncodeSaid' ('example.com/sealstone/sealstone/zzlaws_root_b1.FnDecodeBase58InvertsEncode'), WRITTEN BY PROGRAM (proof-skeleton.mjs, third state) off the guide's own print for that function. Not trusted: Lean checks it.
  ALL BUT THE WALK IS THE GUIDE's OWN WAY (howto/template/XProofs.lean; Derived/Test/ChunkProofs.lean for 'Below') at this function's number and types: leave it.
-/
import Derived.Test.Qxb6601977aModsRows
import Derived.WalkKit
import Derived.ProofKit
import Derived.Test.Qxb6601977aModsInv
import Derived.OpenShut
import Derived.ShutString
import Derived.ChangeOld
import Derived.Below
namespace Go.Proofs.Qxb6601977aMods.fnDecodeBase58InvertsEncode
open Go.ChangeShapes Go.WideShapes Go.ChangeAt Go.RowKit
open Go.ChangeMaps (open_string shut_string)
open Num
set_option linter.unusedVariables false

theorem own : ownKnob Trym.prog.godebug = none := by kernel_rfl
theorem laidOut : laidOutB Trym.prog = true := by kernel_rfl

/-- WHAT THE WALK IS TOLD OF A SLICE OF INTEGERS THAT CAME IN: it is nil; or it leads to a row of 'cap' cells, the numbers 'zs' (the first 'len' are its elements, the rest its spare room), each fitting its kind. -/
def IsRow (k : IntKind) (w : World) (a : Option Addr) (len cap : Nat) (zs : List Int) : Prop :=
  (a = none ∧ len = 0 ∧ cap = 0 ∧ zs = []) ∨
  ∃ x, a = some x ∧ len ≤ cap ∧ cap ≤ maxLen ∧ zs.length = cap ∧ (∀ i, i < zs.length → w.cell? (x.add i) = some (.int k (zs.getD i 0))) ∧ ∀ n ∈ zs, (Lit.int k n).wf = true

/-! ### STEP 1: THE WALK: the Go text returns true; nothing that was there has turned. -/
theorem sees_of {w : World} {a : Option Addr} {len cap : Nat} {zs : List Int} (h : IsRow .u8 w a len cap zs) :
    ∃ X : List Nat, Sees w a len X ∧ (∀ x ∈ X, x < 256) ∧ (a = none → len = 0 ∧ cap = 0) ∧ len ≤ maxLen := by
  rcases h with ⟨rfl, rfl, rfl, rfl⟩ | ⟨x, rfl, hl, hm, hz, hc, hw⟩
  · exact ⟨[], ⟨rfl, fun t ht => by omega⟩, by simp, fun _ => ⟨rfl, rfl⟩, by unfold maxLen; omega⟩
  · have hX : ∀ t, t < len → ((zs.take len).map Int.toNat).getD t 0 = (zs.getD t 0).toNat := by
      intro t ht
      rw [List.getD_eq_getElem?_getD, List.getElem?_map, List.getElem?_take, if_pos ht, List.getD_eq_getElem?_getD, List.getElem?_eq_getElem (by omega)]
      rfl
    refine ⟨(zs.take len).map Int.toNat, ⟨by simp; omega, fun t ht => ?_⟩, ?_, by simp, by omega⟩
    · obtain ⟨b, off, rfl, hcell⟩ := ints_at hc (by omega)
      refine ⟨b, off, rfl, fun j hj => ?_⟩
      rw [hcell j (by omega), hX j hj]
      have hmem : zs.getD j 0 ∈ zs := by
        rw [List.getD_eq_getElem?_getD, List.getElem?_eq_getElem (by omega)]
        exact List.getElem_mem _
      have hb := bounds_u8 (hw _ hmem)
      rw [Int.toNat_of_nonneg hb.1]
    · intro y hy
      obtain ⟨n, hn, rfl⟩ := List.mem_map.1 hy
      have hb := bounds_u8 (hw _ (List.mem_of_mem_take hn))
      omega

set_option maxHeartbeats 400000 in
theorem walk (a0 : Option Addr) (len0 cap0 : Nat) (z0 : List Int) (w : World) (w0 : IsRow .u8 w a0 len0 cap0 z0) :
    Calls Trym.prog 6 #[.slice a0 len0 cap0] w fun e w' => e = .returned (.bool true) ∧ Below w.heap.size w w' := by
  obtain ⟨X, hx, hX, hnil, hlm⟩ := sees_of w0
  clear w0
  have hlm' := hlm
  unfold maxLen at hlm'
  have HX := hid hX
  have HS := hid hx
  have HN := hid hnil
  have HXL := hid hx.1
  clear hx hX hnil
  by_cases h1 : len0 ≤ 1048576
  · by_cases h2 : len0 ≤ 4096
    · go_enter Trym.func6, Trym.ntmps6
      go_wp2_with (go_at_call 21; refine (zz21_yes _ _ _ _ h1).mono ?_; rintro e w ⟨rfl, rfl⟩)
      refine (clone_any a0 len0 cap0 X _ h1 HS HN.out).mono ?_
      rintro e w1 ⟨a1, c1, rfl, r1, b1, hc1⟩
      have R1 := hid r1
      have B1 := hid b1
      have S1 := hid r1.sees
      rw [HXL.out] at S1
      clear r1 b1
      go_wp2_with fail
      refine (zzencode_any a1 len0 c1 X _ h1 S1 HX).mono ?_
      rintro e w2 ⟨s', L, rfl, hs', hL, hv, b2⟩
      have hdig : ∀ x ∈ L.reverse, x < 58 := fun x hx => hL.dig x (by simpa using hx)
      have hval : validL s'.data.toList = true := by rw [hs']; exact validL_chr _ hdig
      have hdg : num 58 (dgs s'.data.toList) = num 256 X := by rw [hs', dgs_chr _ hdig, num_reverse, hv]
      have hsz : s'.size ≤ 1048576 := by
        have e1 : s'.size = s'.data.toList.length := by simp
        have e2 := canon58_len hL hv HX.out
        have e3 := HXL.out
        rw [e1, hs']
        simp
        omega
      have HVAL := hid hval
      have HDG := hid hdg
      have B2 := hid b2
      clear hs' hL hv b2 hdig hval hdg
      go_wp2_with fail
      refine (zzdecode_any s' _ hsz HVAL).mono ?_
      rintro e w3 ⟨g, M, rfl, r3, c3, v3, b3⟩
      have R3 := hid r3
      have C3 := hid c3
      have V3 := (show Hid (val 256 M = num 256 X) from by rw [v3]; exact HDG.out)
      have B3 := hid b3
      have R1' := hid ((R1.out.later B2.out).later b3)
      have S1' := hid R1'.out.sees
      rw [HXL.out] at S1'
      have hcm := R1'.out.caps.2
      clear r3 c3 v3 b3
      go_wp2_with fail
      refine (stripZero_any a1 len0 c1 X _ (by omega) hc1 hcm S1' (fun h => by have := R1'.out.nilAddr h; rw [HXL.out] at this; exact this) R1'.out.plain).mono ?_
      rintro e w4 ⟨⟨k, a4, hz, rfl, s4, _⟩, rfl⟩
      obtain ⟨hcs, hvs⟩ := canon_strip HX.out hz
      have hM : M = (X.drop k).reverse := C3.out.inj (by omega) hcs (by rw [V3.out, hvs])
      have hlen : M.length = len0 - k := by rw [hM, List.length_reverse, List.length_drop, HXL.out]
      have s3 : Sees w4 (some ⟨g, 0, none⟩) (len0 - k) (X.drop k) := by
        have h := R3.out.sees
        rw [List.length_reverse, hlen, hM, List.reverse_reverse] at h
        exact h
      have S3 := hid s3
      have S4 := hid s4
      have HB := hid ((B1.out.trans (B2.out.mono B1.out.size)).trans (B3.out.mono (Nat.le_trans B1.out.size B2.out.size)))
      rw [hlen]
      clear s3 s4 hz hcs hvs hM hlen R1 S1 R3 C3 V3 R1' S1'
      go_wp2_with fail
      refine (bytesEqual_same _ _ _ _ _ (X.drop k) _ S3 S4 (by omega)).mono ?_
      rintro e w5 ⟨rfl, m, rfl⟩
      go_wp2
      go_ret
      exact ⟨rfl, below_drewN HB.out m⟩
    · go_enter Trym.func6, Trym.ntmps6
      go_wp2_with (go_at_call 21; refine (zz21_yes _ _ _ _ h1).mono ?_; rintro e w ⟨rfl, rfl⟩)
      go_ret
      exact ⟨rfl, Below.refl _ _⟩
  · go_enter Trym.func6, Trym.ntmps6
    go_wp2_with (go_at_call 21; refine (zz21_no _ _ _ _ hlm (by omega)).mono ?_; rintro e w ⟨rfl, rfl⟩)
    go_ret
    exact ⟨rfl, Below.refl _ _⟩

/-! ### THE ROW's STEP: WRITTEN OUT: LEAVE IT -/
set_option maxRecDepth 100000 in
theorem lifted (os : Os) (started : os.Started) (H : Type) (enc : TypeId × Value → H) :
    ReturnsInHanded {} Trym.checked os 6 .any (Rows.fnDecodeBase58InvertsEncodeSpec.pre6 enc Trym.prog Trym.f6 Rows.fnDecodeBase58InvertsEncodeRow.domain false) (Rows.fnDecodeBase58InvertsEncodeSpec.post enc Trym.prog Trym.f6 false true false false) := by
  refine returnsInHanded_of_change (C := Trym.checked) own started (by kernel_rfl) Trym.func6
    (ChangeSpec.witness6 (enc := enc) (C := Trym.checked) false ⟨#[], #[.slice none 0 0], []⟩ 8 (by kernel_rfl) (by kernel_rfl) (by kernel_rfl) (by kernel_rfl)) ?_
  intro W base args ds gs before hval0 hW hcnd _
  have hval : ∀ (j : Nat) t v, Trym.f6.params[j]? = some t → args[j]? = some v → Value.okWide Trym.prog W .any base t v := hval0
  have hW' := hW
  obtain ⟨p, q, hA0, hV, rfl, hfz, hnd⟩ := hW
  have hA : DataW.TrodAll enc Trym.prog W 0 (fun _ => true) true Trym.f6.params.toList args.toList ds p := hA0
  rw [Trym.params6] at hA hval
  obtain ⟨v0, vs0, d0, ds0, p0, q0, hargs, rfl, rfl, h0, r0⟩ := trodAll_cons hA
  obtain ⟨rfl, rfl, rfl⟩ := trodAll_nil r0
  obtain rfl : args = #[v0] := by cases args; simp_all
  obtain ⟨rfl, rfl⟩ := trodVars_none hV
  obtain ⟨a0, len0, cap0, rfl⟩ := okWide_slice Trym.underlying22 (hval 0 22 v0 rfl rfl)
  have k0 := h0
  have lt0 : ∀ x ∈ p0, x.block < W.heap.size := by obtain ⟨m, hm⟩ := k0; exact DataW.trod_lt m _ _ _ hm
  obtain ⟨z0, w0⟩ : ∃ zs, IsRow .u8 W a0 len0 cap0 zs := by
    obtain ⟨fuel, hf⟩ := h0
    rcases open_ints Trym.underlying22 Trym.underlying5 (by kernel_rfl) hf with ⟨hcs, _⟩ | ⟨x, l, c, zs, hcs, _, hl, hm, hz, _, hcell, hwz⟩
    · simp [Value.cells] at hcs
      obtain ⟨rfl, rfl, rfl⟩ := hcs
      exact ⟨[], .inl ⟨rfl, rfl, rfl, rfl⟩⟩
    · simp [Value.cells] at hcs
      obtain ⟨rfl, rfl, rfl⟩ := hcs
      exact ⟨zs, .inr ⟨_, rfl, hl, hm, by simpa using hz, hcell, hwz⟩⟩
  clear hA0 hval0
  refine (walk a0 len0 cap0 z0 W w0).mono fun e W' ⟨he, bel⟩ => ?_
  subst he
  exact ⟨_, rfl, _, _, _, [], _, [], hW', trodAll_mk1 (shut_bool Trym.underlying4 _), (trodAll_cons_mk (Below.trod laidOut (by kernel_rfl) (of_decide_eq_true (by kernel_rfl)) k0 bel lt0) trodAll_mk0), rfl, bel.frame _, fun h => by cases h⟩

theorem over : Rows.fnDecodeBase58InvertsEncodeRow.holds Trym.pinned (OpenSpec.ofChange Rows.fnDecodeBase58InvertsEncodeSpec) :=
  OpenClaim.holds_of_wide 6 Trym.f6 rfl rfl rfl rfl rfl rfl rfl ⟨rfl, rfl, rfl, rfl, rfl⟩ rfl rfl rfl rfl rfl (by kernel_rfl) Trym.func6 (by kernel_rfl)
    (of_decide_eq_true (by kernel_rfl)) (by unfold Func.isWrapper; first | (rw [if_pos (by decide +kernel)]; kernel_rfl) | (rw [if_neg (by decide +kernel)]; exact ⟨rfl, rfl⟩))
    (fun os started H enc _ => lifted os started H enc)

/-- ████ THE STATEMENT ████ -/
theorem proved : Rows.FnDecodeBase58InvertsEncodeSaid := over
#print axioms proved
end Go.Proofs.Qxb6601977aMods.fnDecodeBase58InvertsEncode

import Derived.Test.Qxb6601977aModsMod
namespace Go.Proofs.Qxb6601977aMods
open Go.RowKit Num

theorem Row.blk {w : World} {B g cap : Nat} {l : List Nat} (h : Row w B (some ⟨g, 0, none⟩) cap l) : B ≤ g ∧ g < w.heap.size := by
  rcases h.addr with ⟨h1, _⟩ | ⟨g2, h1, h2, h3⟩
  · simp at h1
  · simp at h1; subst h1; exact ⟨h2, h3⟩

theorem hid {p : Prop} (h : p) : Hid p := h

theorem Sees.below {w w' : World} {ao : Option Addr} {n B : Nat} {l : List Nat} (h : Sees w ao n l) (hb : Below B w w') (hB : ∀ b o, ao = some ⟨b, o, none⟩ → b < B) : Sees w' ao n l := by
  refine ⟨h.1, fun t ht => ?_⟩
  obtain ⟨b, o, h1, h2⟩ := h.2 t ht
  refine ⟨b, o, h1, fun j hj => ?_⟩
  rw [hb.cell (p := ⟨b, o + j, none⟩) (hB b o h1)]
  exact h2 j hj

set_option maxHeartbeats 400000 in
theorem bytesEqual_same (ax ay : Option Addr) (n cx cy : Nat) (l : List Nat) (w : World) (hx : Hid (Sees w ax n l)) (hy : Hid (Sees w ay n l)) (hn : n ≤ 2097152) :
    Calls Trym.prog 18 #[.slice ax n cx, .slice ay n cy] w fun e w' => e = .returned (.bool true) ∧ ∃ m, w' = w.drewN m := by
  have hnn : ((n : Int) != (n : Int)) = false := by simp
  go_enter Trym.func18, Trym.ntmps18
  go_wp2
  go_loopw [5] (fun i wr => ∃ (k m : Nat), k ≤ n ∧ i = .int .i64 k ∧ wr = w.drewN m) (fun i _ => n - (intOf i).toNat)
  case atStart => exact ⟨0, 0, Nat.zero_le _, rfl, rfl⟩
  case round =>
    obtain ⟨k, m, hk, rfl, rfl⟩ := hrel
    by_cases hlt : k < n
    · obtain ⟨b, o, rfl, hcx⟩ := hx.out.2 k hlt
      obtain ⟨b', o', rfl, hcy⟩ := hy.out.2 k hlt
      have h1 := hcx k hlt
      have h2 := hcy k hlt
      obtain ⟨x, hxx⟩ : ∃ x : Nat, x = l.getD k 0 := ⟨_, rfl⟩
      rw [← hxx] at h1 h2
      have hk0 : (0 : Int) ≤ (k : Int) := by omega
      have hkn : (k : Int) < (n : Int) := by omega
      have hne : ((x : Int) != (x : Int)) = false := by simp
      clear hcx hcy hxx
      go_wp2
      go_quiet (fail)
      go_wp2
      go_roundw
      case rel => exact ⟨k + 1, m + nq, by omega, by go_num, rfl⟩
      case measure => simp [intOf]; omega
    · go_wp2
      go_ret
      exact ⟨rfl, m, rfl⟩

/-- what a decoding leaves -/
def Decoded (l : List UInt8) (w : World) (e : Ending) (w' : World) : Prop :=
  ∃ g L, e = .returned (.slice (some ⟨g, 0, none⟩) (List.length L) (List.length L)) ∧ Row w' w.heap.size (some ⟨g, 0, none⟩) L.length L.reverse ∧
      Canon 256 L ∧ val 256 L = num 58 (dgs l) ∧ Below w.heap.size w w'

theorem zzdecode_any (s : ByteArray) (w : World) (hs : s.size ≤ 1048576) (hv : Hid (validL s.data.toList = true)) :
    Calls Trym.prog 19 #[.string s] w fun e w' => Decoded s.data.toList w e w' := by
  go_enter Trym.func19, Trym.ntmps19
  go_wp2_with (go_at_call 30; refine (decode_any s _ hs hv).mono ?_; rintro e w1 ⟨g, L, rfl, h1, h2, h3, h4⟩)
  go_ret
  exact ⟨g, L, rfl, h1, h2, h3, h4⟩

theorem Decoded.len {l : List UInt8} {L : List Nat} (h1 : Canon 256 L) (h2 : val 256 L = num 58 (dgs l)) : L.length ≤ l.length := by
  have h3 := num58_lt l _ rfl
  rcases Nat.eq_zero_or_pos L.length with h0 | h0
  · omega
  · have h4 := h1.top h0
    have h5 : 256 ^ (L.length - 1) < 256 ^ l.length := by omega
    have := (Nat.pow_lt_pow_iff_right (show 1 < 256 by omega)).1 h5
    omega

end Go.Proofs.Qxb6601977aMods

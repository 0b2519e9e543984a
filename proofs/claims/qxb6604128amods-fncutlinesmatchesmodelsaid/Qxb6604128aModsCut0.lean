import Derived.Test.Qxb6604128aModsClones
namespace Go.Proofs.Qxb6604128aMods
open Go.RowKit Nl

/-- what 'cutLines' leaves of data from its first line on, empty or not -/
def Cut0Ok (w : World) (B n : Nat) (v0 : Value) (xs : List Value) (ad : Option Addr) (m : Nat) (E : List Nat) (e : Ending) (w' : World) : Prop :=
  ∃ (j : Nat) (av : Option Addr) (capv : Nat) (vs : List Value) (ad' : Option Addr) (c' bd od : Nat),
    e = .returned (.tuple #[.slice av (n + j) capv, .slice ad' (m - st E j) c']) ∧
    w'.ownsRow B 23 1 (.slice av (n + j) capv) (n + j) (xs ++ vs) ∧ LinesAt bd od 0 j E vs ∧ (0 < j → ad = some ⟨bd, od, none⟩) ∧ w.grownBy w' v0.ownBlock ∧
    j = cnt n E.length ∧ (j = 0 → .slice av (n + j) capv = v0) ∧ (0 < j → ∃ x, av = some x) ∧ ad'.isNone = ad.isNone ∧ (j < E.length → ∃ b o, ad = some ⟨b, o, none⟩ ∧ ad' = some ⟨b, o + st E j, none⟩)

set_option maxHeartbeats 400000 in
theorem cut_none (av ad : Option Addr) (n capv c : Nat) (w : World) :
    Calls Trym.prog 17 #[.slice av n capv, .slice ad 0 c] w fun e w' => e = .returned (.tuple #[.slice av n capv, .slice ad 0 c]) ∧ w' = w := by
  go_enter Trym.func17, Trym.ntmps17
  go_wp2
  refine wp_loop_rounds 1 ?_
  rw [rounds_succ]
  go_wp2
  go_ret2
  exact ⟨rfl, rfl⟩

theorem zzcut_none (av ad : Option Addr) (n capv c : Nat) (w : World) :
    Calls Trym.prog 11 #[.slice av n capv, .slice ad 0 c] w fun e w' => e = .returned (.tuple #[.slice av n capv, .slice ad 0 c]) ∧ w' = w := by
  go_enter Trym.func11, Trym.ntmps11
  go_wp2_with fail
  refine (cut_none av ad n capv c _).mono ?_
  rintro e w1 ⟨rfl, rfl⟩
  go_wp2
  go_ret2
  exact ⟨rfl, rfl⟩

theorem zzcut0 (av0 ad : Option Addr) (n cap0 B m c0 : Nat) (xs : List Value) (D E : List Nat) (w : World)
    (hown : Hid (w.ownsRow B 23 1 (.slice av0 n cap0) n xs)) (hB : B ≤ w.heap.size) (hn : n ≤ 1048576) (hm : m ≤ 1048576) (hL : Hid (D.length = m)) (hDb : Hid (∀ x ∈ D, x < 256))
    (hs : Hid (Sees .u8 w ad m D)) (hW : Hid (Whole D E)) (hc0 : m ≤ c0) (hbd : Hid (∀ b o, ad = some ⟨b, o, none⟩ → some b ≠ (Value.slice av0 n cap0).ownBlock)) :
    Calls Trym.prog 11 #[.slice av0 n cap0, .slice ad m c0] w fun e w' => Cut0Ok w B n (.slice av0 n cap0) xs ad m E e w' := by
  rcases Nat.eq_zero_or_pos m with h0 | h0
  · subst h0
    have hE : E.length = 0 := by have := len_le hW.out.to; have := hL.out; omega
    refine (zzcut_none av0 ad n cap0 c0 w).mono ?_
    rintro e w' ⟨rfl, rfl⟩
    exact ⟨0, av0, cap0, [], ad, c0, 0, 0, by simp, by simpa using hown.out, ⟨rfl, fun t ht => by omega⟩, fun h => by omega, World.grownBy.refl _ _, by unfold cnt; rw [hE]; simp, fun _ => rfl, fun h => by omega, rfl, fun h => by omega⟩
  · obtain ⟨b, o, rfl, _⟩ := hs.out.2 0 h0
    have hst0 : st E 0 = 0 := rfl
    have hlen := hL.out
    have hEp : 0 < E.length := (hW.out.more 0 (Nat.zero_le _)).1 (by rw [hst0]; omega)
    have hs' : Sees .u8 w (some ⟨b, o, none⟩) D.length D := by rw [hlen]; exact hs.out
    have h := zzcut_any av0 n cap0 B 0 b o c0 xs D E w hown hB hn (by omega) hDb hs' hW hEp (by rw [hst0]; omega) (hbd.out b o rfl)
    rw [hst0, Nat.add_zero, Nat.sub_zero, hlen] at h
    refine h.mono ?_
    rintro e w' ⟨j, av, capv, vs, a, c', rfl, h1, h2, h3, h4, h5, h6, h7, h8, h9, h10⟩
    rw [Nat.zero_add] at h4 h6 h9
    refine ⟨j, av, capv, vs, some a, c', b, o, by rw [Nat.zero_add, hlen], h1, h2, fun _ => rfl, h3, ?_, h7, h8, rfl, fun hj => ⟨b, o, rfl, by rw [h9 hj]⟩⟩
    unfold cnt
    by_cases hn2 : 256 ≤ n
    · rw [if_pos hn2]; omega
    · rw [if_neg hn2]; omega

end Go.Proofs.Qxb6604128aMods

import Derived.Test.Qxb6601977aModsClone
import Derived.OpenShut
namespace Go.Proofs.Qxb6601977aMods
open Go.RowKit Num

theorem chr_val : ∀ d : Nat, d < 58 → b58v ((chr d).toNat : Int) = (d : Int) := by decide +kernel

theorem dgs_chr (l : List Nat) (h : ∀ x ∈ l, x < 58) : dgs (l.map chr) = l := by
  induction l with
  | nil => rfl
  | cons d l ih =>
    have h1 := chr_val d (h d (by simp))
    simp only [dgs, List.map_cons] at ih ⊢
    rw [ih (fun x hx => h x (by simp [hx])), h1]
    rfl

theorem validL_chr (l : List Nat) (h : ∀ x ∈ l, x < 58) : validL (l.map chr) = true := by
  rw [validL, List.all_eq_true]
  intro x hx
  obtain ⟨d, hd, rfl⟩ := List.mem_map.1 hx
  rw [chr_val d (h d hd)]
  simp

theorem Row.caps {w : World} {B : Nat} {ao : Option Addr} {cap : Nat} {l : List Nat} (h : Row w B ao cap l) : l.length ≤ cap ∧ cap ≤ maxLen := by
  rcases h.2 with ⟨h1, h2⟩ | ⟨g, c, cur, h1, _, _, h3, h4, _⟩
  · simp at h1
    rw [h1.2.2]
    exact ⟨by omega, by unfold maxLen; omega⟩
  · simp at h1
    rw [h1.2]
    exact ⟨h3, h4⟩

theorem Row.nilAddr {w : World} {B : Nat} {ao : Option Addr} {cap : Nat} {l : List Nat} (h : Row w B ao cap l) : ao = none → l.length = 0 ∧ cap = 0 := by
  intro he
  rcases h.addr with ⟨_, h1, h2⟩ | ⟨g, hg, _⟩
  · exact ⟨h2, h1⟩
  · rw [hg] at he; simp at he

theorem Row.plain {w : World} {B : Nat} {ao : Option Addr} {cap : Nat} {l : List Nat} (h : Row w B ao cap l) : ∀ a, ao = some a → ∃ b o, a = ⟨b, o, none⟩ := by
  intro a ha
  rcases h.addr with ⟨h0, _⟩ | ⟨g, hg, _⟩
  · rw [h0] at ha; simp at ha
  · rw [hg] at ha; simp at ha; exact ⟨_, _, ha.symm⟩

/-- what the call made stays as it was while later calls make more -/
theorem Row.later {w w' : World} {B : Nat} {ao : Option Addr} {cap : Nat} {l : List Nat} (h : Row w B ao cap l) (hb : Below w.heap.size w w') : Row w' B ao cap l := by
  refine ⟨h.1, ?_⟩
  rcases h.2 with h2 | ⟨g, c, cur, h1, hB, hg, r⟩
  · exact Or.inl h2
  · exact Or.inr ⟨g, c, cur, h1, hB, by rw [hb.block g (Array.getElem?_eq_some_iff.1 hg).1]; exact hg, r⟩

theorem canon58_len {L X : List Nat} (h1 : Canon 58 L) (h2 : val 58 L = num 256 X) (hX : ∀ x ∈ X, x < 256) : L.length ≤ 2 * X.length := by
  have h3 := num256_lt X _ hX rfl
  rcases Nat.eq_zero_or_pos L.length with h0 | h0
  · omega
  · have h4 := h1.top h0
    have h5 : 58 ^ (L.length - 1) < 58 ^ (2 * X.length) := by omega
    have := (Nat.pow_lt_pow_iff_right (show 1 < 58 by omega)).1 h5
    omega

/-- what is behind the leading noughts, turned round, has its topmost digit -/
theorem canon_strip {X : List Nat} {k : Nat} (hX : ∀ x ∈ X, x < 256) (h : ZeroAt X k) : Canon 256 (X.drop k).reverse ∧ val 256 (X.drop k).reverse = num 256 X := by
  refine ⟨canon_of_head (fun x hx => hX x (List.mem_of_mem_drop hx)) (fun hl => ?_), ?_⟩
  · rw [List.length_drop] at hl
    have := h.2.2 (by omega)
    simpa [List.getD_eq_getElem?_getD] using this
  · rw [val_reverse]
    exact num_drop 256 X k h.2.1

end Go.Proofs.Qxb6601977aMods

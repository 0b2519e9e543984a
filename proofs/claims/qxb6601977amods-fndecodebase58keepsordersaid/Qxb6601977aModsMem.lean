import Derived.Test.Qxb6601977aModsStr
namespace Go.Proofs.Qxb6601977aMods
open Go.RowKit

theorem info5 : (Trym.prog.info? 5).map (fun i => (i.zero, i.size, i.bytes)) = some (some (.int .u8 0), 1, 1) := by kernel_rfl
theorem info3 : (Trym.prog.info? 3).map (fun i => (i.zero, i.size, i.bytes)) = some (some (.int .i64 0), 1, 8) := by kernel_rfl

/-- numbers as bytes in memory -/
def bs (l : List Nat) : List Value := l.map fun d : Nat => Value.int .u8 (d : Int)

theorem bs_length (l : List Nat) : (bs l).length = l.length := by simp [bs]
theorem bs_get (l : List Nat) (t : Nat) : (bs l)[t]? = l[t]?.map fun d : Nat => Value.int .u8 (d : Int) := by simp [bs]
theorem bs_set (l : List Nat) (j x : Nat) : (bs l).set j (.int .u8 (x : Int)) = bs (l.set j x) := by simp [bs, List.map_set]
theorem bs_append (l m : List Nat) : bs (l ++ m) = bs l ++ bs m := by simp [bs]

/-- a slice of bytes that the call itself made holds l -/
def Row (w : World) (B : Nat) (ao : Option Addr) (cap : Nat) (l : List Nat) : Prop :=
  w.ownsRow B 5 1 (.slice ao l.length cap) l.length (bs l)

theorem Row.owns {w : World} {B : Nat} {ao : Option Addr} {cap : Nat} {l : List Nat} (h : Row w B ao cap l) : w.ownsRow B 5 1 (.slice ao l.length cap) l.length (bs l) := h

theorem Row.addr {w : World} {B : Nat} {ao : Option Addr} {cap : Nat} {l : List Nat} (h : Row w B ao cap l) :
    (ao = none ∧ cap = 0 ∧ l.length = 0) ∨ ∃ g, ao = some ⟨g, 0, none⟩ ∧ B ≤ g ∧ g < w.heap.size := by
  rcases h.2 with ⟨h1, h2⟩ | ⟨g, c, cur, h1, hb, hg, _⟩
  · simp at h1
    exact Or.inl ⟨h1.1, h1.2.2, h2⟩
  · simp at h1
    exact Or.inr ⟨g, h1.1, hb, (Array.getElem?_eq_some_iff.1 hg).1⟩

theorem Row.adr {w : World} {B : Nat} {ao : Option Addr} {cap : Nat} {l : List Nat} (h : Row w B ao cap l) (hl : 0 < l.length) :
    ∃ g, ao = some ⟨g, 0, none⟩ ∧ B ≤ g ∧ g < w.heap.size := by
  rcases h.addr with ⟨_, _, h0⟩ | h
  · omega
  · exact h

theorem Row.cell {w : World} {B g cap : Nat} {l : List Nat} (h : Row w B (some ⟨g, 0, none⟩) cap l) (t : Nat) (ht : t < l.length) :
    w.cell? ⟨g, t, none⟩ = some (.int .u8 (l.getD t 0 : Nat)) := by
  rw [World.ownsRow.cellAt h t (by omega), bs_get, List.getD_eq_getElem?_getD, List.getElem?_eq_getElem ht]
  rfl

theorem Row.frozen {w : World} {B g cap : Nat} {l : List Nat} (h : Row w B (some ⟨g, 0, none⟩) cap l) (t : Nat) : w.frozen? ⟨g, t, none⟩ = false :=
  World.ownsRow.frozenAt h t

theorem Row.set {w : World} {B g cap : Nat} {l : List Nat} (h : Row w B (some ⟨g, 0, none⟩) cap l) (j x : Nat) :
    Row (w.setCell ⟨g, j, none⟩ (.int .u8 (x : Int))) B (some ⟨g, 0, none⟩) cap (l.set j x) := by
  have := (World.ownsRow.stored h j (.int .u8 (x : Int))).1
  rw [bs_set] at this
  unfold Row
  rw [List.length_set]
  exact this

theorem grownBy_setCell (w : World) (a : Addr) (u : Value) : w.grownBy (w.setCell a u) (some a.block) :=
  ⟨rfl, rfl, rfl, by simp [World.setCell], fun k _ hk => Below.heap_setCell _ _ _ _ (fun e => hk (by rw [e]))⟩

theorem Row.setOther {w : World} {B : Nat} {ao : Option Addr} {cap : Nat} {l : List Nat} (h : Row w B ao cap l) {a : Addr} (ha : ∀ g, ao = some ⟨g, 0, none⟩ → g ≠ a.block) (u : Value) :
    Row (w.setCell a u) B ao cap l := by
  refine World.ownsRow.kept h (grownBy_setCell w a u) ?_
  rcases h.addr with ⟨rfl, _, _⟩ | ⟨g, rfl, _⟩
  · exact Or.inl rfl
  · exact Or.inr (by have := ha g rfl; simp [Value.ownBlock]; exact this)

theorem Row.grown {w w' : World} {B : Nat} {ao : Option Addr} {cap : Nat} {l : List Nat} (h : Row w B ao cap l) (hg : w.grownBy w' none) : Row w' B ao cap l :=
  World.ownsRow.kept h hg (by cases (Value.slice ao l.length cap).ownBlock <;> simp)

/-- what 'append' of one byte leaves -/
theorem Row.ofAppend {w : World} {B : Nat} {l : List Nat} {x : Nat} {v : Value} (h : w.ownsRow B 5 1 v (l.length + 1) (bs l ++ [.int .u8 (x : Int)])) :
    ∃ ao cap, v = .slice ao (l.length + 1) cap ∧ Row w B ao cap (l ++ [x]) := by
  have e : bs l ++ [.int .u8 (x : Int)] = bs (l ++ [x]) := by simp [bs]
  rw [e] at h
  rcases h.2 with ⟨_, h0⟩ | ⟨g, cap, cur, rfl, hr⟩
  · omega
  · exact ⟨_, cap, rfl, by unfold Row; rw [List.length_append, List.length_singleton]; exact h⟩

theorem Row.nil (w : World) (B : Nat) : Row w B none 0 [] := World.ownsRow_nil w B 5 1

/-- what 'make([]byte, n)' leaves -/
theorem Row.ofMake {w : World} {B g n : Nat} (h : w.ownsRow B 5 1 (.slice (some ⟨g, 0, none⟩) n n) n (madeCells #[.int .u8 0] n).toList) :
    Row w B (some ⟨g, 0, none⟩) n (List.replicate n 0) := by
  have e : (madeCells #[.int .u8 0] n).toList = bs (List.replicate n 0) := by
    rw [toList_madeCells_one]
    simp [bs]
  rw [e] at h
  unfold Row
  rw [List.length_replicate]
  exact h

/-! ### a slice of bytes that is only read, wherever it lies -/
/-- 'ao, n' shows the bytes l -/
def Sees (w : World) (ao : Option Addr) (n : Nat) (l : List Nat) : Prop :=
  l.length = n ∧ ∀ t, t < n → ∃ b o, ao = some ⟨b, o, none⟩ ∧ ∀ j, j < n → w.cell? ⟨b, o + j, none⟩ = some (.int .u8 (l.getD j 0 : Nat))

theorem Row.sees {w : World} {B : Nat} {ao : Option Addr} {cap : Nat} {l : List Nat} (h : Row w B ao cap l) : Sees w ao l.length l := by
  refine ⟨rfl, fun t ht => ?_⟩
  obtain ⟨g, rfl, _⟩ := h.adr (by omega)
  exact ⟨g, 0, rfl, fun j hj => by rw [Nat.zero_add]; exact h.cell j hj⟩

end Go.Proofs.Qxb6601977aMods

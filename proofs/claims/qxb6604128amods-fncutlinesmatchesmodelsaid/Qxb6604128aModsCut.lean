import Derived.Test.Qxb6604128aModsEnds
import Derived.Deep.RegionLaw
import Derived.Deep.AppendLies
import Derived.Deep.DrawnRows
namespace Go.Proofs.Qxb6604128aMods
open Go.RowKit Nl
attribute [local go_sem ↓] Go.wp_at_zero Go.wp_at_succ

/-- the lines q, q + 1, .. of D, each as a slice into D's own memory -/
def LinesAt (bd od q j : Nat) (E : List Nat) (vs : List Value) : Prop :=
  vs.length = j ∧ ∀ t, t < j → ∃ ct, vs[t]? = some (.slice (some ⟨bd, od + st E (q + t), none⟩) (E.getD (q + t) 0 - st E (q + t)) ct)

def lenOf : Value → Nat
  | .slice _ n _ => n
  | _ => 0

/-- what cutLines leaves -/
def CutOk (w : World) (B n q : Nat) (v0 : Value) (xs : List Value) (D E : List Nat) (bd od : Nat) (e : Ending) (w' : World) : Prop :=
  ∃ (j : Nat) (av : Option Addr) (capv : Nat) (vs : List Value) (a : Addr) (c : Nat),
    e = .returned (.tuple #[.slice av (n + j) capv, .slice (some a) (D.length - st E (q + j)) c]) ∧
    w'.ownsRow B 23 1 (.slice av (n + j) capv) (n + j) (xs ++ vs) ∧ LinesAt bd od q j E vs ∧ w.grownBy w' v0.ownBlock ∧
    q + j ≤ E.length ∧ (n + j ≤ 256 ∨ j = 0) ∧ (¬ q + j < E.length ∨ ¬ n + j < 256) ∧ (j = 0 → .slice av (n + j) capv = v0) ∧ (0 < j → ∃ x, av = some x) ∧
    (q + j < E.length → a = ⟨bd, od + st E (q + j), none⟩) ∧ D.length - st E (q + j) ≤ c

/-- what holds at every round's head: j lines have been cut off -/
structure Inv (w wr : World) (B n q : Nat) (v0 : Value) (xs : List Value) (D E : List Nat) (bd od c0 j : Nat) (av : Option Addr) (capv : Nat) (vs : List Value) (a : Addr) (c : Nat) : Prop where
  own : wr.ownsRow B 23 1 (.slice av (n + j) capv) (n + j) (xs ++ vs)
  lines : LinesAt bd od q j E vs
  grown : w.grownBy wr v0.ownBlock
  qj : q + j ≤ E.length
  nj : n + j ≤ 256 ∨ j = 0
  same : j = 0 → .slice av (n + j) capv = v0
  notnil : 0 < j → ∃ x, av = some x
  addr : q + j < E.length → a = ⟨bd, od + st E (q + j), none⟩
  fits : D.length - st E (q + j) ≤ c
  capc : c ≤ c0
  blk : (Value.slice av (n + j) capv).ownBlock = v0.ownBlock ∨ ∃ g, (Value.slice av (n + j) capv).ownBlock = some g ∧ w.heap.size ≤ g

theorem ret_slices {a b : Option Addr} {n c m m' d : Nat} (h : m = m') : Ending.returned (.tuple #[.slice a n c, .slice b m d]) = .returned (.tuple #[.slice a n c, .slice b m' d]) := by rw [h]

theorem grown_new (wr : World) (o : Obj) : wr.grownBy (wr.alloc o).drew none := ⟨rfl, rfl, rfl, by simp, fun k hk _ => Below.heap_alloc wr o k hk⟩

theorem Inv.step {w wr W w1 : World} {B n q : Nat} {v0 : Value} {xs : List Value} {D E : List Nat} {bd od c0 j : Nat} {av : Option Addr} {capv : Nat} {vs : List Value} {a : Addr} {c : Nat}
    (h : Inv w wr B n q v0 xs D E bd od c0 j av capv vs a c) (hmore : q + j < E.length) (hroom : n + j < 256) (hW : wr.grownBy W none) {g cap ct S i : Nat} (hS : S = st E (q + j)) (hi : i = E.getD (q + j) 0 - st E (q + j))
    (ho : w1.ownsRow B 23 1 (.slice (some ⟨g, 0, none⟩) (n + j + 1) cap) (n + j + 1) (xs ++ vs ++ [.slice (some ⟨bd, od + S, none⟩) i ct]))
    (hg : W.grownBy w1 (Value.slice av (n + j) capv).ownBlock) (hat : (Value.slice av (n + j) capv).ownBlock = some g ∨ g = wr.heap.size + 1)
    (a' : Addr) (c' : Nat) (ha : q + (j + 1) < E.length → a' = ⟨bd, od + st E (q + (j + 1)), none⟩) (hf : D.length - st E (q + (j + 1)) ≤ c') (hc : c' ≤ c0) :
    Inv w w1 B n q v0 xs D E bd od c0 (j + 1) (some ⟨g, 0, none⟩) cap (vs ++ [.slice (some ⟨bd, od + S, none⟩) i ct]) a' c' := by
  subst hS
  subst hi
  have hsz := h.grown.size
  refine ⟨by rw [← List.append_assoc]; exact ho, ⟨by simp [h.lines.1], ?_⟩, ?_, by omega, .inl (by omega), fun e => by omega, fun _ => ⟨_, rfl⟩, ha, hf, hc, ?_⟩
  · intro t ht
    rcases Nat.lt_or_ge t j with h1 | h1
    · obtain ⟨ct', h2⟩ := h.lines.2 t h1
      exact ⟨ct', by rw [List.getElem?_append_left (by rw [h.lines.1]; exact h1)]; exact h2⟩
    · obtain rfl : t = j := by omega
      exact ⟨ct, by rw [List.getElem?_append_right (by rw [h.lines.1]; exact Nat.le_refl _), h.lines.1]; simp⟩
  · refine ⟨by rw [hg.os, hW.os, h.grown.os], by rw [hg.tape, hW.tape, h.grown.tape], by rw [hg.output, hW.output, h.grown.output], Nat.le_trans hsz (Nat.le_trans hW.size hg.size), ?_⟩
    intro k hk hne
    rw [hg.block k (Nat.lt_of_lt_of_le (by omega) hW.size) ?_, hW.block k (by omega) (by simp), h.grown.block k hk hne]
    rcases h.blk with hb | ⟨g', hb, hge⟩
    · rw [hb]; exact hne
    · rw [hb]
      intro he
      simp at he
      omega
  · show some g = _ ∨ ∃ g', some g = some g' ∧ _
    rcases hat with h1 | h1
    · rcases h.blk with hb | ⟨g', hb, hge⟩
      · exact .inl (by rw [← hb, h1])
      · exact .inr ⟨g, rfl, by rw [hb] at h1; simp at h1; omega⟩
    · exact .inr ⟨g, rfl, by omega⟩

set_option maxHeartbeats 1000000 in
set_option maxRecDepth 100000 in
theorem cut_any (av0 : Option Addr) (n cap0 B q bd od c0 : Nat) (xs : List Value) (D E : List Nat) (w : World)
    (hown : Hid (w.ownsRow B 23 1 (.slice av0 n cap0) n xs)) (hB : B ≤ w.heap.size) (_hn : n ≤ 1048576) (hD : D.length ≤ 1048576) (hDb : Hid (∀ x ∈ D, x < 256))
    (hs : Hid (Sees .u8 w (some ⟨bd, od, none⟩) D.length D)) (hW : Hid (Whole D E)) (hq : q < E.length) (hc0 : D.length - st E q ≤ c0)  (hbd : some bd ≠ (Value.slice av0 n cap0).ownBlock) :
    Calls Trym.prog 17 #[.slice av0 n cap0, .slice (some ⟨bd, od + st E q, none⟩) (D.length - st E q) c0] w fun e w' => CutOk w B n q (.slice av0 n cap0) xs D E bd od e w' := by
  obtain ⟨i0, hi, hz0, hz1, hz2⟩ := info_parts info23
  have HBD := hid hbd
  clear hbd
  go_enter Trym.func17, Trym.ntmps17
  go_wp2
  go_loopw [0, 1, 6] (fun lv dv sz wr => ∃ (j : Nat) (av : Option Addr) (capv : Nat) (vs : List Value) (a : Addr) (c : Nat),
      lv = .slice av (n + j) capv ∧ dv = .slice (some a) (D.length - st E (q + j)) c ∧ sz = .int .i64 ((st E (q + j) - st E q : Nat) : Int) ∧
      Inv w wr B n q (.slice av0 n cap0) xs D E bd od c0 j av capv vs a c) (fun _ dv _ _ => lenOf dv)
  case atStart =>
    exact ⟨0, av0, cap0, [], _, c0, rfl, rfl, by simp, ⟨by simpa using hown.out, ⟨rfl, fun t ht => by omega⟩, World.grownBy.refl _ _, by omega, .inr rfl, fun _ => rfl, fun h => by omega, fun _ => rfl, hc0, Nat.le_refl _, .inl rfl⟩⟩
  case round =>
    obtain ⟨j, av, capv, vs, a, c, rfl, rfl, rfl, hinv⟩ := hrel
    have hqj := hinv.qj
    have hnj := hinv.nj
    have hfit := hinv.fits
    have hcap := hinv.capc
    have hstq := hW.out.st_le q (by omega)
    have hsize := hinv.grown.size
    have HI := hid hinv
    clear hinv
    obtain ⟨S, hS⟩ : ∃ S, S = st E (q + j) := ⟨_, rfl⟩
    have hSD : S ≤ D.length := by rw [hS]; exact hW.out.st_le _ hqj
    by_cases hmore : q + j < E.length
    · by_cases hroom : n + j < 256
      · have hpos := hW.out.pos (q + j) hmore
        rw [HI.out.addr hmore]
        obtain ⟨x, hx⟩ : ∃ x, x = E.getD (q + j) 0 := ⟨_, rfl⟩
        rw [← hS, ← hx] at hpos
        rw [← hS] at hfit ⊢
        have hsee : Sees .u8 wr (some ⟨bd, od + S, none⟩) (D.length - S) (D.drop S) :=
          (hs.out.grown HI.out.grown (fun b o h => by simp at h; obtain ⟨rfl, _⟩ := h; exact HBD.out)).drop S hSD
        have hidx : x - S < (D.drop S).length ∧ (D.drop S).getD (x - S) 0 = 10 ∧ ∀ t, t < x - S → (D.drop S).getD t 0 ≠ 10 := by
          refine ⟨by rw [List.length_drop]; omega, ?_, ?_⟩
          · rw [List.getD_eq_getElem?_getD, List.getElem?_drop, show S + (x - S) = x from by omega, ← List.getD_eq_getElem?_getD]
            exact hpos.2.2
          · intro t ht
            rw [List.getD_eq_getElem?_getD, List.getElem?_drop, ← List.getD_eq_getElem?_getD]
            exact hW.out.to.gap (q + j) hmore (S + t) (by rw [← hS]; omega) (by rw [← hx]; omega)
        have HSE := hid hsee
        have HIX := hid hidx
        have HDB := (show Hid (∀ x ∈ D.drop S, x < 256) from fun x h => hDb.out x (List.mem_of_mem_drop h))
        have HS := hid hS
        have HX := hid hx
        have hp1 : S ≤ x := hpos.1
        have hp2 : x < D.length := hpos.2.1
        have hle : st E q ≤ S := by rw [hS]; exact hW.out.st_mono q j hqj
        obtain ⟨i, hie⟩ : ∃ i, i = x - S := ⟨_, rfl⟩
        rw [← hie] at HIX
        have hi1 : i + S = x := by omega
        have hi2 : i < D.length - S := by omega
        obtain ⟨m, hme⟩ : ∃ m, m = D.length - S := ⟨_, rfl⟩
        rw [← hme] at HSE ⊢
        have hm1 : m ≤ 1048576 := by omega
        have hm2 : i < m := by omega
        have hmc : m ≤ c := by omega
        obtain ⟨z, hz⟩ : ∃ z, z = S - st E q := ⟨_, rfl⟩
        rw [← hz]
        have hz1' : z ≤ 1048576 := by omega
        have HI1 := hid hi1
        have HIE := hid hie
        have HME := hid hme
        have HZ := hid hz
        clear hsee hidx hS hx hpos hi1 hi2 hie hme hz
        obtain ⟨y, hy⟩ : ∃ y : Int, (z : Int) + (i : Int) + 1 = y := ⟨_, rfl⟩
        have hyl : ¬ (4194304 : Int) < y := by omega
        clear hnj hc0 hcap hfit hstq
        have hi0 : (0 : Int) ≤ (i : Int) := by omega
        have him : (i : Int) ≤ (c : Int) := by omega
        have him2 : (i : Int) + 1 ≤ (m : Int) := by omega
        have hmc2 : (m : Int) ≤ (c : Int) := by omega
        have hwr : IntKind.i64.wrap ((i : Int) + 1) = (i : Int) + 1 := by
          have h1 : (i : Int) + 1 ≤ 2000000 := by omega
          rw [IntKind.wrap_i64]
          omega
        have htn : ((i : Int) + 1).toNat = i + 1 := by omega
        have hi01 : (0 : Int) ≤ (i : Int) + 1 := by omega
        have hii : (i : Int) ≤ (i : Int) + 1 := by omega
        have HE1 := (show Hid (D.length - st E (q + (j + 1)) = m - (i + 1)) from by
          show D.length - st E (q + (j + 1)) = m - (i + 1)
          have e : st E (q + (j + 1)) = x + 1 := by rw [HX.out]; exact st_succ E (q + j)
          have := HI1.out
          have := HME.out
          omega)
        have HE2 := (show Hid ((z : Int) + ((i : Int) + 1) = ((st E (q + (j + 1)) - st E q : Nat) : Int)) from by
          show (z : Int) + ((i : Int) + 1) = ((st E (q + (j + 1)) - st E q : Nat) : Int)
          have e : st E (q + (j + 1)) = x + 1 := by rw [HX.out]; exact st_succ E (q + j)
          have := HI1.out
          have := HZ.out
          omega)
        have HE3 := (show Hid (st E (q + (j + 1)) = S + (i + 1)) from by
          show st E (q + (j + 1)) = S + (i + 1)
          have e : st E (q + (j + 1)) = x + 1 := by rw [HX.out]; exact st_succ E (q + j)
          have := HI1.out
          omega)
        have HIX' := (show Hid (i = E.getD (q + j) 0 - st E (q + j)) from by
          show i = E.getD (q + j) 0 - st E (q + j)
          rw [← HX.out, ← HS.out]; exact HIE.out)
        have hcc := HI.out.capc
        by_cases hlz : 0 < n + j
        · by_cases hci : c = i + 1
          · subst hci
            go_wp2_with fail
            refine (indexByte_any bd (od + S) m _ i (D.drop S) _ HSE HDB HIX).mono ?_
            rintro e wr ⟨rfl, rfl⟩
            go_wp2
            go_region_law ((refine step_append_lies _ (by rfl) _ _ 22 (by rfl) B 23 i0 (.slice none 0 0) 1 24 Trym.underlying22 hi hz0 hz1 hz2 (by rfl) (by decide) (.slice av (n + j) capv) (n + j) (xs ++ vs) (by rfl) (by exact HI.out.own.alloc _) ⟨wr.heap.size, 0, none⟩ 1 1 [.slice (some ⟨bd, od + S, none⟩) i _] (by rfl) (by rfl) (World.news_of_block (by exact heap_alloc_new wr _)) (by intro u hu; simp at hu; subst hu; rfl) (by decide) (by unfold maxLen; omega) (by omega) (by simp; omega) (wr.heap.size + 1) (by simp) ?_; intro g cap w1 hown1 hgrow hat hlt))
            have HO1 := hid hown1
            have HGR := hid hgrow
            have HAT := hid hat
            clear hown1 hgrow hat
            go_simp
            go_wp2
            go_roundw
            case rel =>
              exact ⟨j + 1, some ⟨g, 0, none⟩, cap, _, ⟨bd, od + S, none⟩, 0, rfl, (by rw [HE1.out, show m - (i + 1) = 0 from by omega]), (by rw [HE2.out]), HI.out.step hmore hroom (grown_new wr _) HS.out HIX'.out HO1.out HGR.out HAT.out _ _ (fun hm => absurd ((hW.out.more _ (by omega)).2 hm) (by rw [HE1.out]; omega)) (by rw [HE1.out]; omega) (by omega)⟩
            case measure => simp [lenOf]; omega
          · skip
            go_wp2_with fail
            refine (indexByte_any bd (od + S) m _ i (D.drop S) _ HSE HDB HIX).mono ?_
            rintro e wr ⟨rfl, rfl⟩
            go_wp2
            go_region_law ((refine step_append_lies _ (by rfl) _ _ 22 (by rfl) B 23 i0 (.slice none 0 0) 1 24 Trym.underlying22 hi hz0 hz1 hz2 (by rfl) (by decide) (.slice av (n + j) capv) (n + j) (xs ++ vs) (by rfl) (by exact HI.out.own.alloc _) ⟨wr.heap.size, 0, none⟩ 1 1 [.slice (some ⟨bd, od + S, none⟩) i _] (by rfl) (by rfl) (World.news_of_block (by exact heap_alloc_new wr _)) (by intro u hu; simp at hu; subst hu; rfl) (by decide) (by unfold maxLen; omega) (by omega) (by simp; omega) (wr.heap.size + 1) (by simp) ?_; intro g cap w1 hown1 hgrow hat hlt))
            have HO1 := hid hown1
            have HGR := hid hgrow
            have HAT := hid hat
            clear hown1 hgrow hat
            go_simp
            go_wp2
            go_roundw
            case rel =>
              exact ⟨j + 1, some ⟨g, 0, none⟩, cap, _, ⟨bd, od + S + (i + 1), none⟩, c - (i + 1), rfl, (by rw [HE1.out]), (by rw [HE2.out]), HI.out.step hmore hroom (grown_new wr _) HS.out HIX'.out HO1.out HGR.out HAT.out _ _ (fun _ => (by rw [HE3.out, Nat.add_assoc])) (by rw [HE1.out]; omega) (by omega)⟩
            case measure => simp [lenOf]; omega
        · by_cases hci : c = i + 1
          · subst hci
            go_wp2_with fail
            refine (indexByte_any bd (od + S) m _ i (D.drop S) _ HSE HDB HIX).mono ?_
            rintro e wr ⟨rfl, rfl⟩
            go_wp2
            go_region_law ((refine step_append_lies _ (by rfl) _ _ 22 (by rfl) B 23 i0 (.slice none 0 0) 1 24 Trym.underlying22 hi hz0 hz1 hz2 (by rfl) (by decide) (.slice av (n + j) capv) (n + j) (xs ++ vs) (by rfl) (by exact HI.out.own.alloc _) ⟨wr.heap.size, 0, none⟩ 1 1 [.slice (some ⟨bd, od + S, none⟩) i _] (by rfl) (by rfl) (World.news_of_block (by exact heap_alloc_new wr _)) (by intro u hu; simp at hu; subst hu; rfl) (by decide) (by unfold maxLen; omega) (by omega) (by simp; omega) (wr.heap.size + 1) (by simp) ?_; intro g cap w1 hown1 hgrow hat hlt))
            have HO1 := hid hown1
            have HGR := hid hgrow
            have HAT := hid hat
            clear hown1 hgrow hat
            go_simp
            go_wp2
            go_roundw
            case rel =>
              exact ⟨j + 1, some ⟨g, 0, none⟩, cap, _, ⟨bd, od + S, none⟩, 0, rfl, (by rw [HE1.out, show m - (i + 1) = 0 from by omega]), (by rw [HE2.out]), HI.out.step hmore hroom (grown_new wr _) HS.out HIX'.out HO1.out HGR.out HAT.out _ _ (fun hm => absurd ((hW.out.more _ (by omega)).2 hm) (by rw [HE1.out]; omega)) (by rw [HE1.out]; omega) (by omega)⟩
            case measure => simp [lenOf]; omega
          · skip
            go_wp2_with fail
            refine (indexByte_any bd (od + S) m _ i (D.drop S) _ HSE HDB HIX).mono ?_
            rintro e wr ⟨rfl, rfl⟩
            go_wp2
            go_region_law ((refine step_append_lies _ (by rfl) _ _ 22 (by rfl) B 23 i0 (.slice none 0 0) 1 24 Trym.underlying22 hi hz0 hz1 hz2 (by rfl) (by decide) (.slice av (n + j) capv) (n + j) (xs ++ vs) (by rfl) (by exact HI.out.own.alloc _) ⟨wr.heap.size, 0, none⟩ 1 1 [.slice (some ⟨bd, od + S, none⟩) i _] (by rfl) (by rfl) (World.news_of_block (by exact heap_alloc_new wr _)) (by intro u hu; simp at hu; subst hu; rfl) (by decide) (by unfold maxLen; omega) (by omega) (by simp; omega) (wr.heap.size + 1) (by simp) ?_; intro g cap w1 hown1 hgrow hat hlt))
            have HO1 := hid hown1
            have HGR := hid hgrow
            have HAT := hid hat
            clear hown1 hgrow hat
            go_simp
            go_wp2
            go_roundw
            case rel =>
              exact ⟨j + 1, some ⟨g, 0, none⟩, cap, _, ⟨bd, od + S + (i + 1), none⟩, c - (i + 1), rfl, (by rw [HE1.out]), (by rw [HE2.out]), HI.out.step hmore hroom (grown_new wr _) HS.out HIX'.out HO1.out HGR.out HAT.out _ _ (fun _ => (by rw [HE3.out, Nat.add_assoc])) (by rw [HE1.out]; omega) (by omega)⟩
            case measure => simp [lenOf]; omega
      · have hpos := (hW.out.more (q + j) hqj).2 hmore
        obtain ⟨m, hme⟩ : ∃ m, m = D.length - st E (q + j) := ⟨_, rfl⟩
        rw [← hme] at hpos ⊢
        have hm1 : m ≤ 1048576 := by omega
        have HME := hid hme
        have HNJ := hid hnj
        clear hme hnj hS hSD
        go_wp2
        go_ret2
        exact ⟨j, av, capv, vs, a, c, ret_slices HME.out, HI.out.own, HI.out.lines, HI.out.grown, hqj, HNJ.out, .inr hroom, HI.out.same, HI.out.notnil, HI.out.addr, HI.out.fits⟩
    · have hpos : ¬ 0 < D.length - st E (q + j) := fun h => hmore ((hW.out.more (q + j) hqj).1 h)
      obtain ⟨m, hme⟩ : ∃ m, m = D.length - st E (q + j) := ⟨_, rfl⟩
      rw [← hme] at hpos ⊢
      have HME := hid hme
      have HNJ := hid hnj
      clear hme hnj hS hSD
      go_wp2
      go_ret2
      exact ⟨j, av, capv, vs, a, c, ret_slices HME.out, HI.out.own, HI.out.lines, HI.out.grown, hqj, HNJ.out, .inl hmore, HI.out.same, HI.out.notnil, HI.out.addr, HI.out.fits⟩
end Go.Proofs.Qxb6604128aMods

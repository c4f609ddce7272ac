/-
  The walks of indexFrom and stringEnd.
-/
import Derived.Test.Qxb6601167aModsBytes
import Derived.WalkSpells
import Derived.Outline
namespace Go.Proofs.Qxb6601167aMods
open Go.RowKit

/-- 'q' is the first place from 'i' on that holds 'cv', or 'n'. -/
def Fst (f : Nat → Int) (cv : Int) (n i q : Nat) : Prop := i ≤ q ∧ q ≤ n ∧ (∀ j, i ≤ j → j < q → f j ≠ cv) ∧ (q < n → f q = cv)

set_option maxHeartbeats 400000 in
set_option maxRecDepth 100000 in
theorem indexFrom_any (p : Option Addr) (n c i : Nat) (f : Nat → Int) (cv : Int) (w : World) (hi : i ≤ n) (hn : n ≤ 1048576) (hnc : n ≤ c) (hB : Bs w p n f)
    (hf : ∀ i, 0 ≤ f i ∧ f i ≤ 255) (hc : 0 ≤ cv ∧ cv ≤ 255) :
    Calls Trym.prog 23 #[.slice p n c, .int .i64 i, .int .u8 cv] w fun e w' => (∃ q : Nat, Fst f cv n i q ∧ e = .returned (.int .i64 q)) ∧ w = w' := by
  have HF : Hid (∀ i, 0 ≤ f i ∧ f i ≤ 255) := hf
  clear hf
  have hcut := cut_from p n c i hi
  go_enter Trym.func23, Trym.ntmps23
  go_wp2_with fail
  clear hcut
  refine (indexByte_any _ _ _ (fun j => f (i + j)) _ _ (hB.cut i (n - i) (by omega) hnc) (fun i _ => HF.out _) hc).mono ?_
  rintro e w' ⟨r, hr, rfl, rfl⟩
  rcases hr.shift with ⟨rfl, hno⟩ | ⟨q, hq, rfl, hfq, hbef⟩
  · have HE : Hid (Fst f cv n i n) := ⟨hi, Nat.le_refl _, fun j a b => hno j a (by omega), fun h => by omega⟩
    clear hno hr
    go_wp2_with fail
    go_ret
    exact ⟨⟨_, HE, rfl⟩, rfl⟩
  · have HE : Hid (Fst f cv n i (i + q)) := ⟨by omega, by omega, hbef, fun h => hfq⟩
    clear hr hfq hbef
    go_wp2_with fail
    go_ret
    refine ⟨⟨_, HE, ?_⟩, rfl⟩
    go_num

theorem indexFrom_at (p : Option Addr) (n c : Nat) (a : Int) (i : Nat) (f : Nat → Int) (cv : Int) (w : World) (ha : a = (i : Int)) (hi : i ≤ n) (hn : n ≤ 1048576) (hnc : n ≤ c) (hB : Bs w p n f)
    (hf : ∀ i, 0 ≤ f i ∧ f i ≤ 255) (hc : 0 ≤ cv ∧ cv ≤ 255) :
    Calls Trym.prog 23 #[.slice p n c, .int .i64 a, .int .u8 cv] w fun e w' => (∃ q : Nat, Fst f cv n i q ∧ e = .returned (.int .i64 q)) ∧ w = w' := by
  subst ha
  exact indexFrom_any p n c i f cv w hi hn hnc hB hf hc

/-- In 'w0' the slice at 'p' holds 'n' bytes, in a block below 'g'. -/
def Bl (w0 : World) (p : Option Addr) (n : Nat) (f : Nat → Int) (g : Nat) : Prop :=
  n = 0 ∨ ∃ b o, p = some ⟨b, o, none⟩ ∧ b < g ∧ ∀ i, i < n → w0.cell? ⟨b, o + i, none⟩ = some (.int .u8 (f i))

theorem Bl.bs {w0 w : World} {p : Option Addr} {n g : Nat} {f : Nat → Int} (h : Bl w0 p n f g) (hb : Below g w0 w) : Bs w p n f := by
  rcases h with h | ⟨b, o, rfl, hlt, hc⟩
  · exact Or.inl h
  · exact Or.inr ⟨b, o, rfl, fun i hi => by rw [hb.cell (p := ⟨b, o + i, none⟩) hlt]; exact hc i hi⟩

theorem Bl.cut {w0 : World} {p : Option Addr} {n c g : Nat} {f : Nat → Int} (hB : Bl w0 p n f g) (l m : Nat) (hm : l + m ≤ n) (hc : n ≤ c) :
    Bl w0 (cutP p c l) m (fun i => f (l + i)) g := by
  by_cases h0 : m = 0
  · exact Or.inl h0
  rcases hB with h | ⟨b, o, rfl, hlt, hcell⟩
  · omega
  · refine Or.inr ⟨b, o + l, ?_, hlt, fun i hi => ?_⟩
    · unfold cutP
      rw [if_neg (by omega)]
      by_cases hl : l = 0
      · simp [Addr.add, hl]
      · simp [Addr.add, hl]
    · rw [Nat.add_assoc]; exact hcell (l + i) (by omega)

/-- Block 'g' of 'w' is a picker that bears the scan state 'q'; what lies below is as in 'w0'. -/
structure Pk (w0 : World) (g : Nat) (q : S) (w : World) : Prop where
  bel : Below g w0 w
  cells : ∃ (c : Array Value) (t : TypeId), w.heap[g]? = some (.cells c t (0, 0)) ∧ c[8]? = some (.int .i64 q.d) ∧ c[9]? = some (.bool q.s) ∧ c[10]? = some (.bool q.e)

theorem Pk.d {w0 w : World} {g : Nat} {q : S} (h : Pk w0 g q w) : w.cell? ⟨g, 8, none⟩ = some (.int .i64 q.d) := by
  obtain ⟨c, t, hg, h8, h9, h10⟩ := h.cells; simp [World.cell?, hg, h8]
theorem Pk.s {w0 w : World} {g : Nat} {q : S} (h : Pk w0 g q w) : w.cell? ⟨g, 9, none⟩ = some (.bool q.s) := by
  obtain ⟨c, t, hg, h8, h9, h10⟩ := h.cells; simp [World.cell?, hg, h9]
theorem Pk.e {w0 w : World} {g : Nat} {q : S} (h : Pk w0 g q w) : w.cell? ⟨g, 10, none⟩ = some (.bool q.e) := by
  obtain ⟨c, t, hg, h8, h9, h10⟩ := h.cells; simp [World.cell?, hg, h10]
theorem Pk.fr {w0 w : World} {g : Nat} {q : S} (h : Pk w0 g q w) (o : Nat) : w.frozen? ⟨g, o, none⟩ = false := by
  obtain ⟨c, t, hg, h8, h9, h10⟩ := h.cells; simp [World.frozen?, hg]

theorem Pk.drew {w0 w : World} {g : Nat} {q : S} (h : Pk w0 g q w) : Pk w0 g q w.drew := ⟨h.bel.drew, h.cells⟩

theorem Pk.setE {w0 w : World} {g : Nat} {q : S} (h : Pk w0 g q w) (v : Bool) : Pk w0 g { q with e := v } (w.setCell ⟨g, 10, none⟩ (.bool v)) := by
  refine ⟨h.bel.setCell (Nat.le_refl _) _, ?_⟩
  obtain ⟨c, t, hg, h8, h9, h10⟩ := h.cells
  refine ⟨c.setIfInBounds 10 (.bool v), t, ?_, ?_, ?_, ?_⟩
  · simp [World.setCell, Array.getElem?_modify, hg]
  · rw [Array.getElem?_setIfInBounds_ne (by omega)]; exact h8
  · rw [Array.getElem?_setIfInBounds_ne (by omega)]; exact h9
  · have : 10 < c.size := (Array.getElem?_eq_some_iff.1 h10).1
    simp [this]

theorem Pk.setS {w0 w : World} {g : Nat} {q : S} (h : Pk w0 g q w) (v : Bool) : Pk w0 g { q with s := v } (w.setCell ⟨g, 9, none⟩ (.bool v)) := by
  refine ⟨h.bel.setCell (Nat.le_refl _) _, ?_⟩
  obtain ⟨c, t, hg, h8, h9, h10⟩ := h.cells
  refine ⟨c.setIfInBounds 9 (.bool v), t, ?_, ?_, ?_, ?_⟩
  · simp [World.setCell, Array.getElem?_modify, hg]
  · rw [Array.getElem?_setIfInBounds_ne (by omega)]; exact h8
  · have : 9 < c.size := (Array.getElem?_eq_some_iff.1 h9).1
    simp [this]
  · rw [Array.getElem?_setIfInBounds_ne (by omega)]; exact h10

theorem Pk.setD {w0 w : World} {g : Nat} {q : S} (h : Pk w0 g q w) (v : Int) : Pk w0 g { q with d := v } (w.setCell ⟨g, 8, none⟩ (.int .i64 v)) := by
  refine ⟨h.bel.setCell (Nat.le_refl _) _, ?_⟩
  obtain ⟨c, t, hg, h8, h9, h10⟩ := h.cells
  refine ⟨c.setIfInBounds 8 (.int .i64 v), t, ?_, ?_, ?_, ?_⟩
  · simp [World.setCell, Array.getElem?_modify, hg]
  · have : 8 < c.size := (Array.getElem?_eq_some_iff.1 h8).1
    simp [this]
  · rw [Array.getElem?_setIfInBounds_ne (by omega)]; exact h9
  · rw [Array.getElem?_setIfInBounds_ne (by omega)]; exact h10

end Go.Proofs.Qxb6601167aMods

/-
  The walk of bytes.IndexByte, its answer told over a function of the place; cuts of a slice of bytes.
-/
import Derived.Test.Qxb6602847aModsPieces
import Derived.Test.Qxb6602847aModsRows
import Derived.WalkKit
import Derived.ProofKit
import Derived.Below
namespace Go.Proofs.Qxb6602847aMods
open Go.RowKit

/-- The slice at 'p' holds 'n' bytes, 'f i' at place i (where there is none: whatever the address). -/
def Bs (w : World) (p : Option Addr) (n : Nat) (f : Nat → Int) : Prop :=
  n = 0 ∨ ∃ b o, p = some ⟨b, o, none⟩ ∧ ∀ i, i < n → w.cell? ⟨b, o + i, none⟩ = some (.int .u8 (f i))

theorem run_entry_none {P : Program} (w : World) (p : Option Addr) (c : Nat) (cv : Int) :
    (Extern.BytealgIndexByte.indexByte #[.slice p 0 c, .int .u8 cv]).run P w = .ok (.int .i64 (-1)) w := by
  cases p with
  | none => exact Lib.run_indexByteNil w 0 c cv
  | some a =>
    have hs := Lib.run_indexByteString (P := P) .empty cv w
    change Sem.run P (do
      let b ← Extern.Bytes.bytesOf (.slice (some a) 0 c)
      let c ← Extern.Bytes.asByte (.int .u8 cv)
      match (List.range b.size).find? fun i => b[i]! == c with
      | some i => pure (goInt i)
      | none => pure (goInt (-1))) w = _
    change Sem.run P (do
      let b ← Extern.Bytes.bytesOf (.string .empty)
      let c ← Extern.Bytes.asByte (.int .u8 cv)
      match (List.range b.size).find? fun i => b[i]! == c with
      | some i => pure (goInt i)
      | none => pure (goInt (-1))) w = _ at hs
    simp only [Extern.Bytes.bytesOf, Extern.Bytes.loadBytes, Sem.run_bind, Sem.run_pure, Result.andThen] at hs ⊢
    exact hs

theorem run_entry {P : Program} (w : World) (p : Option Addr) (n c : Nat) (f : Nat → Int) (cv : Int) (hB : Bs w p n f)
    (hf : ∀ i, i < n → 0 ≤ f i ∧ f i ≤ 255) (hc : 0 ≤ cv ∧ cv ≤ 255) :
    ∃ r : Int, IB f cv n r ∧ (Extern.BytealgIndexByte.indexByte #[.slice p n c, .int .u8 cv]).run P w = .ok (.int .i64 r) w := by
  rcases hB with rfl | ⟨b, o, rfl, hcell⟩
  · exact ⟨-1, Or.inl ⟨rfl, fun i hi => by omega⟩, run_entry_none w p c cv⟩
  · refine ⟨_, ib_of f cv n hf hc, ?_⟩
    refine Lib.run_indexByteSlice w b o n c ((List.range n).map f) (by simp) (fun i hi => ?_) cv
    rw [hcell i hi]
    simp [List.getD, hi]

set_option maxHeartbeats 400000 in
set_option maxRecDepth 100000 in
theorem indexByte_any (p : Option Addr) (n c : Nat) (f : Nat → Int) (cv : Int) (w : World) (hB : Bs w p n f)
    (hf : ∀ i, i < n → 0 ≤ f i ∧ f i ≤ 255) (hc : 0 ≤ cv ∧ cv ≤ 255) :
    Calls Trym.prog 30 #[.slice p n c, .int .u8 cv] w fun e w' => ∃ r : Int, IB f cv n r ∧ e = .returned (.int .i64 r) ∧ w = w' := by
  obtain ⟨r, hr, hrun⟩ := run_entry (P := Trym.prog) w p n c f cv hB hf hc
  have HR : Hid (IB f cv n r) := hr
  clear hr hB hf hc
  go_enter Trym.func30, Trym.ntmps30
  go_wp2
  rw [run_callFunc_extern Trym.func34 (by kernel_rfl) (by kernel_rfl) (by kernel_rfl) (e := Extern.BytealgIndexByte.indexByte) (by kernel_rfl), hrun]
  simp only [Result.andThen]
  rw [Oper.upon_value]
  go_wp2
  go_ret
  exact ⟨r, HR, rfl, rfl⟩

/-- The address of a slice that is cut at 'l'. -/
def cutP (p : Option Addr) (c l : Nat) : Option Addr := if c = l then p else p.map (·.add l)

theorem size5 (wx : World) : (Go.sizeOf (Trym.prog.elem 22)).run Trym.prog wx = .ok 1 wx := by kernel_rfl
theorem elem22 : Trym.prog.underlying 22 = some (.slice (Trym.prog.elem 22)) := by kernel_rfl

theorem cut_from (p : Option Addr) (n c l : Nat) (h : l ≤ n) (wx : World) :
    (Instr.slice 22 (.slice p n c) (some (.int .i64 (l : Int))) none none).run Trym.prog wx = .ok (.slice (cutP p c l) (n - l) (c - l)) wx := by
  rw [run_slice_l wx 22 p n c elem22 .i64 _ (by omega) (by omega), size5]
  simp [Result.andThen, sliced, cutP]

theorem cut_mid (p : Option Addr) (n c l m : Nat) (h : l ≤ m) (hm : m ≤ c) (wx : World) :
    (Instr.slice 22 (.slice p n c) (some (.int .i64 (l : Int))) (some (.int .i64 (m : Int))) none).run Trym.prog wx = .ok (.slice (cutP p c l) (m - l) (c - l)) wx := by
  rw [run_slice_lh wx 22 p n c elem22 .i64 .i64 _ _ (by omega) (by omega) (by omega), size5]
  simp [Result.andThen, sliced, cutP]

theorem cut_to (p : Option Addr) (n c m : Nat) (hm : m ≤ c) (wx : World) :
    (Instr.slice 22 (.slice p n c) none (some (.int .i64 (m : Int))) none).run Trym.prog wx = .ok (.slice p m c) wx := by
  rw [run_slice_h wx 22 p n c elem22 .i64 _ (by omega) (by omega), size5]
  simp [Result.andThen, sliced, Addr.add]

/-- A cut of a slice of bytes holds what lies there. -/
theorem Bs.cut {w : World} {p : Option Addr} {n c : Nat} {f : Nat → Int} (hB : Bs w p n f) (l m : Nat) (hm : l + m ≤ n) (hc : n ≤ c) :
    Bs w (cutP p c l) m (fun i => f (l + i)) := by
  by_cases h0 : m = 0
  · exact Or.inl h0
  rcases hB with h | ⟨b, o, rfl, hcell⟩
  · omega
  · refine Or.inr ⟨b, o + l, ?_, fun i hi => ?_⟩
    · unfold cutP
      rw [if_neg (by omega)]
      by_cases hl : l = 0
      · simp [Addr.add, hl]
      · simp [Addr.add, hl]
    · rw [Nat.add_assoc]; exact hcell (l + i) (by omega)

theorem Bs.first {w : World} {p : Option Addr} {n : Nat} {f : Nat → Int} (hB : Bs w p n f) (m : Nat) (hm : m ≤ n) : Bs w p m f := by
  rcases hB with h | ⟨b, o, rfl, hcell⟩
  · exact Or.inl (by omega)
  · exact Or.inr ⟨b, o, rfl, fun i hi => hcell i (by omega)⟩

/-- In 'w0' the slice at 'p' holds 'n' bytes, in a block below 'g'. -/
def Bl (w0 : World) (p : Option Addr) (n : Nat) (f : Nat → Int) (g : Nat) : Prop :=
  n = 0 ∨ ∃ b o, p = some ⟨b, o, none⟩ ∧ b < g ∧ ∀ i, i < n → w0.cell? ⟨b, o + i, none⟩ = some (.int .u8 (f i))

theorem Bl.bs {w0 w : World} {p : Option Addr} {n g : Nat} {f : Nat → Int} (h : Bl w0 p n f g) (hb : Below g w0 w) : Bs w p n f := by
  rcases h with h | ⟨b, o, rfl, hlt, hc⟩
  · exact Or.inl h
  · exact Or.inr ⟨b, o, rfl, fun i hi => by rw [hb.cell (p := ⟨b, o + i, none⟩) hlt]; exact hc i hi⟩

theorem Bl.cut {w0 : World} {p : Option Addr} {n c g : Nat} {f : Nat → Int} (hB : Bl w0 p n f g) (l m : Nat) (hm : l + m ≤ n) (hc : n ≤ c) :
    Bl w0 (cutP p c l) m (fun i => f (l + i)) g := by
  by_cases h0 : m = 0
  · exact Or.inl h0
  rcases hB with h | ⟨b, o, rfl, hlt, hcell⟩
  · omega
  · refine Or.inr ⟨b, o + l, ?_, hlt, fun i hi => ?_⟩
    · unfold cutP
      rw [if_neg (by omega)]
      by_cases hl : l = 0
      · simp [Addr.add, hl]
      · simp [Addr.add, hl]
    · rw [Nat.add_assoc]; exact hcell (l + i) (by omega)

theorem Bl.same {w0 : World} {p : Option Addr} {n g : Nat} {f f' : Nat → Int} (h : Bl w0 p n f g) (he : ∀ i, i < n → f i = f' i) : Bl w0 p n f' g := by
  rcases h with h | ⟨b, o, rfl, hlt, hc⟩
  · exact Or.inl h
  · exact Or.inr ⟨b, o, rfl, hlt, fun i hi => by rw [← he i hi]; exact hc i hi⟩

/-- The slice still lies there in a later world. -/
theorem Bl.later {w w' : World} {p : Option Addr} {n : Nat} {f : Nat → Int} (h : Bl w p n f w.heap.size) (hb : Below w.heap.size w w') : Bl w' p n f w'.heap.size := by
  rcases h with h | ⟨b, o, rfl, hlt, hc⟩
  · exact Or.inl h
  · exact Or.inr ⟨b, o, rfl, Nat.lt_of_lt_of_le hlt hb.size, fun i hi => by rw [hb.cell (p := ⟨b, o + i, none⟩) hlt]; exact hc i hi⟩

end Go.Proofs.Qxb6602847aMods

/-
  The walk of cloneBytesProxyB1: a copy, byte by byte.
-/
import Derived.Test.Qxb6601167aModsStringEnd
import Derived.Laws.CopyOwn
import Derived.WalkSpells
import Derived.Lib.SliceRun
namespace Go.Proofs.Qxb6601167aMods
open Go.RowKit

/-- The cells of a slice of bytes that 'make' has just laid. -/
def fresh (n : Nat) : Array Value := madeCells #[.int .u8 0] n

theorem info5 : ∃ i, Trym.prog.info? 5 = some i ∧ i.zero = some (.int .u8 0) ∧ i.size = 1 ∧ i.bytes = 1 := by
  have h : (Trym.prog.info? 5).map (fun i => (i.zero, i.size, i.bytes)) = some (some (.int .u8 0), 1, 1) := by kernel_rfl
  obtain ⟨i, hi, he⟩ := Option.map_eq_some_iff.1 h
  simp only [Prod.mk.injEq] at he
  exact ⟨i, hi, he.1, he.2.1, he.2.2⟩

theorem run_mk (n : Nat) (hn : n ≤ 1048576) (wx : World) :
    (Instr.makeSlice 22 (.int .i64 (n : Int)) (.int .i64 (n : Int))).run Trym.prog wx = .ok (.slice (some ⟨wx.heap.size, 0, none⟩) n n) (wx.alloc (.cells (fresh n) 5)) := by
  obtain ⟨i, hi, hz, hs, hb⟩ := info5
  have := run_make (P := Trym.prog) wx 22 5 i _ Trym.underlying22 hi hz .i64 .i64 (n : Int) (n : Int) (by omega) (by omega) (by rw [hb]; omega) (by omega)
  rw [this, hs]
  simp [fresh, Value.cells]

/-- In 'wr' block 'g' holds 'n' cells, the first 'k' of them the bytes of 'f'; what lay in 'w' below 'g' is as it was. -/
structure Cl (w : World) (g n : Nat) (f : Nat → Int) (k : Nat) (wr : World) : Prop where
  bel : Below g w wr
  cells : ∃ c : Array Value, wr.heap[g]? = some (.cells c 5 (0, 0)) ∧ c.size = n ∧ ∀ i, i < k → c[i]? = some (.int .u8 (f i))

theorem Cl.new (w : World) (n : Nat) (f : Nat → Int) : Cl w w.heap.size n f 0 (w.alloc (.cells (fresh n) 5)) := by
  refine ⟨(Below.refl _ _).alloc (Nat.le_refl _) _, fresh n, ?_, size_madeCells _ _, fun i h => by omega⟩
  show (w.heap.push _)[w.heap.size]? = _
  rw [Array.getElem?_push, if_pos rfl]

theorem Cl.old {w wr : World} {g n k : Nat} {f : Nat → Int} (h : Cl w g n f k wr) (i : Nat) (hi : i < n) : ∃ v, wr.cell? ⟨g, i, none⟩ = some v := by
  obtain ⟨c, hg, hs, _⟩ := h.cells
  exact ⟨c[i], by simp [World.cell?, hg, hs, hi]⟩

theorem Cl.fr {w wr : World} {g n k : Nat} {f : Nat → Int} (h : Cl w g n f k wr) (i : Nat) : wr.frozen? ⟨g, i, none⟩ = false := by
  obtain ⟨c, hg, hs, _⟩ := h.cells
  simp [World.frozen?, hg]

theorem Cl.put {w wr : World} {g n k : Nat} {f : Nat → Int} (h : Cl w g n f k wr) (hk : k < n) : Cl w g n f (k + 1) (wr.setCell ⟨g, k, none⟩ (.int .u8 (f k))) := by
  refine ⟨h.bel.setCell (Nat.le_refl _) _, ?_⟩
  obtain ⟨c, hg, hs, hc⟩ := h.cells
  refine ⟨c.setIfInBounds k (.int .u8 (f k)), ?_, by simpa using hs, fun i hi => ?_⟩
  · simp [World.setCell, Array.getElem?_modify, hg]
  · by_cases he : i = k
    · subst he; simp [hs, hk]
    · rw [Array.getElem?_setIfInBounds_ne (by omega)]; exact hc i (by omega)

theorem Cl.size {w wr : World} {g n k : Nat} {f : Nat → Int} (h : Cl w g n f k wr) : g < wr.heap.size := by
  obtain ⟨c, hg, _⟩ := h.cells
  exact (Array.getElem?_eq_some_iff.1 hg).1

theorem Cl.bl {w wr : World} {g n : Nat} {f : Nat → Int} (h : Cl w g n f n wr) : Bl wr (some ⟨g, 0, none⟩) n f wr.heap.size := by
  refine Or.inr ⟨g, 0, rfl, h.size, fun i hi => ?_⟩
  obtain ⟨c, hg, hs, hc⟩ := h.cells
  rw [Nat.zero_add]
  simp [World.cell?, hg, hc i hi]

/-- What the clone leaves. -/
def ClPost (w : World) (n : Nat) (f : Nat → Int) (e : Ending) (w' : World) : Prop :=
  ∃ (p : Option Addr) (c : Nat), n ≤ c ∧ Bl w' p n f w'.heap.size ∧ Below w.heap.size w w' ∧ e = .returned (.slice p n c)

set_option maxHeartbeats 400000 in
set_option maxRecDepth 100000 in
theorem clone_nil (f : Nat → Int) (w : World) : Calls Trym.prog 9 #[.slice none 0 0] w fun e w' => ClPost w 0 f e w' := by
  have heq := fun wx => Lib.run_eql_slice_nil (P := Trym.prog) wx 22 5 none 0 0 0 0 Trym.underlying22
  go_enter Trym.func9, Trym.ntmps9
  go_wp2
  go_ret
  exact ⟨none, 0, Nat.le_refl _, Or.inl rfl, Below.refl _ _, rfl⟩

set_option maxHeartbeats 400000 in
set_option maxRecDepth 100000 in
theorem clone_some (x : Addr) (n cap : Nat) (f : Nat → Int) (w : World) (hn : n ≤ 1048576)
    (hcell : ∀ i, i < n → w.cell? (x.add i) = some (.int .u8 (f i))) :
    Calls Trym.prog 9 #[.slice (some x) n cap] w fun e w' => ClPost w n f e w' := by
  have heq := fun wx => Lib.run_eql_slice_nil (P := Trym.prog) wx 22 5 (some x) n cap 0 0 Trym.underlying22
  have hmk := run_mk n hn
  have HC : Hid (∀ i, i < n → w.cell? (x.add i) = some (.int .u8 (f i))) := hcell
  clear hcell
  go_enter Trym.func9, Trym.ntmps9
  go_wp2_with fail
  clear heq hmk
  go_loopw [4] (fun iv wr => ∃ k : Nat, iv = .int .i64 k ∧ k ≤ n ∧ Hid (Cl w w.heap.size n f k wr)) (fun iv _ => n - (intOf iv).toNat)
  case atStart => exact ⟨0, rfl, Nat.zero_le _, Cl.new w n f⟩
  case round =>
    obtain ⟨k, rfl, hk, HK⟩ := hrel
    by_cases hlt : k < n
    · obtain ⟨v3, hv3⟩ := HK.out.old k hlt
      have hfr := HK.out.fr k
      have hx : wr.cell? (x.add k) = some (.int .u8 (f k)) := by
        have hc := HC.out k hlt
        rw [HK.out.bel.cell (p := x.add k) ?_]
        · exact hc
        · by_cases hl : (x.add k).block < w.heap.size
          · exact hl
          · rw [World.cell?, Array.getElem?_eq_none (by omega)] at hc
            simp at hc
      go_wp2_with fail
      go_roundw
      case rel => exact ⟨k + 1, by go_num, by omega, HK.out.put hlt⟩
      case measure => simp [intOf]; omega
    · obtain rfl : k = n := by omega
      go_wp2_with fail
      go_ret
      exact ⟨_, _, Nat.le_refl _, HK.out.bl, HK.out.bel, rfl⟩

end Go.Proofs.Qxb6601167aMods

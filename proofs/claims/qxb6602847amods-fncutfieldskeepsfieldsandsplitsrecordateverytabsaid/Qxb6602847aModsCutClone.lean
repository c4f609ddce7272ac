/-
  The walks of cutFieldsClone and zzBytes_FnCutFields..; the law's walk.
-/
import Derived.Test.Qxb6602847aModsCut
import Derived.Lib.SliceRun
import Derived.Deep.QuietTactic
import Derived.BigQuiet
namespace Go.Proofs.Qxb6602847aMods
open Go.RowKit

/-- The cells of a slice of strings that 'make' has just laid. -/
def fresh9 (n : Nat) : Array Value := madeCells #[.string ByteArray.empty] n

theorem run_mk29 (n : Nat) (hn : n ≤ 1048576) (wx : World) :
    (Instr.makeSlice 29 (.int .i64 (n : Int)) (.int .i64 (n : Int))).run Trym.prog wx = .ok (.slice (some ⟨wx.heap.size, 0, none⟩) n n) (wx.alloc (.cells (fresh9 n) 9)) := by
  obtain ⟨i, hi, hz, hs, hb⟩ := info_parts info9
  have := run_make (P := Trym.prog) wx 29 9 i _ Trym.underlying29 hi hz .i64 .i64 (n : Int) (n : Int) (by omega) (by omega) (by rw [hb]; omega) (by omega)
  rw [this, hs]
  simp [fresh9, Value.cells]

/-- In 'wr' block 'g' holds 'n' cells, the first 'k' of them the strings of 'F'; what lay in 'w' below 'g' is as it was. -/
structure Cs (w : World) (g n : Nat) (F : Nat → ByteArray) (k : Nat) (wr : World) : Prop where
  bel : Below g w wr
  cells : ∃ c : Array Value, wr.heap[g]? = some (.cells c 9 (0, 0)) ∧ c.size = n ∧ ∀ i, i < k → c[i]? = some (.string (F i))

theorem Cs.new (w : World) (n : Nat) (F : Nat → ByteArray) : Cs w w.heap.size n F 0 (w.alloc (.cells (fresh9 n) 9)) := by
  refine ⟨(Below.refl _ _).alloc (Nat.le_refl _) _, fresh9 n, ?_, size_madeCells _ _, fun i h => by omega⟩
  show (w.heap.push _)[w.heap.size]? = _
  rw [Array.getElem?_push, if_pos rfl]

theorem Cs.old {w wr : World} {g n k : Nat} {F : Nat → ByteArray} (h : Cs w g n F k wr) (i : Nat) (hi : i < n) : ∃ v, wr.cell? ⟨g, i, none⟩ = some v := by
  obtain ⟨c, hg, hs, _⟩ := h.cells
  exact ⟨c[i], by simp [World.cell?, hg, hs, hi]⟩

theorem Cs.fr {w wr : World} {g n k : Nat} {F : Nat → ByteArray} (h : Cs w g n F k wr) (i : Nat) : wr.frozen? ⟨g, i, none⟩ = false := by
  obtain ⟨c, hg, hs, _⟩ := h.cells
  simp [World.frozen?, hg]

theorem Cs.put {w wr : World} {g n k : Nat} {F : Nat → ByteArray} (h : Cs w g n F k wr) (hk : k < n) : Cs w g n F (k + 1) (wr.setCell ⟨g, k, none⟩ (.string (F k))) := by
  refine ⟨h.bel.setCell (Nat.le_refl _) _, ?_⟩
  obtain ⟨c, hg, hs, hc⟩ := h.cells
  refine ⟨c.setIfInBounds k (.string (F k)), ?_, by simpa using hs, fun i hi => ?_⟩
  · simp [World.setCell, Array.getElem?_modify, hg]
  · by_cases he : i = k
    · subst he; simp [hs, hk]
    · rw [Array.getElem?_setIfInBounds_ne (by omega)]; exact hc i (by omega)

theorem Cs.size {w wr : World} {g n k : Nat} {F : Nat → ByteArray} (h : Cs w g n F k wr) : g < wr.heap.size := by
  obtain ⟨c, hg, _⟩ := h.cells
  exact (Array.getElem?_eq_some_iff.1 hg).1

theorem Cs.cell {w wr : World} {g n : Nat} {F : Nat → ByteArray} (h : Cs w g n F n wr) (i : Nat) (hi : i < n) : wr.cell? ⟨g, i, none⟩ = some (.string (F i)) := by
  obtain ⟨c, hg, hs, hc⟩ := h.cells
  simp [World.cell?, hg, hc i hi]

/-- What the clone leaves: the same strings, in memory of its own, with no room behind them. -/
def ClPost (w : World) (n : Nat) (fs : List ByteArray) (e : Ending) (w' : World) : Prop :=
  ∃ (p : Option Addr), Came w' (.slice p n n) fs ∧ Below w.heap.size w w' ∧ e = .returned (.slice p n n)

set_option maxHeartbeats 400000 in
set_option maxRecDepth 100000 in
theorem clone_nil (w : World) : Calls Trym.prog 17 #[.slice none 0 0] w fun e w' => ClPost w 0 [] e w' := by
  have heq := fun wx => Lib.run_eql_slice_nil (P := Trym.prog) wx 29 9 none 0 0 0 0 Trym.underlying29
  go_enter Trym.func17, Trym.ntmps17
  go_wp2
  go_ret
  exact ⟨none, Or.inl ⟨rfl, rfl⟩, Below.refl _ _, rfl⟩

set_option maxHeartbeats 400000 in
set_option maxRecDepth 100000 in
theorem clone_some (x : Addr) (n cap : Nat) (fs : List ByteArray) (w : World) (hn : n ≤ 1048576) (hfs : fs.length = n)
    (hcell : ∀ i, i < n → w.cell? (x.add i) = some (.string (fs.getD i ByteArray.empty))) :
    Calls Trym.prog 17 #[.slice (some x) n cap] w fun e w' => ClPost w n fs e w' := by
  have heq := fun wx => Lib.run_eql_slice_nil (P := Trym.prog) wx 29 9 (some x) n cap 0 0 Trym.underlying29
  have hmk := run_mk29 n hn
  have HL : Hid (fs.length = n) := hfs
  have HC : Hid (∀ i, i < n → w.cell? (x.add i) = some (.string (fs.getD i ByteArray.empty))) := hcell
  clear hcell hfs
  go_enter Trym.func17, Trym.ntmps17
  go_wp2_with fail
  clear heq hmk
  go_loopw [4] (fun iv wr => ∃ k : Nat, iv = .int .i64 k ∧ k ≤ n ∧ Hid (Cs w w.heap.size n (fun i => fs.getD i ByteArray.empty) k wr)) (fun iv _ => n - (intOf iv).toNat)
  case atStart => exact ⟨0, rfl, Nat.zero_le _, Cs.new w n _⟩
  case round =>
    obtain ⟨k, rfl, hk, HK⟩ := hrel
    by_cases hlt : k < n
    · obtain ⟨v3, hv3⟩ := HK.out.old k hlt
      have hfr := HK.out.fr k
      obtain ⟨t, ht⟩ : ∃ t, t = fs.getD k ByteArray.empty := ⟨_, rfl⟩
      have hx : wr.cell? (x.add k) = some (.string t) := by
        have hc := HC.out k hlt
        rw [HK.out.bel.cell (p := x.add k) ?_, ht]
        · exact hc
        · by_cases hl : (x.add k).block < w.heap.size
          · exact hl
          · rw [World.cell?, Array.getElem?_eq_none (by omega)] at hc
            simp at hc
      have HP : Hid (Cs w w.heap.size n (fun i => fs.getD i ByteArray.empty) (k + 1) (wr.setCell ⟨w.heap.size, k, none⟩ (.string t))) := by rw [ht]; exact HK.out.put hlt
      clear ht
      go_wp2_with fail
      go_roundw
      case rel => exact ⟨k + 1, by go_num, by omega, HP⟩
      case measure => simp [intOf]; omega
    · obtain rfl : k = n := by omega
      go_wp2_with fail
      go_ret
      refine ⟨some ⟨w.heap.size, 0, none⟩, Or.inr ⟨⟨w.heap.size, 0, none⟩, by rw [HL.out], HK.out.size, fun i hi => ?_⟩, HK.out.bel, rfl⟩
      have e : (⟨w.heap.size, 0, none⟩ : Addr).add i = ⟨w.heap.size, i, none⟩ := by unfold Addr.add; split <;> simp_all
      rw [e]
      exact HK.out.cell i (by rw [← HL.out]; exact hi)

/-- The slice that comes in: where there is an element there is an address. -/
def In (w : World) (p : Option Addr) (n : Nat) (fs : List ByteArray) : Prop :=
  ∀ i, i < n → ∃ x, p = some x ∧ w.cell? (x.add i) = some (.string (fs.getD i ByteArray.empty))

/-- Some bool. -/
def BoolPost (e : Ending) : Prop := ∃ v : Bool, e = .returned (.bool v)

set_option maxHeartbeats 1000000 in
set_option maxRecDepth 100000 in
theorem zz16_any (p : Option Addr) (n cap : Nat) (fs : List ByteArray) (s : ByteArray) (w : World) (hn : n ≤ 9223372036854775807) (hs : s.size ≤ 9223372036854775807) (hI : In w p n fs) :
    Calls Trym.prog 16 #[.slice p n cap, .string s] w fun e w' => BoolPost e ∧ w = w' := by
  have HI : Hid (In w p n fs) := hI
  clear hI
  by_cases hn2 : n ≤ 1048576
  rotate_left
  · go_enter Trym.func16, Trym.ntmps16
    go_wp2_with fail
    go_ret
    exact ⟨⟨false, rfl⟩, rfl⟩
  go_enter Trym.func16, Trym.ntmps16
  go_wp2_with fail
  go_loop [5, 6] (fun zv iv => ∃ (i : Nat) (z : Int), iv = .int .i64 i ∧ zv = .int .i64 z ∧ i ≤ n ∧ 0 ≤ z ∧ z ≤ 1048576) (fun _ iv => n - (intOf iv).toNat)
  case atStart => exact ⟨0, _, rfl, rfl, Nat.zero_le _, by omega, by omega⟩
  case round =>
    obtain ⟨i, z, rfl, rfl, hi, hz1, hz2⟩ := hrel
    by_cases hlt : i < n
    · obtain ⟨x, rfl, hx⟩ := HI.out i hlt
      obtain ⟨t, ht⟩ : ∃ t, t = fs.getD i ByteArray.empty := ⟨_, rfl⟩
      rw [← ht] at hx
      clear ht
      by_cases h1 : t.size ≤ 1048576
      · by_cases h2 : z + t.size ≤ 1048576
        · go_wp2_with fail
          go_round
          case rel => exact ⟨i + 1, z + t.size, by go_num, rfl, by omega, by omega, by omega⟩
          case measure => simp [intOf]; omega
        · go_wp2_with fail
          go_ret
          exact ⟨⟨false, rfl⟩, rfl⟩
      · go_wp2_with fail
        go_ret
        exact ⟨⟨false, rfl⟩, rfl⟩
    · by_cases h1 : s.size ≤ 1048576
      · by_cases h2 : z + s.size ≤ 1048576
        · go_wp2_with fail
          go_ret
          exact ⟨⟨true, rfl⟩, rfl⟩
        · go_wp2_with fail
          go_ret
          exact ⟨⟨false, rfl⟩, rfl⟩
      · go_wp2_with fail
        go_ret
        exact ⟨⟨false, rfl⟩, rfl⟩

end Go.Proofs.Qxb6602847aMods

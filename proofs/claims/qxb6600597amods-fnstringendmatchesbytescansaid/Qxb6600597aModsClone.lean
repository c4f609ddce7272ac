import Derived.Test.Qxb6600597aModsStringEnd
import Derived.Laws.CopyOwn
namespace Go.Proofs.Qxb6600597aMods
open Go.RowKit

set_option maxRecDepth 100000 in
theorem zz_any (p : Option Addr) (n c : Nat) (a : Int) (w : World) (hn : n ≤ 1048576) :
    Calls Trym.prog 6 #[.slice p n c, .int .i64 a] w fun e w' => e = .returned (.bool true) ∧ w = w' := by
  go_enter Trym.func6, Trym.ntmps6
  go_wp2
  go_ret
  exact ⟨rfl, rfl⟩

set_option maxRecDepth 100000 in
theorem zz_no (p : Option Addr) (n c : Nat) (a : Int) (w : World) (hn : 1048576 < n) :
    Calls Trym.prog 6 #[.slice p n c, .int .i64 a] w fun e w' => e = .returned (.bool false) ∧ w = w' := by
  go_enter Trym.func6, Trym.ntmps6
  go_wp2
  go_ret
  exact ⟨rfl, rfl⟩

set_option maxRecDepth 100000 in
theorem zzStringEnd_any (b o n c s : Nat) (f : Nat → Int) (w : World) (hs : s < n) (hn : n ≤ 1048576) (hnc : n ≤ c)
    (hcell : ∀ i, i < n → w.cell? ⟨b, o + i, none⟩ = some (.int .u8 (f i))) (hf : ∀ i, 0 ≤ f i ∧ f i ≤ 255) :
    Calls Trym.prog 7 #[.slice (some ⟨b, o, none⟩) n c, .int .i64 s] w fun e w' => Gives2 (Ends f n (s + 1)) e ∧ w = w' := by
  go_enter Trym.func7, Trym.ntmps7
  go_wp2_with fail
  refine (stringEnd_any b o n c s f _ hs hn hnc hcell hf).mono ?_
  rintro e w' ⟨⟨r, ok, hE, rfl⟩, rfl⟩
  have HE : Hid (Ends f n (s + 1) r ok) := hE
  clear hE
  go_wp2_with fail
  go_ret2
  exact ⟨⟨_, _, HE, rfl⟩, rfl⟩

/-- The cells of a slice of bytes that 'make' has just laid. -/
def fresh (n : Nat) : Array Value := madeCells #[.int .u8 0] n

theorem info5 : ∃ i, Trym.prog.info? 5 = some i ∧ i.zero = some (.int .u8 0) ∧ i.size = 1 ∧ i.bytes = 1 := by
  have h : (Trym.prog.info? 5).map (fun i => (i.zero, i.size, i.bytes)) = some (some (.int .u8 0), 1, 1) := by kernel_rfl
  obtain ⟨i, hi, he⟩ := Option.map_eq_some_iff.1 h
  simp only [Prod.mk.injEq] at he
  exact ⟨i, hi, he.1, he.2.1, he.2.2⟩

theorem run_mk (n : Nat) (hn : n ≤ 1048576) (wx : World) :
    (Instr.makeSlice 22 (.int .i64 (n : Int)) (.int .i64 (n : Int))).run Trym.prog wx = .ok (.slice (some ⟨wx.heap.size, 0, none⟩) n n) (wx.alloc (.cells (fresh n) 5)) := by
  obtain ⟨i, hi, hz, hs, hb⟩ := info5
  have := run_make (P := Trym.prog) wx 22 5 i _ Trym.underlying22 hi hz .i64 .i64 (n : Int) (n : Int) (by omega) (by omega) (by rw [hb]; omega) (by omega)
  rw [this, hs]
  simp [fresh, Value.cells]

theorem cloned (w : World) (x : Addr) (n cap : Nat) (f : Nat → Int) (hcell : ∀ i, i < n → w.cell? (x.add i) = some (.int .u8 (f i))) :
    ∃ w2, (∀ ty, (Builtin.copy_ #[22, 22] ty #[.slice (some ⟨w.heap.size, 0, none⟩) n n, .slice (some x) n cap]).run Trym.prog (w.alloc (.cells (fresh n) 5)) = .ok (.int .i64 n) w2) ∧
      Below w.heap.size w w2 ∧ ∀ i, i < n → w2.cell? ⟨w.heap.size, 0 + i, none⟩ = some (.int .u8 (f i)) := by
  obtain ⟨i, hi, hz, hs, hb⟩ := info5
  have hb : Below w.heap.size w (w.alloc (.cells (fresh n) 5)) := (Below.refl _ _).alloc (Nat.le_refl _) _
  have hg : (w.alloc (.cells (fresh n) 5)).heap[w.heap.size]? = some (.cells (fresh n) 5 (0, 0)) := by
    show (w.heap.push _)[w.heap.size]? = _
    simp
  have hsz : (fresh n).size = n := size_madeCells _ _
  have hrun := fun ty => run_copy_row Trym.prog (w.alloc (.cells (fresh n) 5)) 22 22 ty 5 w.heap.size 0 n n x n cap (fresh n) 5
    ((List.range n).map fun i => Value.int .u8 (f i)) Trym.underlying22 (by rw [hi]; simp [hs]) hg (by simp)
    (fun j v hj => by
      have hjn : j < n := by have := (List.getElem?_eq_some_iff.1 hj).1; simpa using this
      have hv : v = .int .u8 (f j) := by simp [hjn] at hj; exact hj.symm
      have hc := hcell j hjn
      rw [hv, hb.cell (p := x.add j) ?_]
      · exact hc
      · by_cases hlt : (x.add j).block < w.heap.size
        · exact hlt
        · rw [World.cell?, Array.getElem?_eq_none (by omega)] at hc
          simp at hc)
    (by simp [hsz]) (by simp [Value.oneCell'])
  refine ⟨_, fun ty => by rw [hrun ty]; simp only [List.length_map, List.length_range]; rfl, below_setRow hb (Nat.le_refl _) _, fun i hi => ?_⟩
  have hh := setRow_heap (w.alloc (.cells (fresh n) 5)) w.heap.size (fresh n) ((fresh n).toList.take 0 ++ ((List.range n).map fun i => Value.int .u8 (f i)) ++ (fresh n).toList.drop (0 + ((List.range n).map fun i => Value.int .u8 (f i)).length)).toArray 5 (0, 0) hg
  simp only [List.length_map, List.length_range] at hh
  unfold World.cell?
  dsimp only
  rw [hh]
  simp only [Nat.zero_add, List.take_zero, List.nil_append, List.getElem?_toArray]
  rw [List.getElem?_append_left (by simpa using hi)]
  simp [hi]

end Go.Proofs.Qxb6600597aMods

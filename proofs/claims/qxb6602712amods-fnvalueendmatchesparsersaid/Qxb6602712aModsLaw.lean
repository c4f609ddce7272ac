/-
  The law's walk: FnValueEndMatchesParser.
-/
import Derived.Test.Qxb6602712aModsJson
import Derived.Test.Qxb6602712aModsValue
import Derived.Laws.CopyOwn
import Derived.Lib.SliceRun
namespace Go.Proofs.Qxb6602712aMods
open Go.RowKit

/-- The cells of a slice of bytes that 'make' has just laid. -/
def fresh (n : Nat) : Array Value := madeCells #[.int .u8 0] n

theorem info5 : ∃ i, Trym.prog.info? 5 = some i ∧ i.zero = some (.int .u8 0) ∧ i.size = 1 ∧ i.bytes = 1 := by
  have h : (Trym.prog.info? 5).map (fun i => (i.zero, i.size, i.bytes)) = some (some (.int .u8 0), 1, 1) := by kernel_rfl
  obtain ⟨i, hi, he⟩ := Option.map_eq_some_iff.1 h
  simp only [Prod.mk.injEq] at he
  exact ⟨i, hi, he.1, he.2.1, he.2.2⟩

theorem run_mk (n : Nat) (hn : n ≤ 1048576) (wx : World) :
    (Instr.makeSlice 22 (.int .i64 (n : Int)) (.int .i64 (n : Int))).run Trym.prog wx = .ok (.slice (some ⟨wx.heap.size, 0, none⟩) n n) (wx.alloc (.cells (fresh n) 5)) := by
  obtain ⟨i, hi, hz, hs, hb⟩ := info5
  have := run_make (P := Trym.prog) wx 22 5 i _ Trym.underlying22 hi hz .i64 .i64 (n : Int) (n : Int) (by omega) (by omega) (by rw [hb]; omega) (by omega)
  rw [this, hs]
  simp [fresh, Value.cells]

theorem cloned (w : World) (x : Addr) (n cap : Nat) (f : Nat → Int) (hcell : ∀ i, i < n → w.cell? (x.add i) = some (.int .u8 (f i))) :
    ∃ w2, (∀ ty, (Builtin.copy_ #[22, 22] ty #[.slice (some ⟨w.heap.size, 0, none⟩) n n, .slice (some x) n cap]).run Trym.prog (w.alloc (.cells (fresh n) 5)) = .ok (.int .i64 n) w2) ∧
      Below w.heap.size w w2 ∧ ∀ i, i < n → w2.cell? ⟨w.heap.size, 0 + i, none⟩ = some (.int .u8 (f i)) := by
  obtain ⟨i, hi, hz, hs, hb⟩ := info5
  have hb : Below w.heap.size w (w.alloc (.cells (fresh n) 5)) := (Below.refl _ _).alloc (Nat.le_refl _) _
  have hg : (w.alloc (.cells (fresh n) 5)).heap[w.heap.size]? = some (.cells (fresh n) 5 (0, 0)) := by
    show (w.heap.push _)[w.heap.size]? = _
    simp
  have hsz : (fresh n).size = n := size_madeCells _ _
  have hrun := fun ty => run_copy_row Trym.prog (w.alloc (.cells (fresh n) 5)) 22 22 ty 5 w.heap.size 0 n n x n cap (fresh n) 5
    ((List.range n).map fun i => Value.int .u8 (f i)) Trym.underlying22 (by rw [hi]; simp [hs]) hg (by simp)
    (fun j v hj => by
      have hjn : j < n := by have := (List.getElem?_eq_some_iff.1 hj).1; simpa using this
      have hv : v = .int .u8 (f j) := by simp [hjn] at hj; exact hj.symm
      have hc := hcell j hjn
      rw [hv, hb.cell (p := x.add j) ?_]
      · exact hc
      · by_cases hlt : (x.add j).block < w.heap.size
        · exact hlt
        · rw [World.cell?, Array.getElem?_eq_none (by omega)] at hc
          simp at hc)
    (by simp [hsz]) (by simp [Value.oneCell'])
  refine ⟨_, fun ty => by rw [hrun ty]; simp only [List.length_map, List.length_range]; rfl, below_setRow hb (Nat.le_refl _) _, fun i hi => ?_⟩
  have hh := setRow_heap (w.alloc (.cells (fresh n) 5)) w.heap.size (fresh n) ((fresh n).toList.take 0 ++ ((List.range n).map fun i => Value.int .u8 (f i)) ++ (fresh n).toList.drop (0 + ((List.range n).map fun i => Value.int .u8 (f i)).length)).toArray 5 (0, 0) hg
  simp only [List.length_map, List.length_range] at hh
  unfold World.cell?
  dsimp only
  rw [hh]
  simp only [Nat.zero_add, List.take_zero, List.nil_append, List.getElem?_toArray]
  rw [List.getElem?_append_left (by simpa using hi)]
  simp [hi]

set_option maxRecDepth 100000 in
theorem zz_any (p : Option Addr) (n c : Nat) (a : Int) (w : World) (hn : n ≤ 1048576) :
    Calls Trym.prog 6 #[.slice p n c, .int .i64 a] w fun e w' => e = .returned (.bool true) ∧ w = w' := by
  go_enter Trym.func6, Trym.ntmps6
  go_wp2
  go_ret
  exact ⟨rfl, rfl⟩

set_option maxRecDepth 100000 in
theorem zz_no (p : Option Addr) (n c : Nat) (a : Int) (w : World) (hn : 1048576 < n) :
    Calls Trym.prog 6 #[.slice p n c, .int .i64 a] w fun e w' => e = .returned (.bool false) ∧ w = w' := by
  go_enter Trym.func6, Trym.ntmps6
  go_wp2
  go_ret
  exact ⟨rfl, rfl⟩

/-- What the clone leaves. -/
def ClPost (w : World) (n : Nat) (f : Nat → Int) (e : Ending) (w' : World) : Prop :=
  Below w.heap.size w w' ∧ w.heap.size < w'.heap.size ∧ Dt w' w.heap.size 0 n f ∧ e = .returned (.slice (some ⟨w.heap.size, 0, none⟩) n n)

set_option maxHeartbeats 400000 in
set_option maxRecDepth 100000 in
theorem clone_some (x : Addr) (n cap : Nat) (f : Nat → Int) (w : World) (hn : n ≤ 1048576) (hpos : 0 < n)
    (hcell : ∀ i, i < n → w.cell? (x.add i) = some (.int .u8 (f i))) :
    Calls Trym.prog 7 #[.slice (some x) n cap] w fun e w' => ClPost w n f e w' := by
  have heq := fun wx => Lib.run_eql_slice_nil (P := Trym.prog) wx 22 5 (some x) n cap 0 0 Trym.underlying22
  obtain ⟨w2, hcopy, hbel, hc2⟩ := cloned w x n cap f hcell
  have hmk := run_mk n hn
  have HC : Hid (Dt w2 w.heap.size 0 n f) := hc2
  have HB : Hid (Below w.heap.size w w2) := hbel
  have HL : Hid (w.heap.size < w2.heap.size) := by
    by_cases h : w.heap.size < w2.heap.size
    · exact h
    · have := hc2 0 hpos
      rw [World.cell?, Array.getElem?_eq_none (by simp; omega)] at this
      simp at this
  clear hcell hc2 hbel
  go_enter Trym.func7, Trym.ntmps7
  go_wp2
  go_ret
  exact ⟨HB, HL, HC, rfl⟩

set_option maxRecDepth 100000 in
theorem zzValue_any (b o n c i e0 : Nat) (f : Nat → Int) (w : World) (hn : n ≤ 1048576) (hnc : n ≤ c) (hf : ∀ i, 0 ≤ f i ∧ f i ≤ 255) (hD : Dt w b o n f) (hin : i < n) (hG : Good f n i e0) :
    Calls Trym.prog 9 #[.slice (some ⟨b, o, none⟩) n c, .int .i64 i] w fun e w' => e = .returned (.int .i64 e0) ∧ w' = w := by
  have H : Hid (Calls Trym.prog 18 #[.slice (some ⟨b, o, none⟩) n c, .int .i64 i] w fun e w' => e = .returned (.int .i64 e0) ∧ w = w') := value_any b o n c i e0 f w hn hnc hf hD hin hG
  clear hf hD hG
  go_enter Trym.func9, Trym.ntmps9
  go_wp2_with fail
  refine H.out.mono ?_
  rintro e w' ⟨rfl, rfl⟩
  go_wp2_with fail
  go_ret
  exact ⟨rfl, rfl⟩

set_option maxHeartbeats 1000000 in
set_option maxRecDepth 100000 in
theorem law_in (x : Addr) (n cap s : Nat) (f : Nat → Int) (w : World) (hn : n ≤ 1048576) (hs : s < n)
    (hcell : ∀ i, i < n → w.cell? (x.add i) = some (.int .u8 (f i))) (hf : ∀ i, 0 ≤ f i ∧ f i ≤ 255) :
    Calls Trym.prog 3 #[.slice (some x) n cap, .int .i64 s] w fun e w' => e = .returned (.bool true) ∧ Below w.heap.size w w' := by
  have HCL : Hid (Calls Trym.prog 7 #[.slice (some x) n cap] w fun e w' => ClPost w n f e w') := clone_some x n cap f w hn (by omega) hcell
  have HF : Hid (∀ i, 0 ≤ f i ∧ f i ≤ 255) := hf
  clear hcell hf
  go_enter Trym.func3, Trym.ntmps3
  go_wp2_with fail
  refine (zz_any _ _ _ _ _ hn).mono ?_
  rintro e w' ⟨rfl, rfl⟩
  go_wp2_with fail
  refine HCL.out.mono ?_
  rintro e w1 ⟨hb1, hlt, hD, rfl⟩
  have HB1 : Hid (Below w.heap.size w w1) := hb1
  have HD : Hid (Dt w1 w.heap.size 0 n f) := hD
  clear hb1 hD HCL
  go_wp2_with fail
  refine (json_any f w.heap.size 0 n n w1 hn hlt HF.out HD.out).mono ?_
  rintro e w2 ⟨hb2, rfl | ⟨E, hOk, hE, rfl⟩⟩
  · have HB2 : Hid (Below w.heap.size w w2) := HB1.out.trans (hb2.mono HB1.out.size)
    clear hb2
    go_wp2_with fail
    go_ret
    exact ⟨rfl, HB2⟩
  have HB2 : Hid (Below w.heap.size w w2) := HB1.out.trans (hb2.mono HB1.out.size)
  have HD2 : Hid (Dt w2 w.heap.size 0 n f) := fun i hi => by
    rw [hb2.cell (p := ⟨w.heap.size, 0 + i, none⟩) hlt]; exact HD.out i hi
  have hEs := hE s hs
  have hOs := hOk s hs
  clear hb2 hE hOk
  rcases hOs with hm | ⟨e0, he, hG⟩
  · rw [hm] at hEs
    clear hm
    go_wp2_with fail
    go_ret
    exact ⟨rfl, HB2⟩
  rw [he] at hEs
  have HG : Hid (Good f n s e0) := hG
  clear he hG
  go_wp2_with fail
  go_quiet ((go_at_call 9; exact Calls.quiet_of_same (zzValue_any _ _ _ _ _ e0 f _ hn (Nat.le_refl _) HF.out (((Qt.refl w2).drewN _).dt HD2.out) hs HG.out)))
  go_wp2_with fail
  go_ret
  exact ⟨rfl, HB2.out.trans (((Qt.refl w2).drewN nq).below _)⟩

end Go.Proofs.Qxb6602712aMods

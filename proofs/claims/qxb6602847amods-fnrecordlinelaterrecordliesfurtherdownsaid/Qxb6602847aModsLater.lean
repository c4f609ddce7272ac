/-
  The walks of recordLineCloneBytes, of the length checks, of recordLineStarts; the law FnRecordLineLaterRecordLiesFurtherDown.
-/
import Derived.Test.Qxb6602847aModsRecord
import Derived.Laws.CopyOwn
import Derived.WalkSpells
import Derived.Lib.SliceRun
namespace Go.Proofs.Qxb6602847aMods
open Go.RowKit

/-- The cells of a slice of bytes that 'make' has just laid. -/
def fresh (n : Nat) : Array Value := madeCells #[.int .u8 0] n

theorem info5 : ∃ i, Trym.prog.info? 5 = some i ∧ i.zero = some (.int .u8 0) ∧ i.size = 1 ∧ i.bytes = 1 := by
  have h : (Trym.prog.info? 5).map (fun i => (i.zero, i.size, i.bytes)) = some (some (.int .u8 0), 1, 1) := by kernel_rfl
  obtain ⟨i, hi, he⟩ := Option.map_eq_some_iff.1 h
  simp only [Prod.mk.injEq] at he
  exact ⟨i, hi, he.1, he.2.1, he.2.2⟩

theorem run_mk (n : Nat) (hn : n ≤ 1048576) (wx : World) :
    (Instr.makeSlice 22 (.int .i64 (n : Int)) (.int .i64 (n : Int))).run Trym.prog wx = .ok (.slice (some ⟨wx.heap.size, 0, none⟩) n n) (wx.alloc (.cells (fresh n) 5)) := by
  obtain ⟨i, hi, hz, hs, hb⟩ := info5
  have := run_make (P := Trym.prog) wx 22 5 i _ Trym.underlying22 hi hz .i64 .i64 (n : Int) (n : Int) (by omega) (by omega) (by rw [hb]; omega) (by omega)
  rw [this, hs]
  simp [fresh, Value.cells]

/-- In 'wr' block 'g' holds 'n' cells, the first 'k' of them the bytes of 'f'; what lay in 'w' below 'g' is as it was. -/
structure Cl (w : World) (g n : Nat) (f : Nat → Int) (k : Nat) (wr : World) : Prop where
  bel : Below g w wr
  cells : ∃ c : Array Value, wr.heap[g]? = some (.cells c 5 (0, 0)) ∧ c.size = n ∧ ∀ i, i < k → c[i]? = some (.int .u8 (f i))

theorem Cl.new (w : World) (n : Nat) (f : Nat → Int) : Cl w w.heap.size n f 0 (w.alloc (.cells (fresh n) 5)) := by
  refine ⟨(Below.refl _ _).alloc (Nat.le_refl _) _, fresh n, ?_, size_madeCells _ _, fun i h => by omega⟩
  show (w.heap.push _)[w.heap.size]? = _
  rw [Array.getElem?_push, if_pos rfl]

theorem Cl.old {w wr : World} {g n k : Nat} {f : Nat → Int} (h : Cl w g n f k wr) (i : Nat) (hi : i < n) : ∃ v, wr.cell? ⟨g, i, none⟩ = some v := by
  obtain ⟨c, hg, hs, _⟩ := h.cells
  exact ⟨c[i], by simp [World.cell?, hg, hs, hi]⟩

theorem Cl.fr {w wr : World} {g n k : Nat} {f : Nat → Int} (h : Cl w g n f k wr) (i : Nat) : wr.frozen? ⟨g, i, none⟩ = false := by
  obtain ⟨c, hg, hs, _⟩ := h.cells
  simp [World.frozen?, hg]

theorem Cl.put {w wr : World} {g n k : Nat} {f : Nat → Int} (h : Cl w g n f k wr) (hk : k < n) : Cl w g n f (k + 1) (wr.setCell ⟨g, k, none⟩ (.int .u8 (f k))) := by
  refine ⟨h.bel.setCell (Nat.le_refl _) _, ?_⟩
  obtain ⟨c, hg, hs, hc⟩ := h.cells
  refine ⟨c.setIfInBounds k (.int .u8 (f k)), ?_, by simpa using hs, fun i hi => ?_⟩
  · simp [World.setCell, Array.getElem?_modify, hg]
  · by_cases he : i = k
    · subst he; simp [hs, hk]
    · rw [Array.getElem?_setIfInBounds_ne (by omega)]; exact hc i (by omega)

theorem Cl.size {w wr : World} {g n k : Nat} {f : Nat → Int} (h : Cl w g n f k wr) : g < wr.heap.size := by
  obtain ⟨c, hg, _⟩ := h.cells
  exact (Array.getElem?_eq_some_iff.1 hg).1

theorem Cl.bl {w wr : World} {g n : Nat} {f : Nat → Int} (h : Cl w g n f n wr) : Bl wr (some ⟨g, 0, none⟩) n f wr.heap.size := by
  refine Or.inr ⟨g, 0, rfl, h.size, fun i hi => ?_⟩
  obtain ⟨c, hg, hs, hc⟩ := h.cells
  rw [Nat.zero_add]
  simp [World.cell?, hg, hc i hi]

/-- What the clone leaves. -/
def RcPost (w : World) (n : Nat) (f : Nat → Int) (e : Ending) (w' : World) : Prop :=
  ∃ (p : Option Addr) (c : Nat), n ≤ c ∧ Bl w' p n f w'.heap.size ∧ Below w.heap.size w w' ∧ e = .returned (.slice p n c)

set_option maxHeartbeats 400000 in
set_option maxRecDepth 100000 in
theorem rclone_nil (f : Nat → Int) (w : World) : Calls Trym.prog 11 #[.slice none 0 0] w fun e w' => RcPost w 0 f e w' := by
  have heq := fun wx => Lib.run_eql_slice_nil (P := Trym.prog) wx 22 5 none 0 0 0 0 Trym.underlying22
  go_enter Trym.func11, Trym.ntmps11
  go_wp2
  go_ret
  exact ⟨none, 0, Nat.le_refl _, Or.inl rfl, Below.refl _ _, rfl⟩

set_option maxHeartbeats 400000 in
set_option maxRecDepth 100000 in
theorem rclone_some (x : Addr) (n cap : Nat) (f : Nat → Int) (w : World) (hn : n ≤ 1048576)
    (hcell : ∀ i, i < n → w.cell? (x.add i) = some (.int .u8 (f i))) :
    Calls Trym.prog 11 #[.slice (some x) n cap] w fun e w' => RcPost w n f e w' := by
  have heq := fun wx => Lib.run_eql_slice_nil (P := Trym.prog) wx 22 5 (some x) n cap 0 0 Trym.underlying22
  have hmk := run_mk n hn
  have HC : Hid (∀ i, i < n → w.cell? (x.add i) = some (.int .u8 (f i))) := hcell
  clear hcell
  go_enter Trym.func11, Trym.ntmps11
  go_wp2_with fail
  clear heq hmk
  go_loopw [4] (fun iv wr => ∃ k : Nat, iv = .int .i64 k ∧ k ≤ n ∧ Hid (Cl w w.heap.size n f k wr)) (fun iv _ => n - (intOf iv).toNat)
  case atStart => exact ⟨0, rfl, Nat.zero_le _, Cl.new w n f⟩
  case round =>
    obtain ⟨k, rfl, hk, HK⟩ := hrel
    by_cases hlt : k < n
    · obtain ⟨v3, hv3⟩ := HK.out.old k hlt
      have hfr := HK.out.fr k
      have hx : wr.cell? (x.add k) = some (.int .u8 (f k)) := by
        have hc := HC.out k hlt
        rw [HK.out.bel.cell (p := x.add k) ?_]
        · exact hc
        · by_cases hl : (x.add k).block < w.heap.size
          · exact hl
          · rw [World.cell?, Array.getElem?_eq_none (by omega)] at hc
            simp at hc
      go_wp2_with fail
      go_roundw
      case rel => exact ⟨k + 1, by go_num, by omega, HK.out.put hlt⟩
      case measure => simp [intOf]; omega
    · obtain rfl : k = n := by omega
      go_wp2_with fail
      go_ret
      exact ⟨_, _, Nat.le_refl _, HK.out.bl, HK.out.bel, rfl⟩

/-- Some bool. -/
def BoolP (e : Ending) : Prop := ∃ v : Bool, e = .returned (.bool v)

set_option maxHeartbeats 400000 in
set_option maxRecDepth 100000 in
theorem zz10_any (p : Option Addr) (n c : Nat) (s : ByteArray) (v : Int) (w : World) (hn : n ≤ 9223372036854775807) (hs : s.size ≤ 9223372036854775807) :
    Calls Trym.prog 10 #[.slice p n c, .string s, .int .i64 v] w fun e w' => BoolP e ∧ w = w' := by
  by_cases h1 : n ≤ 1048576
  · by_cases h2 : s.size ≤ 1048576
    · by_cases h3 : n + s.size ≤ 1048576
      all_goals
        go_enter Trym.func10, Trym.ntmps10
        go_wp2_with fail
        go_ret
        exact ⟨⟨_, rfl⟩, rfl⟩
    · go_enter Trym.func10, Trym.ntmps10
      go_wp2_with fail
      go_ret
      exact ⟨⟨_, rfl⟩, rfl⟩
  · go_enter Trym.func10, Trym.ntmps10
    go_wp2_with fail
    go_ret
    exact ⟨⟨_, rfl⟩, rfl⟩

set_option maxHeartbeats 400000 in
set_option maxRecDepth 100000 in
theorem zz14_any (p : Option Addr) (n c : Nat) (s : ByteArray) (v : Int) (w : World) (hn : n ≤ 9223372036854775807) (hs : s.size ≤ 9223372036854775807) :
    Calls Trym.prog 14 #[.slice p n c, .string s, .int .i64 v] w fun e w' => BoolP e ∧ w = w' := by
  by_cases h1 : n ≤ 1048576
  · by_cases h2 : s.size ≤ 1048576
    · by_cases h3 : n + s.size ≤ 1048576
      all_goals
        go_enter Trym.func14, Trym.ntmps14
        go_wp2_with fail
        go_ret
        exact ⟨⟨_, rfl⟩, rfl⟩
    · go_enter Trym.func14, Trym.ntmps14
      go_wp2_with fail
      go_ret
      exact ⟨⟨_, rfl⟩, rfl⟩
  · go_enter Trym.func14, Trym.ntmps14
    go_wp2_with fail
    go_ret
    exact ⟨⟨_, rfl⟩, rfl⟩

/-- The bytes can be read. -/
theorem Bs.get {w : World} {p : Option Addr} {n : Nat} {f : Nat → Int} (h : Bs w p n f) (i : Nat) (hi : i < n) : ∃ b o, p = some ⟨b, o, none⟩ ∧ ∀ i, i < n → w.cell? ⟨b, o + i, none⟩ = some (.int .u8 (f i)) := by
  rcases h with h | h
  · omega
  · exact h

set_option maxHeartbeats 400000 in
set_option maxRecDepth 100000 in
theorem starts_any (p : Option Addr) (n c : Nat) (f : Nat → Int) (w : World) (hn : n ≤ 1048576) (hB : Bs w p n f) :
    Calls Trym.prog 15 #[.slice p n c] w fun e w' => e = .returned (.int .i64 (cnt (S f) n)) ∧ w = w' := by
  have HB : Hid (Bs w p n f) := hB
  clear hB
  go_enter Trym.func15, Trym.ntmps15
  go_wp2_with fail
  go_loop [3, 4] (fun cv iv => ∃ i : Nat, iv = .int .i64 i ∧ cv = .int .i64 (cnt (S f) i) ∧ i ≤ n) (fun _ iv => n - (intOf iv).toNat)
  case atStart => exact ⟨0, rfl, rfl, Nat.zero_le _⟩
  case round =>
    obtain ⟨i, rfl, rfl, hi⟩ := hrel
    have hc := cnt_le (S f) i
    by_cases hlt : i < n
    rotate_left
    · obtain rfl : i = n := by omega
      go_wp2_with fail
      go_ret
      exact ⟨rfl, rfl⟩
    by_cases h0 : i = 0
    · subst h0
      have HS : Hid (cnt (S f) (0 + 1) = cnt (S f) 0 + 1) := cnt_succ_yes (by simp [S])
      go_wp2_with fail
      go_round
      case rel => exact ⟨1, rfl, by rw [HS.out]; go_num, by omega⟩
      case measure => simp [intOf]; omega
    have hi0 : ((i : Int) == 0) = false := by simp; omega
    have hi1 : 1 ≤ i := by omega
    obtain ⟨b, o, hp, hcell⟩ := HB.out.get i hlt
    subst hp
    have hcp := hcell (i - 1) (by omega)
    clear hcell
    by_cases h10 : f (i - 1) = 10
    · have hb : (f (i - 1) == 10) = true := by simp [h10]
      have HS : Hid (cnt (S f) (i + 1) = cnt (S f) i + 1) := cnt_succ_yes (by simp [S, h10])
      clear h10 h0
      go_wp2_with fail
      go_round
      case rel => exact ⟨i + 1, by go_num, by rw [HS.out]; go_num, by omega⟩
      case measure => simp [intOf]; omega
    · have hb : (f (i - 1) == 10) = false := by simp [h10]
      have HS : Hid (cnt (S f) (i + 1) = cnt (S f) i) := cnt_succ_no (by simp [S, h10, h0])
      clear h10 h0
      go_wp2_with fail
      go_round
      case rel => exact ⟨i + 1, by go_num, by rw [HS.out], by omega⟩
      case measure => simp [intOf]; omega

set_option maxHeartbeats 1000000 in
set_option maxRecDepth 100000 in
theorem later_in (p : Option Addr) (n cap : Nat) (s : ByteArray) (v : Int) (f : Nat → Int) (w : World) (hn : n ≤ 9223372036854775807) (hs : s.size ≤ 9223372036854775807)
    (hv : -9223372036854775808 ≤ v ∧ v ≤ 9223372036854775807) (hf : ∀ i, 0 ≤ f i ∧ f i ≤ 255)
    (hcl : n ≤ 1048576 → Calls Trym.prog 11 #[.slice p n cap] w fun e w' => RcPost w n f e w') :
    Calls Trym.prog 4 #[.slice p n cap, .string s, .int .i64 v] w fun e w' => e = .returned (.bool true) ∧ Below w.heap.size w w' := by
  have HF : Hid (∀ i, 0 ≤ f i ∧ f i ≤ 255) := hf
  have HV : Hid (-9223372036854775808 ≤ v ∧ v ≤ 9223372036854775807) := hv
  have HW : Hid (-9223372036854775808 ≤ wrap64 (v + 1) ∧ wrap64 (v + 1) ≤ 9223372036854775807) := by show _ ∧ _; unfold wrap64; omega
  have HCL : Hid (n ≤ 1048576 → Calls Trym.prog 11 #[.slice p n cap] w fun e w' => RcPost w n f e w') := hcl
  have HZ : Hid (Calls Trym.prog 14 #[.slice p n cap, .string s, .int .i64 v] w fun e w' => BoolP e ∧ w = w') := zz14_any p n cap s v w hn hs
  clear hf hcl hv
  go_enter Trym.func4, Trym.ntmps4
  go_wp2_with fail
  refine HZ.out.mono ?_
  rintro e w' ⟨⟨z, rfl⟩, rfl⟩
  clear HZ
  cases z
  · go_wp2_with fail
    go_ret
    exact ⟨rfl, Below.refl _ _⟩
  by_cases h1 : n ≤ 1048576
  rotate_left
  · go_wp2_with fail
    go_ret
    exact ⟨rfl, Below.refl _ _⟩
  by_cases h2 : s.size ≤ 1048576
  rotate_left
  · go_wp2_with fail
    go_ret
    exact ⟨rfl, Below.refl _ _⟩
  by_cases h3 : n + s.size ≤ 1048576
  rotate_left
  · go_wp2_with fail
    go_ret
    exact ⟨rfl, Below.refl _ _⟩
  go_wp2_with fail
  refine (HCL.out h1).mono ?_
  rintro e w1 ⟨p1, c1, hc1, hD, hb, rfl⟩
  have HD : Hid (Bl w1 p1 n f w1.heap.size) := hD
  have HB : Hid (Below w.heap.size w w1) := hb
  clear hD hb HCL
  go_wp2_with fail
  refine (zzRecordLine_any _ _ _ f s v _ h1 h2 hc1 HV.out HF.out HD.out).mono ?_
  rintro e w2 ⟨⟨a, hA, rfl⟩, hb⟩
  have HA : Hid (RL f n (bt s) s.size v a) := hA
  have HB2 : Hid (Below w.heap.size w w2) := HB.out.trans (hb.mono HB.out.size)
  have HD2 : Hid (Bl w2 p1 n f w2.heap.size) := HD.out.later hb
  clear hA hb HD HB
  go_wp2_with fail
  refine (zzRecordLine_any _ _ _ f s _ _ h1 h2 hc1 HW.out HF.out HD2.out).mono ?_
  rintro e w3 ⟨⟨b, hBb, rfl⟩, hb⟩
  have HBb : Hid (RL f n (bt s) s.size (wrap64 (v + 1)) b) := hBb
  have HB3 : Hid (Below w.heap.size w w3) := HB2.out.trans (hb.mono HB2.out.size)
  have HD3 : Hid (Bl w3 p1 n f w3.heap.size) := HD2.out.later hb
  clear hBb hb HD2 HB2
  go_wp2_with fail
  refine (starts_any _ _ _ f _ h1 (HD3.out.bs (Below.refl _ _))).mono ?_
  rintro e w' ⟨rfl, rfl⟩
  have ra := HA.out.range
  have rb := HBb.out.range
  have hl := HA.out.later HBb.out HV.out
  have hcs := cnt_le (S f) n
  obtain ⟨ra1, ra2⟩ := ra
  obtain ⟨rb1, rb2⟩ := rb
  by_cases hlast : cnt (S f) n < 1
  · have ha1 : a ≤ 1 := by omega
    have hb1 : b ≤ 1 := by omega
    have hb0 : (b == 1) = true := by simp; omega
    clear hl ra2 rb2
    go_wp2_with fail
    go_ret
    exact ⟨rfl, HB3⟩
  · have ha1 : a ≤ (cnt (S f) n : Int) := by omega
    have hb1 : b ≤ (cnt (S f) n : Int) := by omega
    clear ra2 rb2
    by_cases hb0 : b = 1
    · have hb2 : (b == 1) = true := by simp [hb0]
      clear hl hb0
      go_wp2_with fail
      go_ret
      exact ⟨rfl, HB3⟩
    · have hb2 : (b == 1) = false := by simp [hb0]
      have hab : a < b := by omega
      clear hl hb0
      go_wp2_with fail
      go_ret
      exact ⟨rfl, HB3⟩

end Go.Proofs.Qxb6602847aMods

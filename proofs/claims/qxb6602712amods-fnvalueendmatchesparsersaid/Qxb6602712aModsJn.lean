/-
  The parser's own memory: 'ends' and the stack of open brackets; the walk of MemberHead.
-/
import Derived.Test.Qxb6602712aModsStrict
import Derived.WalkSmall
namespace Go.Proofs.Qxb6602712aMods
open Go.RowKit

theorem info3 : (Trym.prog.info? 3).map (fun i => (i.zero, i.size, i.bytes)) = some (some (.int .i64 0), 1, 8) := by kernel_rfl
theorem size3 (wx : World) : (Go.sizeOf (Trym.prog.elem 25)).run Trym.prog wx = .ok 1 wx := by kernel_rfl
theorem elem25 : Trym.prog.underlying 25 = some (.slice (Trym.prog.elem 25)) := by kernel_rfl

theorem cut25_to (p : Option Addr) (n c m : Nat) (hm : m ≤ c) (wx : World) :
    (Instr.slice 25 (.slice p n c) none (some (.int .i64 (m : Int))) none).run Trym.prog wx = .ok (.slice p m c) wx := by
  rw [run_slice_h wx 25 p n c elem25 .i64 _ (by omega) (by omega), size3]
  simp [Result.andThen, sliced, Addr.add]

/-- The numbers as cells. -/
def nums (xs : List Nat) : List Value := xs.map fun (t : Nat) => Value.int .i64 (t : Int)

/-- The parser's memory. -/
structure Jn (w0 : World) (n : Nat) (E : Nat → Int) (g cap m : Nat) (xs : List Nat) (wr : World) : Prop where
  bel : Below w0.heap.size w0 wr
  ends : ∃ c : Array Value, wr.heap[w0.heap.size]? = some (.cells c 3 (0, 0)) ∧ c.size = n ∧ ∀ i, i < n → c[i]? = some (.int .i64 (E i))
  own : wr.ownsRow (w0.heap.size + 1) 3 1 (.slice (some ⟨g, 0, none⟩) m cap) m (nums xs)
  len : xs.length = m

section
variable {w0 wr : World} {n : Nat} {E : Nat → Int} {g cap m : Nat} {xs : List Nat}

theorem Jn.old (h : Jn w0 n E g cap m xs wr) (i : Nat) (hi : i < n) : wr.cell? ⟨w0.heap.size, i, none⟩ = some (.int .i64 (E i)) := by
  obtain ⟨c, hg, hs, hc⟩ := h.ends
  simp [World.cell?, hg, hc i hi]

theorem Jn.fr (h : Jn w0 n E g cap m xs wr) (i : Nat) : wr.frozen? ⟨w0.heap.size, i, none⟩ = false := by
  obtain ⟨c, hg, hs, hc⟩ := h.ends
  simp [World.frozen?, hg]

theorem Jn.dt (h : Jn w0 n E g cap m xs wr) {b o : Nat} {f : Nat → Int} (hb : b < w0.heap.size) (hD : Dt w0 b o n f) : Dt wr b o n f := fun i hi => by
  rw [h.bel.cell (p := ⟨b, o + i, none⟩) hb]; exact hD i hi

theorem Jn.qt (h : Jn w0 n E g cap m xs wr) {w' : World} (hq : Qt wr w') : Jn w0 n E g cap m xs w' := by
  refine ⟨h.bel.trans (hq.below _), ?_, ?_, h.len⟩
  · obtain ⟨c, hg, r⟩ := h.ends
    exact ⟨c, by rw [hq.1]; exact hg, r⟩
  · have := h.own
    unfold World.ownsRow at this ⊢
    rw [hq.1]
    exact this

theorem Jn.put (h : Jn w0 n E g cap m xs wr) (i : Nat) (hi : i < n) (e : Int) : Jn w0 n (put E i e) g cap m xs (wr.setCell ⟨w0.heap.size, i, none⟩ (.int .i64 e)) := by
  refine ⟨h.bel.setCell (Nat.le_refl _) _, ?_, ownsRow_setCell_below h.own (a := ⟨w0.heap.size, i, none⟩) (Nat.lt_succ_self _) _, h.len⟩
  obtain ⟨c, hg, hs, hc⟩ := h.ends
  refine ⟨c.setIfInBounds i (.int .i64 e), ?_, by simpa using hs, fun j hj => ?_⟩
  · simp [World.setCell, Array.getElem?_modify, hg]
  · by_cases he : j = i
    · subst he; simp [Qxb6602712aMods.put, hs, hi]
    · rw [Array.getElem?_setIfInBounds_ne (by omega)]; simpa [Qxb6602712aMods.put, he] using hc j hj

theorem Jn.form (h : Jn w0 n E g cap m xs wr) : w0.heap.size + 1 ≤ g ∧ m ≤ cap := by
  rcases h.own.2 with ⟨h0, _⟩ | ⟨g', cap', cur, hv, hg, hh, hn, _⟩
  · cases h0
  · cases hv; exact ⟨hg, hn⟩

/-- The top of the stack. -/
theorem Jn.top {ys : List Nat} {t k : Nat} (h : Jn w0 n E g cap (k + 1) (ys ++ [t]) wr) : wr.cell? ⟨g, k, none⟩ = some (.int .i64 (t : Int)) := by
  have hl := h.len
  simp at hl
  have := h.own.cells (g := g) rfl k (.int .i64 (t : Int)) (by rw [← hl]; simp [nums])
  have e : (⟨g, 0, none⟩ : Addr).add k = ⟨g, k, none⟩ := by unfold Addr.add; split <;> simp_all
  rwa [e] at this

theorem Jn.pop {ys : List Nat} {t k : Nat} (h : Jn w0 n E g cap (k + 1) (ys ++ [t]) wr) : Jn w0 n E g cap k ys wr := by
  have hl := h.len
  simp at hl
  refine ⟨h.bel, h.ends, ?_, hl⟩
  have ho := h.own
  have e : nums (ys ++ [t]) = nums ys ++ [.int .i64 (t : Int)] := by simp [nums]
  rw [e] at ho
  exact ownsRow_pop (by simp [nums, hl]) ho

theorem Jn.push (h : Jn w0 n E g cap m xs wr) (p : Nat) (hm : m ≤ 1048576) :
    ∃ g2 cap2 w2, (Builtin.append_ #[25, 25] 25 #[.slice (some ⟨g, 0, none⟩) m cap, .slice (some ⟨wr.heap.size, 0, none⟩) 1 1]).run Trym.prog (wr.alloc (.cells #[.int .i64 (p : Int)] 3)) = .ok (.slice (some ⟨g2, 0, none⟩) (m + 1) cap2) w2 ∧
      Jn w0 n E g2 cap2 (m + 1) (xs ++ [p]) w2 := by
  obtain ⟨i, hi, hz0, hz1, hz2⟩ := info_parts info3
  have hbs : w0.heap.size + 1 ≤ wr.heap.size := by
    obtain ⟨c, hg, _⟩ := h.ends
    exact (Array.getElem?_eq_some_iff.1 hg).1
  obtain ⟨v2, w2, hrun, hown, hgrow, _⟩ := run_append_own (P := Trym.prog) (wr.alloc (.cells #[.int .i64 (p : Int)] 3)) (w0.heap.size + 1) 25 25 3 i (.int .i64 0) 1 8 Trym.underlying25 hi hz0 hz1 hz2 rfl (by decide)
    _ m _ (h.own.alloc _) ⟨wr.heap.size, 0, none⟩ 1 1 [.int .i64 (p : Int)] rfl (cell_one_new _ _ _) (fun u hu => by simp at hu; subst hu; rfl) (by unfold maxLen; omega) (by omega) (by simp; omega)
  rcases hown.2 with ⟨_, h0⟩ | ⟨g2, cap2, cur, hv, _⟩
  · omega
  · subst hv
    refine ⟨g2, cap2, w2, hrun, ?_⟩
    have hblk : ∀ k, k < w0.heap.size + 1 → w2.heap[k]? = wr.heap[k]? := fun k hk => by
      rw [hgrow.block k (by simp; omega) (fun e => by
        have := h.form.1
        simp [Value.ownBlock] at e
        omega)]
      exact Below.heap_alloc _ _ _ (by omega)
    refine ⟨?_, ?_, by have e : nums (xs ++ [p]) = nums xs ++ [.int .i64 (p : Int)] := by simp [nums]
                       rw [e]; exact hown, by simp [h.len]⟩
    · exact (h.bel.alloc h.bel.size _).grown hgrow (by have := h.bel.size; simp; omega) (fun k hk => by
        have := h.form.1
        simp [Value.ownBlock] at hk
        omega)
    · obtain ⟨c, hg, r⟩ := h.ends
      exact ⟨c, by rw [hblk _ (Nat.lt_succ_self _)]; exact hg, r⟩
end

/-- What MemberHead leaves where it says yes. -/
def MbOk (f : Nat → Int) (n p : Nat) (w0 : World) (E : Nat → Int) (g cap m : Nat) (xs : List Nat) (r : Nat) (w' : World) : Prop :=
  ∃ q : Nat, StrQ f n p q ∧ q + 1 ≤ r ∧ r ≤ n ∧ (∀ j, q + 1 ≤ j → j < r → Pl (f j)) ∧ Jn w0 n (put E p ((q : Int) + 1)) g cap m xs w'

def MbPost (f : Nat → Int) (n p : Nat) (w0 : World) (E : Nat → Int) (g cap m : Nat) (xs : List Nat) (e : Ending) (w' : World) : Prop :=
  ∃ (r : Nat) (ok : Bool), e = .returned (.tuple #[.int .i64 r, .bool ok]) ∧ Below w0.heap.size w0 w' ∧ (ok = true → MbOk f n p w0 E g cap m xs r w')

theorem MbPost.no {f : Nat → Int} {n p : Nat} {w0 : World} {E : Nat → Int} {g cap m : Nat} {xs : List Nat} {w' : World} (h : Below w0.heap.size w0 w') :
    MbPost f n p w0 E g cap m xs (.returned (.tuple #[.int .i64 0, .bool false])) w' := ⟨0, false, rfl, h, fun h => absurd h (by decide)⟩

set_option maxHeartbeats 1000000 in
set_option maxRecDepth 100000 in
theorem member_any (f : Nat → Int) (w0 : World) (E : Nat → Int) (g cap m : Nat) (xs : List Nat) (b o n c p : Nat) (w : World) (hp : p ≤ n) (hn : n ≤ 1048576) (hb : b < w0.heap.size)
    (hf : ∀ i, 0 ≤ f i ∧ f i ≤ 255) (hD : Dt w0 b o n f) (hJ : Jn w0 n E g cap m xs w) :
    Calls Trym.prog 16 #[.slice (some ⟨b, o, none⟩) n c, .int .i64 p, .slice (some ⟨w0.heap.size, 0, none⟩) n n] w fun e w' => MbPost f n p w0 E g cap m xs e w' := by
  have HD : Hid (Dt w0 b o n f) := hD
  have HF : Hid (∀ i, 0 ≤ f i ∧ f i ≤ 255) := hf
  have HJ : Hid (Jn w0 n E g cap m xs w) := hJ
  clear hD hf hJ
  go_enter Trym.func16, Trym.ntmps16
  go_wp2_with fail
  refine (strict_any _ _ _ _ p f _ hp hn HF.out (HJ.out.dt hb HD.out)).mono ?_
  rintro e w' ⟨⟨r, ok, h1, rfl⟩, rfl⟩
  cases ok
  · clear h1
    go_wp2_with fail
    go_ret2
    exact MbPost.no HJ.out.bel
  obtain ⟨q, hq, rfl⟩ := h1 rfl
  have HQ : Hid (StrQ f n p q) := hq
  have hq1 := hq.2.1
  have hq2 := hq.2.2.1
  have hold := HJ.out.old p (by omega)
  have hfr := HJ.out.fr p
  have HJ2 : Hid (Jn w0 n (put E p ((q : Int) + 1)) g cap m xs (w.setCell ⟨w0.heap.size, p, none⟩ (.int .i64 ((q : Int) + 1)))) := HJ.out.put p (by omega) _
  clear h1 hq
  go_wp2_with fail
  generalize w.setCell ⟨w0.heap.size, p, none⟩ (.int .i64 ((q : Int) + 1)) = w1 at *
  refine (skipSpace_any _ _ _ _ (q + 1) _ f _ (by omega) (by omega) hn (HJ2.out.dt hb HD.out)).mono ?_
  rintro e w' ⟨⟨s, hs, rfl⟩, rfl⟩
  have HS : Hid (Blank f n (q + 1) s) := hs
  have hs1 := hs.1
  have hs2 := hs.2.1
  clear hs hold hfr
  by_cases hsn : s < n
  rotate_left
  · go_wp2_with fail
    go_ret2
    exact MbPost.no HJ2.out.bel
  have hcs := (HJ2.out.dt hb HD.out) s hsn
  by_cases h58 : f s = 58
  rotate_left
  · have hb58 : (f s != 58) = true := by simp [h58]
    clear h58
    go_wp2_with fail
    go_ret2
    exact MbPost.no HJ2.out.bel
  have hb58 : (f s != 58) = false := by simp [h58]
  have H58 : Hid (f s = 58) := h58
  clear h58
  go_wp2_with fail
  refine (skipSpace_any _ _ _ _ (s + 1) _ f _ (by omega) (by omega) hn (HJ2.out.dt hb HD.out)).mono ?_
  rintro e w' ⟨⟨r, hr, rfl⟩, rfl⟩
  have HM : Hid (MbOk f n p w0 E g cap m xs r w1) := by
    have := hr.1
    have := hr.2.1
    refine ⟨q, HQ.out, by omega, by omega, fun j a b => ?_, HJ2.out⟩
    by_cases h1 : j < s
    · exact (HS.out.2.2 j a h1).pl
    · by_cases h2 : j = s
      · subst h2; rw [H58.out]; unfold Pl; omega
      · exact (hr.2.2 j (by omega) b).pl
  clear hr
  go_wp2_with fail
  go_ret2
  exact ⟨r, true, rfl, HJ2.out.bel, fun _ => HM⟩

end Go.Proofs.Qxb6602712aMods

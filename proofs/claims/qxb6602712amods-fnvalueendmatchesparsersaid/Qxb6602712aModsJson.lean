/-
  The walk of JSONValueEnds.
-/
import Derived.Test.Qxb6602712aModsScalar
import Derived.Test.Qxb6602712aModsJn
import Derived.Deep.DeepCutAuto
import Derived.Deep.LoopGhost
import Derived.Deep.QuietTactic
import Derived.BigQuiet
namespace Go.Proofs.Qxb6602712aMods
open Go.RowKit

/-- The cells of a slice of ints that 'make' has just laid. -/
def fresh3 (n : Nat) : Array Value := madeCells #[.int .i64 0] n

theorem run_mk25 (l n : Nat) (hl : l ≤ n) (hn : n ≤ 1048576) (wx : World) :
    (Instr.makeSlice 25 (.int .i64 (l : Int)) (.int .i64 (n : Int))).run Trym.prog wx = .ok (.slice (some ⟨wx.heap.size, 0, none⟩) l n) (wx.alloc (.cells (fresh3 n) 3)) := by
  obtain ⟨i, hi, hz, hs, hb⟩ := info_parts info3
  have := run_make (P := Trym.prog) wx 25 3 i _ Trym.underlying25 hi hz .i64 .i64 (l : Int) (n : Int) (by omega) (by omega) (by rw [hb]; omega) (by omega)
  rw [this, hs]
  simp [fresh3, Value.cells]

theorem run_mk08 (wx : World) :
    (Instr.makeSlice 25 (.int .i64 0) (.int .i64 8)).run Trym.prog wx = .ok (.slice (some ⟨wx.heap.size, 0, none⟩) 0 8) (wx.alloc (.cells (fresh3 8) 3)) := run_mk25 0 8 (by omega) (by omega) wx

/-- In 'wr' block 'g' holds 'n' ints, the first 'k' of them -1. -/
structure Fl (w : World) (n k : Nat) (wr : World) : Prop where
  bel : Below w.heap.size w wr
  cells : ∃ c : Array Value, wr.heap[w.heap.size]? = some (.cells c 3 (0, 0)) ∧ c.size = n ∧ ∀ i, i < k → c[i]? = some (.int .i64 (-1))

theorem Fl.new (w : World) (n : Nat) : Fl w n 0 (w.alloc (.cells (fresh3 n) 3)) := by
  refine ⟨(Below.refl _ _).alloc (Nat.le_refl _) _, fresh3 n, ?_, size_madeCells _ _, fun i h => by omega⟩
  show (w.heap.push _)[w.heap.size]? = _
  rw [Array.getElem?_push, if_pos rfl]

theorem Fl.old {w wr : World} {n k : Nat} (h : Fl w n k wr) (i : Nat) (hi : i < n) : ∃ v, wr.cell? ⟨w.heap.size, i, none⟩ = some v := by
  obtain ⟨c, hg, hs, _⟩ := h.cells
  exact ⟨c[i], by simp [World.cell?, hg, hs, hi]⟩

theorem Fl.fr {w wr : World} {n k : Nat} (h : Fl w n k wr) (i : Nat) : wr.frozen? ⟨w.heap.size, i, none⟩ = false := by
  obtain ⟨c, hg, hs, _⟩ := h.cells
  simp [World.frozen?, hg]

theorem Fl.put {w wr : World} {n k : Nat} (h : Fl w n k wr) (hk : k < n) : Fl w n (k + 1) (wr.setCell ⟨w.heap.size, k, none⟩ (.int .i64 (-1))) := by
  refine ⟨h.bel.setCell (Nat.le_refl _) _, ?_⟩
  obtain ⟨c, hg, hs, hc⟩ := h.cells
  refine ⟨c.setIfInBounds k (.int .i64 (-1)), ?_, by simpa using hs, fun i hi => ?_⟩
  · simp [World.setCell, Array.getElem?_modify, hg]
  · by_cases he : i = k
    · subst he; simp [hs, hk]
    · rw [Array.getElem?_setIfInBounds_ne (by omega)]; exact hc i (by omega)

theorem Fl.jn {w wr : World} {n : Nat} (h : Fl w n n wr) : Jn w n (fun _ => -1) wr.heap.size 8 0 [] (wr.alloc (.cells (fresh3 8) 3)) := by
  have hbs : w.heap.size < wr.heap.size := by
    obtain ⟨c, hg, _⟩ := h.cells
    exact (Array.getElem?_eq_some_iff.1 hg).1
  refine ⟨h.bel.alloc h.bel.size _, ?_, ⟨by simp [nums], Or.inr ⟨wr.heap.size, 8, fresh3 8, rfl, hbs, ?_, Nat.zero_le _, by unfold maxLen; omega, size_madeCells _ _, by simp [nums]⟩⟩, rfl⟩
  · obtain ⟨c, hg, r⟩ := h.cells
    exact ⟨c, by rw [Below.heap_alloc _ _ _ hbs]; exact hg, r⟩
  · show (wr.heap.push _)[wr.heap.size]? = _
    rw [Array.getElem?_push, if_pos rfl]

/-- What the parser leaves. -/
def JPost (f : Nat → Int) (n : Nat) (w : World) (e : Ending) (w' : World) : Prop :=
  Below w.heap.size w w' ∧ (e = .returned (.tuple #[.slice none 0 0, .bool false]) ∨
    ∃ E : Nat → Int, Ok f n E ∧ (∀ i, i < n → w'.cell? ⟨w.heap.size, i, none⟩ = some (.int .i64 (E i))) ∧ e = .returned (.tuple #[.slice (some ⟨w.heap.size, 0, none⟩) n n, .bool true]))

theorem JPost.no {f : Nat → Int} {n : Nat} {w w' : World} (h : Below w.heap.size w w') : JPost f n w (.returned (.tuple #[.slice none 0 0, .bool false])) w' := ⟨h, Or.inl rfl⟩

theorem closer_same (c : Int) (w : World) : Calls Trym.prog 15 #[.int .u8 c] w fun e w' => e = .returned (.int .u8 (clo c)) ∧ w' = w :=
  (closer_any c w).mono fun _ _ h => ⟨h.1, h.2.symm⟩

/-- An append whose run is known. -/
theorem wpList_append_run {P : Program} {w w' : World} {v' : Value} {ops : Array Oper} {rest : List Oper} {o : Oper} {a : Act} {Q : Exit → Act → World → Prop} (hgd : o.guard = none) (s x : Operand) (t : TypeId)
    (ho : o.op = .call { callee := .builtin .append, args := #[s, x], argTypes := #[t, t] }) (v1 v2 : Value) (hs : a.eval s = v1) (hx : a.eval x = v2)
    (hrun : (Builtin.append_ #[t, t] o.type #[v1, v2]).run P w = .ok v' w') (h : wpList P ops Q rest (a.put o.dst v') w') : wpList P ops Q (o :: rest) a w := by
  refine wpList_plain hgd fun K hK => ?_
  unfold Oper.wp
  simp [execOp, ho, resolve, invoke, builtin, hs, hx, hrun, Result.andThen]
  exact hK _ _ h

/-- Whether the byte at 'p' opens a bracket. -/
def opens (f : Nat → Int) (p : Nat) : Bool := decide (f p = 123 ∨ f p = 91)

set_option maxHeartbeats 2000000 in
set_option maxRecDepth 100000 in
theorem json_any (f : Nat → Int) (b o n c : Nat) (w : World) (hn : n ≤ 1048576) (hb : b < w.heap.size)
    (hf : ∀ i, 0 ≤ f i ∧ f i ≤ 255) (hD : Dt w b o n f) :
    Calls Trym.prog 8 #[.slice (some ⟨b, o, none⟩) n c] w fun e w' => JPost f n w e w' := by
  have HD : Hid (Dt w b o n f) := hD
  have HF : Hid (∀ i, 0 ≤ f i ∧ f i ≤ 255) := hf
  have hmk := run_mk25 n n (Nat.le_refl _) hn
  clear hD hf
  go_enter Trym.func8, Trym.ntmps8
  go_wp2_with fail
  clear hmk
  go_loopw [6] (fun kv wr => ∃ k : Nat, kv = .int .i64 k ∧ k ≤ n ∧ Hid (Fl w n k wr)) (fun kv _ => n - (intOf kv).toNat)
  case atStart => exact ⟨0, rfl, Nat.zero_le _, Fl.new w n⟩
  case round =>
    obtain ⟨k, rfl, hk, HK⟩ := hrel
    by_cases hlt : k < n
    · obtain ⟨v3, hv3⟩ := HK.out.old k hlt
      have hfr := HK.out.fr k
      go_wp2_with fail
      go_roundw
      case rel => exact ⟨k + 1, by go_num, by omega, HK.out.put hlt⟩
      case measure => simp [intOf]; omega
    obtain rfl : k = n := by omega
    have HJ : Hid (Jn w k (fun _ => -1) wr.heap.size 8 0 [] (wr.alloc (.cells (fresh3 8) 3))) := HK.out.jn
    have hmk := run_mk08
    go_wp2_with fail
    clear hmk HK
    generalize wr.alloc (.cells (fresh3 8) 3) = w1 at *
    generalize wr.heap.size = g1 at *
    refine (skipSpace_any _ _ _ _ 0 _ f _ rfl (by omega) hn (HJ.out.dt hb HD.out)).mono ?_
    rintro e w' ⟨⟨s, hs, rfl⟩, rfl⟩
    have hs2 := hs.2.1
    clear hs
    go_wp2_with fail
    go_loopg [7, 8] k (fun gk vo vp wr => ∃ (p m g cap : Nat) (xs : List Nat) (E : Nat → Int), k - p ≤ gk ∧ vo = .slice (some ⟨g, 0, none⟩) m cap ∧ vp = .int .i64 p ∧ p ≤ k ∧ m ≤ p ∧ Hid (Jn w k E g cap m xs wr) ∧ Hid (Stk f k xs p) ∧ Hid (Ok f k E))
    case atStart => exact ⟨s, 0, g1, 8, [], _, by omega, rfl, rfl, hs2, Nat.zero_le _, HJ, Stk.nil _ _ _, fun i hi => Or.inl rfl⟩
    case round =>
      clear HJ hs2
      obtain ⟨p, m, g, cap, xs, E, hgk, rfl, rfl, hp, hmp, HJ, HS, HE⟩ := hrel
      by_cases hpn : p < k
      rotate_left
      · go_wp2_with fail
        go_ret2
        exact JPost.no HJ.out.bel
      have hcp := (HJ.out.dt hb HD.out) p hpn
      go_upto_region 12 with fail
      go_cut [45] (fun tv wx => wx = wr ∧ tv = .bool (opens f p))
      case first =>
        by_cases h1 : f p = 123
        · have b1 : (f p == 123) = true := by simp [h1]
          have H1 : Hid (opens f p = true) := by show _ = _; simp [opens, h1]
          clear h1
          go_wp2_with fail
          go_meet
          case rel => exact ⟨rfl, by rw [H1.out]⟩
        · have b1 : (f p == 123) = false := by simp [h1]
          by_cases h2 : f p = 91
          · have b2 : (f p == 91) = true := by simp [h2]
            have H1 : Hid (opens f p = true) := by show _ = _; simp [opens, h2]
            clear h1 h2
            go_wp2_with fail
            go_meet
            case rel => exact ⟨rfl, by rw [H1.out]⟩
          · have b2 : (f p == 91) = false := by simp [h2]
            have H1 : Hid (opens f p = false) := by show _ = _; simp [opens, h1, h2]
            clear h1 h2
            go_wp2_with fail
            go_meet
            case rel => exact ⟨rfl, by rw [H1.out]⟩
      case rest =>
      obtain ⟨hwc, rfl⟩ := hcut
      subst hwc
      go_upto_if 45 with fail
      go_cut [7, 8] (fun vo vp wx => ∃ (p' m g cap : Nat) (xs : List Nat) (E : Nat → Int), vo = .slice (some ⟨g, 0, none⟩) m cap ∧ vp = .int .i64 p' ∧ p < p' ∧ p' ≤ k ∧ m ≤ p' ∧ Hid (Jn w k E g cap m xs wx) ∧ Hid (Stk f k xs p') ∧ Hid (OkP f k E p'))
      case first =>
        cases ho : opens f p
        · clear ho
          go_wp2_with fail
          refine (scalar_any _ _ _ _ p f _ hpn hn HF.out (HJ.out.dt hb HD.out)).mono ?_
          rintro e w2 ⟨⟨r, ok, h1, rfl⟩, hq⟩
          have HJ2 : Hid (Jn w k E g cap m xs w2) := HJ.out.qt hq
          clear hq
          cases ok
          · clear h1
            go_wp2_with fail
            go_ret2
            exact JPost.no HJ2.out.bel
          have h2 := h1 rfl
          have H2 : Hid (ScE f k p r) := h2
          have hr : p < r ∧ r ≤ k := by
            rcases h2 with ⟨q, hq, rfl⟩ | ht
            · have := hq.2.1; have := hq.2.2.1; omega
            · exact ⟨ht.1, ht.2.1⟩
          obtain ⟨hr1, hr2⟩ := hr
          have hold := HJ2.out.old p hpn
          have hfr := HJ2.out.fr p
          have HJ3 : Hid (Jn w k (put E p r) g cap m xs (w2.setCell ⟨w.heap.size, p, none⟩ (.int .i64 (r : Int)))) := HJ2.out.put p hpn _
          clear h1 h2
          go_wp2_with fail
          go_meet
          case rel =>
            refine ⟨r, m, g, cap, xs, _, rfl, rfl, hr1, hr2, by omega, HJ3, ?_, ?_⟩
            · rcases H2.out with ⟨q, hq, rfl⟩ | ht
              · exact HS.out.str hq
              · exact HS.out.plain r (by omega) hr2 (fun j a b => (ht.2.2 j a b).1)
            · rcases H2.out with ⟨q, hq, rfl⟩ | ht
              · exact (HE.out.put p (q + 1) (Or.inl ⟨q, hq, rfl⟩)).p _
              · exact OkP.of HE.out p r ht
        · have HOP : Hid (f p = 123 ∨ f p = 91) := by show _ ∨ _; simpa [opens] using ho
          clear ho
          obtain ⟨g2, cap2, w2, hrun, hJ2⟩ := HJ.out.push p (by omega)
          have HJ2 : Hid (Jn w k E g2 cap2 (m + 1) (xs ++ [p]) w2) := hJ2
          clear hJ2
          have HR : Hid ((Builtin.append_ #[25, 25] 25 #[.slice (some ⟨g, 0, none⟩) m cap, .slice (some ⟨wc.heap.size, 0, none⟩) 1 1]).run Trym.prog (wc.alloc (.cells #[.int .i64 (p : Int)] 3)) = .ok (.slice (some ⟨g2, 0, none⟩) (m + 1) cap2) w2) := hrun
          clear hrun
          go_wp2_with (at_builtin; refine wpList_append_run rfl (.tmp 46) (.tmp 48) 25 rfl _ _ rfl rfl HR.out ?_)
          clear HR
          refine (skipSpace_any _ _ _ _ (p + 1) _ f _ (by omega) (by omega) hn (HJ2.out.dt hb HD.out)).mono ?_
          rintro e w' ⟨⟨p1, hs, rfl⟩, rfl⟩
          have hp1 := hs.1
          have hp2 := hs.2.1
          have HS2 : Hid (Stk f k (xs ++ [p]) p1) := (HS.out.push hpn HOP.out).plain p1 hs.1 hs.2.1 (fun j a b => (hs.2.2 j a b).pl)
          clear hs
          by_cases hp1k : p1 < k
          rotate_left
          · go_wp2_with fail
            go_ret2
            exact JPost.no HJ2.out.bel
          have hcp1 := (HJ2.out.dt hb HD.out) p1 hp1k
          by_cases heq : f p1 = clo (f p)
          · have hbe : (f p1 != clo (f p)) = false := by simp [heq]
            have HCL : Hid (f p1 = 125 ∨ f p1 = 93) := by
              show _ ∨ _
              rw [heq]; unfold clo; split <;> simp
            clear heq
            go_wp2_with fail
            go_quiet ((go_at_call 15; exact Calls.quiet_of_same (closer_same _ _)))
            have HJ3 : Hid (Jn w k E g2 cap2 (m + 1) (xs ++ [p]) (w2.drewN nq)) := HJ2.out.qt ((Qt.refl w2).drewN nq)
            have htop := HJ3.out.top
            have hold := HJ3.out.old p hpn
            have hfr := HJ3.out.fr p
            have HJ4 : Hid (Jn w k (put E p ((p1 : Int) + 1)) g2 cap2 m xs ((w2.drewN nq).setCell ⟨w.heap.size, p, none⟩ (.int .i64 ((p1 : Int) + 1)))) := (HJ3.out.put p hpn _).pop
            have hcutm := cut25_to (some ⟨g2, 0, none⟩) (m + 1) cap2 m (by have := HJ3.out.form.2; omega)
            generalize w2.drewN nq = w3 at *
            go_wp2_with fail
            go_meet
            case rel =>
              obtain ⟨h1, h2⟩ := HS2.out.pop hp1k HCL.out
              exact ⟨p1 + 1, m, g2, cap2, xs, _, rfl, by go_num, by omega, by omega, by omega, HJ4, h1, (HE.out.put p (p1 + 1) (Or.inr (Or.inl h2))).p _⟩
          · have hbe : (f p1 != clo (f p)) = true := by simp [heq]
            clear heq
            go_wp2_with fail
            go_quiet ((go_at_call 15; exact Calls.quiet_of_same (closer_same _ _)))
            have HJ3 : Hid (Jn w k E g2 cap2 (m + 1) (xs ++ [p]) (w2.drewN nq)) := HJ2.out.qt ((Qt.refl w2).drewN nq)
            generalize w2.drewN nq = w3 at *
            clear HJ2 hcp1 hbe
            by_cases h123 : f p = 123
            rotate_left
            · have hb123 : (f p == 123) = false := by simp [h123]
              clear h123
              go_wp2_with fail
              go_roundg (k - p1)
              case measure => omega
              case rel => exact ⟨p1, m + 1, g2, cap2, xs ++ [p], E, Nat.le_refl _, rfl, rfl, by omega, by omega, HJ3, HS2, HE⟩
            have hb123 : (f p == 123) = true := by simp [h123]
            clear h123
            go_wp2_with fail
            refine (member_any f w E g2 cap2 (m + 1) (xs ++ [p]) _ _ _ _ p1 _ (by omega) hn hb HF.out HD.out HJ3.out).mono ?_
            rintro e w4 ⟨r, ok, rfl, hbel, hmb⟩
            cases ok
            · have HBL : Hid (Below w.heap.size w w4) := hbel
              clear hmb hbel
              go_wp2_with fail
              go_ret2
              exact JPost.no HBL.out
            obtain ⟨q, hq, hr1, hr2, hpl, hJ4⟩ := hmb rfl
            have HQ : Hid (StrQ f k p1 q) := hq
            have hq1 := hq.2.1
            have HPL : Hid (∀ j, q + 1 ≤ j → j < r → Pl (f j)) := hpl
            have HJ4 : Hid (Jn w k (put E p1 ((q : Int) + 1)) g2 cap2 (m + 1) (xs ++ [p]) w4) := hJ4
            clear hmb hbel hq hpl hJ4
            go_wp2_with fail
            go_roundg (k - r)
            case measure => omega
            case rel => exact ⟨r, m + 1, g2, cap2, xs ++ [p], _, Nat.le_refl _, rfl, rfl, by omega, by omega, HJ4, (HS2.out.str HQ.out).plain r hr1 hr2 HPL.out, HE.out.put p1 (q + 1) (Or.inl ⟨q, HQ.out, rfl⟩)⟩
      case rest =>
      clear HJ HS HE hcp hmp
      obtain ⟨p', m', g', cap', xs', E', rfl, rfl, hpp, hpk, hmp, HJ, HS, HE⟩ := hcut
      go_wp2_with fail
      go_loopg [7, 8] k (fun gi vo vp wx => ∃ (p' m g cap : Nat) (xs : List Nat) (E : Nat → Int), k - p' ≤ gi ∧ vo = .slice (some ⟨g, 0, none⟩) m cap ∧ vp = .int .i64 p' ∧ p < p' ∧ p' ≤ k ∧ m ≤ p' ∧ Hid (Jn w k E g cap m xs wx) ∧ Hid (Stk f k xs p') ∧ Hid (OkP f k E p'))
      case atStart => exact ⟨p', m', g', cap', xs', E', by omega, rfl, rfl, hpp, hpk, hmp, HJ, HS, HE⟩
      case round =>
        clear HJ HS HE hmp hpp hpk
        obtain ⟨p', m, g, cap, xs, E, hgi, rfl, rfl, hpp, hpk, hmp, HJ, HS, HE⟩ := hrel
        go_wp2_with fail
        refine (skipSpace_any _ _ _ _ p' _ f _ rfl (by omega) hn (HJ.out.dt hb HD.out)).mono ?_
        rintro e w' ⟨⟨p1, hs, rfl⟩, rfl⟩
        have hp1 := hs.1
        have hp2 := hs.2.1
        have HS2 : Hid (Stk f k xs p1) := HS.out.plain p1 hs.1 hs.2.1 (fun j a b => (hs.2.2 j a b).pl)
        have HOK : Hid ((p1 = k ∨ Stop (f p1)) → Ok f k E) := fun h => HE.out.ok (by
          by_cases hlt : p' < p1
          · exact Or.inr (Or.inl (hs.2.2 p' (Nat.le_refl _) hlt))
          · obtain rfl : p' = p1 := by omega
            exact h)
        clear hs HS HE
        cases m with
        | zero =>
          by_cases hp1k : p1 = k
          · have hb1 : ((p1 : Int) != (k : Int)) = false := by simp [hp1k]
            have HOK2 : Hid (Ok f k E) := HOK.out (Or.inl hp1k)
            have HC : Hid (∀ i, i < k → wr.cell? ⟨w.heap.size, i, none⟩ = some (.int .i64 (E i))) := fun i hi => HJ.out.old i hi
            clear hp1k HOK
            go_wp2_with fail
            go_ret2
            exact ⟨HJ.out.bel, Or.inr ⟨E, HOK2, HC, rfl⟩⟩
          · have hb1 : ((p1 : Int) != (k : Int)) = true := by simp; omega
            clear hp1k HOK
            go_wp2_with fail
            go_ret2
            exact JPost.no HJ.out.bel
        | succ m =>
          by_cases hp1k : p1 < k
          rotate_left
          · clear HOK
            go_wp2_with fail
            go_ret2
            exact JPost.no HJ.out.bel
          obtain ⟨ys, t, hxs⟩ : ∃ ys t, xs = ys ++ [t] := by
            have hne : xs ≠ [] := fun h => by have := HJ.out.len; rw [h] at this; simp at this
            exact ⟨xs.dropLast, xs.getLast hne, (List.dropLast_concat_getLast hne).symm⟩
          subst hxs
          have htop := HJ.out.top
          have ht := HS2.out.top
          have htn := ht.1
          have HT : Hid (f t = 123 ∨ f t = 91) := ht.2.1
          have hcp1 := (HJ.out.dt hb HD.out) p1 hp1k
          have hct := (HJ.out.dt hb HD.out) t htn
          clear ht
          by_cases heq : f p1 = clo (f t)
          · have hbe : (f p1 == clo (f t)) = true := by simp [heq]
            have HCL : Hid (f p1 = 125 ∨ f p1 = 93) := by
              show _ ∨ _
              rw [heq]; unfold clo; split <;> simp
            clear heq
            go_wp2_with fail
            go_quiet ((go_at_call 15; exact Calls.quiet_of_same (closer_same _ _)))
            have HJ3 : Hid (Jn w k E g cap (m + 1) (ys ++ [t]) (wr.drewN nq)) := HJ.out.qt ((Qt.refl wr).drewN nq)
            have hold := HJ3.out.old t htn
            have hfr := HJ3.out.fr t
            have HJ4 : Hid (Jn w k (put E t ((p1 : Int) + 1)) g cap m ys ((wr.drewN nq).setCell ⟨w.heap.size, t, none⟩ (.int .i64 ((p1 : Int) + 1)))) := (HJ3.out.put t htn _).pop
            have hcutm := cut25_to (some ⟨g, 0, none⟩) (m + 1) cap m (by have := HJ3.out.form.2; omega)
            generalize wr.drewN nq = w3 at *
            clear htop hcp1 hct hbe HJ
            go_wp2_with fail
            go_roundg (k - (p1 + 1))
            case measure => omega
            case rel =>
              obtain ⟨h1, h2⟩ := HS2.out.pop hp1k HCL.out
              have hOk : Ok f k E := HOK.out (Or.inr (by rcases HCL.out with h | h <;> rw [h] <;> unfold Stop <;> omega))
              exact ⟨p1 + 1, m, g, cap, ys, _, Nat.le_refl _, rfl, by go_num, by omega, by omega, by omega, HJ4, h1, (hOk.put t (p1 + 1) (Or.inr (Or.inl h2))).p _⟩
          · have hbe : (f p1 == clo (f t)) = false := by simp [heq]
            clear heq
            go_wp2_with fail
            go_quiet ((go_at_call 15; exact Calls.quiet_of_same (closer_same _ _)))
            have HJ3 : Hid (Jn w k E g cap (m + 1) (ys ++ [t]) (wr.drewN nq)) := HJ.out.qt ((Qt.refl wr).drewN nq)
            have hcp2 := (HJ3.out.dt hb HD.out) p1 hp1k
            have hct2 := (HJ3.out.dt hb HD.out) t htn
            generalize wr.drewN nq = w3 at *
            clear htop hcp1 hct hbe HJ
            by_cases h44 : f p1 = 44
            rotate_left
            · have hb44 : (f p1 != 44) = true := by simp [h44]
              clear h44 HOK
              go_wp2_with fail
              go_ret2
              exact JPost.no HJ3.out.bel
            have hb44 : (f p1 != 44) = false := by simp [h44]
            have HOK2 : Hid (Ok f k E) := HOK.out (Or.inr (by rw [h44]; unfold Stop; omega))
            have HPL1 : Hid (Pl (f p1)) := by show Pl _; rw [h44]; unfold Pl; omega
            clear h44 HOK
            go_wp2_with fail
            refine (skipSpace_any _ _ _ _ (p1 + 1) _ f _ (by omega) (by omega) hn (HJ3.out.dt hb HD.out)).mono ?_
            rintro e w' ⟨⟨p2, hs, rfl⟩, rfl⟩
            have hp3 := hs.1
            have hp4 := hs.2.1
            have HS3 : Hid (Stk f k (ys ++ [t]) p2) := HS2.out.plain p2 (by omega) hs.2.1 (fun j a b => if h : j = p1 then by rw [h]; exact HPL1.out else (hs.2.2 j (by omega) b).pl)
            clear hs
            by_cases h123 : f t = 123
            rotate_left
            · have hb123 : (f t == 123) = false := by simp [h123]
              clear h123
              go_wp2_with fail
              go_roundg (k - p2)
              case measure => omega
              case rel => exact ⟨p2, m + 1, g, cap, ys ++ [t], E, Nat.le_refl _, rfl, rfl, by omega, by omega, HJ3, HS3, HOK2⟩
            have hb123 : (f t == 123) = true := by simp [h123]
            clear h123
            go_wp2_with fail
            refine (member_any f w E g cap (m + 1) (ys ++ [t]) _ _ _ _ p2 _ (by omega) hn hb HF.out HD.out HJ3.out).mono ?_
            rintro e w4 ⟨r, ok, rfl, hbel, hmb⟩
            cases ok
            · have HBL : Hid (Below w.heap.size w w4) := hbel
              clear hmb hbel
              go_wp2_with fail
              go_ret2
              exact JPost.no HBL.out
            obtain ⟨q, hq, hr1, hr2, hpl, hJ4⟩ := hmb rfl
            have HQ : Hid (StrQ f k p2 q) := hq
            have hq1 := hq.2.1
            have HPL : Hid (∀ j, q + 1 ≤ j → j < r → Pl (f j)) := hpl
            have HJ4 : Hid (Jn w k (put E p2 ((q : Int) + 1)) g cap (m + 1) (ys ++ [t]) w4) := hJ4
            clear hmb hbel hq hpl hJ4
            go_wp2_with fail
            go_roundg (k - r)
            case measure => omega
            case rel => exact ⟨r, m + 1, g, cap, ys ++ [t], _, Nat.le_refl _, rfl, rfl, by omega, by omega, HJ4, (HS3.out.str HQ.out).plain r hr1 hr2 HPL.out, HOK2.out.put p2 (q + 1) (Or.inl ⟨q, HQ.out, rfl⟩)⟩

end Go.Proofs.Qxb6602712aMods

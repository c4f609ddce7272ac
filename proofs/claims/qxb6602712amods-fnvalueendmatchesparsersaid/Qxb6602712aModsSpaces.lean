/-
  The walks of SkipSpace, Digits, Word, NumberEnd.
-/
import Derived.Test.Qxb6602712aModsSmall
import Derived.Deep.QuietTactic
import Derived.BigQuiet
namespace Go.Proofs.Qxb6602712aMods
open Go.RowKit

/-- From 'p' on to 'q' all bytes are blank. -/
def Blank (f : Nat → Int) (n p q : Nat) : Prop := p ≤ q ∧ q ≤ n ∧ ∀ j, p ≤ j → j < q → Sp (f j)

def SpPost (f : Nat → Int) (n p : Nat) (e : Ending) : Prop := ∃ q : Nat, Blank f n p q ∧ e = .returned (.int .i64 q)

set_option maxHeartbeats 400000 in
set_option maxRecDepth 100000 in
theorem skipSpace_any (b o n c p : Nat) (a : Int) (f : Nat → Int) (w : World) (ha : a = (p : Int)) (hp : p ≤ n) (hn : n ≤ 1048576) (hD : Dt w b o n f) :
    Calls Trym.prog 14 #[.slice (some ⟨b, o, none⟩) n c, .int .i64 a] w fun e w' => SpPost f n p e ∧ w = w' := by
  subst ha
  have HD : Hid (Dt w b o n f) := hD
  clear hD
  go_enter Trym.func14, Trym.ntmps14
  go_wp2_with fail
  go_loop [1] (fun pv => ∃ q : Nat, pv = .int .i64 q ∧ q ≤ n ∧ Hid (Blank f n p q)) (fun pv => n - (intOf pv).toNat)
  case atStart => exact ⟨p, rfl, hp, Nat.le_refl _, hp, fun j a b => by omega⟩
  case round =>
    obtain ⟨q, rfl, hq, HB⟩ := hrel
    by_cases hlt : q < n
    · have hcq := HD.out q hlt
      by_cases hs : Sp (f q)
      · have HS : Hid (Sp (f q)) := hs
        clear hs
        go_wp2_with fail
        refine (isSpace20_yes _ _ HS.out).mono ?_
        rintro e w' ⟨rfl, rfl⟩
        go_wp2_with fail
        go_round
        case rel => exact ⟨q + 1, by go_num, by omega, by have := HB.out.1; omega, by omega, fun j a b => if h : j < q then HB.out.2.2 j a h else by rw [show j = q by omega]; exact HS.out⟩
        case measure => simp [intOf]; omega
      · have HS : Hid (¬ Sp (f q)) := hs
        clear hs
        go_wp2_with fail
        refine (isSpace20_no _ _ HS.out).mono ?_
        rintro e w' ⟨rfl, rfl⟩
        go_wp2_with fail
        go_ret
        exact ⟨⟨q, HB, rfl⟩, rfl⟩
    · go_wp2_with fail
      go_ret
      exact ⟨⟨q, HB, rfl⟩, rfl⟩
def DgPost (f : Nat → Int) (n p : Nat) (e : Ending) : Prop := ∃ q : Nat, (p ≤ q ∧ q ≤ n ∧ ∀ j, p ≤ j → j < q → 48 ≤ f j ∧ f j ≤ 57) ∧ e = .returned (.int .i64 q)

set_option maxHeartbeats 400000 in
set_option maxRecDepth 100000 in
theorem digits_any (b o n c p : Nat) (a : Int) (f : Nat → Int) (w : World) (ha : a = (p : Int)) (hp : p ≤ n) (hn : n ≤ 1048576) (hD : Dt w b o n f) :
    Calls Trym.prog 27 #[.slice (some ⟨b, o, none⟩) n c, .int .i64 a] w fun e w' => DgPost f n p e ∧ w = w' := by
  subst ha
  have HD : Hid (Dt w b o n f) := hD
  clear hD
  go_enter Trym.func27, Trym.ntmps27
  go_wp2_with fail
  go_loop [1] (fun pv => ∃ q : Nat, pv = .int .i64 q ∧ q ≤ n ∧ p ≤ q ∧ Hid (∀ j, p ≤ j → j < q → 48 ≤ f j ∧ f j ≤ 57)) (fun pv => n - (intOf pv).toNat)
  case atStart => exact ⟨p, rfl, hp, Nat.le_refl _, fun j a b => by omega⟩
  case round =>
    obtain ⟨q, rfl, hq, hpq, HB⟩ := hrel
    by_cases hlt : q < n
    · have hcq := HD.out q hlt
      by_cases h1 : 48 ≤ f q
      · by_cases h2 : f q ≤ 57
        · have HB2 : Hid (∀ j, p ≤ j → j < q + 1 → 48 ≤ f j ∧ f j ≤ 57) := fun j a b => if h : j < q then HB.out j a h else by rw [show j = q by omega]; exact ⟨h1, h2⟩
          go_wp2_with fail
          go_round
          case rel => exact ⟨q + 1, by go_num, by omega, by omega, HB2⟩
          case measure => simp [intOf]; omega
        · go_wp2_with fail
          go_ret
          exact ⟨⟨q, ⟨hpq, hq, HB⟩, rfl⟩, rfl⟩
      · go_wp2_with fail
        go_ret
        exact ⟨⟨q, ⟨hpq, hq, HB⟩, rfl⟩, rfl⟩
    · go_wp2_with fail
      go_ret
      exact ⟨⟨q, ⟨hpq, hq, HB⟩, rfl⟩, rfl⟩

/-- Nothing has turned but the tape's place. -/
def Qt (w w' : World) : Prop := w'.heap = w.heap ∧ w'.os = w.os ∧ w'.tape = w.tape ∧ w'.output = w.output
theorem Qt.refl (w : World) : Qt w w := ⟨rfl, rfl, rfl, rfl⟩
theorem Qt.drew {w w' : World} (h : Qt w w') : Qt w w'.drew := h
theorem Qt.trans {w w' w'' : World} (h : Qt w w') (k : Qt w' w'') : Qt w w'' := ⟨k.1.trans h.1, k.2.1.trans h.2.1, k.2.2.1.trans h.2.2.1, k.2.2.2.trans h.2.2.2⟩
theorem Qt.below {w w' : World} (h : Qt w w') (B : Nat) : Below B w w' := ⟨h.2.1, h.2.2.1, h.2.2.2, by rw [h.1]; exact Nat.le_refl _, fun k _ => by rw [h.1]⟩
theorem Qt.cell {w w' : World} (h : Qt w w') (a : Addr) : w'.cell? a = w.cell? a := by unfold World.cell?; rw [h.1]
theorem Qt.dt {w w' : World} (h : Qt w w') {b o n : Nat} {f : Nat → Int} (hD : Dt w b o n f) : Dt w' b o n f := fun i hi => by rw [h.cell]; exact hD i hi

/-- An end and whether: of an end that is told 'R' holds. -/
def EndPost (R : Nat → Prop) (e : Ending) : Prop := ∃ (r : Nat) (ok : Bool), (ok = true → R r) ∧ e = .returned (.tuple #[.int .i64 r, .bool ok])

theorem EndPost.no (R : Nat → Prop) : EndPost R (.returned (.tuple #[.int .i64 0, .bool false])) := ⟨0, false, fun h => absurd h (by decide), rfl⟩

theorem Qt.drewN {w w' : World} (h : Qt w w') (n : Nat) : Qt w (w'.drewN n) := h

set_option maxHeartbeats 400000 in
set_option maxRecDepth 100000 in
theorem word_any (b o n c p : Nat) (s : ByteArray) (f : Nat → Int) (w : World) (hp : p ≤ n) (hn : n ≤ 1048576) (hs : 0 < s.size) (hs2 : s.size ≤ 10) (hD : Dt w b o n f)
    (ht : ∀ k (h : k < s.size), Tc (s[k].toNat : Int)) :
    Calls Trym.prog 22 #[.slice (some ⟨b, o, none⟩) n c, .int .i64 p, .string s] w fun e w' => EndPost (Tok f n p) e ∧ Qt w w' := by
  have HD : Hid (Dt w b o n f) := hD
  have HT : Hid (∀ k (h : k < s.size), Tc (s[k].toNat : Int)) := ht
  clear hD ht
  by_cases hlen : p + s.size ≤ n
  · go_enter Trym.func22, Trym.ntmps22
    go_wp2_with fail
    go_loopw [8] (fun kv wr => ∃ k : Nat, kv = .int .i64 k ∧ k ≤ s.size ∧ Hid (∀ j, p ≤ j → j < p + k → Tc (f j)) ∧ Hid (Qt w wr)) (fun kv _ => s.size - (intOf kv).toNat)
    case atStart => exact ⟨0, rfl, Nat.zero_le _, fun j a b => by omega, Qt.refl w⟩
    case round =>
      obtain ⟨k, rfl, hk, HB, HQ⟩ := hrel
      by_cases hlt : k < s.size
      · have hcq := (HQ.out.dt HD.out) (p + k) (by omega)
        by_cases he : f (p + k) = (s[k].toNat : Int)
        · have hb : (f (p + k) != (s[k].toNat : Int)) = false := by simp [he]
          have HB2 : Hid (∀ j, p ≤ j → j < p + (k + 1) → Tc (f j)) := fun j a b => if h : j < p + k then HB.out j a h else by rw [show j = p + k by omega, he]; exact HT.out k hlt
          clear he
          go_wp2_with fail
          go_quiet (fail)
          go_wp2_with fail
          go_roundw
          case rel => exact ⟨k + 1, by go_num, by omega, HB2, HQ.out.drewN nq⟩
          case measure => simp [intOf]; omega
        · have hb : (f (p + k) != (s[k].toNat : Int)) = true := by simp [he]
          clear he
          go_wp2_with fail
          go_quiet (fail)
          go_wp2_with fail
          go_ret2
          exact ⟨EndPost.no _, HQ.out.drewN nq⟩
      · have HT2 : Hid (Tok f n p (p + s.size)) := ⟨by omega, hlen, fun j a b => HB.out j a (by omega)⟩
        go_wp2_with fail
        go_ret2
        exact ⟨⟨p + s.size, true, fun _ => HT2, by go_num⟩, HQ⟩
  · go_enter Trym.func22, Trym.ntmps22
    go_wp2_with fail
    go_ret2
    exact ⟨EndPost.no _, Qt.refl w⟩

end Go.Proofs.Qxb6602712aMods

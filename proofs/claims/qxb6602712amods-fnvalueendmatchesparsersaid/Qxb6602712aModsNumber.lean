/-
  The walk of NumberEnd.
-/
import Derived.Test.Qxb6602712aModsSpaces
import Derived.Deep.DeepCutAuto
namespace Go.Proofs.Qxb6602712aMods
open Go.RowKit

/-- From 'p' on to 'q' all bytes are a number's or a word's. -/
def Tcs (f : Nat → Int) (n p q : Nat) : Prop := p ≤ q ∧ q ≤ n ∧ ∀ j, p ≤ j → j < q → Tc (f j)

theorem Tcs.refl (f : Nat → Int) (n p : Nat) (h : p ≤ n) : Tcs f n p p := ⟨Nat.le_refl _, h, fun j a b => by omega⟩
theorem Tcs.one {f : Nat → Int} {n p q : Nat} (h : Tcs f n p q) (hq : q < n) (hc : Tc (f q)) : Tcs f n p (q + 1) := by
  obtain ⟨a, b, c⟩ := h
  exact ⟨by omega, by omega, fun j x y => if hj : j < q then c j x hj else by rw [show j = q by omega]; exact hc⟩
theorem Tc.digit {c : Int} (h : 48 ≤ c ∧ c ≤ 57) : Tc c := by unfold Tc Pl Sp; omega
theorem Tcs.digits {f : Nat → Int} {n p q r : Nat} (h : Tcs f n p q) (hd : q ≤ r ∧ r ≤ n ∧ ∀ j, q ≤ j → j < r → 48 ≤ f j ∧ f j ≤ 57) : Tcs f n p r := by
  obtain ⟨a, b, c⟩ := h
  obtain ⟨d, e, g⟩ := hd
  exact ⟨by omega, e, fun j x y => if hj : j < q then c j x hj else Tc.digit (g j (by omega) y)⟩

/-- There is a byte at 'q', and it is 'u' or 'v'. -/
def isAt (f : Nat → Int) (n q : Nat) (u v : Int) : Bool := decide (q < n ∧ (f q = u ∨ f q = v))

theorem isAt_yes {f : Nat → Int} {n q : Nat} {u v : Int} (h : isAt f n q u v = true) : q < n ∧ (f q = u ∨ f q = v) := by simpa [isAt] using h

/-- Of a byte 'c' that is one of a number's signs. -/
theorem Tcs.sign {f : Nat → Int} {n p q : Nat} {u v : Int} (h : Tcs f n p q) (ha : isAt f n q u v = true) (hu : Tc u) (hv : Tc v) : Tcs f n p (q + 1) := by
  obtain ⟨h1, h2⟩ := isAt_yes ha
  refine h.one h1 ?_
  rcases h2 with h2 | h2 <;> rw [h2] <;> assumption

theorem tc45 : Tc 45 := by unfold Tc Pl Sp; omega
theorem tc43 : Tc 43 := by unfold Tc Pl Sp; omega
theorem tc46 : Tc 46 := by unfold Tc Pl Sp; omega
theorem tc48 : Tc 48 := by unfold Tc Pl Sp; omega
theorem tc69 : Tc 69 := by unfold Tc Pl Sp; omega
theorem tc101 : Tc 101 := by unfold Tc Pl Sp; omega

set_option maxHeartbeats 1000000 in
set_option maxRecDepth 100000 in
theorem number_any (b o n c p : Nat) (f : Nat → Int) (w : World) (hp : p < n) (hn : n ≤ 1048576) (hD : Dt w b o n f) :
    Calls Trym.prog 23 #[.slice (some ⟨b, o, none⟩) n c, .int .i64 p] w fun e w' => EndPost (Tok f n p) e ∧ w = w' := by
  have HD : Hid (Dt w b o n f) := hD
  clear hD
  go_enter Trym.func23, Trym.ntmps23
  go_upto_region 3 with fail
  go_cut [22] (fun tv wx => wx = w ∧ tv = .bool (isAt f n p 45 45))
  case first =>
    have hcq := HD.out p hp
    by_cases h : f p = 45
    · have hb : (f p == 45) = true := by simp [h]
      have HT : Hid (isAt f n p 45 45 = true) := by show _ = _; simp [isAt, hp, h]
      clear h
      go_wp2_with fail
      go_meet
      case rel => exact ⟨rfl, by rw [HT.out]⟩
    · have hb : (f p == 45) = false := by simp [h]
      have HT : Hid (isAt f n p 45 45 = false) := by show _ = _; simp [isAt, h]
      clear h
      go_wp2_with fail
      go_meet
      case rel => exact ⟨rfl, by rw [HT.out]⟩
  case rest =>
  obtain ⟨hwc, rfl⟩ := hcut
  subst hwc
  go_upto_if 22 with fail
  go_cut [7] (fun qv wx => wx = wc ∧ ∃ q : Nat, qv = .int .i64 q ∧ q ≤ n ∧ Hid (Tcs f n p q))
  case first =>
    cases hb : isAt f n p 45 45
    · go_wp2_with fail
      go_meet
      case rel => exact ⟨rfl, p, rfl, by omega, Tcs.refl f n p (by omega)⟩
    · have HT : Hid (Tcs f n p (p + 1)) := (Tcs.refl f n p (by omega)).sign hb tc45 tc45
      go_wp2_with fail
      go_meet
      case rel => exact ⟨rfl, p + 1, by go_num, by omega, HT⟩
  case rest =>
  obtain ⟨hwc, q, rfl, hq, HT⟩ := hcut
  subst hwc
  by_cases hqn : q < n
  rotate_left
  · go_wp2_with fail
    go_ret2
    exact ⟨EndPost.no _, rfl⟩
  go_upto_region 7 with fail
  go_cut [32] (fun tv wx => wx = wc ∧ tv = .bool (isAt f n q 48 48))
  case first =>
    have hcq := HD.out q hqn
    by_cases h : f q = 48
    · have hb : (f q == 48) = true := by simp [h]
      have HT2 : Hid (isAt f n q 48 48 = true) := by show _ = _; simp [isAt, hqn, h]
      clear h
      go_wp2_with fail
      go_meet
      case rel => exact ⟨rfl, by rw [HT2.out]⟩
    · have hb : (f q == 48) = false := by simp [h]
      have HT2 : Hid (isAt f n q 48 48 = false) := by show _ = _; simp [isAt, h]
      clear h
      go_wp2_with fail
      go_meet
      case rel => exact ⟨rfl, by rw [HT2.out]⟩
  case rest =>
  obtain ⟨hwc, rfl⟩ := hcut
  subst hwc
  go_upto_if 32 with fail
  go_cut [7] (fun qv wx => wx = wc ∧ ∃ q : Nat, qv = .int .i64 q ∧ q ≤ n ∧ p < q ∧ Hid (Tcs f n p q))
  case first =>
    have hpq := HT.out.1
    have hcq := HD.out q hqn
    cases hb : isAt f n q 48 48
    · by_cases h1 : 49 ≤ f q
      · by_cases h2 : f q ≤ 57
        · have HT2 : Hid (Tcs f n p (q + 1)) := HT.out.one hqn (Tc.digit (by omega))
          go_wp2_with fail
          refine (digits_any _ _ _ _ (q + 1) _ f _ (by omega) (by omega) hn HD.out).mono ?_
          rintro e w' ⟨⟨r, hr, rfl⟩, rfl⟩
          have HT3 : Hid (Tcs f n p r) := HT2.out.digits hr
          have hr1 := hr.1
          have hr2 := hr.2.1
          clear hr
          go_wp2_with fail
          go_meet
          case rel => exact ⟨rfl, r, rfl, hr2, by omega, HT3⟩
        · go_wp2_with fail
          go_ret2
          exact ⟨EndPost.no _, rfl⟩
      · go_wp2_with fail
        go_ret2
        exact ⟨EndPost.no _, rfl⟩
    · have HT2 : Hid (Tcs f n p (q + 1)) := HT.out.sign hb tc48 tc48
      go_wp2_with fail
      go_meet
      case rel => exact ⟨rfl, q + 1, by go_num, by omega, by omega, HT2⟩
  case rest =>
  clear HT hqn
  obtain ⟨hwc, q, rfl, hq, hpq, HT⟩ := hcut
  subst hwc
  go_upto_region 12 with fail
  go_cut [60] (fun tv wx => wx = wc ∧ tv = .bool (isAt f n q 46 46))
  case first =>
    by_cases hqn : q < n
    · have hcq := HD.out q hqn
      by_cases h : f q = 46
      · have hb : (f q == 46) = true := by simp [h]
        have HT2 : Hid (isAt f n q 46 46 = true) := by show _ = _; simp [isAt, hqn, h]
        clear h
        go_wp2_with fail
        go_meet
        case rel => exact ⟨rfl, by rw [HT2.out]⟩
      · have hb : (f q == 46) = false := by simp [h]
        have HT2 : Hid (isAt f n q 46 46 = false) := by show _ = _; simp [isAt, h]
        clear h
        go_wp2_with fail
        go_meet
        case rel => exact ⟨rfl, by rw [HT2.out]⟩
    · have HT2 : Hid (isAt f n q 46 46 = false) := by show _ = _; simp [isAt, hqn]
      go_wp2_with fail
      go_meet
      case rel => exact ⟨rfl, by rw [HT2.out]⟩
  case rest =>
  obtain ⟨hwc, rfl⟩ := hcut
  subst hwc
  go_upto_if 60 with fail
  go_cut [7, 8] (fun qv _ wx => wx = wc ∧ ∃ q : Nat, qv = .int .i64 q ∧ q ≤ n ∧ p < q ∧ Hid (Tcs f n p q))
  case first =>
    cases hb : isAt f n q 46 46
    · go_wp2_with fail
      go_meet
      case rel => exact ⟨rfl, q, rfl, hq, hpq, HT⟩
    · have hqn := (isAt_yes hb).1
      have HT2 : Hid (Tcs f n p (q + 1)) := HT.out.sign hb tc46 tc46
      go_wp2_with fail
      refine (digits_any _ _ _ _ (q + 1) _ f _ (by omega) (by omega) hn HD.out).mono ?_
      rintro e w' ⟨⟨r, hr, rfl⟩, rfl⟩
      have HT3 : Hid (Tcs f n p r) := HT2.out.digits hr
      have hr1 := hr.1
      have hr2 := hr.2.1
      clear hr
      by_cases he : r = q + 1
      · have hb2 : ((r : Int) == (q : Int) + 1) = true := by simp; omega
        clear he
        go_wp2_with fail
        go_ret2
        exact ⟨EndPost.no _, rfl⟩
      · have hb2 : ((r : Int) == (q : Int) + 1) = false := by simp; omega
        clear he
        go_wp2_with fail
        go_meet
        case rel => exact ⟨rfl, r, rfl, hr2, by omega, HT3⟩
  case rest =>
  clear HT
  clear hpq hq
  obtain ⟨hwc, q, rfl, hq, hpq, HT⟩ := hcut
  subst hwc
  go_upto_region 17 with fail
  go_cut [85] (fun tv wx => wx = wc ∧ tv = .bool (isAt f n q 101 69))
  case first =>
    by_cases hqn : q < n
    · have hcq := HD.out q hqn
      by_cases h : f q = 101
      · have hb : (f q == 101) = true := by simp [h]
        have HT2 : Hid (isAt f n q 101 69 = true) := by show _ = _; simp [isAt, hqn, h]
        clear h
        go_wp2_with fail
        go_meet
        case rel => exact ⟨rfl, by rw [HT2.out]⟩
      · have hb : (f q == 101) = false := by simp [h]
        by_cases h2 : f q = 69
        · have hb2 : (f q == 69) = true := by simp [h2]
          have HT2 : Hid (isAt f n q 101 69 = true) := by show _ = _; simp [isAt, hqn, h2]
          clear h h2
          go_wp2_with fail
          go_meet
          case rel => exact ⟨rfl, by rw [HT2.out]⟩
        · have hb2 : (f q == 69) = false := by simp [h2]
          have HT2 : Hid (isAt f n q 101 69 = false) := by show _ = _; simp [isAt, h, h2]
          clear h h2
          go_wp2_with fail
          go_meet
          case rel => exact ⟨rfl, by rw [HT2.out]⟩
    · have HT2 : Hid (isAt f n q 101 69 = false) := by show _ = _; simp [isAt, hqn]
      go_wp2_with fail
      go_meet
      case rel => exact ⟨rfl, by rw [HT2.out]⟩
  case rest =>
  obtain ⟨hwc, rfl⟩ := hcut
  subst hwc
  cases hb : isAt f n q 101 69
  · have HR : Hid (Tok f n p q) := ⟨hpq, hq, HT.out.2.2⟩
    go_wp2_with fail
    go_ret2
    exact ⟨⟨q, true, fun _ => HR, rfl⟩, rfl⟩
  have hqn := (isAt_yes hb).1
  have HT2 : Hid (Tcs f n p (q + 1)) := HT.out.sign hb tc101 tc69
  clear HT
  go_upto_region 19 with fail
  go_cut [104] (fun tv wx => wx = wc ∧ tv = .bool (isAt f n (q + 1) 43 45))
  case first =>
    by_cases hqn2 : q + 1 < n
    · have hcq := HD.out (q + 1) hqn2
      by_cases h : f (q + 1) = 43
      · have hb : (f (q + 1) == 43) = true := by simp [h]
        have HT3 : Hid (isAt f n (q + 1) 43 45 = true) := by show _ = _; simp [isAt, hqn2, h]
        clear h
        go_wp2_with fail
        go_meet
        case rel => exact ⟨rfl, by rw [HT3.out]⟩
      · have hb : (f (q + 1) == 43) = false := by simp [h]
        by_cases h2 : f (q + 1) = 45
        · have hb2 : (f (q + 1) == 45) = true := by simp [h2]
          have HT3 : Hid (isAt f n (q + 1) 43 45 = true) := by show _ = _; simp [isAt, hqn2, h2]
          clear h h2
          go_wp2_with fail
          go_meet
          case rel => exact ⟨rfl, by rw [HT3.out]⟩
        · have hb2 : (f (q + 1) == 45) = false := by simp [h2]
          have HT3 : Hid (isAt f n (q + 1) 43 45 = false) := by show _ = _; simp [isAt, h, h2]
          clear h h2
          go_wp2_with fail
          go_meet
          case rel => exact ⟨rfl, by rw [HT3.out]⟩
    · have HT3 : Hid (isAt f n (q + 1) 43 45 = false) := by show _ = _; simp [isAt, hqn2]
      go_wp2_with fail
      go_meet
      case rel => exact ⟨rfl, by rw [HT3.out]⟩
  case rest =>
  obtain ⟨hwc, rfl⟩ := hcut
  subst hwc
  go_upto_if 104 with fail
  go_cut [7] (fun qv wx => wx = wc ∧ ∃ q : Nat, qv = .int .i64 q ∧ q ≤ n ∧ p < q ∧ Hid (Tcs f n p q))
  case first =>
    cases hb2 : isAt f n (q + 1) 43 45
    · go_wp2_with fail
      go_meet
      case rel => exact ⟨rfl, q + 1, by go_num, by omega, by omega, HT2⟩
    · have hq2 := (isAt_yes hb2).1
      have HT3 : Hid (Tcs f n p (q + 1 + 1)) := HT2.out.sign hb2 tc43 tc45
      go_wp2_with fail
      go_meet
      case rel => exact ⟨rfl, q + 1 + 1, by go_num, by omega, by omega, HT3⟩
  case rest =>
  clear HT2 hqn
  clear hpq hq
  obtain ⟨hwc, q, rfl, hq, hpq, HT⟩ := hcut
  subst hwc
  go_wp2_with fail
  refine (digits_any _ _ _ _ q _ f _ rfl (by omega) hn HD.out).mono ?_
  rintro e w' ⟨⟨r, hr, rfl⟩, rfl⟩
  have HT3 : Hid (Tcs f n p r) := HT.out.digits hr
  have hr1 := hr.1
  have hr2 := hr.2.1
  clear hr
  by_cases he : r = q
  · have hb2 : ((r : Int) == (q : Int)) = true := by simp; omega
    clear he
    go_wp2_with fail
    go_ret2
    exact ⟨EndPost.no _, rfl⟩
  · have hb2 : ((r : Int) == (q : Int)) = false := by simp; omega
    have HR : Hid (Tok f n p r) := ⟨by omega, hr2, HT3.out.2.2⟩
    clear he
    go_wp2_with fail
    go_ret2
    exact ⟨⟨r, true, fun _ => HR, rfl⟩, rfl⟩

end Go.Proofs.Qxb6602712aMods

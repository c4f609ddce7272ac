/-
  Plain facts: the lines of a body of bytes, and those that begin with a prefix. No Go here.
-/
import Derived.Test.Qxb6602847aModsPieces
import Derived.RowKit
namespace Go.Proofs.Qxb6602847aMods
open Go.RowKit

/-- A line starts at place i. -/
def S (f : Nat → Int) (i : Nat) : Bool := decide (i = 0 ∨ f (i - 1) = 10)

/-- What stands from place i on, of 'n' bytes, begins with the 'm' bytes of 'g'. -/
def Pre (f : Nat → Int) (n : Nat) (g : Nat → Int) (m i : Nat) : Bool := decide (i + m ≤ n ∧ ∀ j, j < m → f (i + j) = g j)

/-- A line starts at place i that begins with the prefix. -/
def M (f : Nat → Int) (n : Nat) (g : Nat → Int) (m i : Nat) : Bool := S f i && Pre f n g m i

/-- How many places below k 'b' holds of. -/
def cnt (b : Nat → Bool) : Nat → Nat
  | 0 => 0
  | k + 1 => cnt b k + if b k = true then 1 else 0

theorem cnt_le (b : Nat → Bool) : ∀ k, cnt b k ≤ k
  | 0 => Nat.le_refl _
  | k + 1 => by have := cnt_le b k; unfold cnt; split <;> omega

theorem cnt_add (b : Nat → Bool) (k : Nat) : ∀ d, cnt b k ≤ cnt b (k + d)
  | 0 => Nat.le_refl _
  | d + 1 => by
    have := cnt_add b k d
    have e : cnt b (k + (d + 1)) = cnt b (k + d) + if b (k + d) = true then 1 else 0 := rfl
    omega

theorem cnt_mono (b : Nat → Bool) {i j : Nat} (h : i ≤ j) : cnt b i ≤ cnt b j := by
  have := cnt_add b i (j - i)
  rwa [show i + (j - i) = j by omega] at this

theorem cnt_succ_yes {b : Nat → Bool} {i : Nat} (h : b i = true) : cnt b (i + 1) = cnt b i + 1 := by simp [cnt, h]
theorem cnt_succ_no {b : Nat → Bool} {i : Nat} (h : b i = false) : cnt b (i + 1) = cnt b i := by simp [cnt, h]

theorem cnt_lt {b : Nat → Bool} {i j : Nat} (h : b i = true) (hij : i < j) : cnt b i < cnt b j := by
  have h1 := cnt_succ_yes h
  have h2 := cnt_mono b (show i + 1 ≤ j by omega)
  omega

theorem cnt_inj {b : Nat → Bool} {i j : Nat} (hi : b i = true) (hj : b j = true) (h : cnt b i = cnt b j) : i = j := by
  by_cases h1 : i < j
  · have := cnt_lt hi h1; omega
  · by_cases h2 : j < i
    · have := cnt_lt hj h2; omega
    · omega

/-- Each number below the count is met. -/
theorem cnt_hit (b : Nat → Bool) : ∀ k v, v < cnt b k → ∃ i, i < k ∧ b i = true ∧ cnt b i = v
  | 0, v, h => by simp [cnt] at h
  | k + 1, v, h => by
    by_cases hb : b k = true
    · rw [cnt_succ_yes hb] at h
      by_cases hv : v = cnt b k
      · exact ⟨k, by omega, hb, hv.symm⟩
      · obtain ⟨i, a, c, d⟩ := cnt_hit b k v (by omega)
        exact ⟨i, by omega, c, d⟩
    · rw [cnt_succ_no (by simpa using hb)] at h
      obtain ⟨i, a, c, d⟩ := cnt_hit b k v h
      exact ⟨i, by omega, c, d⟩

theorem cnt_none (b : Nat → Bool) (k : Nat) : ∀ d, (∀ j, k ≤ j → j < k + d → b j = false) → cnt b (k + d) = cnt b k
  | 0, _ => rfl
  | d + 1, h => by
    have ih := cnt_none b k d (fun j x y => h j x (by omega))
    have e : cnt b (k + (d + 1)) = cnt b (k + d) + if b (k + d) = true then 1 else 0 := rfl
    rw [e, ih, h (k + d) (by omega) (by omega)]
    simp

/-- What recordLine answers for 'v': the number of the line of the v-th match, or 1. -/
def RL (f : Nat → Int) (n : Nat) (g : Nat → Int) (m : Nat) (v r : Int) : Prop :=
  (∃ i, i < n ∧ M f n g m i = true ∧ (cnt (M f n g m) i : Int) = v ∧ r = (cnt (S f) (i + 1) : Int)) ∨
  ((∀ i, i < n → M f n g m i = true → (cnt (M f n g m) i : Int) ≠ v) ∧ r = 1)

theorem M.start {f : Nat → Int} {n : Nat} {g : Nat → Int} {m i : Nat} (h : M f n g m i = true) : S f i = true := by
  unfold M at h
  simp at h
  exact h.1

theorem RL.range {f : Nat → Int} {n : Nat} {g : Nat → Int} {m : Nat} {v r : Int} (h : RL f n g m v r) : 1 ≤ r ∧ (r ≤ 1 ∨ r ≤ (cnt (S f) n : Int)) := by
  rcases h with ⟨i, hi, hm, _, rfl⟩ | ⟨_, rfl⟩
  · have h1 := cnt_succ_yes (M.start hm)
    have h2 := cnt_mono (S f) (show i + 1 ≤ n by omega)
    omega
  · omega

/-- The later record lies further down. -/
theorem RL.later {f : Nat → Int} {n : Nat} {g : Nat → Int} {m : Nat} {v a b : Int} (ha : RL f n g m v a) (hb : RL f n g m (wrap64 (v + 1)) b) (hv : -9223372036854775808 ≤ v ∧ v ≤ 9223372036854775807) : b = 1 ∨ a < b := by
  rcases hb with ⟨j, hj, hm, hc, rfl⟩ | ⟨_, rfl⟩
  · have hv1 : (cnt (M f n g m) j : Int) = v + 1 := by
      rw [hc]
      have h0 : 0 ≤ wrap64 (v + 1) := by rw [← hc]; omega
      by_cases hmax : v = 9223372036854775807
      · rw [hmax] at h0
        exfalso
        revert h0
        unfold wrap64
        omega
      · unfold wrap64; omega
    have hsj := cnt_succ_yes (M.start hm)
    by_cases h0 : cnt (M f n g m) j = 0
    · have ha1 : a = 1 := by
        rcases ha with ⟨i, _, _, h, _⟩ | ⟨_, h⟩
        · omega
        · exact h
      omega
    · obtain ⟨i, hi, him, hic⟩ := cnt_hit (M f n g m) j (cnt (M f n g m) j - 1) (by omega)
      right
      rcases ha with ⟨i', hi', him', hic', rfl⟩ | ⟨hno, _⟩
      · have : i' = i := cnt_inj him' him (by omega)
        subst this
        have h1 := cnt_mono (S f) (show i' + 1 ≤ j by omega)
        omega
      · exact absurd (show (cnt (M f n g m) i : Int) = v by omega) (hno i (by omega) him)
  · exact Or.inl rfl

/-- The list of the lines' numbers agrees. -/
theorem RL.listed {f : Nat → Int} {n : Nat} {g : Nat → Int} {m : Nat} {v r : Int} (h : RL f n g m v r) (L : Nat → Int) (hL : ∀ i, i < n → M f n g m i = true → L (cnt (M f n g m) i) = (cnt (S f) (i + 1) : Int)) :
    (∀ k : Nat, v = k → k < cnt (M f n g m) n → r = L k) ∧ ((v < 0 ∨ (cnt (M f n g m) n : Int) ≤ v) → r = 1) := by
  rcases h with ⟨i, hi, hm, hc, rfl⟩ | ⟨hno, rfl⟩
  · refine ⟨fun k hk _ => ?_, fun hv => ?_⟩
    · rw [← hL i hi hm]
      congr 1
      omega
    · have := cnt_lt hm hi
      omega
  · refine ⟨fun k hk hlt => ?_, fun _ => rfl⟩
    obtain ⟨i, hi, hm, hc⟩ := cnt_hit (M f n g m) n k hlt
    exact absurd (show (cnt (M f n g m) i : Int) = v by omega) (hno i hi hm)

/-- The reader stands at the line start 'k'; no match ahead of it is the one that is looked for. -/
def AtL (f : Nat → Int) (n : Nat) (g : Nat → Int) (m : Nat) (v : Int) (k : Nat) : Prop :=
  S f k = true ∧ ∀ i, i < k → M f n g m i = true → (cnt (M f n g m) i : Int) ≠ v

theorem AtL.zero (f : Nat → Int) (n : Nat) (g : Nat → Int) (m : Nat) (v : Int) : AtL f n g m v 0 := ⟨by simp [S], fun i h => by omega⟩

/-- No line starts behind 'k' up to the newline at 'e'. -/
theorem S_between {f : Nat → Int} {k e : Nat} (h : ∀ j, k ≤ j → j < e → f j ≠ 10) : ∀ i, k < i → i ≤ e → S f i = false := fun i a b => by
  simp [S]
  exact ⟨by omega, h (i - 1) (by omega) (by omega)⟩

theorem M_between {f : Nat → Int} {n : Nat} {g : Nat → Int} {m k e : Nat} (h : ∀ j, k ≤ j → j < e → f j ≠ 10) : ∀ i, k < i → i ≤ e → M f n g m i = false := fun i a b => by
  unfold M
  rw [S_between h i a b]
  rfl

/-- On to the next line. -/
theorem AtL.next {f : Nat → Int} {n : Nat} {g : Nat → Int} {m k d : Nat} {v : Int} (h : AtL f n g m v k) (hk : M f n g m k = true → (cnt (M f n g m) k : Int) ≠ v) (hd : f (k + d) = 10) (hno : ∀ j, k ≤ j → j < k + d → f j ≠ 10) :
    AtL f n g m v (k + d + 1) ∧ cnt (S f) (k + d + 1) = cnt (S f) k + 1 ∧ cnt (M f n g m) (k + d + 1) = cnt (M f n g m) (k + 1) := by
  refine ⟨⟨by simp [S, hd], fun i hi hm => ?_⟩, ?_, ?_⟩
  · by_cases h1 : i < k
    · exact h.2 i h1 hm
    · by_cases h2 : i = k
      · subst h2; exact hk hm
      · rw [M_between hno i (by omega) (by omega)] at hm
        cases hm
  · have h1 := cnt_none (S f) (k + 1) d (fun j a b => S_between hno j (by omega) (by omega))
    rw [show k + d + 1 = k + 1 + d by omega, h1, cnt_succ_yes h.1]
  · have h1 := cnt_none (M f n g m) (k + 1) d (fun j a b => M_between hno j (by omega) (by omega))
    rw [show k + d + 1 = k + 1 + d by omega, h1]

/-- The last line has been looked at. -/
theorem AtL.last {f : Nat → Int} {n : Nat} {g : Nat → Int} {m k : Nat} {v : Int} (h : AtL f n g m v k) (hk : M f n g m k = true → (cnt (M f n g m) k : Int) ≠ v) (hno : ∀ j, k ≤ j → j < n → f j ≠ 10) : RL f n g m v 1 := by
  refine Or.inr ⟨fun i hi hm => ?_, rfl⟩
  by_cases h1 : i < k
  · exact h.2 i h1 hm
  · by_cases h2 : i = k
    · subst h2; exact hk hm
    · rw [M_between hno i (by omega) (by omega)] at hm
      cases hm

theorem AtL.over {f : Nat → Int} {n : Nat} {g : Nat → Int} {m k : Nat} {v : Int} (h : AtL f n g m v k) (hk : n ≤ k) : RL f n g m v 1 :=
  Or.inr ⟨fun i hi hm => h.2 i (by omega) hm, rfl⟩

/-- The number that is counted down is 0 just where the match is the one that is looked for. -/
theorem down_zero (v : Int) (c : Nat) (hv : -9223372036854775808 ≤ v ∧ v ≤ 9223372036854775807) (hc : c ≤ 4194304) : wrap64 (v - c) = 0 ↔ (c : Int) = v := by
  unfold wrap64; omega

theorem down_one (v : Int) (c : Nat) : wrap64 (wrap64 (v - c) - 1) = wrap64 (v - ((c + 1 : Nat) : Int)) := by
  unfold wrap64; omega

theorem down_start (v : Int) (hv : -9223372036854775808 ≤ v ∧ v ≤ 9223372036854775807) : v = wrap64 (v - ((0 : Nat) : Int)) := by
  unfold wrap64; omega

end Go.Proofs.Qxb6602847aMods

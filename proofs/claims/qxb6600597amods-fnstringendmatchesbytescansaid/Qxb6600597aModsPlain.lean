/-
  Plain facts on bytes told by a function 'f' of the place: where a JSON string ends. No Go here.
-/
import Derived.Lib.BytesEntry
import Derived.Lib.IndexLaws
namespace Go.Proofs.Qxb6600597aMods

/-- 'r' is the first place below 'n' at which 'f' is 'c', or -1 where there is none. -/
def IB (f : Nat → Int) (c : Int) (n : Nat) (r : Int) : Prop :=
  (r = -1 ∧ ∀ i, i < n → f i ≠ c) ∨ ∃ k : Nat, k < n ∧ r = k ∧ f k = c ∧ ∀ j, j < k → f j ≠ c

theorem toU8_inj {a b : Int} (ha : 0 ≤ a ∧ a ≤ 255) (hb : 0 ≤ b ∧ b ≤ 255) (h : UInt8.ofNat a.toNat = UInt8.ofNat b.toNat) : a = b := by
  have := congrArg UInt8.toNat h
  simp at this
  omega

theorem ib_of (f : Nat → Int) (c : Int) (n : Nat) (hf : ∀ i, i < n → 0 ≤ f i ∧ f i ≤ 255) (hc : 0 ≤ c ∧ c ≤ 255) :
    IB f c n (Lib.indexByte (Lib.bytesOf ((List.range n).map f)) c.toNat.toUInt8) := by
  generalize hr : Lib.indexByte (Lib.bytesOf ((List.range n).map f)) c.toNat.toUInt8 = r
  have hge : -1 ≤ r := by rw [← hr]; exact Lib.indexByte_ge _ _
  by_cases h1 : r = -1
  · subst h1
    refine Or.inl ⟨rfl, fun i hi he => ?_⟩
    have := Lib.indexByte_none hr i
    apply this
    simp [Lib.bytesOf, hi, he]
  · obtain ⟨k, rfl⟩ := Int.eq_ofNat_of_zero_le (show 0 ≤ r by omega)
    obtain ⟨h2, h3⟩ := Lib.indexByte_some hr
    have hk : k < n := by
      have := (List.getElem?_eq_some_iff.1 h2).1
      simpa [Lib.bytesOf] using this
    refine Or.inr ⟨k, hk, rfl, ?_, fun j hj he => ?_⟩
    · simp [Lib.bytesOf, hk] at h2
      exact toU8_inj (hf k hk) hc h2
    · have := h3 j hj
      apply this
      simp [Lib.bytesOf, show j < n by omega, he]

theorem IB.shift {f : Nat → Int} {c : Int} {k m : Nat} {r : Int} (h : IB (fun i => f (k + i)) c m r) :
    (r = -1 ∧ ∀ j, k ≤ j → j < k + m → f j ≠ c) ∨ ∃ d : Nat, d < m ∧ r = d ∧ f (k + d) = c ∧ ∀ j, k ≤ j → j < k + d → f j ≠ c := by
  rcases h with ⟨h1, h2⟩ | ⟨d, h1, h2, h3, h4⟩
  · refine Or.inl ⟨h1, fun j a b => ?_⟩
    have : f (k + (j - k)) ≠ c := h2 (j - k) (by omega)
    rwa [show k + (j - k) = j by omega] at this
  · refine Or.inr ⟨d, h1, h2, h3, fun j a b => ?_⟩
    have : f (k + (j - k)) ≠ c := h4 (j - k) (by omega)
    rwa [show k + (j - k) = j by omega] at this

/-- Place 's + k' begins a unit: it is no byte that a backslash ahead of it escapes. -/
def tk (f : Nat → Int) (s : Nat) : Nat → Bool
  | 0 => true
  | k + 1 => !(tk f s k && f (s + k) == 92)

/-- The scan from 's' stands at 'i', a unit's begin, and has met no quote that begins a unit. -/
def At (f : Nat → Int) (s i : Nat) : Prop := s ≤ i ∧ tk f s (i - s) = true ∧ ∀ j, s ≤ j → j < i → tk f s (j - s) = true → f j ≠ 34

theorem At.start (f : Nat → Int) (s : Nat) : At f s s := ⟨Nat.le_refl _, by simp [tk], fun j h1 h2 => by omega⟩

theorem tk_succ (f : Nat → Int) (s i : Nat) (h : s ≤ i) : tk f s (i + 1 - s) = !(tk f s (i - s) && f i == 92) := by
  obtain ⟨k, rfl⟩ := Nat.exists_eq_add_of_le h
  rw [show s + k + 1 - s = k + 1 by omega, show s + k - s = k by omega]
  rfl

theorem At.esc {f : Nat → Int} {s i : Nat} (h : At f s i) (he : f i = 92) : At f s (i + 2) := by
  obtain ⟨h1, h2, h3⟩ := h
  have e1 : tk f s (i + 1 - s) = false := by rw [tk_succ f s i h1, h2, he]; rfl
  have e2 : tk f s (i + 2 - s) = true := by rw [show i + 2 = i + 1 + 1 by omega, tk_succ f s (i + 1) (by omega), e1]; rfl
  refine ⟨by omega, e2, fun j a b c => ?_⟩
  by_cases hj : j < i
  · exact h3 j a hj c
  · by_cases hj2 : j = i
    · subst hj2; omega
    · obtain rfl : j = i + 1 := by omega
      rw [e1] at c; cases c

theorem At.step {f : Nat → Int} {s i : Nat} (h : At f s i) (he : f i ≠ 92) (hq : f i ≠ 34) : At f s (i + 1) := by
  obtain ⟨h1, h2, h3⟩ := h
  have e1 : tk f s (i + 1 - s) = true := by rw [tk_succ f s i h1, h2]; simp [he]
  refine ⟨by omega, e1, fun j a b c => ?_⟩
  by_cases hj : j < i
  · exact h3 j a hj c
  · obtain rfl : j = i := by omega
    exact hq

theorem At.run {f : Nat → Int} {s i : Nat} (h : At f s i) : ∀ d, (∀ j, i ≤ j → j < i + d → f j ≠ 92 ∧ f j ≠ 34) → At f s (i + d)
  | 0, _ => h
  | d + 1, hd => by
    have ih := At.run h d (fun j a b => hd j a (by omega))
    have := hd (i + d) (by omega) (by omega)
    exact ih.step this.1 this.2

/-- What is answered of the string whose bytes begin at 's': past the first quote that begins a unit, and true; or 'n', and false. -/
def Ends (f : Nat → Int) (n s : Nat) (r : Int) (ok : Bool) : Prop :=
  (∃ j : Nat, j < n ∧ At f s j ∧ f j = 34 ∧ r = (j : Int) + 1 ∧ ok = true) ∨ ((∀ j, s ≤ j → j < n → tk f s (j - s) = true → f j ≠ 34) ∧ r = n ∧ ok = false)

theorem Ends.unique {f : Nat → Int} {n s : Nat} {r r' : Int} {ok ok' : Bool} (h : Ends f n s r ok) (h' : Ends f n s r' ok') : r = r' ∧ ok = ok' := by
  rcases h with ⟨j, hj, ha, hq, rfl, rfl⟩ | ⟨hn, rfl, rfl⟩
  · rcases h' with ⟨j', hj', ha', hq', rfl, rfl⟩ | ⟨hn', rfl, rfl⟩
    · refine ⟨?_, rfl⟩
      by_cases h1 : j < j'
      · exact absurd hq (ha'.2.2 j ha.1 h1 ha.2.1)
      · by_cases h2 : j' < j
        · exact absurd hq' (ha.2.2 j' ha'.1 h2 ha'.2.1)
        · omega
    · exact absurd hq (hn' j ha.1 hj ha.2.1)
  · rcases h' with ⟨j', hj', ha', hq', rfl, rfl⟩ | ⟨hn', rfl, rfl⟩
    · exact absurd hq' (hn j' ha'.1 hj' ha'.2.1)
    · exact ⟨rfl, rfl⟩

/-- The scan is past the end: no quote. -/
theorem Ends.past {f : Nat → Int} {n s i : Nat} (h : At f s i) (hi : n ≤ i) : Ends f n s n false :=
  Or.inr ⟨fun j a b c => h.2.2 j a (by omega) c, rfl, rfl⟩

/-- No quote from 'i' on. -/
theorem Ends.none {f : Nat → Int} {n s i : Nat} (h : At f s i) (hi : ∀ j, i ≤ j → j < n → f j ≠ 34) : Ends f n s n false :=
  Or.inr ⟨fun j a b c => if hj : j < i then h.2.2 j a hj c else hi j (by omega) b, rfl, rfl⟩

theorem Ends.hit {f : Nat → Int} {n s i : Nat} (h : At f s i) (hi : i < n) (hq : f i = 34) : Ends f n s ((i : Int) + 1) true :=
  Or.inl ⟨i, hi, h, hq, rfl, rfl⟩

end Go.Proofs.Qxb6600597aMods

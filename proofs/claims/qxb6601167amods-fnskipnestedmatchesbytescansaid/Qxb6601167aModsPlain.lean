/-
  Plain facts on bytes told by a function 'f' of the place: a scan of nested JSON. No Go here.
-/
import Derived.Lib.BytesEntry
import Derived.Lib.IndexLaws
import Derived.RowKit
namespace Go.Proofs.Qxb6601167aMods
open Go.RowKit

/-- 'r' is the first place below 'n' at which 'f' is 'c', or -1 where there is none. -/
def IB (f : Nat → Int) (c : Int) (n : Nat) (r : Int) : Prop :=
  (r = -1 ∧ ∀ i, i < n → f i ≠ c) ∨ ∃ k : Nat, k < n ∧ r = k ∧ f k = c ∧ ∀ j, j < k → f j ≠ c

theorem toU8_inj {a b : Int} (ha : 0 ≤ a ∧ a ≤ 255) (hb : 0 ≤ b ∧ b ≤ 255) (h : UInt8.ofNat a.toNat = UInt8.ofNat b.toNat) : a = b := by
  have := congrArg UInt8.toNat h
  simp at this
  omega

theorem ib_of (f : Nat → Int) (c : Int) (n : Nat) (hf : ∀ i, i < n → 0 ≤ f i ∧ f i ≤ 255) (hc : 0 ≤ c ∧ c ≤ 255) :
    IB f c n (Lib.indexByte (Lib.bytesOf ((List.range n).map f)) c.toNat.toUInt8) := by
  generalize hr : Lib.indexByte (Lib.bytesOf ((List.range n).map f)) c.toNat.toUInt8 = r
  have hge : -1 ≤ r := by rw [← hr]; exact Lib.indexByte_ge _ _
  by_cases h1 : r = -1
  · subst h1
    refine Or.inl ⟨rfl, fun i hi he => ?_⟩
    have := Lib.indexByte_none hr i
    apply this
    simp [Lib.bytesOf, hi, he]
  · obtain ⟨k, rfl⟩ := Int.eq_ofNat_of_zero_le (show 0 ≤ r by omega)
    obtain ⟨h2, h3⟩ := Lib.indexByte_some hr
    have hk : k < n := by
      have := (List.getElem?_eq_some_iff.1 h2).1
      simpa [Lib.bytesOf] using this
    refine Or.inr ⟨k, hk, rfl, ?_, fun j hj he => ?_⟩
    · simp [Lib.bytesOf, hk] at h2
      exact toU8_inj (hf k hk) hc h2
    · have := h3 j hj
      apply this
      simp [Lib.bytesOf, show j < n by omega, he]

theorem IB.shift {f : Nat → Int} {c : Int} {k m : Nat} {r : Int} (h : IB (fun i => f (k + i)) c m r) :
    (r = -1 ∧ ∀ j, k ≤ j → j < k + m → f j ≠ c) ∨ ∃ d : Nat, d < m ∧ r = d ∧ f (k + d) = c ∧ ∀ j, k ≤ j → j < k + d → f j ≠ c := by
  rcases h with ⟨h1, h2⟩ | ⟨d, h1, h2, h3, h4⟩
  · refine Or.inl ⟨h1, fun j a b => ?_⟩
    have : f (k + (j - k)) ≠ c := h2 (j - k) (by omega)
    rwa [show k + (j - k) = j by omega] at this
  · refine Or.inr ⟨d, h1, h2, h3, fun j a b => ?_⟩
    have : f (k + (j - k)) ≠ c := h4 (j - k) (by omega)
    rwa [show k + (j - k) = j by omega] at this

/-- Whether the byte at place k is escaped, where 'e' says it of place 0, inside a string. -/
def se (f : Nat → Int) (e : Bool) : Nat → Bool
  | 0 => e
  | k + 1 => !(se f e k) && f k == 92

/-- What a scan of a string's piece of 'n' bytes answers: the place of the closing quote and no escape, or -1 and the escape that is left. -/
def SE (f : Nat → Int) (n : Nat) (e : Bool) (r : Int) (e' : Bool) : Prop :=
  (r = -1 ∧ (∀ j, j < n → se f e j = false → f j ≠ 34) ∧ e' = se f e n) ∨
  ∃ j : Nat, j < n ∧ r = j ∧ se f e j = false ∧ f j = 34 ∧ (∀ i, i < j → se f e i = false → f i ≠ 34) ∧ e' = false

/-- The scan stands at 'i', a unit's begin; no quote has closed the string. -/
def At (f : Nat → Int) (e : Bool) (i : Nat) : Prop := se f e i = false ∧ ∀ j, j < i → se f e j = false → f j ≠ 34

theorem At.zero (f : Nat → Int) : At f false 0 := ⟨rfl, fun j h => by omega⟩
theorem At.one (f : Nat → Int) : At f true 1 := ⟨by simp [se], fun j h h1 => by
  obtain rfl : j = 0 := by omega
  simp [se] at h1⟩

theorem At.step {f : Nat → Int} {e : Bool} {i : Nat} (h : At f e i) (he : f i ≠ 92) (hq : f i ≠ 34) : At f e (i + 1) := by
  obtain ⟨h1, h2⟩ := h
  refine ⟨by simp [se, he], fun j a b => ?_⟩
  by_cases hj : j < i
  · exact h2 j hj b
  · obtain rfl : j = i := by omega
    exact hq

theorem At.run {f : Nat → Int} {e : Bool} {i : Nat} (h : At f e i) : ∀ d, (∀ j, i ≤ j → j < i + d → f j ≠ 92 ∧ f j ≠ 34) → At f e (i + d)
  | 0, _ => h
  | d + 1, hd => by
    have ih := At.run h d (fun j a b => hd j a (by omega))
    have := hd (i + d) (by omega) (by omega)
    exact ih.step this.1 this.2

theorem At.esc1 {f : Nat → Int} {e : Bool} {i : Nat} (h : At f e i) (he : f i = 92) : se f e (i + 1) = true := by
  simp [se, h.1, he]

theorem At.esc {f : Nat → Int} {e : Bool} {i : Nat} (h : At f e i) (he : f i = 92) : At f e (i + 2) := by
  have h1 := h.esc1 he
  refine ⟨?_, fun j a b => ?_⟩
  · show (!(se f e (i + 1)) && f (i + 1) == 92) = false
    rw [h1]; rfl
  · by_cases hj : j < i
    · exact h.2 j hj b
    · by_cases hj2 : j = i
      · subst hj2; omega
      · obtain rfl : j = i + 1 := by omega
        rw [h1] at b; cases b

/-- The piece's end is reached at a unit's begin. -/
theorem SE.over {f : Nat → Int} {n : Nat} {e : Bool} (h : At f e n) : SE f n e (-1) false :=
  Or.inl ⟨rfl, h.2, h.1.symm⟩

/-- The piece's last byte is a backslash that begins a unit. -/
theorem SE.cut {f : Nat → Int} {n i : Nat} {e : Bool} (h : At f e i) (he : f i = 92) (hn : n = i + 1) : SE f n e (-1) true := by
  subst hn
  refine Or.inl ⟨rfl, fun j a b => ?_, (h.esc1 he).symm⟩
  by_cases hj : j < i
  · exact h.2 j hj b
  · obtain rfl : j = i := by omega
    omega

theorem SE.hit {f : Nat → Int} {n i : Nat} {e : Bool} (h : At f e i) (hi : i < n) (hq : f i = 34) : SE f n e i false :=
  Or.inr ⟨i, hi, rfl, h.1, hq, h.2, rfl⟩

/-- No byte at all: the escape stays. -/
theorem SE.empty (f : Nat → Int) (e : Bool) : SE f 0 e (-1) e := Or.inl ⟨rfl, fun j h => by omega, rfl⟩

/-- The state of the scan: in a string; escaped; how deep. -/
structure S where
  s : Bool
  e : Bool
  d : Int

/-- One byte. -/
def stp (c : Int) (q : S) : S :=
  if q.s = true then
    if q.e = true then { q with e := false }
    else if c = 92 then { q with e := true }
    else if c = 34 then { q with s := false }
    else q
  else if c = 34 then { q with s := true }
  else if c = 123 ∨ c = 91 then { q with d := wrap64 (q.d + 1) }
  else if c = 125 ∨ c = 93 then { q with d := wrap64 (q.d - 1) }
  else q

/-- This byte ends the value. -/
def fin (c : Int) (q : S) : Prop := q.s = false ∧ (c = 125 ∨ c = 93) ∧ wrap64 (q.d - 1) = 0

/-- The state ahead of byte k. -/
def stt (f : Nat → Int) (q : S) : Nat → S
  | 0 => q
  | k + 1 => stp (f k) (stt f q k)

/-- No byte below 'n' ends the value. -/
def Open (f : Nat → Int) (q : S) (n : Nat) : Prop := ∀ j, j < n → ¬ fin (f j) (stt f q j)

/-- What the scan of 'n' bytes answers. -/
def Res (f : Nat → Int) (n : Nat) (q : S) (r : Int) (ok : Bool) (q' : S) : Prop :=
  (∃ j : Nat, j < n ∧ Open f q j ∧ fin (f j) (stt f q j) ∧ r = (j : Int) + 1 ∧ ok = true ∧ q' = stt f q (j + 1)) ∨
  (Open f q n ∧ r = n ∧ ok = false ∧ q' = stt f q n)

theorem Res.unique {f : Nat → Int} {n : Nat} {q : S} {r r' : Int} {ok ok' : Bool} {a b : S} (h : Res f n q r ok a) (h' : Res f n q r' ok' b) : r = r' ∧ ok = ok' ∧ a = b := by
  rcases h with ⟨j, hj, ho, hf, rfl, rfl, rfl⟩ | ⟨ho, rfl, rfl, rfl⟩
  · rcases h' with ⟨j', hj', ho', hf', rfl, rfl, rfl⟩ | ⟨ho', rfl, rfl, rfl⟩
    · obtain rfl : j = j' := by
        by_cases h1 : j < j'
        · exact absurd hf (ho' j h1)
        · by_cases h2 : j' < j
          · exact absurd hf' (ho j' h2)
          · omega
      exact ⟨rfl, rfl, rfl⟩
    · exact absurd hf (ho' j hj)
  · rcases h' with ⟨j', hj', ho', hf', rfl, rfl, rfl⟩ | ⟨ho', rfl, rfl, rfl⟩
    · exact absurd hf' (ho j' hj')
    · exact ⟨rfl, rfl, rfl⟩

theorem Open.zero (f : Nat → Int) (q : S) : Open f q 0 := fun j h => by omega
theorem Open.succ {f : Nat → Int} {q : S} {k : Nat} (h : Open f q k) (hk : ¬ fin (f k) (stt f q k)) : Open f q (k + 1) := fun j hj => by
  by_cases h1 : j < k
  · exact h j h1
  · obtain rfl : j = k := by omega
    exact hk

theorem stt_shift (f : Nat → Int) (q : S) (k : Nat) : ∀ m, stt f q (k + m) = stt (fun i => f (k + i)) (stt f q k) m
  | 0 => rfl
  | m + 1 => by
    show stp (f (k + m)) (stt f q (k + m)) = stp (f (k + m)) (stt (fun i => f (k + i)) (stt f q k) m)
    rw [stt_shift f q k m]

/-- The second piece behind a first that did not end the value. -/
theorem Res.join {f : Nat → Int} {n k : Nat} {q : S} {r : Int} {ok : Bool} {q' : S} (hk : k ≤ n) (ho : Open f q k)
    (h : Res (fun i => f (k + i)) (n - k) (stt f q k) r ok q') : Res f n q ((k : Int) + r) ok q' := by
  have hopen : ∀ m, Open (fun i => f (k + i)) (stt f q k) m → Open f q (k + m) := by
    intro m hm j hj
    by_cases h1 : j < k
    · exact ho j h1
    · have := hm (j - k) (by omega)
      rw [← stt_shift] at this
      have e : k + (j - k) = j := by omega
      simp only [e] at this
      exact this
  rcases h with ⟨j, hj, ho', hf, rfl, rfl, rfl⟩ | ⟨ho', rfl, rfl, rfl⟩
  · refine Or.inl ⟨k + j, by omega, hopen j ho', ?_, by omega, rfl, ?_⟩
    · rw [stt_shift]; exact hf
    · rw [show k + j + 1 = k + (j + 1) by omega]; exact (stt_shift f q k (j + 1)).symm
  · refine Or.inr ⟨?_, by omega, rfl, ?_⟩
    · have := hopen _ ho'
      rwa [show k + (n - k) = n by omega] at this
    · rw [← stt_shift, show k + (n - k) = n by omega]

/-- A first piece that ends the value: the whole ends there too. -/
theorem Res.first {f : Nat → Int} {n k : Nat} {q : S} {r : Int} {q' : S} (hk : k ≤ n) (h : Res f k q r true q') : Res f n q r true q' := by
  rcases h with ⟨j, hj, ho, hf, rfl, _, rfl⟩ | ⟨_, _, h, _⟩
  · exact Or.inl ⟨j, by omega, ho, hf, rfl, rfl, rfl⟩
  · cases h

/-- A first piece that does not end the value: all of it is read. -/
theorem Res.went {f : Nat → Int} {k : Nat} {q : S} {r : Int} {q' : S} (h : Res f k q r false q') : Open f q k ∧ r = k ∧ q' = stt f q k := by
  rcases h with ⟨j, hj, ho, hf, _, h, _⟩ | ⟨ho, hr, _, hq⟩
  · cases h
  · exact ⟨ho, hr, hq⟩

/-- Inside a string the state goes by 'se' as long as no quote closes it. -/
theorem stt_string (f : Nat → Int) (q : S) (hq : q.s = true) : ∀ n, (∀ j, j < n → se f q.e j = false → f j ≠ 34) → stt f q n = { q with e := se f q.e n } ∧ Open f q n
  | 0, _ => ⟨rfl, Open.zero f q⟩
  | n + 1, h => by
    obtain ⟨h1, h2⟩ := stt_string f q hq n (fun j hj => h j (by omega))
    refine ⟨?_, h2.succ ?_⟩
    · show stp (f n) (stt f q n) = _
      rw [h1]
      by_cases he : se f q.e n = true
      · simp [stp, hq, he, se]
      · have he' : se f q.e n = false := by simpa using he
        have hne := h n (by omega) he'
        by_cases hb : f n = 92
        · simp [stp, hq, he', se, hb]
        · simp [stp, hq, he', se, hb, hne]
    · rw [h1]
      intro hf
      have := hf.1
      simp [hq] at this

/-- Behind a quote that closes the string. -/
theorem stt_closed (f : Nat → Int) (q : S) (hq : q.s = true) (j : Nat) (h1 : se f q.e j = false) (h2 : f j = 34) (h3 : ∀ i, i < j → se f q.e i = false → f i ≠ 34) :
    stt f q (j + 1) = ⟨false, false, q.d⟩ ∧ Open f q (j + 1) := by
  obtain ⟨a, b⟩ := stt_string f q hq j h3
  refine ⟨?_, b.succ ?_⟩
  · show stp (f j) (stt f q j) = _
    rw [a]
    simp [stp, hq, h1, h2]
  · rw [a]
    intro hf
    have := hf.1
    simp [hq] at this

end Go.Proofs.Qxb6601167aMods

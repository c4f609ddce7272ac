/-
  Plain facts: a string's bytes by place; the pieces of a string between its tabs. No Go here.
-/
import Derived.Lib.BytesEntry
import Derived.Lib.IndexLaws
import Derived.Lib.IndexBytes
namespace Go.Proofs.Qxb6602847aMods

/-- 'r' is the first place below 'n' at which 'f' is 'c', or -1 where there is none. -/
def IB (f : Nat → Int) (c : Int) (n : Nat) (r : Int) : Prop :=
  (r = -1 ∧ ∀ i, i < n → f i ≠ c) ∨ ∃ k : Nat, k < n ∧ r = k ∧ f k = c ∧ ∀ j, j < k → f j ≠ c

theorem toU8_inj {a b : Int} (ha : 0 ≤ a ∧ a ≤ 255) (hb : 0 ≤ b ∧ b ≤ 255) (h : UInt8.ofNat a.toNat = UInt8.ofNat b.toNat) : a = b := by
  have := congrArg UInt8.toNat h
  simp at this
  omega

theorem ib_of (f : Nat → Int) (c : Int) (n : Nat) (hf : ∀ i, i < n → 0 ≤ f i ∧ f i ≤ 255) (hc : 0 ≤ c ∧ c ≤ 255) :
    IB f c n (Lib.indexByte (Lib.bytesOf ((List.range n).map f)) c.toNat.toUInt8) := by
  generalize hr : Lib.indexByte (Lib.bytesOf ((List.range n).map f)) c.toNat.toUInt8 = r
  have hge : -1 ≤ r := by rw [← hr]; exact Lib.indexByte_ge _ _
  by_cases h1 : r = -1
  · subst h1
    refine Or.inl ⟨rfl, fun i hi he => ?_⟩
    have := Lib.indexByte_none hr i
    apply this
    simp [Lib.bytesOf, hi, he]
  · obtain ⟨k, rfl⟩ := Int.eq_ofNat_of_zero_le (show 0 ≤ r by omega)
    obtain ⟨h2, h3⟩ := Lib.indexByte_some hr
    have hk : k < n := by
      have := (List.getElem?_eq_some_iff.1 h2).1
      simpa [Lib.bytesOf] using this
    refine Or.inr ⟨k, hk, rfl, ?_, fun j hj he => ?_⟩
    · simp [Lib.bytesOf, hk] at h2
      exact toU8_inj (hf k hk) hc h2
    · have := h3 j hj
      apply this
      simp [Lib.bytesOf, show j < n by omega, he]

theorem IB.shift {f : Nat → Int} {c : Int} {k m : Nat} {r : Int} (h : IB (fun i => f (k + i)) c m r) :
    (r = -1 ∧ ∀ j, k ≤ j → j < k + m → f j ≠ c) ∨ ∃ d : Nat, d < m ∧ r = d ∧ f (k + d) = c ∧ ∀ j, k ≤ j → j < k + d → f j ≠ c := by
  rcases h with ⟨h1, h2⟩ | ⟨d, h1, h2, h3, h4⟩
  · refine Or.inl ⟨h1, fun j a b => ?_⟩
    have : f (k + (j - k)) ≠ c := h2 (j - k) (by omega)
    rwa [show k + (j - k) = j by omega] at this
  · refine Or.inr ⟨d, h1, h2, h3, fun j a b => ?_⟩
    have : f (k + (j - k)) ≠ c := h4 (j - k) (by omega)
    rwa [show k + (j - k) = j by omega] at this

/-- The byte at place j of a string, as a number. -/
def bt (s : ByteArray) (j : Nat) : Int := ((s.data.toList.getD j 0).toNat : Int)

theorem byteAt (s : ByteArray) (k : Nat) (hk : k < s.size) : s.data.toList[k]? = some s[k] := by
  have h' : k < s.data.toList.length := by simpa using hk
  rw [List.getElem?_eq_getElem h']
  simp
  rfl

theorem bt_at (s : ByteArray) (j : Nat) (h : j < s.size) : (s[j].toNat : Int) = bt s j := by
  have := byteAt s j h
  unfold bt
  rw [List.getD_eq_getElem?_getD, this]
  rfl

theorem bt_range (s : ByteArray) (j : Nat) : 0 ≤ bt s j ∧ bt s j ≤ 255 := by
  unfold bt
  have := (s.data.toList.getD j 0).toNat_lt
  omega

theorem bt_extract (s : ByteArray) (a b j : Nat) (hj : j < b - a) : bt (s.extract a b) j = bt s (a + j) := by
  unfold bt
  rw [Lib.extract_data, List.getD_eq_getElem?_getD, List.getD_eq_getElem?_getD, List.getElem?_take, if_pos hj, List.getElem?_drop]

theorem size_extract (s : ByteArray) (a b : Nat) (hb : b ≤ s.size) : (s.extract a b).size = b - a := by
  rw [Lib.size_eq, Lib.extract_data, List.length_take, List.length_drop, ← Lib.size_eq]
  omega

/-- The first tab of a string. -/
theorem ib_string (s : ByteArray) (c : Int) (hc : 0 ≤ c ∧ c ≤ 255) : IB (bt s) c s.size (Lib.indexByte s.data.toList c.toNat.toUInt8) := by
  have h := ib_of (bt s) c s.size (fun i _ => bt_range s i) hc
  have e : Lib.bytesOf ((List.range s.size).map (bt s)) = s.data.toList := by
    apply List.ext_getElem?
    intro j
    by_cases hj : j < s.size
    · simp [Lib.bytesOf, hj, bt]
    · have h1 : s.data.toList.length ≤ j := by rw [← Lib.size_eq]; omega
      rw [List.getElem?_eq_none h1]
      simp [Lib.bytesOf]
      omega
  rwa [e] at h

/-- Piece 'p' lies in 's' from place 'a' on, and holds no tab. -/
def Seg (s : ByteArray) (a : Nat) (p : ByteArray) : Prop := a + p.size ≤ s.size ∧ ∀ j, j < p.size → bt p j = bt s (a + j) ∧ bt p j ≠ 9

/-- Where piece i begins: each piece ahead of it has a tab behind it. -/
def st : List ByteArray → Nat → Nat
  | [], _ => 0
  | _ :: _, 0 => 0
  | p :: ps, i + 1 => p.size + 1 + st ps i

/-- The tabs among the first n bytes. -/
def tabs (s : ByteArray) : Nat → Nat
  | 0 => 0
  | j + 1 => tabs s j + if bt s j = 9 then 1 else 0

theorem tabs_le (s : ByteArray) : ∀ n, tabs s n ≤ n
  | 0 => Nat.le_refl _
  | n + 1 => by have := tabs_le s n; unfold tabs; split <;> omega

theorem tabs_none (s : ByteArray) (a : Nat) : ∀ d, (∀ j, a ≤ j → j < a + d → bt s j ≠ 9) → tabs s (a + d) = tabs s a
  | 0, _ => rfl
  | d + 1, h => by
    have ih := tabs_none s a d (fun j x y => h j x (by omega))
    have e : tabs s (a + (d + 1)) = tabs s (a + d) + if bt s (a + d) = 9 then 1 else 0 := rfl
    rw [e, ih, if_neg (h (a + d) (by omega) (by omega)), Nat.add_zero]

theorem st_zero (ps : List ByteArray) : st ps 0 = 0 := by cases ps <;> rfl

theorem st_append (ps qs : List ByteArray) : ∀ i, i ≤ ps.length → st (ps ++ qs) i = st ps i := by
  induction ps with
  | nil => intro i hi; obtain rfl : i = 0 := by simpa using hi
           rw [st_zero, st_zero]
  | cons p ps ih =>
    intro i hi
    cases i with
    | zero => rfl
    | succ i =>
      show p.size + 1 + st (ps ++ qs) i = p.size + 1 + st ps i
      rw [ih i (by simpa using hi)]

theorem st_succ (ps : List ByteArray) : ∀ i (h : i < ps.length), st ps (i + 1) = st ps i + ps[i].size + 1 := by
  induction ps with
  | nil => intro i h; simp at h
  | cons p ps ih =>
    intro i h
    cases i with
    | zero => show p.size + 1 + st ps 0 = 0 + p.size + 1; rw [st_zero]; omega
    | succ i =>
      have hi : i < ps.length := by simpa using h
      have := ih i hi
      show p.size + 1 + st ps (i + 1) = p.size + 1 + st ps i + ps[i].size + 1
      omega

/-- The pieces 'ps' have been cut off 's', each with the tab behind it; what is left begins at place 'k'. -/
structure Cuts (s : ByteArray) (ps : List ByteArray) (k : Nat) : Prop where
  at_ : st ps ps.length = k
  le : k ≤ s.size
  seg : ∀ i (h : i < ps.length), Seg s (st ps i) ps[i] ∧ bt s (st ps i + ps[i].size) = 9
  cnt : tabs s k = ps.length

theorem Cuts.nil (s : ByteArray) : Cuts s [] 0 := ⟨rfl, Nat.zero_le _, fun i h => by simp at h, rfl⟩

theorem Cuts.len {s : ByteArray} {ps : List ByteArray} {k : Nat} (h : Cuts s ps k) : ps.length ≤ s.size := by
  have := tabs_le s k
  have := h.cnt
  have := h.le
  omega

theorem Cuts.snoc {s : ByteArray} {ps : List ByteArray} {k : Nat} (h : Cuts s ps k) (p : ByteArray) (hp : Seg s k p) (hlt : k + p.size < s.size) (ht : bt s (k + p.size) = 9) :
    Cuts s (ps ++ [p]) (k + p.size + 1) := by
  have e1 : st (ps ++ [p]) ps.length = k := by rw [st_append _ _ _ (Nat.le_refl _), h.at_]
  refine ⟨?_, by omega, fun i hi => ?_, ?_⟩
  · have := st_succ (ps ++ [p]) ps.length (by simp)
    simp only [List.length_append, List.length_cons, List.length_nil, Nat.zero_add]
    rw [this, e1]
    simp
  · by_cases hlt2 : i < ps.length
    · have := h.seg i hlt2
      rw [st_append _ _ _ (by omega)]
      simpa [List.getElem_append_left hlt2] using this
    · obtain rfl : i = ps.length := by simp at hi; omega
      rw [e1]
      simp
      exact ⟨hp, ht⟩
  · have e2 : tabs s (k + p.size + 1) = tabs s (k + p.size) + if bt s (k + p.size) = 9 then 1 else 0 := rfl
    rw [e2, if_pos ht, tabs_none s k p.size (fun j a b => by
      have := hp.2 (j - k) (by omega)
      rw [show k + (j - k) = j by omega] at this
      rw [← this.1]; exact this.2), h.cnt]
    simp

/-- All of 's' is cut: the pieces with the last one. -/
structure Done (s : ByteArray) (qs : List ByteArray) : Prop where
  seg : ∀ i (h : i < qs.length), Seg s (st qs i) qs[i]
  tab : ∀ i (h : i < qs.length), i + 1 < qs.length → bt s (st qs i + qs[i].size) = 9 ∧ st qs i + qs[i].size < s.size
  last : ∀ i (h : i < qs.length), i + 1 = qs.length → st qs i + qs[i].size = s.size
  cnt : qs.length = tabs s s.size + 1

theorem Cuts.done {s : ByteArray} {ps : List ByteArray} {k : Nat} (h : Cuts s ps k) (p : ByteArray) (hp : Seg s k p) (he : k + p.size = s.size) : Done s (ps ++ [p]) := by
  have e1 : st (ps ++ [p]) ps.length = k := by rw [st_append _ _ _ (Nat.le_refl _), h.at_]
  refine ⟨fun i hi => ?_, fun i hi hn => ?_, fun i hi hn => ?_, ?_⟩
  · by_cases hlt2 : i < ps.length
    · have := (h.seg i hlt2).1
      rw [st_append _ _ _ (by omega)]
      simpa [List.getElem_append_left hlt2] using this
    · obtain rfl : i = ps.length := by simp at hi; omega
      rw [e1]
      simpa using hp
  · have hlt2 : i < ps.length := by simp at hn; omega
    have := h.seg i hlt2
    rw [st_append _ _ _ (by omega)]
    have h2 : (ps ++ [p])[i] = ps[i] := List.getElem_append_left hlt2
    rw [h2]
    refine ⟨this.2, ?_⟩
    have hs := st_succ ps i hlt2
    have hm : st ps (i + 1) ≤ k := by
      have key : ∀ m j, j + m = ps.length → st ps j ≤ k := by
        intro m
        induction m with
        | zero => intro j hj; rw [← h.at_, show j = ps.length by omega]; exact Nat.le_refl _
        | succ m ih =>
          intro j hj
          have := ih (j + 1) (by omega)
          have := st_succ ps j (by omega)
          omega
      exact key (ps.length - (i + 1)) (i + 1) (by omega)
    have := h.le
    omega
  · obtain rfl : i = ps.length := by simp at hn; omega
    rw [e1]
    simpa using he
  · have := tabs_none s k p.size (fun j a b => by
      have := hp.2 (j - k) (by omega)
      rw [show k + (j - k) = j by omega] at this
      rw [← this.1]; exact this.2)
    rw [he, h.cnt] at this
    rw [this]
    simp

end Go.Proofs.Qxb6602847aMods

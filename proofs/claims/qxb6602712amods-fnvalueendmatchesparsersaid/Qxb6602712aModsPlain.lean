/-
  Plain facts on bytes told by a function 'f' of the place: where a JSON value ends. No Go here.
-/
import Derived.Lib.BytesEntry
import Derived.Lib.IndexLaws
namespace Go.Proofs.Qxb6602712aMods

/-- 'r' is the first place below 'n' at which 'f' is 'c', or -1 where there is none. -/
def IB (f : Nat → Int) (c : Int) (n : Nat) (r : Int) : Prop :=
  (r = -1 ∧ ∀ i, i < n → f i ≠ c) ∨ ∃ k : Nat, k < n ∧ r = k ∧ f k = c ∧ ∀ j, j < k → f j ≠ c

theorem toU8_inj {a b : Int} (ha : 0 ≤ a ∧ a ≤ 255) (hb : 0 ≤ b ∧ b ≤ 255) (h : UInt8.ofNat a.toNat = UInt8.ofNat b.toNat) : a = b := by
  have := congrArg UInt8.toNat h
  simp at this
  omega

theorem ib_of (f : Nat → Int) (c : Int) (n : Nat) (hf : ∀ i, i < n → 0 ≤ f i ∧ f i ≤ 255) (hc : 0 ≤ c ∧ c ≤ 255) :
    IB f c n (Lib.indexByte (Lib.bytesOf ((List.range n).map f)) c.toNat.toUInt8) := by
  generalize hr : Lib.indexByte (Lib.bytesOf ((List.range n).map f)) c.toNat.toUInt8 = r
  have hge : -1 ≤ r := by rw [← hr]; exact Lib.indexByte_ge _ _
  by_cases h1 : r = -1
  · subst h1
    refine Or.inl ⟨rfl, fun i hi he => ?_⟩
    have := Lib.indexByte_none hr i
    apply this
    simp [Lib.bytesOf, hi, he]
  · obtain ⟨k, rfl⟩ := Int.eq_ofNat_of_zero_le (show 0 ≤ r by omega)
    obtain ⟨h2, h3⟩ := Lib.indexByte_some hr
    have hk : k < n := by
      have := (List.getElem?_eq_some_iff.1 h2).1
      simpa [Lib.bytesOf] using this
    refine Or.inr ⟨k, hk, rfl, ?_, fun j hj he => ?_⟩
    · simp [Lib.bytesOf, hk] at h2
      exact toU8_inj (hf k hk) hc h2
    · have := h3 j hj
      apply this
      simp [Lib.bytesOf, show j < n by omega, he]

theorem IB.shift {f : Nat → Int} {c : Int} {k m : Nat} {r : Int} (h : IB (fun i => f (k + i)) c m r) :
    (r = -1 ∧ ∀ j, k ≤ j → j < k + m → f j ≠ c) ∨ ∃ d : Nat, d < m ∧ r = d ∧ f (k + d) = c ∧ ∀ j, k ≤ j → j < k + d → f j ≠ c := by
  rcases h with ⟨h1, h2⟩ | ⟨d, h1, h2, h3, h4⟩
  · refine Or.inl ⟨h1, fun j a b => ?_⟩
    have : f (k + (j - k)) ≠ c := h2 (j - k) (by omega)
    rwa [show k + (j - k) = j by omega] at this
  · refine Or.inr ⟨d, h1, h2, h3, fun j a b => ?_⟩
    have : f (k + (j - k)) ≠ c := h4 (j - k) (by omega)
    rwa [show k + (j - k) = j by omega] at this

/-- Place 's + k' begins a unit: it is no byte that a backslash ahead of it escapes. -/
def tk (f : Nat → Int) (s : Nat) : Nat → Bool
  | 0 => true
  | k + 1 => !(tk f s k && f (s + k) == 92)

/-- The scan from 's' stands at 'i', a unit's begin, and has met no quote that begins a unit. -/
def At (f : Nat → Int) (s i : Nat) : Prop := s ≤ i ∧ tk f s (i - s) = true ∧ ∀ j, s ≤ j → j < i → tk f s (j - s) = true → f j ≠ 34

theorem At.start (f : Nat → Int) (s : Nat) : At f s s := ⟨Nat.le_refl _, by simp [tk], fun j h1 h2 => by omega⟩

theorem tk_succ (f : Nat → Int) (s i : Nat) (h : s ≤ i) : tk f s (i + 1 - s) = !(tk f s (i - s) && f i == 92) := by
  obtain ⟨k, rfl⟩ := Nat.exists_eq_add_of_le h
  rw [show s + k + 1 - s = k + 1 by omega, show s + k - s = k by omega]
  rfl

theorem At.esc {f : Nat → Int} {s i : Nat} (h : At f s i) (he : f i = 92) : At f s (i + 2) := by
  obtain ⟨h1, h2, h3⟩ := h
  have e1 : tk f s (i + 1 - s) = false := by rw [tk_succ f s i h1, h2, he]; rfl
  have e2 : tk f s (i + 2 - s) = true := by rw [show i + 2 = i + 1 + 1 by omega, tk_succ f s (i + 1) (by omega), e1]; rfl
  refine ⟨by omega, e2, fun j a b c => ?_⟩
  by_cases hj : j < i
  · exact h3 j a hj c
  · by_cases hj2 : j = i
    · subst hj2; omega
    · obtain rfl : j = i + 1 := by omega
      rw [e1] at c; cases c

theorem At.step {f : Nat → Int} {s i : Nat} (h : At f s i) (he : f i ≠ 92) (hq : f i ≠ 34) : At f s (i + 1) := by
  obtain ⟨h1, h2, h3⟩ := h
  have e1 : tk f s (i + 1 - s) = true := by rw [tk_succ f s i h1, h2]; simp [he]
  refine ⟨by omega, e1, fun j a b c => ?_⟩
  by_cases hj : j < i
  · exact h3 j a hj c
  · obtain rfl : j = i := by omega
    exact hq

theorem At.run {f : Nat → Int} {s i : Nat} (h : At f s i) : ∀ d, (∀ j, i ≤ j → j < i + d → f j ≠ 92 ∧ f j ≠ 34) → At f s (i + d)
  | 0, _ => h
  | d + 1, hd => by
    have ih := At.run h d (fun j a b => hd j a (by omega))
    have := hd (i + d) (by omega) (by omega)
    exact ih.step this.1 this.2

/-- At 'i' stands a string whose closing quote stands at 'q'. -/
def StrQ (f : Nat → Int) (n i q : Nat) : Prop := f i = 34 ∧ i < q ∧ q < n ∧ At f (i + 1) q ∧ f q = 34

/-- A run of backslashes behind a unit's begin: the units go two by two. -/
theorem tk_run (f : Nat → Int) (s a : Nat) (h : tk f s a = true) : ∀ x, (∀ j, j < x → f (s + a + j) = 92) → tk f s (a + x) = decide (x % 2 = 0)
  | 0, _ => by simpa using h
  | x + 1, hx => by
    have ih := tk_run f s a h x (fun j hj => hx j (by omega))
    have e : tk f s (a + (x + 1)) = !(tk f s (a + x) && f (s + (a + x)) == 92) := rfl
    rw [e, ih, ← Nat.add_assoc, hx x (by omega)]
    by_cases hp : x % 2 = 0
    · have : ¬ (x + 1) % 2 = 0 := by omega
      simp [hp, this]
    · have : (x + 1) % 2 = 0 := by omega
      simp [hp, this]

/-- Behind a byte that is no backslash (or at the string's begin) a unit begins. -/
theorem tk_fresh (f : Nat → Int) (i j : Nat) (hij : i ≤ j) (h : f j ≠ 92) : tk f (i + 1) (j + 1 - (i + 1)) = true := by
  by_cases he : j = i
  · subst he; simp [tk]
  · rw [tk_succ f (i + 1) j (by omega)]
    simp [h]

/-- The quote at 'j' is the string's own if an even run of 'x' backslashes stands ahead of it, none ahead of the run. -/
theorem quote_own {f : Nat → Int} {n i q j x : Nat} (h : StrQ f n i q) (hj : f j = 34) (hjq : j ≤ q) (hx : i + 1 + x ≤ j) (hrun : ∀ y, y < x → f (j - 1 - y) = 92) (hb : f (j - 1 - x) ≠ 92) :
    (x % 2 = 0 → j = q) ∧ (x % 2 ≠ 0 → j < q) := by
  obtain ⟨h1, h2, h3, h4, h5⟩ := h
  have ht : tk f (i + 1) (j - x - (i + 1)) = true := by
    have := tk_fresh f i (j - 1 - x) (by omega) hb
    rwa [show j - 1 - x + 1 = j - x by omega] at this
  have hr := tk_run f (i + 1) (j - x - (i + 1)) ht x (fun y hy => by
    have := hrun (x - 1 - y) (by omega)
    rwa [show j - 1 - (x - 1 - y) = i + 1 + (j - x - (i + 1)) + y by omega] at this)
  rw [show j - x - (i + 1) + x = j - (i + 1) by omega] at hr
  constructor
  · intro he
    by_cases hlt : j < q
    · exact absurd hj (h4.2.2 j (by omega) hlt (by rw [hr]; simpa using he))
    · omega
  · intro ho
    by_cases he : j = q
    · subst he
      have := h4.2.1
      rw [hr] at this
      simp at this
      exact absurd this ho
    · omega

/-- No quote, no bracket. -/
def Pl (c : Int) : Prop := c ≠ 34 ∧ c ≠ 123 ∧ c ≠ 91 ∧ c ≠ 125 ∧ c ≠ 93
/-- A byte between the tokens. -/
def Sp (c : Int) : Prop := c = 32 ∨ c = 9 ∨ c = 13 ∨ c = 10
/-- A byte of a number or a word. -/
def Tc (c : Int) : Prop := Pl c ∧ ¬ Sp c ∧ c ≠ 44
/-- A byte that ends a number or a word. -/
def Stop (c : Int) : Prop := Sp c ∨ c = 44 ∨ c = 93 ∨ c = 125

theorem Sp.pl {c : Int} (h : Sp c) : Pl c := by unfold Sp at h; unfold Pl; omega

/-- One step of the reader that counts brackets. -/
def Stp (f : Nat → Int) (n p : Nat) (d : Int) (p' : Nat) (d' : Int) : Prop :=
  p < n ∧ ((∃ q, StrQ f n p q ∧ p' = q + 1 ∧ d' = d) ∨ ((f p = 123 ∨ f p = 91) ∧ p' = p + 1 ∧ d' = d + 1) ∨
    ((f p = 125 ∨ f p = 93) ∧ p' = p + 1 ∧ d' = d - 1 ∧ d' ≠ 0) ∨ (Pl (f p) ∧ p' = p + 1 ∧ d' = d))

/-- The reader that counts brackets, begun at 'a', comes to 'p' at depth 'd'. -/
def Sk (f : Nat → Int) (n a p : Nat) (d : Int) : Prop :=
  ∃ (k : Nat) (P : Nat → Nat) (D : Nat → Int), P 0 = a ∧ D 0 = 0 ∧ P k = p ∧ D k = d ∧ ∀ j, j < k → Stp f n (P j) (D j) (P (j + 1)) (D (j + 1))

theorem Sk.refl (f : Nat → Int) (n a : Nat) : Sk f n a a 0 := ⟨0, fun _ => a, fun _ => 0, rfl, rfl, rfl, rfl, fun j h => by omega⟩

theorem Sk.snoc {f : Nat → Int} {n a p p' : Nat} {d d' : Int} (h : Sk f n a p d) (hs : Stp f n p d p' d') : Sk f n a p' d' := by
  obtain ⟨k, P, D, h1, h2, h3, h4, h5⟩ := h
  refine ⟨k + 1, fun j => if j ≤ k then P j else p', fun j => if j ≤ k then D j else d', by simp [h1], by simp [h2], if_neg (by omega), if_neg (by omega), fun j hj => ?_⟩
  by_cases hlt : j < k
  · have := h5 j hlt
    simpa [show j ≤ k by omega, show j + 1 ≤ k by omega] using this
  · obtain rfl : j = k := by omega
    have e : ¬ j + 1 ≤ j := by omega
    simpa [h3, h4, e] using hs

theorem Sk.plain {f : Nat → Int} {n a p : Nat} {d : Int} (h : Sk f n a p d) : ∀ m, p + m ≤ n → (∀ j, p ≤ j → j < p + m → Pl (f j)) → Sk f n a (p + m) d
  | 0, _, _ => h
  | m + 1, hn, hp => (Sk.plain h m (by omega) (fun j a b => hp j a (by omega))).snoc ⟨by omega, Or.inr (Or.inr (Or.inr ⟨hp _ (by omega) (by omega), rfl, rfl⟩))⟩

/-- A number or a word at 'i' up to 'e'. -/
def Tok (f : Nat → Int) (n i e : Nat) : Prop := i < e ∧ e ≤ n ∧ ∀ j, i ≤ j → j < e → Tc (f j)

/-- An array or an object at 'i' up to 'e'. -/
def Cont (f : Nat → Int) (n i e : Nat) : Prop := (f i = 123 ∨ f i = 91) ∧ ∃ q, Sk f n i q 1 ∧ q < n ∧ (f q = 125 ∨ f q = 93) ∧ e = q + 1

/-- 'e' is what valueEnd answers at 'i'. -/
def Good (f : Nat → Int) (n i e : Nat) : Prop :=
  (∃ q, StrQ f n i q ∧ e = q + 1) ∨ Cont f n i e ∨ (Tok f n i e ∧ (e = n ∨ Stop (f e)))

/-- The open brackets. -/
def Stk (f : Nat → Int) (n : Nat) (xs : List Nat) (p : Nat) : Prop :=
  ∀ (j t : Nat), xs[j]? = some t → t < n ∧ (f t = 123 ∨ f t = 91) ∧ Sk f n t p ((xs.length : Int) - j)

theorem Stk.nil (f : Nat → Int) (n p : Nat) : Stk f n [] p := fun j t h => by simp at h

theorem Stk.plain {f : Nat → Int} {n p : Nat} {xs : List Nat} (h : Stk f n xs p) (p' : Nat) (hp : p ≤ p') (hn : p' ≤ n) (hpl : ∀ j, p ≤ j → j < p' → Pl (f j)) : Stk f n xs p' := fun j t ht => by
  obtain ⟨a, b, c⟩ := h j t ht
  refine ⟨a, b, ?_⟩
  have := c.plain (p' - p) (by omega) (fun j a b => hpl j a (by omega))
  rwa [show p + (p' - p) = p' by omega] at this

theorem Stk.str {f : Nat → Int} {n p q : Nat} {xs : List Nat} (h : Stk f n xs p) (hs : StrQ f n p q) : Stk f n xs (q + 1) := fun j t ht => by
  obtain ⟨a, b, c⟩ := h j t ht
  exact ⟨a, b, c.snoc ⟨by have := hs.2.1; have := hs.2.2.1; omega, Or.inl ⟨q, hs, rfl, rfl⟩⟩⟩

theorem Stk.push {f : Nat → Int} {n p : Nat} {xs : List Nat} (h : Stk f n xs p) (hp : p < n) (ho : f p = 123 ∨ f p = 91) : Stk f n (xs ++ [p]) (p + 1) := fun j t ht => by
  by_cases hj : j < xs.length
  · rw [List.getElem?_append_left hj] at ht
    obtain ⟨a, b, c⟩ := h j t ht
    refine ⟨a, b, c.snoc ⟨hp, Or.inr (Or.inl ⟨ho, rfl, ?_⟩)⟩⟩
    simp; omega
  · rw [List.getElem?_append_right (by omega)] at ht
    have hj0 : j - xs.length = 0 := by
      cases h0 : j - xs.length with
      | zero => rfl
      | succ m => rw [h0] at ht; simp at ht
    rw [hj0] at ht
    simp at ht
    subst ht
    refine ⟨hp, ho, (Sk.refl f n p).snoc ⟨hp, Or.inr (Or.inl ⟨ho, rfl, ?_⟩)⟩⟩
    simp; omega

theorem Stk.top {f : Nat → Int} {n p t : Nat} {xs : List Nat} (h : Stk f n (xs ++ [t]) p) : t < n ∧ (f t = 123 ∨ f t = 91) ∧ Sk f n t p 1 := by
  have := h xs.length t (by simp)
  simpa [show ((xs.length : Int) + 1 - xs.length) = 1 by omega] using this

theorem Stk.pop {f : Nat → Int} {n p t : Nat} {xs : List Nat} (h : Stk f n (xs ++ [t]) p) (hp : p < n) (hc : f p = 125 ∨ f p = 93) : Stk f n xs (p + 1) ∧ Cont f n t (p + 1) := by
  refine ⟨fun j u hu => ?_, h.top.2.1, p, h.top.2.2, hp, hc, rfl⟩
  have hj : j < xs.length := (List.getElem?_eq_some_iff.1 hu).1
  obtain ⟨a, b, c⟩ := h j u (by rw [List.getElem?_append_left hj]; exact hu)
  refine ⟨a, b, c.snoc ⟨hp, Or.inr (Or.inr (Or.inl ⟨hc, rfl, ?_, ?_⟩))⟩⟩
  · simp; omega
  · omega

/-- All that 'ends' tells is what valueEnd answers. -/
def Ok (f : Nat → Int) (n : Nat) (E : Nat → Int) : Prop := ∀ i, i < n → E i = -1 ∨ ∃ e : Nat, E i = e ∧ Good f n i e

/-- The same, but for a number or a word that ends at 'p', of which it is not yet known what follows. -/
def OkP (f : Nat → Int) (n : Nat) (E : Nat → Int) (p : Nat) : Prop := ∀ i, i < n → E i = -1 ∨ ∃ e : Nat, E i = e ∧ (Good f n i e ∨ (Tok f n i e ∧ e = p))

theorem Ok.p {f : Nat → Int} {n : Nat} {E : Nat → Int} (h : Ok f n E) (p : Nat) : OkP f n E p := fun i hi => by
  rcases h i hi with h | ⟨e, a, b⟩
  · exact Or.inl h
  · exact Or.inr ⟨e, a, Or.inl b⟩

theorem OkP.ok {f : Nat → Int} {n : Nat} {E : Nat → Int} {p : Nat} (h : OkP f n E p) (hs : p = n ∨ Stop (f p)) : Ok f n E := fun i hi => by
  rcases h i hi with h | ⟨e, a, b | ⟨b, rfl⟩⟩
  · exact Or.inl h
  · exact Or.inr ⟨e, a, b⟩
  · exact Or.inr ⟨e, a, Or.inr (Or.inr ⟨b, hs⟩)⟩

/-- 'E' with 'e' laid at 'i'. -/
def put (E : Nat → Int) (i : Nat) (e : Int) : Nat → Int := fun j => if j = i then e else E j

theorem Ok.put {f : Nat → Int} {n : Nat} {E : Nat → Int} (h : Ok f n E) (i e : Nat) (hg : Good f n i e) : Ok f n (put E i e) := fun j hj => by
  by_cases he : j = i
  · subst he; exact Or.inr ⟨e, by simp [Qxb6602712aMods.put], hg⟩
  · have := h j hj
    simpa [Qxb6602712aMods.put, he] using this

theorem OkP.of {f : Nat → Int} {n : Nat} {E : Nat → Int} (h : Ok f n E) (i e : Nat) (hg : Tok f n i e) : OkP f n (Qxb6602712aMods.put E i e) e := fun j hj => by
  by_cases he : j = i
  · subst he; exact Or.inr ⟨e, by simp [Qxb6602712aMods.put], Or.inr ⟨hg, rfl⟩⟩
  · have := h.p e j hj
    simpa [Qxb6602712aMods.put, he] using this

end Go.Proofs.Qxb6602712aMods

/-
  The walk of ScalarEnd.
-/
import Derived.Test.Qxb6602712aModsNumber
import Derived.Test.Qxb6602712aModsStrict
namespace Go.Proofs.Qxb6602712aMods
open Go.RowKit

theorem EndPost.weak {R R' : Nat → Prop} {e : Ending} (h : EndPost R e) (hi : ∀ r, R r → R' r) : EndPost R' e := by
  obtain ⟨r, ok, h1, h2⟩ := h
  exact ⟨r, ok, fun h => hi r (h1 h), h2⟩

theorem tcs_true : ∀ k (h : k < (⟨#[116, 114, 117, 101]⟩ : ByteArray).size), Tc ((⟨#[116, 114, 117, 101]⟩ : ByteArray)[k].toNat : Int) := by
  unfold Tc Pl Sp
  decide

theorem tcs_false : ∀ k (h : k < (⟨#[102, 97, 108, 115, 101]⟩ : ByteArray).size), Tc ((⟨#[102, 97, 108, 115, 101]⟩ : ByteArray)[k].toNat : Int) := by
  unfold Tc Pl Sp
  decide

theorem tcs_null : ∀ k (h : k < (⟨#[110, 117, 108, 108]⟩ : ByteArray).size), Tc ((⟨#[110, 117, 108, 108]⟩ : ByteArray)[k].toNat : Int) := by
  unfold Tc Pl Sp
  decide

/-- The end of a string, a number or a word at 'p'. -/
def ScE (f : Nat → Int) (n p r : Nat) : Prop := StrE f n p r ∨ Tok f n p r

set_option maxHeartbeats 1000000 in
set_option maxRecDepth 100000 in
theorem scalar_any (b o n c p : Nat) (f : Nat → Int) (w : World) (hp : p < n) (hn : n ≤ 1048576) (hf : ∀ i, 0 ≤ f i ∧ f i ≤ 255) (hD : Dt w b o n f) :
    Calls Trym.prog 17 #[.slice (some ⟨b, o, none⟩) n c, .int .i64 p] w fun e w' => EndPost (ScE f n p) e ∧ Qt w w' := by
  have HD : Hid (Dt w b o n f) := hD
  have HF : Hid (∀ i, 0 ≤ f i ∧ f i ≤ 255) := hf
  have hcp := hD p hp
  clear hD hf
  by_cases c34 : f p = 34
  · rw [c34] at hcp
    clear c34
    go_enter Trym.func17, Trym.ntmps17
    go_wp2_with fail
    refine (strict_any _ _ _ _ p f _ (by omega) hn HF.out HD.out).mono ?_
    rintro e w' ⟨he, rfl⟩
    obtain ⟨r, ok, h1, rfl⟩ := he.weak (R' := ScE f n p) (fun r h => Or.inl h)
    have H1 : Hid (ok = true → ScE f n p r) := h1
    clear h1 he
    go_wp2_with fail
    go_ret2
    exact ⟨⟨r, ok, H1, rfl⟩, Qt.refl _⟩
  by_cases c116 : f p = 116
  · rw [c116] at hcp
    clear c34 c116
    go_enter Trym.func17, Trym.ntmps17
    go_wp2_with fail
    refine (word_any _ _ _ _ p _ f _ (by omega) hn (by decide) (by decide) HD.out tcs_true).mono ?_
    rintro e w' ⟨he, hq⟩
    obtain ⟨r, ok, h1, rfl⟩ := he.weak (R' := ScE f n p) (fun r h => Or.inr h)
    have H1 : Hid (ok = true → ScE f n p r) := h1
    have HQ : Hid (Qt w w') := hq
    clear h1 he hq
    go_wp2_with fail
    go_ret2
    exact ⟨⟨r, ok, H1, rfl⟩, HQ⟩
  by_cases c102 : f p = 102
  · rw [c102] at hcp
    clear c34 c116 c102
    go_enter Trym.func17, Trym.ntmps17
    go_wp2_with fail
    refine (word_any _ _ _ _ p _ f _ (by omega) hn (by decide) (by decide) HD.out tcs_false).mono ?_
    rintro e w' ⟨he, hq⟩
    obtain ⟨r, ok, h1, rfl⟩ := he.weak (R' := ScE f n p) (fun r h => Or.inr h)
    have H1 : Hid (ok = true → ScE f n p r) := h1
    have HQ : Hid (Qt w w') := hq
    clear h1 he hq
    go_wp2_with fail
    go_ret2
    exact ⟨⟨r, ok, H1, rfl⟩, HQ⟩
  by_cases c110 : f p = 110
  · rw [c110] at hcp
    clear c34 c116 c102 c110
    go_enter Trym.func17, Trym.ntmps17
    go_wp2_with fail
    refine (word_any _ _ _ _ p _ f _ (by omega) hn (by decide) (by decide) HD.out tcs_null).mono ?_
    rintro e w' ⟨he, hq⟩
    obtain ⟨r, ok, h1, rfl⟩ := he.weak (R' := ScE f n p) (fun r h => Or.inr h)
    have H1 : Hid (ok = true → ScE f n p r) := h1
    have HQ : Hid (Qt w w') := hq
    clear h1 he hq
    go_wp2_with fail
    go_ret2
    exact ⟨⟨r, ok, H1, rfl⟩, HQ⟩
  have b34 : (f p == 34) = false := by simp [c34]
  have b116 : (f p == 116) = false := by simp [c116]
  have b102 : (f p == 102) = false := by simp [c102]
  have b110 : (f p == 110) = false := by simp [c110]
  clear c34 c116 c102 c110
  go_enter Trym.func17, Trym.ntmps17
  go_wp2_with fail
  refine (number_any _ _ _ _ p f _ hp hn HD.out).mono ?_
  rintro e w' ⟨he, rfl⟩
  obtain ⟨r, ok, h1, rfl⟩ := he.weak (R' := ScE f n p) (fun r h => Or.inr h)
  have H1 : Hid (ok = true → ScE f n p r) := h1
  clear h1 he
  go_wp2_with fail
  go_ret2
  exact ⟨⟨r, ok, H1, rfl⟩, Qt.refl _⟩

end Go.Proofs.Qxb6602712aMods

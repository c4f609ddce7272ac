/-
  The walks of the small readers.
-/
import Derived.Test.Qxb6602712aModsBytes
import Derived.WalkSpells
import Derived.Outline
namespace Go.Proofs.Qxb6602712aMods
open Go.RowKit

/-- The cells at block b, offset o hold the n bytes of f. -/
def Dt (w : World) (b o n : Nat) (f : Nat → Int) : Prop := ∀ i, i < n → w.cell? ⟨b, o + i, none⟩ = some (.int .u8 (f i))

set_option maxRecDepth 100000 in
theorem isSpace20_yes (c : Int) (w : World) (h : Sp c) : Calls Trym.prog 20 #[.int .u8 c] w fun e w' => e = .returned (.bool true) ∧ w = w' := by
  rcases h with rfl | rfl | rfl | rfl
  all_goals
    go_enter Trym.func20, Trym.ntmps20
    go_wp2
    go_ret
    exact ⟨rfl, rfl⟩

set_option maxRecDepth 100000 in
theorem isSpace20_no (c : Int) (w : World) (h : ¬ Sp c) : Calls Trym.prog 20 #[.int .u8 c] w fun e w' => e = .returned (.bool false) ∧ w = w' := by
  unfold Sp at h
  have h1 : (c == 32) = false := by simp; omega
  have h2 : (c == 9) = false := by simp; omega
  have h3 : (c == 13) = false := by simp; omega
  have h4 : (c == 10) = false := by simp; omega
  clear h
  go_enter Trym.func20, Trym.ntmps20
  go_wp2
  go_ret
  exact ⟨rfl, rfl⟩

set_option maxRecDepth 100000 in
theorem isSpace24_yes (c : Int) (w : World) (h : Sp c) : Calls Trym.prog 24 #[.int .u8 c] w fun e w' => e = .returned (.bool true) ∧ w = w' := by
  rcases h with rfl | rfl | rfl | rfl
  all_goals
    go_enter Trym.func24, Trym.ntmps24
    go_wp2
    go_ret
    exact ⟨rfl, rfl⟩

set_option maxRecDepth 100000 in
theorem isSpace24_no (c : Int) (w : World) (h : ¬ Sp c) : Calls Trym.prog 24 #[.int .u8 c] w fun e w' => e = .returned (.bool false) ∧ w = w' := by
  unfold Sp at h
  have h1 : (c == 32) = false := by simp; omega
  have h2 : (c == 9) = false := by simp; omega
  have h3 : (c == 13) = false := by simp; omega
  have h4 : (c == 10) = false := by simp; omega
  clear h
  go_enter Trym.func24, Trym.ntmps24
  go_wp2
  go_ret
  exact ⟨rfl, rfl⟩

/-- The bracket that closes 'c'. -/
def clo (c : Int) : Int := if c = 123 then 125 else 93

set_option maxRecDepth 100000 in
theorem closer_any (c : Int) (w : World) : Calls Trym.prog 15 #[.int .u8 c] w fun e w' => e = .returned (.int .u8 (clo c)) ∧ w = w' := by
  by_cases h : c = 123
  · have h1 : (c == 123) = true := by simp [h]
    have HC : Hid (clo c = 125) := by show _ = _; simp [clo, h]
    clear h
    go_enter Trym.func15, Trym.ntmps15
    go_wp2
    go_ret
    exact ⟨by rw [HC.out]; rfl, rfl⟩
  · have h1 : (c == 123) = false := by simp [h]
    have HC : Hid (clo c = 93) := by show _ = _; simp [clo, h]
    clear h
    go_enter Trym.func15, Trym.ntmps15
    go_wp2
    go_ret
    exact ⟨by rw [HC.out]; rfl, rfl⟩

/-- What isHex answers; where it says yes the byte is neither a quote nor a backslash. -/
def HexPost (c : Int) (e : Ending) : Prop := ∃ v : Bool, e = .returned (.bool v) ∧ (v = true → c ≠ 34 ∧ c ≠ 92)

set_option maxRecDepth 100000 in
theorem isHex_any (c : Int) (w : World) (hc : 0 ≤ c ∧ c ≤ 255) : Calls Trym.prog 26 #[.int .u8 c] w fun e w' => HexPost c e ∧ w = w' := by
  by_cases h1 : 48 ≤ c ∧ c ≤ 57
  · obtain ⟨a1, a2⟩ := h1
    go_enter Trym.func26, Trym.ntmps26
    go_wp2
    go_ret
    exact ⟨⟨true, rfl, fun _ => by omega⟩, rfl⟩
  · by_cases h2 : 97 ≤ c ∧ c ≤ 102
    · obtain ⟨a1, a2⟩ := h2
      have a3 : ¬ c ≤ 57 := by omega
      go_enter Trym.func26, Trym.ntmps26
      go_wp2
      go_ret
      exact ⟨⟨true, rfl, fun _ => by omega⟩, rfl⟩
    · by_cases h3 : 65 ≤ c ∧ c ≤ 70
      · obtain ⟨a1, a2⟩ := h3
        have a3 : ¬ c ≤ 57 := by omega
        have a4 : ¬ 97 ≤ c := by omega
        go_enter Trym.func26, Trym.ntmps26
        go_wp2
        go_ret
        exact ⟨⟨true, rfl, fun _ => by omega⟩, rfl⟩
      · go_enter Trym.func26, Trym.ntmps26
        go_wp2
        all_goals
          go_ret
          exact ⟨⟨_, rfl, fun hv => by first | omega | (simp at hv; done) | (simp at hv; omega)⟩, rfl⟩

end Go.Proofs.Qxb6602712aMods

/-
  The walk of StrictString.
-/
import Derived.Test.Qxb6602712aModsSpaces
namespace Go.Proofs.Qxb6602712aMods
open Go.RowKit

/-- The end of a string at 'p'. -/
def StrE (f : Nat → Int) (n p r : Nat) : Prop := ∃ q, StrQ f n p q ∧ r = q + 1

set_option maxHeartbeats 1000000 in
set_option maxRecDepth 100000 in
theorem strict_any (b o n c p : Nat) (f : Nat → Int) (w : World) (hp : p ≤ n) (hn : n ≤ 1048576) (hf : ∀ i, 0 ≤ f i ∧ f i ≤ 255) (hD : Dt w b o n f) :
    Calls Trym.prog 21 #[.slice (some ⟨b, o, none⟩) n c, .int .i64 p] w fun e w' => EndPost (StrE f n p) e ∧ w = w' := by
  have HD : Hid (Dt w b o n f) := hD
  have HF : Hid (∀ i, 0 ≤ f i ∧ f i ≤ 255) := hf
  clear hD hf
  by_cases hpn : p < n
  rotate_left
  · go_enter Trym.func21, Trym.ntmps21
    go_wp2_with fail
    go_ret2
    exact ⟨EndPost.no _, rfl⟩
  by_cases h34 : f p = 34
  rotate_left
  · have hcp := HD.out p hpn
    have hb : (f p != 34) = true := by simp [h34]
    go_enter Trym.func21, Trym.ntmps21
    go_wp2_with fail
    go_ret2
    exact ⟨EndPost.no _, rfl⟩
  have hcp : w.cell? ⟨b, o + p, none⟩ = some (.int .u8 34) := by rw [HD.out p hpn, h34]
  have H34 : Hid (f p = 34) := h34
  have hdec : decide (n ≤ p) = false := by simp; omega
  clear h34
  go_enter Trym.func21, Trym.ntmps21
  go_wp2_with fail
  clear hcp
  go_loop [7] (fun qv => ∃ q : Nat, qv = .int .i64 q ∧ q ≤ n ∧ p < q ∧ Hid (At f (p + 1) q)) (fun qv => n - (intOf qv).toNat)
  case atStart => exact ⟨p + 1, by go_num, by omega, by omega, At.start f (p + 1)⟩
  case round =>
    obtain ⟨q, rfl, hq, hpq, HA⟩ := hrel
    by_cases hlt : q < n
    rotate_left
    · go_wp2_with fail
      go_ret2
      exact ⟨EndPost.no _, rfl⟩
    have hcq := HD.out q hlt
    by_cases c34 : f q = 34
    · have hb : (f q == 34) = true := by simp [c34]
      have HR : Hid (StrE f n p (q + 1)) := ⟨q, ⟨H34.out, hpq, hlt, HA.out, c34⟩, rfl⟩
      clear c34
      go_wp2_with fail
      go_ret2
      exact ⟨⟨q + 1, true, fun _ => HR, by go_num⟩, rfl⟩
    have b34 : (f q == 34) = false := by simp [c34]
    by_cases c32 : f q < 32
    · clear c34
      go_wp2_with fail
      go_ret2
      exact ⟨EndPost.no _, rfl⟩
    by_cases c92 : f q = 92
    rotate_left
    · have b92 : (f q != 92) = true := by simp [c92]
      have HA2 : Hid (At f (p + 1) (q + 1)) := HA.out.step c92 c34
      clear c34 c92
      go_wp2_with fail
      go_round
      case rel => exact ⟨q + 1, by go_num, by omega, by omega, HA2⟩
      case measure => simp [intOf]; omega
    have b92 : (f q != 92) = false := by simp [c92]
    have HA2 : Hid (At f (p + 1) (q + 2)) := HA.out.esc c92
    clear c34 c92
    by_cases hlt1 : q + 1 < n
    rotate_left
    · go_wp2_with fail
      go_ret2
      exact ⟨EndPost.no _, rfl⟩
    by_cases hes : f (q + 1) = 34 ∨ f (q + 1) = 92 ∨ f (q + 1) = 47 ∨ f (q + 1) = 98 ∨ f (q + 1) = 102 ∨ f (q + 1) = 110 ∨ f (q + 1) = 114 ∨ f (q + 1) = 116
    · have hce := HD.out (q + 1) hlt1
      rcases hes with h | h | h | h | h | h | h | h
      all_goals
        rw [h] at hce
        clear h
        go_wp2_with fail
        go_round
        case rel => exact ⟨q + 2, by go_num, by omega, by omega, HA2⟩
        case measure => simp [intOf]; omega
    have hce := HD.out (q + 1) hlt1
    have d34 : (f (q + 1) == 34) = false := by simp; omega
    have d92 : (f (q + 1) == 92) = false := by simp; omega
    have d47 : (f (q + 1) == 47) = false := by simp; omega
    have d98 : (f (q + 1) == 98) = false := by simp; omega
    have d102 : (f (q + 1) == 102) = false := by simp; omega
    have d110 : (f (q + 1) == 110) = false := by simp; omega
    have d114 : (f (q + 1) == 114) = false := by simp; omega
    have d116 : (f (q + 1) == 116) = false := by simp; omega
    clear hes
    by_cases hu : f (q + 1) = 117
    rotate_left
    · have du : (f (q + 1) != 117) = true := by simp [hu]
      clear hu
      go_wp2_with fail
      go_ret2
      exact ⟨EndPost.no _, rfl⟩
    have du : (f (q + 1) != 117) = false := by simp [hu]
    clear hu
    by_cases hlt5 : q + 5 < n
    rotate_left
    · go_wp2_with fail
      go_ret2
      exact ⟨EndPost.no _, rfl⟩
    have hc2 := HD.out (q + 2) (by omega)
    have hc3 := HD.out (q + 3) (by omega)
    have hc4 := HD.out (q + 4) (by omega)
    have hc5 := HD.out (q + 5) (by omega)
    go_wp2_with fail
    refine (isHex_any _ _ (HF.out _)).mono ?_
    rintro e w' ⟨⟨v, rfl, hv2⟩, rfl⟩
    have HV2 : Hid (v = true → f (q + 2) ≠ 34 ∧ f (q + 2) ≠ 92) := hv2
    clear hv2
    cases v
    · go_wp2_with fail
      go_ret2
      exact ⟨EndPost.no _, rfl⟩
    go_wp2_with fail
    refine (isHex_any _ _ (HF.out _)).mono ?_
    rintro e w' ⟨⟨v, rfl, hv3⟩, rfl⟩
    have HV3 : Hid (v = true → f (q + 3) ≠ 34 ∧ f (q + 3) ≠ 92) := hv3
    clear hv3
    cases v
    · go_wp2_with fail
      go_ret2
      exact ⟨EndPost.no _, rfl⟩
    go_wp2_with fail
    refine (isHex_any _ _ (HF.out _)).mono ?_
    rintro e w' ⟨⟨v, rfl, hv4⟩, rfl⟩
    have HV4 : Hid (v = true → f (q + 4) ≠ 34 ∧ f (q + 4) ≠ 92) := hv4
    clear hv4
    cases v
    · go_wp2_with fail
      go_ret2
      exact ⟨EndPost.no _, rfl⟩
    go_wp2_with fail
    refine (isHex_any _ _ (HF.out _)).mono ?_
    rintro e w' ⟨⟨v, rfl, hv5⟩, rfl⟩
    have HV5 : Hid (v = true → f (q + 5) ≠ 34 ∧ f (q + 5) ≠ 92) := hv5
    clear hv5
    cases v
    · go_wp2_with fail
      go_ret2
      exact ⟨EndPost.no _, rfl⟩
    have HA6 : Hid (At f (p + 1) (q + 6)) := by
      have k2 : f (q + 2) ≠ 34 ∧ f (q + 2) ≠ 92 := by first | exact HV2.out rfl | exact HV2.out trivial
      have k3 : f (q + 3) ≠ 34 ∧ f (q + 3) ≠ 92 := by first | exact HV3.out rfl | exact HV3.out trivial
      have k4 : f (q + 4) ≠ 34 ∧ f (q + 4) ≠ 92 := by first | exact HV4.out rfl | exact HV4.out trivial
      have k5 : f (q + 5) ≠ 34 ∧ f (q + 5) ≠ 92 := by first | exact HV5.out rfl | exact HV5.out trivial
      exact (((HA2.out.step k2.2 k2.1).step k3.2 k3.1).step k4.2 k4.1).step k5.2 k5.1
    go_wp2_with fail
    go_round
    case rel => first | exact ⟨q + 6, by go_num, by omega, by omega, HA6⟩ | (refine ⟨trivial, ?_⟩; (repeat apply Exists.intro); exact ⟨⟨q + 6, by go_num, by omega, by omega, HA6⟩, rfl⟩)
    case measure => simp [intOf]; omega

end Go.Proofs.Qxb6602712aMods

/-
  The walks of stringEnd and valueEnd.
-/
import Derived.Test.Qxb6602712aModsSpaces
namespace Go.Proofs.Qxb6602712aMods
open Go.RowKit

set_option maxHeartbeats 1000000 in
set_option maxRecDepth 100000 in
theorem stringEnd_any (b o n c i0 q : Nat) (f : Nat → Int) (w : World) (hn : n ≤ 1048576) (hnc : n ≤ c) (hf : ∀ i, 0 ≤ f i ∧ f i ≤ 255) (hD : Dt w b o n f) (hS : StrQ f n i0 q) :
    Calls Trym.prog 19 #[.slice (some ⟨b, o, none⟩) n c, .int .i64 i0] w fun e w' => e = .returned (.int .i64 ((q : Int) + 1)) ∧ w = w' := by
  have HD : Hid (Dt w b o n f) := hD
  have HF : Hid (∀ i, 0 ≤ f i ∧ f i ≤ 255) := hf
  have HS : Hid (StrQ f n i0 q) := hS
  have HB : Hid (Bs w (some ⟨b, o, none⟩) n f) := Or.inr ⟨b, o, rfl, hD⟩
  have hq1 := hS.2.1
  have hq2 := hS.2.2.1
  clear hD hf hS
  go_enter Trym.func19, Trym.ntmps19
  go_wp2_with fail
  go_loop [1] (fun iv => ∃ cur : Nat, iv = .int .i64 cur ∧ i0 ≤ cur ∧ cur < q ∧ Hid (f cur = 34)) (fun iv => n - (intOf iv).toNat)
  case atStart => exact ⟨i0, rfl, Nat.le_refl _, hq1, HS.out.1⟩
  case round =>
    obtain ⟨cur, rfl, hc1, hc2, HC⟩ := hrel
    have hcut := cut_from (some ⟨b, o, none⟩) n c (cur + 1) (by omega)
    rw [show ((cur + 1 : Nat) : Int) = (cur : Int) + 1 from by omega] at hcut
    go_wp2_with fail
    clear hcut
    refine (indexByte_any _ _ _ (fun j => f (cur + 1 + j)) _ _ (HB.out.cut (cur + 1) (n - (cur + 1)) (by omega) hnc) (fun i _ => HF.out _) (by omega)).mono ?_
    rintro e w' ⟨r, hr, rfl, rfl⟩
    rcases hr.shift with ⟨rfl, hno⟩ | ⟨d, hd, rfl, hfd, hbef⟩
    · exact absurd HS.out.2.2.2.2 (hno q (by omega) (by omega))
    have hjq : cur + 1 + d ≤ q := by
      by_cases h : cur + 1 + d ≤ q
      · exact h
      · exact absurd HS.out.2.2.2.2 (hbef q (by omega) (by omega))
    have HFD : Hid (f (cur + 1 + d) = 34) := hfd
    clear hr hbef hfd
    obtain ⟨m, hm⟩ : ∃ m, m = cur + d := ⟨_, rfl⟩
    have HM : Hid (m = cur + d) := hm
    rw [show cur + 1 + d = m + 1 by omega] at hjq HFD
    have hmc : cur ≤ m := by omega
    clear hm
    go_wp2_with fail
    rw [show (cur : Int) + (1 + (d : Int)) = (m : Int) + 1 from by have := HM.out; omega]
    go_loop [5] (fun xv => ∃ x : Nat, xv = .int .i64 x ∧ cur + x ≤ m ∧ Hid (∀ y, y < x → f (m - y) = 92)) (fun xv => m + 1 - (intOf xv).toNat)
    case atStart => exact ⟨0, rfl, by omega, fun y hy => by omega⟩
    case round =>
      obtain ⟨x, rfl, hx, HX⟩ := hrel
      have hcx := HD.out (m - x) (by omega)
      by_cases h92 : f (m - x) = 92
      · have hb : (f (m - x) == 92) = true := by simp [h92]
        have hne : cur ≠ m - x := fun h => by rw [← h, HC.out] at h92; omega
        have HX2 : Hid (∀ y, y < x + 1 → f (m - y) = 92) := fun y hy => if h : y < x then HX.out y h else by rw [show y = x by omega]; exact h92
        clear h92
        go_wp2_with fail
        go_round
        case rel => exact ⟨x + 1, by go_num, by omega, HX2⟩
        case measure => simp [intOf]; omega
      · have hb : (f (m - x) == 92) = false := by simp [h92]
        have HQ : Hid ((x % 2 = 0 → m + 1 = q) ∧ (x % 2 ≠ 0 → m + 1 < q)) := quote_own HS.out HFD.out hjq (by omega) (fun y hy => by rw [show m + 1 - 1 - y = m - y by omega]; exact HX.out y hy) (by rw [show m + 1 - 1 - x = m - x by omega]; exact h92)
        clear h92
        by_cases hpar : x % 2 = 0
        · have hb2 : ((x : Int) % 2 == 0) = true := by simp; omega
          have HQ2 : Hid (m + 1 = q) := HQ.out.1 hpar
          clear hpar
          go_wp2_with fail
          go_ret
          exact ⟨by have := HQ2.out; go_num, rfl⟩
        · have hb2 : ((x : Int) % 2 == 0) = false := by simp; omega
          have hlt := HQ.out.2 hpar
          clear hpar
          go_wp2_with fail
          go_round
          case rel => exact ⟨m + 1, by go_num, by omega, hlt, HFD⟩
          case measure => simp [intOf]; omega

/-- What stands of the place and the depth of a step. -/
theorem Stp.bound {f : Nat → Int} {n p p' : Nat} {d d' : Int} (h : Stp f n p d p' d') : p < p' ∧ p' ≤ n ∧ d' ≤ d + 1 ∧ d - 1 ≤ d' := by
  obtain ⟨h0, ⟨q, hq, rfl, rfl⟩ | ⟨_, rfl, rfl⟩ | ⟨_, rfl, rfl, _⟩ | ⟨_, rfl, rfl⟩⟩ := h
  · have := hq.2.1; have := hq.2.2.1; omega
  · omega
  · omega
  · omega

set_option maxHeartbeats 1000000 in
set_option maxRecDepth 100000 in
theorem value_str (b o n c i q : Nat) (f : Nat → Int) (w : World) (hn : n ≤ 1048576) (hnc : n ≤ c) (hf : ∀ i, 0 ≤ f i ∧ f i ≤ 255) (hD : Dt w b o n f) (hS : StrQ f n i q) :
    Calls Trym.prog 18 #[.slice (some ⟨b, o, none⟩) n c, .int .i64 i] w fun e w' => e = .returned (.int .i64 ((q : Int) + 1)) ∧ w = w' := by
  have hin : i < n := by have := hS.2.1; have := hS.2.2.1; omega
  have hci : w.cell? ⟨b, o + i, none⟩ = some (.int .u8 34) := by rw [hD i hin, hS.1]
  have H := stringEnd_any b o n c i q f w hn hnc hf hD hS
  have HH : Hid (Calls Trym.prog 19 #[.slice (some ⟨b, o, none⟩) n c, .int .i64 i] w fun e w' => e = .returned (.int .i64 ((q : Int) + 1)) ∧ w = w') := H
  clear hf hD hS H
  go_enter Trym.func18, Trym.ntmps18
  go_wp2_with fail
  refine HH.out.mono ?_
  rintro e w' ⟨rfl, rfl⟩
  go_wp2_with fail
  go_ret
  exact ⟨rfl, rfl⟩

set_option maxHeartbeats 1000000 in
set_option maxRecDepth 100000 in
theorem value_cont (b o n c i e0 : Nat) (f : Nat → Int) (w : World) (hn : n ≤ 1048576) (hnc : n ≤ c) (hf : ∀ i, 0 ≤ f i ∧ f i ≤ 255) (hD : Dt w b o n f) (hS : Cont f n i e0) (hin : i < n) :
    Calls Trym.prog 18 #[.slice (some ⟨b, o, none⟩) n c, .int .i64 i] w fun e w' => e = .returned (.int .i64 e0) ∧ w = w' := by
  obtain ⟨hop, q, ⟨k, P, D, hP0, hD0, hPk, hDk, hst⟩, hqn, hcl, rfl⟩ := hS
  have HD : Hid (Dt w b o n f) := hD
  have HF : Hid (∀ i, 0 ≤ f i ∧ f i ≤ 255) := hf
  have HST : Hid (∀ j, j < k → Stp f n (P j) (D j) (P (j + 1)) (D (j + 1))) := hst
  have HP0 : Hid (P 0 = i) := hP0
  have HD0 : Hid (D 0 = 0) := hD0
  have HPK : Hid (P k = q) := hPk
  have HDK : Hid (D k = 1) := hDk
  have HCL : Hid (f q = 125 ∨ f q = 93) := hcl
  have hci := hD i hin
  have h34 : (f i == 34) = false := by simp; omega
  have hbr : ((f i == 123) = true) ∨ ((f i == 123) = false ∧ (f i == 91) = true) := by
    rcases hop with h | h
    · left; simp [h]
    · right; simp [h]
  clear hD hf hop hst hP0 hD0 hPk hDk hcl
  rcases hbr with b1 | ⟨b1, b2⟩
  all_goals
    go_enter Trym.func18, Trym.ntmps18
    go_wp2_with fail
    go_loop [1, 5] (fun iv dv => ∃ j p : Nat, ∃ d : Int, iv = .int .i64 p ∧ dv = .int .i64 d ∧ j ≤ k ∧ p < n ∧ j ≤ p ∧ d ≤ j ∧ -(j : Int) ≤ d ∧ Hid (P j = p ∧ D j = d)) (fun iv _ => n - (intOf iv).toNat)
    case atStart => exact ⟨0, i, 0, rfl, rfl, Nat.zero_le _, hin, Nat.zero_le _, by omega, by omega, HP0.out, HD0.out⟩
    case round =>
      obtain ⟨j, p, d, rfl, rfl, hjk, hpn, hjp, hd1, hd2, HJ⟩ := hrel
      have hcp := HD.out p hpn
      by_cases hend : j = k
      · subst hend
        have hpq : p = q := by rw [← HJ.out.1, HPK.out]
        have hd : d = 1 := by rw [← HJ.out.2, HDK.out]
        subst hpq hd
        have g34 : (f p == 34) = false := by have := HCL.out; simp; omega
        have g123 : (f p == 123) = false := by have := HCL.out; simp; omega
        have g91 : (f p == 91) = false := by have := HCL.out; simp; omega
        have hbr2 : ((f p == 125) = true) ∨ ((f p == 125) = false ∧ (f p == 93) = true) := by
          rcases HCL.out with h | h
          · left; simp [h]
          · right; simp [h]
        rcases hbr2 with c1 | ⟨c1, c2⟩
        all_goals
          go_wp2_with fail
          go_ret
          exact ⟨by go_num, rfl⟩
      · have hs := HST.out j (by omega)
        have hbd := hs.bound
        have hnx : P (j + 1) < n := by
          by_cases h : j + 1 = k
          · rw [h, HPK.out]; exact hqn
          · exact (HST.out (j + 1) (by omega)).1
        obtain ⟨p', hp'⟩ : ∃ p', P (j + 1) = p' := ⟨_, rfl⟩
        obtain ⟨d', hd'⟩ : ∃ d', D (j + 1) = d' := ⟨_, rfl⟩
        have HN : Hid (P (j + 1) = p' ∧ D (j + 1) = d') := ⟨hp', hd'⟩
        rw [HJ.out.1, HJ.out.2, hp', hd'] at hs hbd
        rw [hp'] at hnx
        clear hp' hd' HJ
        obtain ⟨_, ⟨q', hq', rfl, rfl⟩ | ⟨ho, rfl, rfl⟩ | ⟨ho, rfl, rfl, hz⟩ | ⟨ho, rfl, rfl⟩⟩ := hs
        · have g34 : (f p == 34) = true := by simp [hq'.1]
          have HQ : Hid (StrQ f n p q') := hq'
          clear hq'
          go_wp2_with fail
          refine (stringEnd_any _ _ _ _ p q' f _ hn hnc HF.out HD.out HQ.out).mono ?_
          rintro e w' ⟨rfl, rfl⟩
          go_wp2_with fail
          go_round
          case rel => exact ⟨j + 1, q' + 1, d', by go_num, rfl, by omega, hnx, by omega, by omega, by omega, HN⟩
          case measure => simp [intOf]; omega
        · have g34 : (f p == 34) = false := by simp; omega
          have hbr2 : ((f p == 123) = true) ∨ ((f p == 123) = false ∧ (f p == 91) = true) := by
            rcases ho with h | h
            · left; simp [h]
            · right; simp [h]
          clear ho
          rcases hbr2 with c1 | ⟨c1, c2⟩
          all_goals
            go_wp2_with fail
            go_round
            case rel => exact ⟨j + 1, p + 1, d + 1, by go_num, rfl, by omega, hnx, by omega, by omega, by omega, HN⟩
            case measure => simp [intOf]; omega
        · have g34 : (f p == 34) = false := by simp; omega
          have g123 : (f p == 123) = false := by simp; omega
          have g91 : (f p == 91) = false := by simp; omega
          have gz : (d - 1 == 0) = false := by simp; omega
          have hbr2 : ((f p == 125) = true) ∨ ((f p == 125) = false ∧ (f p == 93) = true) := by
            rcases ho with h | h
            · left; simp [h]
            · right; simp [h]
          clear ho hz
          rcases hbr2 with c1 | ⟨c1, c2⟩
          all_goals
            go_wp2_with fail
            go_round
            case rel => exact ⟨j + 1, p + 1, d - 1, by go_num, rfl, by omega, hnx, by omega, by omega, by omega, HN⟩
            case measure => simp [intOf]; omega
        · unfold Pl at ho
          have g34 : (f p == 34) = false := by simp; omega
          have g123 : (f p == 123) = false := by simp; omega
          have g91 : (f p == 91) = false := by simp; omega
          have g125 : (f p == 125) = false := by simp; omega
          have g93 : (f p == 93) = false := by simp; omega
          clear ho
          go_wp2_with fail
          go_round
          case rel => exact ⟨j + 1, p + 1, d', by go_num, rfl, by omega, hnx, by omega, by omega, by omega, HN⟩
          case measure => simp [intOf]; omega

set_option maxHeartbeats 1000000 in
set_option maxRecDepth 100000 in
theorem value_tok (b o n c i e0 : Nat) (f : Nat → Int) (w : World) (hn : n ≤ 1048576) (hD : Dt w b o n f) (hT : Tok f n i e0) (hs : e0 = n ∨ Stop (f e0)) :
    Calls Trym.prog 18 #[.slice (some ⟨b, o, none⟩) n c, .int .i64 i] w fun e w' => e = .returned (.int .i64 e0) ∧ w = w' := by
  have HD : Hid (Dt w b o n f) := hD
  have HT : Hid (∀ j, i ≤ j → j < e0 → Tc (f j)) := hT.2.2
  have HS : Hid (e0 = n ∨ Stop (f e0)) := hs
  have h1 := hT.1
  have h2 := hT.2.1
  have hci := hD i (by omega)
  have hti := hT.2.2 i (Nat.le_refl _) h1
  unfold Tc Pl at hti
  have g34 : (f i == 34) = false := by simp; omega
  have g123 : (f i == 123) = false := by simp; omega
  have g91 : (f i == 91) = false := by simp; omega
  clear hD hT hs hti
  go_enter Trym.func18, Trym.ntmps18
  go_wp2_with fail
  go_loop [1] (fun iv => ∃ p : Nat, iv = .int .i64 p ∧ i ≤ p ∧ p ≤ e0) (fun iv => n - (intOf iv).toNat)
  case atStart => exact ⟨i, rfl, Nat.le_refl _, by omega⟩
  case round =>
    obtain ⟨p, rfl, hp1, hp2⟩ := hrel
    by_cases hpe : p < e0
    · have hcp := HD.out p (by omega)
      have ht := HT.out p hp1 hpe
      unfold Tc Pl at ht
      have k44 : (f p != 44) = true := by simp; omega
      have k93 : (f p != 93) = true := by simp; omega
      have k125 : (f p != 125) = true := by simp; omega
      have HNS : Hid (¬ Sp (f p)) := ht.2.1
      clear ht
      go_wp2_with fail
      refine (isSpace24_no _ _ HNS.out).mono ?_
      rintro e w' ⟨rfl, rfl⟩
      go_wp2_with fail
      go_round
      case rel => exact ⟨p + 1, by go_num, by omega, by omega⟩
      case measure => simp [intOf]; omega
    · obtain rfl : p = e0 := by omega
      by_cases hpn : p < n
      rotate_left
      · go_wp2_with fail
        go_ret
        exact ⟨rfl, rfl⟩
      have hcp := HD.out p hpn
      have hst : Stop (f p) := by
        rcases HS.out with h | h
        · omega
        · exact h
      by_cases hsp : Sp (f p)
      · have HSP : Hid (Sp (f p)) := hsp
        clear hsp hst
        go_wp2_with fail
        refine (isSpace24_yes _ _ HSP.out).mono ?_
        rintro e w' ⟨rfl, rfl⟩
        go_wp2_with fail
        go_ret
        exact ⟨rfl, rfl⟩
      · have HNS : Hid (¬ Sp (f p)) := hsp
        have hcc : f p = 44 ∨ f p = 93 ∨ f p = 125 := by
          rcases hst with h | h
          · exact absurd h hsp
          · exact h
        clear hsp hst
        by_cases k1 : f p = 44
        · have k44 : (f p != 44) = false := by simp [k1]
          clear k1 hcc
          go_wp2_with fail
          refine (isSpace24_no _ _ HNS.out).mono ?_
          rintro e w' ⟨rfl, rfl⟩
          go_wp2_with fail
          go_ret
          exact ⟨rfl, rfl⟩
        have k44 : (f p != 44) = true := by simp [k1]
        by_cases k2 : f p = 93
        · have k93 : (f p != 93) = false := by simp [k2]
          clear k1 k2 hcc
          go_wp2_with fail
          refine (isSpace24_no _ _ HNS.out).mono ?_
          rintro e w' ⟨rfl, rfl⟩
          go_wp2_with fail
          go_ret
          exact ⟨rfl, rfl⟩
        have k93 : (f p != 93) = true := by simp [k2]
        have k125 : (f p != 125) = false := by simp; omega
        clear k1 k2 hcc
        go_wp2_with fail
        refine (isSpace24_no _ _ HNS.out).mono ?_
        rintro e w' ⟨rfl, rfl⟩
        go_wp2_with fail
        go_ret
        exact ⟨rfl, rfl⟩

theorem value_any (b o n c i e0 : Nat) (f : Nat → Int) (w : World) (hn : n ≤ 1048576) (hnc : n ≤ c) (hf : ∀ i, 0 ≤ f i ∧ f i ≤ 255) (hD : Dt w b o n f) (hin : i < n) (hG : Good f n i e0) :
    Calls Trym.prog 18 #[.slice (some ⟨b, o, none⟩) n c, .int .i64 i] w fun e w' => e = .returned (.int .i64 e0) ∧ w = w' := by
  rcases hG with ⟨q, hS, rfl⟩ | hC | ⟨hT, hs⟩
  · exact value_str b o n c i q f w hn hnc hf hD hS
  · exact value_cont b o n c i e0 f w hn hnc hf hD hC hin
  · exact value_tok b o n c i e0 f w hn hD hT hs

end Go.Proofs.Qxb6602712aMods

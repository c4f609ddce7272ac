/-
  The walk of skipNestedModelProxyB1: the scan, byte by byte.
-/
import Derived.Test.Qxb6601167aModsStringEnd
namespace Go.Proofs.Qxb6601167aMods
open Go.RowKit

/-- What the model scan leaves. -/
def MoPost (q : S) (f : Nat → Int) (n : Nat) (e : Ending) : Prop :=
  ∃ (r : Int) (ok : Bool) (q' : S), Res f n q r ok q' ∧ e = .returned (.tuple #[.int .i64 r, .bool ok, .bool q'.s, .bool q'.e, .int .i64 q'.d])

/-- The bytes of the slice at 'p' can be read in 'w'. -/
theorem Bs.at {w : World} {p : Option Addr} {n : Nat} {f : Nat → Int} (h : Bs w p n f) (hn : 0 < n) : ∃ b o, p = some ⟨b, o, none⟩ ∧ ∀ i, i < n → w.cell? ⟨b, o + i, none⟩ = some (.int .u8 (f i)) := by
  rcases h with h | h
  · omega
  · exact h

set_option maxHeartbeats 1000000 in
set_option maxRecDepth 100000 in
theorem model_some (q : S) (b o n c : Nat) (f : Nat → Int) (w : World) (hn : n ≤ 1048576)
    (hcell : ∀ i, i < n → w.cell? ⟨b, o + i, none⟩ = some (.int .u8 (f i))) :
    Calls Trym.prog 15 #[.slice (some ⟨b, o, none⟩) n c, .bool q.s, .bool q.e, .int .i64 q.d] w fun e w' => MoPost q f n e ∧ w = w' := by
  have HC : Hid (∀ i, i < n → w.cell? ⟨b, o + i, none⟩ = some (.int .u8 (f i))) := hcell
  clear hcell
  go_enter Trym.func15, Trym.ntmps15
  go_wp2_with fail
  go_loop [1, 2, 3, 13] (fun sv ev dv iv => ∃ (k : Nat) (s e : Bool) (d : Int), sv = .bool s ∧ ev = .bool e ∧ dv = .int .i64 d ∧ iv = .int .i64 k ∧ k ≤ n ∧ Hid (Open f q k) ∧ Hid (stt f q k = ⟨s, e, d⟩)) (fun _ _ _ iv => n - (intOf iv).toNat)
  case atStart => exact ⟨0, q.s, q.e, q.d, rfl, rfl, rfl, rfl, Nat.zero_le _, Open.zero f q, rfl⟩
  case round =>
    obtain ⟨k, s, e, d, rfl, rfl, rfl, rfl, hk, HO, HST⟩ := hrel
    by_cases hlt : k < n
    · have hcb := HC.out k hlt
      have hst : stt f q (k + 1) = stp (f k) ⟨s, e, d⟩ := by show stp (f k) (stt f q k) = _; rw [HST.out]
      cases s
      · by_cases c34 : f k = 34
        · have b34 : (f k == 34) = true := by simp [c34]
          have HS2 : Hid (stt f q (k + 1) = ⟨true, e, d⟩) := by show _ = _; rw [hst]; simp [stp, c34]
          have HO2 : Hid (Open f q (k + 1)) := HO.out.succ (by rw [HST.out]; simp [fin, c34])
          clear c34 hst
          go_wp2_with fail
          go_round
          case rel => exact ⟨k + 1, _, _, _, rfl, rfl, rfl, by go_num, by omega, HO2, HS2⟩
          case measure => simp [intOf]; omega
        have b34 : (f k == 34) = false := by simp [c34]
        by_cases cop : f k = 123 ∨ f k = 91
        · have HS2 : Hid (stt f q (k + 1) = ⟨false, e, wrap64 (d + 1)⟩) := by show _ = _; rw [hst]; simp [stp, c34, cop]
          have HO2 : Hid (Open f q (k + 1)) := HO.out.succ (by rw [HST.out]; simp [fin]; omega)
          have hbr : ((f k == 123) = true) ∨ ((f k == 123) = false ∧ (f k == 91) = true) := by
            rcases cop with h | h
            · left; simp [h]
            · right; simp [h]
          clear c34 hst cop
          rcases hbr with b1 | ⟨b1, b2⟩
          all_goals
            go_wp2_with fail
            go_round
            case rel => exact ⟨k + 1, _, _, _, rfl, rfl, rfl, by go_num, by omega, HO2, HS2⟩
            case measure => simp [intOf]; omega
        have b123 : (f k == 123) = false := by simp; omega
        have b91 : (f k == 91) = false := by simp; omega
        by_cases ccl : f k = 125 ∨ f k = 93
        · have HS2 : Hid (stt f q (k + 1) = ⟨false, e, wrap64 (d - 1)⟩) := by show _ = _; rw [hst]; simp [stp, c34, cop, ccl]
          have hbr : ((f k == 125) = true) ∨ ((f k == 125) = false ∧ (f k == 93) = true) := by
            rcases ccl with h | h
            · left; simp [h]
            · right; simp [h]
          by_cases h0 : wrap64 (d - 1) = 0
          · have bz : (wrap64 (d - 1) == 0) = true := by simp [h0]
            have HR : Hid (Res f n q ((k : Int) + 1) true ⟨false, e, wrap64 (d - 1)⟩) :=
              Or.inl ⟨k, hlt, HO.out, by rw [HST.out]; exact ⟨rfl, ccl, h0⟩, rfl, rfl, HS2.out.symm⟩
            clear c34 hst cop ccl h0
            rcases hbr with b1 | ⟨b1, b2⟩
            all_goals
              go_wp2_with fail
              refine bodyPost_ret (v := .tuple #[.int .i64 ((k : Int) + 1), .bool true, .bool false, .bool e, .int .i64 (wrap64 (d - 1))]) (by simp [results, Trym.results15, go_sem]) rfl ?_
              exact ⟨⟨_, _, _, HR, rfl⟩, rfl⟩
          · have bz : (wrap64 (d - 1) == 0) = false := by simp [h0]
            have HO2 : Hid (Open f q (k + 1)) := HO.out.succ (by rw [HST.out]; simp [fin, h0])
            clear c34 hst cop ccl h0
            rcases hbr with b1 | ⟨b1, b2⟩
            all_goals
              go_wp2_with fail
              go_round
              case rel => exact ⟨k + 1, _, _, _, rfl, rfl, rfl, by go_num, by omega, HO2, HS2⟩
              case measure => simp [intOf]; omega
        · have b125 : (f k == 125) = false := by simp; omega
          have b93 : (f k == 93) = false := by simp; omega
          have HS2 : Hid (stt f q (k + 1) = ⟨false, e, d⟩) := by show _ = _; rw [hst]; simp [stp, c34, cop, ccl]
          have HO2 : Hid (Open f q (k + 1)) := HO.out.succ (by rw [HST.out]; simp [fin]; omega)
          clear c34 hst cop ccl
          go_wp2_with fail
          go_round
          case rel => exact ⟨k + 1, _, _, _, rfl, rfl, rfl, by go_num, by omega, HO2, HS2⟩
          case measure => simp [intOf]; omega
      · have HO2 : Hid (Open f q (k + 1)) := HO.out.succ (by rw [HST.out]; simp [fin])
        cases e
        · by_cases c92 : f k = 92
          · have b92 : (f k == 92) = true := by simp [c92]
            have HS2 : Hid (stt f q (k + 1) = ⟨true, true, d⟩) := by show _ = _; rw [hst]; simp [stp, c92]
            clear c92 hst
            go_wp2_with fail
            go_round
            case rel => exact ⟨k + 1, _, _, _, rfl, rfl, rfl, by go_num, by omega, HO2, HS2⟩
            case measure => simp [intOf]; omega
          have b92 : (f k == 92) = false := by simp [c92]
          by_cases c34 : f k = 34
          · have b34 : (f k == 34) = true := by simp [c34]
            have HS2 : Hid (stt f q (k + 1) = ⟨false, false, d⟩) := by show _ = _; rw [hst]; simp [stp, c34]
            clear c34 c92 hst
            go_wp2_with fail
            go_round
            case rel => exact ⟨k + 1, _, _, _, rfl, rfl, rfl, by go_num, by omega, HO2, HS2⟩
            case measure => simp [intOf]; omega
          · have b34 : (f k == 34) = false := by simp [c34]
            have HS2 : Hid (stt f q (k + 1) = ⟨true, false, d⟩) := by show _ = _; rw [hst]; simp [stp, c34, c92]
            clear c34 c92 hst
            go_wp2_with fail
            go_round
            case rel => exact ⟨k + 1, _, _, _, rfl, rfl, rfl, by go_num, by omega, HO2, HS2⟩
            case measure => simp [intOf]; omega
        · have HS2 : Hid (stt f q (k + 1) = ⟨true, false, d⟩) := by show _ = _; rw [hst]; simp [stp]
          clear hst
          go_wp2_with fail
          go_round
          case rel => exact ⟨k + 1, _, _, _, rfl, rfl, rfl, by go_num, by omega, HO2, HS2⟩
          case measure => simp [intOf]; omega
    · have HR : Hid (Res f n q n false ⟨s, e, d⟩) := by
        have : k = n := by omega
        subst this
        exact Or.inr ⟨HO.out, rfl, rfl, HST.out.symm⟩
      go_wp2_with fail
      refine bodyPost_ret (v := .tuple #[.int .i64 n, .bool false, .bool s, .bool e, .int .i64 d]) (by simp [results, Trym.results15, go_sem]) rfl ?_
      exact ⟨⟨_, _, _, HR, rfl⟩, rfl⟩

set_option maxHeartbeats 400000 in
set_option maxRecDepth 100000 in
theorem model_zero (q : S) (p : Option Addr) (c : Nat) (f : Nat → Int) (w : World) :
    Calls Trym.prog 15 #[.slice p 0 c, .bool q.s, .bool q.e, .int .i64 q.d] w fun e w' => MoPost q f 0 e ∧ w = w' := by
  go_enter Trym.func15, Trym.ntmps15
  go_wp2_with fail
  refine wp_loop_rounds 1 ?_; rw [rounds_succ]
  go_wp2_with fail
  refine bodyPost_ret (v := .tuple #[.int .i64 0, .bool false, .bool q.s, .bool q.e, .int .i64 q.d]) (by simp [results, Trym.results15, go_sem]) rfl ?_
  exact ⟨⟨_, _, _, Or.inr ⟨Open.zero f q, rfl, rfl, rfl⟩, rfl⟩, rfl⟩

theorem model_any (q : S) (p : Option Addr) (n c : Nat) (f : Nat → Int) (w : World) (hn : n ≤ 1048576) (hB : Bs w p n f) :
    Calls Trym.prog 15 #[.slice p n c, .bool q.s, .bool q.e, .int .i64 q.d] w fun e w' => MoPost q f n e ∧ w = w' := by
  rcases hB with rfl | ⟨b, o, rfl, hc⟩
  · exact model_zero q p c f w
  · exact model_some q b o n c f w hn hc

end Go.Proofs.Qxb6601167aMods

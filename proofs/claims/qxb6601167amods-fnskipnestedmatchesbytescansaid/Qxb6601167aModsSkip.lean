/-
  The walk of skipNested.
-/
import Derived.Test.Qxb6601167aModsStringEnd2
import Derived.Deep.RegionWith
namespace Go.Proofs.Qxb6601167aMods
open Go.RowKit

/-- What skipNested leaves: its two answers and the state. -/
def SkPost (w0 : World) (g : Nat) (q : S) (f : Nat → Int) (n : Nat) (e : Ending) (w' : World) : Prop :=
  ∃ (r : Int) (ok : Bool) (q' : S), Res f n q r ok q' ∧ Pk w0 g q' w' ∧ e = .returned (.tuple #[.int .i64 r, .bool ok])

theorem in_none {f : Nat → Int} {q : S} {n k : Nat} {e v : Bool} {d : Int} (hk : k ≤ n) (ho : Open f q k) (hs : stt f q k = ⟨true, e, d⟩)
    (h : SE (fun i => f (k + i)) (n - k) e (-1) v) : Res f n q n false ⟨true, v, d⟩ := by
  rcases h with ⟨_, h1, rfl⟩ | ⟨j, _, h, _⟩
  · obtain ⟨h2, h3⟩ := stt_string (fun i => f (k + i)) ⟨true, e, d⟩ rfl (n - k) h1
    have := Res.join (r := ((n - k : Nat) : Int)) (ok := false) (q' := ⟨true, se (fun i => f (k + i)) e (n - k), d⟩) hk ho (by
      rw [hs]; exact Or.inr ⟨h3, rfl, rfl, h2.symm⟩)
    rwa [show (k : Int) + ((n - k : Nat) : Int) = n by omega] at this
  · omega

theorem in_hit {f : Nat → Int} {q : S} {n k : Nat} {e v : Bool} {d : Int} {r : Int} (ho : Open f q k) (hs : stt f q k = ⟨true, e, d⟩)
    (h : SE (fun i => f (k + i)) (n - k) e r v) (hr : r ≠ -1) : ∃ j : Nat, r = j ∧ k + j < n ∧ v = false ∧ Open f q (k + j + 1) ∧ stt f q (k + j + 1) = ⟨false, false, d⟩ := by
  rcases h with ⟨h, _⟩ | ⟨j, h1, rfl, h2, h3, h4, rfl⟩
  · exact absurd h hr
  · obtain ⟨a, b⟩ := stt_closed (fun i => f (k + i)) ⟨true, e, d⟩ rfl j h2 h3 h4
    have hj := Res.join (n := k + j + 1) (r := ((j + 1 : Nat) : Int)) (ok := false) (q' := ⟨false, false, d⟩) (by omega) ho (by
      rw [hs, show k + j + 1 - k = j + 1 by omega]; exact Or.inr ⟨b, rfl, rfl, a.symm⟩)
    obtain ⟨x, _, y⟩ := hj.went
    exact ⟨j, rfl, by omega, rfl, x, y.symm⟩

set_option maxHeartbeats 400000 in
set_option maxRecDepth 100000 in
theorem skipNested_any (w0 : World) (g : Nat) (q : S) (b o n c : Nat) (f : Nat → Int) (w : World) (hn : n ≤ 1048576) (hnc : n ≤ c) (hbg : b < g)
    (hcell : ∀ i, i < n → w0.cell? ⟨b, o + i, none⟩ = some (.int .u8 (f i))) (hP : Pk w0 g q w) (hf : ∀ i, 0 ≤ f i ∧ f i ≤ 255) :
    Calls Trym.prog 21 #[.pointer (some ⟨g, 0, none⟩), .slice (some ⟨b, o, none⟩) n c] w fun e w' => SkPost w0 g q f n e w' := by
  have HF : Hid (∀ i, 0 ≤ f i ∧ f i ≤ 255) := hf
  have HC : Hid (∀ i, i < n → w0.cell? ⟨b, o + i, none⟩ = some (.int .u8 (f i))) := hcell
  have HP : Hid (Pk w0 g q w) := hP
  clear hf hP hcell
  go_enter Trym.func21, Trym.ntmps21
  go_wp2_with fail
  go_loopw [6] (fun iv wr => ∃ k : Nat, iv = .int .i64 k ∧ k ≤ n ∧ Hid (Open f q k) ∧ Hid (Pk w0 g (stt f q k) wr)) (fun iv _ => n - (intOf iv).toNat)
  case atStart => exact ⟨0, rfl, Nat.zero_le _, Open.zero f q, HP⟩
  case round =>
    obtain ⟨k, rfl, hk, HO, HK⟩ := hrel
    by_cases hlt : k < n
    · have hP := HK.out
      have HST : ∃ st, Hid (stt f q k = st) := ⟨_, rfl⟩
      obtain ⟨⟨s, e, d⟩, HST⟩ := HST
      rw [HST.out] at hP
      have hcs := hP.s
      have hce := hP.e
      have hcd := hP.d
      have hf8 := hP.fr 8
      have hf9 := hP.fr 9
      have hf10 := hP.fr 10
      have hcb : wr.cell? ⟨b, o + k, none⟩ = some (.int .u8 (f k)) := by rw [hP.bel.cell (p := ⟨b, o + k, none⟩) hbg]; exact HC.out k hlt
      have HPK : Hid (Pk w0 g ⟨s, e, d⟩ wr) := hP
      clear hP HK
      cases s
      · dsimp only at hcs hce hcd
        have hst : stt f q (k + 1) = stp (f k) ⟨false, e, d⟩ := by show stp (f k) (stt f q k) = _; rw [HST.out]
        by_cases c34 : f k = 34
        · have b34 : (f k == 34) = true := by simp [c34]
          have HS2 : Hid (stt f q (k + 1) = ⟨true, e, d⟩) := by show _ = _; rw [hst]; simp [stp, c34]
          have HO2 : Hid (Open f q (k + 1)) := HO.out.succ (by rw [HST.out]; simp [fin, c34])
          clear c34 hst
          go_wp2_with fail
          go_roundw
          case rel => exact ⟨k + 1, by go_num, by omega, HO2, by rw [HS2.out]; exact HPK.out.setS true⟩
          case measure => simp [intOf]; omega
        have b34 : (f k == 34) = false := by simp [c34]
        by_cases cop : f k = 123 ∨ f k = 91
        · have HS2 : Hid (stt f q (k + 1) = ⟨false, e, wrap64 (d + 1)⟩) := by show _ = _; rw [hst]; simp [stp, c34, cop]
          have HO2 : Hid (Open f q (k + 1)) := HO.out.succ (by rw [HST.out]; simp [fin]; omega)
          rcases cop with cop | cop
          · have b1 : (f k == 123) = true := by simp [cop]
            clear c34 hst cop
            go_wp2_with fail
            go_roundw
            case rel => exact ⟨k + 1, by go_num, by omega, HO2, by rw [HS2.out]; exact HPK.out.setD _⟩
            case measure => simp [intOf]; omega
          · have b1 : (f k == 123) = false := by simp [cop]
            have b2 : (f k == 91) = true := by simp [cop]
            clear c34 hst cop
            go_wp2_with fail
            go_roundw
            case rel => exact ⟨k + 1, by go_num, by omega, HO2, by rw [HS2.out]; exact HPK.out.setD _⟩
            case measure => simp [intOf]; omega
        have b123 : (f k == 123) = false := by simp; omega
        have b91 : (f k == 91) = false := by simp; omega
        by_cases ccl : f k = 125 ∨ f k = 93
        · have HS2 : Hid (stt f q (k + 1) = ⟨false, e, wrap64 (d - 1)⟩) := by show _ = _; rw [hst]; simp [stp, c34, cop, ccl]
          have hbr : ((f k == 125) = true) ∨ ((f k == 125) = false ∧ (f k == 93) = true) := by
            rcases ccl with h | h
            · left; simp [h]
            · right; simp [h]
          by_cases h0 : wrap64 (d - 1) = 0
          · have bz : (wrap64 (d - 1) == 0) = true := by simp [h0]
            have HR : Hid (Res f n q ((k : Int) + 1) true ⟨false, e, wrap64 (d - 1)⟩) :=
              Or.inl ⟨k, hlt, HO.out, by rw [HST.out]; exact ⟨rfl, ccl, h0⟩, rfl, rfl, HS2.out.symm⟩
            clear c34 hst cop ccl h0
            rcases hbr with b1 | ⟨b1, b2⟩
            all_goals
              go_wp2_with fail
              go_ret2
              exact ⟨_, _, _, HR, HPK.out.setD _, rfl⟩
          · have bz : (wrap64 (d - 1) == 0) = false := by simp [h0]
            have HO2 : Hid (Open f q (k + 1)) := HO.out.succ (by rw [HST.out]; simp [fin, h0])
            clear c34 hst cop ccl h0
            rcases hbr with b1 | ⟨b1, b2⟩
            all_goals
              go_wp2_with fail
              go_roundw
              case rel => exact ⟨k + 1, by go_num, by omega, HO2, by rw [HS2.out]; exact HPK.out.setD _⟩
              case measure => simp [intOf]; omega
        · have b125 : (f k == 125) = false := by simp; omega
          have b93 : (f k == 93) = false := by simp; omega
          have HS2 : Hid (stt f q (k + 1) = ⟨false, e, d⟩) := by show _ = _; rw [hst]; simp [stp, c34, cop, ccl]
          have HO2 : Hid (Open f q (k + 1)) := HO.out.succ (by rw [HST.out]; simp [fin]; omega)
          clear c34 hst cop ccl
          go_wp2_with fail
          go_roundw
          case rel => exact ⟨k + 1, by go_num, by omega, HO2, by rw [HS2.out]; exact HPK⟩
          case measure => simp [intOf]; omega
      · dsimp only at hcs hce hcd
        have HD : Hid (Bl w0 (cutP (some ⟨b, o, none⟩) c k) (n - k) (fun i => f (k + i)) g) := Bl.cut (Or.inr ⟨b, o, rfl, hbg, HC.out⟩) k (n - k) (by omega) hnc
        have hcut := cut_from (some ⟨b, o, none⟩) n c k hk
        go_wp2_with fail
        go_region_with (go_at_call 20; refine (stringEnd_any w0 g true e d _ _ _ (fun i => f (k + i)) _ (by omega) (by omega) (by omega) (fun i => HF.out _) HD.out ?_).mono ?_; (first | exact HPK.out | exact HPK.out.drew | exact HPK.out.drew.drew); rintro e1 w1 ⟨r, v, hSE, hP1, rfl⟩)
        have HSE : Hid (SE (fun i => f (k + i)) (n - k) e r v) := hSE
        have HP1 : Hid (Pk w0 g ⟨true, v, d⟩ w1) := hP1
        have hcs1 := hP1.s
        have hf91 := hP1.fr 9
        dsimp only at hcs1
        clear hcut hSE hP1 hcs hce hcd hf8 hf9 hf10 hcb HD HPK
        by_cases hr : r = -1
        · subst hr
          have HR : Hid (Res f n q n false ⟨true, v, d⟩) := in_none hk HO.out HST.out HSE.out
          go_wp2_with fail
          go_ret2
          exact ⟨_, _, _, HR, HP1, rfl⟩
        · obtain ⟨j, rfl, hj, rfl, hO2, hS2⟩ := in_hit HO.out HST.out HSE.out hr
          have HO2 : Hid (Open f q (k + j + 1)) := hO2
          have HS2 : Hid (stt f q (k + j + 1) = ⟨false, false, d⟩) := hS2
          clear hO2 hS2 hr
          go_wp2_with fail
          go_roundw
          case rel => exact ⟨k + j + 1, by go_num, by omega, HO2, by rw [HS2.out]; exact HP1.out.setS false⟩
          case measure => simp [intOf]; omega
    · obtain rfl : k = n := by omega
      have HR : Hid (Res f k q k false (stt f q k)) := Or.inr ⟨HO.out, rfl, rfl, rfl⟩
      go_wp2_with fail
      go_ret2
      exact ⟨_, _, _, HR, HK, rfl⟩

end Go.Proofs.Qxb6601167aMods

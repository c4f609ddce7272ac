import Derived.Test.Qxb6600597aModsBytes
import Derived.WalkSpells
import Derived.Outline
namespace Go.Proofs.Qxb6600597aMods
open Go.RowKit

/-- Two results, an int and a bool, of which 'R' holds. -/
def Gives2 (R : Int → Bool → Prop) (e : Ending) : Prop := ∃ (r : Int) (ok : Bool), R r ok ∧ e = .returned (.tuple #[.int .i64 r, .bool ok])

set_option maxHeartbeats 400000 in
set_option maxRecDepth 100000 in
theorem stringEnd_any (b o n c s : Nat) (f : Nat → Int) (w : World) (hs : s < n) (hn : n ≤ 1048576) (hnc : n ≤ c)
    (hcell : ∀ i, i < n → w.cell? ⟨b, o + i, none⟩ = some (.int .u8 (f i))) (hf : ∀ i, 0 ≤ f i ∧ f i ≤ 255) :
    Calls Trym.prog 10 #[.slice (some ⟨b, o, none⟩) n c, .int .i64 s] w fun e w' => Gives2 (Ends f n (s + 1)) e ∧ w = w' := by
  have hB : Bs w (some ⟨b, o, none⟩) n f := Or.inr ⟨b, o, rfl, hcell⟩
  have HF : Hid (∀ i, 0 ≤ f i ∧ f i ≤ 255) := hf
  have HC : Hid (∀ i, i < n → w.cell? ⟨b, o + i, none⟩ = some (.int .u8 (f i))) := hcell
  clear hf hcell
  go_enter Trym.func10, Trym.ntmps10
  go_wp2_with fail
  go_loop [6] (fun fr => ∃ k : Nat, k ≤ n ∧ fr = .int .i64 k ∧ Hid (At f (s + 1) k)) (fun fr => n - (intOf fr).toNat)
  case atStart => exact ⟨s + 1, by omega, by go_num, At.start f (s + 1)⟩
  case round =>
    obtain ⟨k, hk, rfl, HA⟩ := hrel
    have hcut := cut_from (some ⟨b, o, none⟩) n c k hk
    go_wp2_with fail
    clear hcut
    refine (indexByte_any _ _ _ (fun i => f (k + i)) _ _ (hB.cut k (n - k) (by omega) hnc) (fun i _ => HF.out _) (by omega)).mono ?_
    rintro e w' ⟨r, hr, rfl, rfl⟩
    rcases hr.shift with ⟨rfl, hno⟩ | ⟨q, hq, rfl, hfq, hbef⟩
    · have HE : Hid (Ends f n (s + 1) n false) := Ends.none HA.out (fun j a b => hno j a (by omega))
      clear hno hr
      go_wp2_with fail
      go_ret2
      exact ⟨⟨_, _, HE, rfl⟩, rfl⟩
    · have HQ : Hid (f (k + q) = 34) := hfq
      have HBF : Hid (∀ j, k ≤ j → j < k + q → f j ≠ 34) := hbef
      clear hfq hbef hr
      have hcut := cut_mid (some ⟨b, o, none⟩) n c k (q + k) (by omega) (by omega)
      rw [show ((q + k : Nat) : Int) = (q : Int) + (k : Int) from by omega] at hcut
      go_wp2_with fail
      refine (indexByte_any _ _ _ (fun i => f (k + i)) _ _ (hB.cut k q (by omega) hnc) (fun i _ => HF.out _) (by omega)).mono ?_
      rintro e w' ⟨r, hr, rfl, rfl⟩
      clear hcut
      rcases hr.shift with ⟨rfl, hno⟩ | ⟨x, hx, rfl, hfx, hbef⟩
      · have HE : Hid (Ends f n (s + 1) ((q : Int) + k + 1) true) := by
          have h1 := HA.out.run q (fun j a b => ⟨hno j a (by omega), HBF.out j a b⟩)
          have := Ends.hit h1 (by omega : k + q < n) HQ.out
          rwa [show ((k + q : Nat) : Int) + 1 = (q : Int) + k + 1 by omega] at this
        clear hno hr
        go_wp2_with fail
        go_ret2
        exact ⟨⟨_, _, HE, rfl⟩, rfl⟩
      · have HA2 : Hid (At f (s + 1) (k + x)) := HA.out.run x (fun j a b => ⟨hbef j a b, HBF.out j a (by omega)⟩)
        clear hfx hbef hr
        go_wp2_with fail
        go_loop [9] (fun iv => ∃ j : Nat, k + x ≤ j ∧ j ≤ k + q + 1 ∧ iv = .int .i64 j ∧ Hid (At f (s + 1) j)) (fun iv => k + q + 1 - (intOf iv).toNat)
        case atStart => exact ⟨k + x, by omega, by omega, by go_num, HA2⟩
        case round =>
          obtain ⟨j, hj1, hj2, rfl, HJ⟩ := hrel
          by_cases hlt : j < k + q
          · have hcj := HC.out j (by omega)
            by_cases he : f j = 92
            · have he' : (f j == 92) = true := by simp [he]
              have HJ2 : Hid (At f (s + 1) (j + 2)) := HJ.out.esc he
              clear he
              go_wp2_with fail
              go_round
              case rel => exact ⟨j + 2, by omega, by omega, by go_num, HJ2⟩
              case measure => simp [intOf]; omega
            · have he' : (f j == 92) = false := by simp [he]
              have HJ2 : Hid (At f (s + 1) (j + 1)) := HJ.out.step he (HBF.out j (by omega) hlt)
              clear he
              go_wp2_with fail
              go_round
              case rel => exact ⟨j + 1, by omega, by omega, by go_num, HJ2⟩
              case measure => simp [intOf]; omega
          · by_cases hje : j = k + q
            · have HE : Hid (Ends f n (s + 1) ((q : Int) + k + 1) true) := by
                have := Ends.hit HJ.out (by omega : j < n) (by rw [hje]; exact HQ.out)
                rwa [show ((j : Nat) : Int) + 1 = (q : Int) + k + 1 by omega] at this
              have hjq : ((j : Int) == (q : Int) + (k : Int)) = true := by simp; omega
              clear hje
              go_wp2_with fail
              go_ret2
              exact ⟨⟨_, _, HE, rfl⟩, rfl⟩
            · have hjq : ((j : Int) == (q : Int) + (k : Int)) = false := by simp; omega
              have hjq1 : j = k + q + 1 := by omega
              have HJ2 : Hid (j = k + q + 1) := hjq1
              clear hje hjq1
              go_wp2_with fail
              go_round
              case rel => exact ⟨j, by omega, rfl, HJ⟩
              case measure => have := HJ2.out; simp [intOf]; omega
end Go.Proofs.Qxb6600597aMods

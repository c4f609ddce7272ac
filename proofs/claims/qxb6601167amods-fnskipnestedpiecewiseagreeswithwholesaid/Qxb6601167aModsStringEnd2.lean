/-
  The walk of stringEnd, over the picker's memory.
-/
import Derived.Test.Qxb6601167aModsStringEnd
namespace Go.Proofs.Qxb6601167aMods
open Go.RowKit

/-- What stringEnd leaves: its answer and the escape. -/
def SePost (w0 : World) (g : Nat) (q : S) (f : Nat → Int) (n : Nat) (e : Ending) (w' : World) : Prop :=
  ∃ (r : Int) (v : Bool), SE f n q.e r v ∧ Pk w0 g { q with e := v } w' ∧ e = .returned (.int .i64 r)

set_option maxHeartbeats 400000 in
set_option maxRecDepth 100000 in
/-- stringEnd where no escape is left over. -/
theorem stringEnd_plain (w0 : World) (g : Nat) (s : Bool) (d : Int) (p : Option Addr) (n c : Nat) (f : Nat → Int) (w : World) (hn : n ≤ 1048576) (hnc : n ≤ c)
    (hD : Bl w0 p n f g) (hP : Pk w0 g ⟨s, false, d⟩ w) (hf : ∀ i, 0 ≤ f i ∧ f i ≤ 255) :
    Calls Trym.prog 20 #[.slice p n c, .pointer (some ⟨g, 10, none⟩)] w fun e w' => SePost w0 g ⟨s, false, d⟩ f n e w' := by
  have hce : w.cell? ⟨g, 10, none⟩ = some (.bool false) := hP.e
  have hfr := hP.fr 10
  have HF : Hid (∀ i, 0 ≤ f i ∧ f i ≤ 255) := hf
  have HB : Hid (Bs w p n f) := hD.bs hP.bel
  have HP : Hid (Pk w0 g ⟨s, false, d⟩ w) := hP
  clear hf hP hD
  go_enter Trym.func20, Trym.ntmps20
  go_wp2_with fail
  refine (indexFrom_at _ _ _ _ 0 f _ _ rfl (Nat.zero_le _) hn hnc HB.out HF.out (by omega)).mono ?_
  rintro e w' ⟨⟨q, hq, rfl⟩, rfl⟩
  have HQ : Hid (Fst f 34 n 0 q) := hq
  clear hq
  go_wp2_with fail
  go_loop [5, 6] (fun iv qv => ∃ i q : Nat, iv = .int .i64 i ∧ qv = .int .i64 q ∧ i ≤ q ∧ q ≤ n ∧ Hid (Fst f 34 n i q) ∧ Hid (At f false i)) (fun iv _ => n - (intOf iv).toNat)
  case atStart => exact ⟨0, q, rfl, rfl, Nat.zero_le _, HQ.out.2.1, HQ, At.zero f⟩
  case round =>
    obtain ⟨i, q, rfl, rfl, hiq, hqn, HQ, HA⟩ := hrel
    have hcut := cut_mid p n c i q hiq (by omega)
    go_wp2_with fail
    clear hcut
    refine (indexByte_any _ _ _ (fun j => f (i + j)) _ _ (HB.out.cut i (q - i) (by omega) hnc) (fun i _ => HF.out _) (by omega)).mono ?_
    rintro e w' ⟨r, hr, rfl, rfl⟩
    rcases hr.shift with ⟨rfl, hno⟩ | ⟨x, hx, rfl, hfx, hbef⟩
    · have hA2 : At f false q := by
        have := HA.out.run (q - i) (fun j a b => ⟨hno j a b, HQ.out.2.2.1 j a (by omega)⟩)
        rwa [show i + (q - i) = q by omega] at this
      by_cases hq : q = n
      · have hqb : ((q : Int) == (n : Int)) = true := by simp [hq]
        have HE : Hid (SE f n false (-1) false) := by rw [hq] at hA2; exact SE.over hA2
        clear hq hno hr hA2
        go_wp2_with fail
        go_ret
        exact ⟨_, _, HE, HP, rfl⟩
      · have hqb : ((q : Int) == (n : Int)) = false := by simp; omega
        have HE : Hid (SE f n false q false) := SE.hit hA2 (by omega) (HQ.out.2.2.2 (by omega))
        clear hq hno hr hA2
        go_wp2_with fail
        go_ret
        exact ⟨_, _, HE, HP, rfl⟩
    · have HA2 : Hid (At f false (i + x)) := HA.out.run x (fun j a b => ⟨hbef j a b, HQ.out.2.2.1 j a (by omega)⟩)
      have HX : Hid (f (i + x) = 92) := hfx
      clear hr hbef hfx
      by_cases hend : i + x + 2 ≤ n
      · by_cases hqe : i + x + 2 ≤ q
        · have HQ2 : Hid (Fst f 34 n (i + x + 2) q) := ⟨hqe, hqn, fun j a b => HQ.out.2.2.1 j (by omega) b, HQ.out.2.2.2⟩
          go_wp2_with fail
          go_round
          case rel => exact ⟨i + x + 2, q, by go_num, rfl, hqe, hqn, HQ2, HA2.out.esc HX.out⟩
          case measure => simp [intOf]; omega
        · go_wp2_with fail
          refine (indexFrom_at _ _ _ _ (i + x + 2) f _ _ (by omega) hend hn hnc HB.out HF.out (by omega)).mono ?_
          rintro e w' ⟨⟨q2, hq2, rfl⟩, rfl⟩
          have HQ2 : Hid (Fst f 34 n (i + x + 2) q2) := hq2
          clear hq2
          go_wp2_with fail
          go_round
          case rel => exact ⟨i + x + 2, q2, by go_num, rfl, HQ2.out.1, HQ2.out.2.1, HQ2, HA2.out.esc HX.out⟩
          case measure => simp [intOf]; omega
      · have HE : Hid (SE f n false (-1) true) := SE.cut HA2.out HX.out (by omega)
        go_wp2_with fail
        go_ret
        exact ⟨_, _, HE, HP.out.setE true, rfl⟩

set_option maxHeartbeats 400000 in
set_option maxRecDepth 100000 in
/-- stringEnd where the piece's first byte is escaped. -/
theorem stringEnd_esc (w0 : World) (g : Nat) (s : Bool) (d : Int) (p : Option Addr) (n c : Nat) (f : Nat → Int) (w : World) (hn : n ≤ 1048576) (hnc : n ≤ c)
    (hD : Bl w0 p n f g) (hpos : 0 < n) (hP : Pk w0 g ⟨s, true, d⟩ w) (hf : ∀ i, 0 ≤ f i ∧ f i ≤ 255) :
    Calls Trym.prog 20 #[.slice p n c, .pointer (some ⟨g, 10, none⟩)] w fun e w' => SePost w0 g ⟨s, true, d⟩ f n e w' := by
  have hce : w.cell? ⟨g, 10, none⟩ = some (.bool true) := hP.e
  have hfr := hP.fr 10
  have HF : Hid (∀ i, 0 ≤ f i ∧ f i ≤ 255) := hf
  have hP1 : Pk w0 g ⟨s, false, d⟩ (w.setCell ⟨g, 10, none⟩ (.bool false)) := hP.setE false
  have hfr1 := hP1.fr 10
  have hce1 : (w.setCell ⟨g, 10, none⟩ (.bool false)).cell? ⟨g, 10, none⟩ = some (.bool false) := hP1.e
  have HB : Hid (Bs (w.setCell ⟨g, 10, none⟩ (.bool false)) p n f) := hD.bs hP1.bel
  have HP : Hid (Pk w0 g ⟨s, false, d⟩ (w.setCell ⟨g, 10, none⟩ (.bool false))) := hP1
  have hne : ((n : Int) == 0) = false := by simp; omega
  clear hf hP hD hP1
  go_enter Trym.func20, Trym.ntmps20
  go_wp2_with fail
  generalize w.setCell ⟨g, 10, none⟩ (.bool false) = w1 at *
  clear hce hfr
  refine (indexFrom_at _ _ _ _ 1 f _ _ rfl hpos hn hnc HB.out HF.out (by omega)).mono ?_
  rintro e w' ⟨⟨q, hq, rfl⟩, rfl⟩
  have HQ : Hid (Fst f 34 n 1 q) := hq
  clear hq
  go_wp2_with fail
  go_loop [5, 6] (fun iv qv => ∃ i q : Nat, iv = .int .i64 i ∧ qv = .int .i64 q ∧ i ≤ q ∧ q ≤ n ∧ Hid (Fst f 34 n i q) ∧ Hid (At f true i)) (fun iv _ => n - (intOf iv).toNat)
  case atStart => exact ⟨1, q, rfl, rfl, HQ.out.1, HQ.out.2.1, HQ, At.one f⟩
  case round =>
    obtain ⟨i, q, rfl, rfl, hiq, hqn, HQ, HA⟩ := hrel
    have hcut := cut_mid p n c i q hiq (by omega)
    go_wp2_with fail
    clear hcut
    refine (indexByte_any _ _ _ (fun j => f (i + j)) _ _ (HB.out.cut i (q - i) (by omega) hnc) (fun i _ => HF.out _) (by omega)).mono ?_
    rintro e w' ⟨r, hr, rfl, rfl⟩
    rcases hr.shift with ⟨rfl, hno⟩ | ⟨x, hx, rfl, hfx, hbef⟩
    · have hA2 : At f true q := by
        have := HA.out.run (q - i) (fun j a b => ⟨hno j a b, HQ.out.2.2.1 j a (by omega)⟩)
        rwa [show i + (q - i) = q by omega] at this
      by_cases hq : q = n
      · have hqb : ((q : Int) == (n : Int)) = true := by simp [hq]
        have HE : Hid (SE f n true (-1) false) := by rw [hq] at hA2; exact SE.over hA2
        clear hq hno hr hA2
        go_wp2_with fail
        go_ret
        exact ⟨_, _, HE, HP, rfl⟩
      · have hqb : ((q : Int) == (n : Int)) = false := by simp; omega
        have HE : Hid (SE f n true q false) := SE.hit hA2 (by omega) (HQ.out.2.2.2 (by omega))
        clear hq hno hr hA2
        go_wp2_with fail
        go_ret
        exact ⟨_, _, HE, HP, rfl⟩
    · have HA2 : Hid (At f true (i + x)) := HA.out.run x (fun j a b => ⟨hbef j a b, HQ.out.2.2.1 j a (by omega)⟩)
      have HX : Hid (f (i + x) = 92) := hfx
      clear hr hbef hfx
      by_cases hend : i + x + 2 ≤ n
      · by_cases hqe : i + x + 2 ≤ q
        · have HQ2 : Hid (Fst f 34 n (i + x + 2) q) := ⟨hqe, hqn, fun j a b => HQ.out.2.2.1 j (by omega) b, HQ.out.2.2.2⟩
          go_wp2_with fail
          go_round
          case rel => exact ⟨i + x + 2, q, by go_num, rfl, hqe, hqn, HQ2, HA2.out.esc HX.out⟩
          case measure => simp [intOf]; omega
        · go_wp2_with fail
          refine (indexFrom_at _ _ _ _ (i + x + 2) f _ _ (by omega) hend hn hnc HB.out HF.out (by omega)).mono ?_
          rintro e w' ⟨⟨q2, hq2, rfl⟩, rfl⟩
          have HQ2 : Hid (Fst f 34 n (i + x + 2) q2) := hq2
          clear hq2
          go_wp2_with fail
          go_round
          case rel => exact ⟨i + x + 2, q2, by go_num, rfl, HQ2.out.1, HQ2.out.2.1, HQ2, HA2.out.esc HX.out⟩
          case measure => simp [intOf]; omega
      · have HE : Hid (SE f n true (-1) true) := SE.cut HA2.out HX.out (by omega)
        go_wp2_with fail
        go_ret
        exact ⟨_, _, HE, HP.out.setE true, rfl⟩

theorem stringEnd_any (w0 : World) (g : Nat) (s e : Bool) (d : Int) (p : Option Addr) (n c : Nat) (f : Nat → Int) (w : World) (hn : n ≤ 1048576) (hnc : n ≤ c) (hpos : 0 < n)
    (hf : ∀ i, 0 ≤ f i ∧ f i ≤ 255) (hD : Bl w0 p n f g) (hP : Pk w0 g ⟨s, e, d⟩ w) :
    Calls Trym.prog 20 #[.slice p n c, .pointer (some ⟨g, 10, none⟩)] w fun e' w' => SePost w0 g ⟨s, e, d⟩ f n e' w' := by
  cases e
  · exact stringEnd_plain w0 g s d p n c f w hn hnc hD hP hf
  · exact stringEnd_esc w0 g s d p n c f w hn hnc hD hpos hP hf

end Go.Proofs.Qxb6601167aMods

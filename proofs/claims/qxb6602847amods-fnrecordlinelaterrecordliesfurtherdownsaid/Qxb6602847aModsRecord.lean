/-
  The walks of bytes.Equal, bytes.HasPrefix, recordLine.
-/
import Derived.Test.Qxb6602847aModsBytes
import Derived.Test.Qxb6602847aModsLines
import Derived.Laws.BytesArg
import Derived.Laws.IdiomStrings
import Derived.Lib.ConvBytes
import Derived.WalkSpells
import Derived.Outline
import Derived.Deep.LoopGhost
namespace Go.Proofs.Qxb6602847aMods
open Go.RowKit

/-- The string of 'n' bytes of 'f'. -/
def strF (f : Nat → Int) (n : Nat) : ByteArray := strOfNums ((List.range n).map f)

theorem strF_size (f : Nat → Int) (n : Nat) : (strF f n).size = n := by unfold strF; rw [strOfNums_size]; simp

theorem strF_same {f g : Nat → Int} {n : Nat} (h : ∀ i, i < n → f i = g i) : strF f n = strF g n := by
  unfold strF
  congr 1
  apply List.map_congr_left
  intro i hi
  exact h i (by simpa using hi)

theorem strF_inj {f g : Nat → Int} {n m : Nat} (hf : ∀ i, 0 ≤ f i ∧ f i ≤ 255) (hg : ∀ i, 0 ≤ g i ∧ g i ≤ 255) (h : (strF f n).toList = (strF g m).toList) : n = m ∧ ∀ i, i < n → f i = g i := by
  rw [Lib.toList_data, Lib.toList_data] at h
  have h1 : n = m := by
    have := congrArg List.length h
    simpa [strF, strOfNums_data] using this
  subst h1
  refine ⟨rfl, fun i hi => ?_⟩
  have h2 := congrArg (fun l : List UInt8 => l[i]?) h
  simp only [strF, strOfNums_data] at h2
  simp [hi] at h2
  exact toU8_inj (hf i) (hg i) h2

theorem conv_str (w : World) (p : Option Addr) (n c : Nat) (f : Nat → Int) (hB : Bs w p n f) :
    (convert 22 9 (.slice p n c)).run Trym.prog w = .ok (.string (strF f n)) w := by
  rcases hB with rfl | ⟨b, o, rfl, hcell⟩
  · cases p with
    | none => exact run_convert_bytes_nil w 22 5 Trym.underlying22 Trym.underlying5 0 c 9 Trym.underlying9
    | some a => exact run_convert_bytes_back w 22 9 5 a c [] Trym.underlying22 Trym.underlying5 Trym.underlying9 (fun j hj => by simp at hj)
  · refine run_convert_bytes_arg w 22 5 Trym.underlying22 Trym.underlying5 b o n c ((List.range n).map f) (by simp) (fun i hi => ?_) 9 Trym.underlying9
    rw [hcell i hi]
    simp [List.getD, hi]

set_option maxHeartbeats 400000 in
set_option maxRecDepth 100000 in
theorem equal_any (p q : Option Addr) (n c m d : Nat) (f g : Nat → Int) (w : World) (hf : ∀ i, 0 ≤ f i ∧ f i ≤ 255) (hg : ∀ i, 0 ≤ g i ∧ g i ≤ 255) (hB : Bs w p n f) (hC : Bs w q m g) :
    Calls Trym.prog 33 #[.slice p n c, .slice q m d] w fun e w' => e = .returned (.bool (decide (n = m ∧ ∀ i, i < n → f i = g i))) ∧ w = w' := by
  have k1 := conv_str w p n c f hB
  have k2 := conv_str w q m d g hC
  have HV : Hid (((strF f n).toList == (strF g m).toList) = decide (n = m ∧ ∀ i, i < n → f i = g i)) := by
    show _ = _
    by_cases h : n = m ∧ ∀ i, i < n → f i = g i
    · rw [decide_eq_true h]
      obtain ⟨rfl, h2⟩ := h
      rw [strF_same h2]
      simp
    · rw [decide_eq_false h]
      apply beq_eq_false_iff_ne.2
      exact fun he => h (strF_inj hf hg he)
  clear hB hC hf hg
  go_enter Trym.func33, Trym.ntmps33
  go_wp2
  go_ret
  exact ⟨by rw [← HV.out]; rfl, rfl⟩

theorem hasPrefix_val {f g : Nat → Int} {n m : Nat} (h : m ≤ n) : decide (m = m ∧ ∀ i, i < m → f i = g i) = Pre f n g m 0 := by
  unfold Pre
  simp [h]

set_option maxHeartbeats 400000 in
set_option maxRecDepth 100000 in
theorem hasPrefix_any (p q : Option Addr) (n c m d : Nat) (f g : Nat → Int) (w : World) (hnc : n ≤ c) (hf : ∀ i, 0 ≤ f i ∧ f i ≤ 255) (hg : ∀ i, 0 ≤ g i ∧ g i ≤ 255) (hB : Bs w p n f) (hC : Bs w q m g) :
    Calls Trym.prog 29 #[.slice p n c, .slice q m d] w fun e w' => e = .returned (.bool (Pre f n g m 0)) ∧ w = w' := by
  by_cases h : m ≤ n
  · have hcut := cut_to p n c m (by omega)
    have HE : Hid (Calls Trym.prog 33 #[.slice p m c, .slice q m d] w fun e w' => e = .returned (.bool (Pre f n g m 0)) ∧ w = w') := by
      rw [← hasPrefix_val h]
      exact equal_any p q m c m d f g w hf hg (hB.first m h) hC
    clear hB hC hf hg
    go_enter Trym.func29, Trym.ntmps29
    go_wp2_with fail
    refine HE.out.mono ?_
    rintro e w' ⟨rfl, rfl⟩
    go_wp2_with fail
    go_ret
    exact ⟨rfl, rfl⟩
  · have HV : Hid (Pre f n g m 0 = false) := by
      show _ = _
      unfold Pre
      simp
      omega
    clear hB hC hf hg
    go_enter Trym.func29, Trym.ntmps29
    go_wp2_with fail
    go_ret
    exact ⟨by rw [HV.out]; rfl, rfl⟩

theorem pre_shift {f g : Nat → Int} {len k r m : Nat} (h : k + r = len) : Pre (fun i => f (k + i)) r g m 0 = Pre f len g m k := by
  unfold Pre
  rw [decide_eq_decide]
  subst h
  constructor
  · rintro ⟨a, b⟩
    refine ⟨by omega, fun j hj => ?_⟩
    have := b j hj
    simpa using this
  · rintro ⟨a, b⟩
    refine ⟨by omega, fun j hj => ?_⟩
    have := b j hj
    simpa using this

/-- '[]byte(s)': a new row that holds the string's bytes. -/
theorem conv_bytes (wr : World) (s : ByteArray) : ∃ cp w1, (convert 9 22 (.string s)).run Trym.prog wr = .ok (.slice (some ⟨wr.heap.size, 0, none⟩) s.size cp) w1 ∧
    Below wr.heap.size wr w1 ∧ Bs w1 (some ⟨wr.heap.size, 0, none⟩) s.size (bt s) := by
  refine ⟨_, _, Lib.run_convert_string_bytes wr 9 22 5 s Trym.underlying9 Trym.underlying22 Trym.underlying5, ?_, ?_⟩
  · exact ⟨rfl, rfl, rfl, by rw [Lib.bytesWorld_size]; omega, fun k hk => Lib.bytesWorld_at_old wr 5 s k hk⟩
  · refine Or.inr ⟨wr.heap.size, 0, rfl, fun i hi => ?_⟩
    rw [Nat.zero_add, Lib.bytesWorld_cell wr 5 s i hi]
    rfl

/-- What recordLine leaves. -/
def RlPost (f : Nat → Int) (n : Nat) (g : Nat → Int) (m : Nat) (v : Int) (e : Ending) : Prop := ∃ r : Int, RL f n g m v r ∧ e = .returned (.int .i64 r)

set_option maxHeartbeats 1000000 in
set_option maxRecDepth 100000 in
theorem recordLine_any (p0 : Option Addr) (len c0 : Nat) (f : Nat → Int) (s : ByteArray) (v : Int) (w : World) (hlen : len ≤ 1048576) (_hs : s.size ≤ 1048576) (hlc : len ≤ c0)
    (hv : -9223372036854775808 ≤ v ∧ v ≤ 9223372036854775807) (hf : ∀ i, 0 ≤ f i ∧ f i ≤ 255) (hB : Bl w p0 len f w.heap.size) :
    Calls Trym.prog 25 #[.slice p0 len c0, .string s, .int .i64 v] w fun e w' => RlPost f len (bt s) s.size v e ∧ Below w.heap.size w w' := by
  have HF : Hid (∀ i, 0 ≤ f i ∧ f i ≤ 255) := hf
  have HB0 : Hid (Bl w p0 len f w.heap.size) := hB
  have HV : Hid (-9223372036854775808 ≤ v ∧ v ≤ 9223372036854775807) := hv
  clear hf hB hv
  go_enter Trym.func25, Trym.ntmps25
  go_wp2_with fail
  go_loopg [0, 2, 7] len (fun gk vb vn vl wr => ∃ (k r : Nat) (p : Option Addr) (c : Nat) (nv : Int), vb = .slice p r c ∧ vn = .int .i64 nv ∧ vl = .int .i64 ((cnt (S f) k : Int) + 1) ∧ k + r = len ∧ r ≤ c ∧ r ≤ gk ∧
    Hid (nv = wrap64 (v - (cnt (M f len (bt s) s.size) k : Int))) ∧ Hid (AtL f len (bt s) s.size v k) ∧ Hid (Bl w p r (fun i => f (k + i)) w.heap.size) ∧ Hid (Below w.heap.size w wr))
  case atStart => exact ⟨0, len, p0, c0, v, rfl, rfl, rfl, by omega, hlc, Nat.le_refl _, down_start v HV.out, AtL.zero _ _ _ _ _, HB0.out.same (fun i _ => by rw [Nat.zero_add]), Below.refl _ _⟩
  case round =>
    obtain ⟨k, r, p, c, nv, rfl, rfl, rfl, hkr, hrc, hgk, HNV, HA, HBL, HB⟩ := hrel
    by_cases hr0 : r = 0
    · subst hr0
      have HR : Hid (RL f len (bt s) s.size v 1) := HA.out.over (by omega)
      go_wp2_with fail
      go_ret
      exact ⟨⟨_, HR, rfl⟩, HB⟩
    have hcm := cnt_le (M f len (bt s) s.size) k
    have hcs0 := cnt_le (S f) k
    obtain ⟨cp, w1, hconv, hb1, hB1⟩ := conv_bytes wr s
    have HB2 : Hid (Below w.heap.size w w1) := HB.out.trans (hb1.mono HB.out.size)
    have HP : Hid (Calls Trym.prog 29 #[.slice p r c, .slice (some ⟨wr.heap.size, 0, none⟩) s.size cp] w1 fun e w' => e = .returned (.bool (M f len (bt s) s.size k)) ∧ w1 = w') := by
      have := hasPrefix_any p (some ⟨wr.heap.size, 0, none⟩) r c s.size cp (fun i => f (k + i)) (bt s) w1 hrc (fun i => HF.out _) (fun i => bt_range s i) (HBL.out.bs HB2.out) hB1
      rw [pre_shift hkr] at this
      unfold M
      rw [HA.out.1, Bool.true_and]
      exact this
    clear hb1 hB1
    go_wp2_with fail
    clear hconv
    refine HP.out.mono ?_
    rintro e w' ⟨rfl, rfl⟩
    clear HP
    cases hM : M f len (bt s) s.size k
    · have HNE : Hid (M f len (bt s) s.size k = true → (cnt (M f len (bt s) s.size) k : Int) ≠ v) := fun h => by rw [hM] at h; cases h
      have HNV2 : Hid (nv = wrap64 (v - (cnt (M f len (bt s) s.size) (k + 1) : Int))) := by show _ = _; rw [cnt_succ_no hM]; exact HNV.out
      clear hM HNV
      have HNV := HNV2
      clear HNV2
      go_wp2_with fail
      refine (indexByte_any _ _ _ (fun i => f (k + i)) _ _ (HBL.out.bs HB2.out) (fun i _ => HF.out _) (by omega)).mono ?_
      rintro e w' ⟨x, hx, rfl, rfl⟩
      rcases hx.shift with ⟨rfl, hno⟩ | ⟨d, hd, rfl, hfd, hbef⟩
      · have HR : Hid (RL f len (bt s) s.size v 1) := HA.out.last HNE.out (fun j a b => hno j a (by omega))
        clear hno hx
        go_wp2_with fail
        go_ret
        exact ⟨⟨_, HR, rfl⟩, HB2⟩
      · obtain ⟨h1, h2, h3⟩ := HA.out.next HNE.out hfd hbef
        have HA2 : Hid (AtL f len (bt s) s.size v (k + d + 1)) := h1
        have HS2 : Hid (cnt (S f) (k + d + 1) = cnt (S f) k + 1) := h2
        have HM2 : Hid (cnt (M f len (bt s) s.size) (k + d + 1) = cnt (M f len (bt s) s.size) (k + 1)) := h3
        have HBL2 : Hid (Bl w (cutP p c (d + 1)) (r - (d + 1)) (fun i => f (k + d + 1 + i)) w.heap.size) := (HBL.out.cut (d + 1) (r - (d + 1)) (by omega) hrc).same (fun i hi => by congr 1; omega)
        have hcs := cnt_le (S f) k
        clear hx hbef hfd h1 h2 h3
        have hcut := cut_from p r c (d + 1) (by omega)
        rw [show ((d + 1 : Nat) : Int) = (d : Int) + 1 from by omega] at hcut
        go_wp2_with fail
        go_roundg (r - (d + 1))
        case measure => omega
        case rel => exact ⟨k + d + 1, r - (d + 1), cutP p c (d + 1), c - (d + 1), nv, rfl, rfl, by rw [HS2.out]; go_num, by omega, by omega, Nat.le_refl _, by show _ = _; rw [HM2.out]; exact HNV.out, HA2, HBL2, HB2⟩
    · by_cases hz : (cnt (M f len (bt s) s.size) k : Int) = v
      · have hz0 : (nv == 0) = true := by
          rw [HNV.out, (down_zero v _ HV.out (by omega)).2 hz]; rfl
        have HR : Hid (RL f len (bt s) s.size v ((cnt (S f) k : Int) + 1)) := Or.inl ⟨k, by omega, hM, hz, by rw [cnt_succ_yes HA.out.1]; omega⟩
        clear hM hz
        go_wp2_with fail
        go_ret
        exact ⟨⟨_, HR, rfl⟩, HB2⟩
      · have hz0 : (nv == 0) = false := by
          rw [beq_eq_false_iff_ne]
          intro h
          rw [HNV.out] at h
          exact hz ((down_zero v _ HV.out (by omega)).1 h)
        have HNE : Hid (M f len (bt s) s.size k = true → (cnt (M f len (bt s) s.size) k : Int) ≠ v) := fun _ => hz
        have HNV2 : Hid (wrap64 (nv - 1) = wrap64 (v - (cnt (M f len (bt s) s.size) (k + 1) : Int))) := by
          show _ = _
          rw [HNV.out, down_one, cnt_succ_yes hM]
        clear hM hz HNV
        have HNV := HNV2
        clear HNV2
        go_wp2_with fail
        refine (indexByte_any _ _ _ (fun i => f (k + i)) _ _ (HBL.out.bs HB2.out) (fun i _ => HF.out _) (by omega)).mono ?_
        rintro e w' ⟨x, hx, rfl, rfl⟩
        rcases hx.shift with ⟨rfl, hno⟩ | ⟨d, hd, rfl, hfd, hbef⟩
        · have HR : Hid (RL f len (bt s) s.size v 1) := HA.out.last HNE.out (fun j a b => hno j a (by omega))
          clear hno hx
          go_wp2_with fail
          go_ret
          exact ⟨⟨_, HR, rfl⟩, HB2⟩
        · obtain ⟨h1, h2, h3⟩ := HA.out.next HNE.out hfd hbef
          have HA2 : Hid (AtL f len (bt s) s.size v (k + d + 1)) := h1
          have HS2 : Hid (cnt (S f) (k + d + 1) = cnt (S f) k + 1) := h2
          have HM2 : Hid (cnt (M f len (bt s) s.size) (k + d + 1) = cnt (M f len (bt s) s.size) (k + 1)) := h3
          have HBL2 : Hid (Bl w (cutP p c (d + 1)) (r - (d + 1)) (fun i => f (k + d + 1 + i)) w.heap.size) := (HBL.out.cut (d + 1) (r - (d + 1)) (by omega) hrc).same (fun i hi => by congr 1; omega)
          have hcs := cnt_le (S f) k
          clear hx hbef hfd h1 h2 h3
          have hcut := cut_from p r c (d + 1) (by omega)
          rw [show ((d + 1 : Nat) : Int) = (d : Int) + 1 from by omega] at hcut
          go_wp2_with fail
          go_roundg (r - (d + 1))
          case measure => omega
          case rel => exact ⟨k + d + 1, r - (d + 1), cutP p c (d + 1), c - (d + 1), wrap64 (nv - 1), rfl, rfl, by rw [HS2.out]; go_num, by omega, by omega, Nat.le_refl _, by show _ = _; rw [HM2.out]; exact HNV.out, HA2, HBL2, HB2⟩

set_option maxRecDepth 100000 in
theorem zzRecordLine_any (p0 : Option Addr) (len c0 : Nat) (f : Nat → Int) (s : ByteArray) (v : Int) (w : World) (hlen : len ≤ 1048576) (hs : s.size ≤ 1048576) (hlc : len ≤ c0)
    (hv : -9223372036854775808 ≤ v ∧ v ≤ 9223372036854775807) (hf : ∀ i, 0 ≤ f i ∧ f i ≤ 255) (hB : Bl w p0 len f w.heap.size) :
    Calls Trym.prog 12 #[.slice p0 len c0, .string s, .int .i64 v] w fun e w' => RlPost f len (bt s) s.size v e ∧ Below w.heap.size w w' := by
  have H : Hid (Calls Trym.prog 25 #[.slice p0 len c0, .string s, .int .i64 v] w fun e w' => RlPost f len (bt s) s.size v e ∧ Below w.heap.size w w') := recordLine_any p0 len c0 f s v w hlen hs hlc hv hf hB
  clear hf hB hv
  go_enter Trym.func12, Trym.ntmps12
  go_wp2_with fail
  refine H.out.mono ?_
  rintro e w' ⟨⟨r, hr, rfl⟩, hb⟩
  have HR : Hid (RL f len (bt s) s.size v r) := hr
  have HB : Hid (Below w.heap.size w w') := hb
  clear hr hb
  go_wp2_with fail
  go_ret
  exact ⟨⟨_, HR, rfl⟩, HB⟩

end Go.Proofs.Qxb6602847aMods

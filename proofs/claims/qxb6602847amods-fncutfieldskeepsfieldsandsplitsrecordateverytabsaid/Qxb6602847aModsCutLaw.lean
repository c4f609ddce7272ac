/-
  The law's walk: FnCutFieldsKeepsFieldsAndSplitsRecordAtEveryTab.
-/
import Derived.Test.Qxb6602847aModsCutClone
namespace Go.Proofs.Qxb6602847aMods
open Go.RowKit

/-- Nothing has turned but the tape's place. -/
def Qt (w w' : World) : Prop := w'.heap = w.heap ∧ w'.os = w.os ∧ w'.tape = w.tape ∧ w'.output = w.output
theorem Qt.refl (w : World) : Qt w w := ⟨rfl, rfl, rfl, rfl⟩
theorem Qt.trans {w w' w'' : World} (h : Qt w w') (k : Qt w' w'') : Qt w w'' := ⟨k.1.trans h.1, k.2.1.trans h.2.1, k.2.2.1.trans h.2.2.1, k.2.2.2.trans h.2.2.2⟩
theorem Qt.drewN {w w' : World} (h : Qt w w') (n : Nat) : Qt w (w'.drewN n) := h
theorem Qt.below {w w' : World} (h : Qt w w') (B : Nat) : Below B w w' := ⟨h.2.1, h.2.2.1, h.2.2.2, by rw [h.1]; exact Nat.le_refl _, fun k _ => by rw [h.1]⟩
theorem Qt.cell {w w' : World} (h : Qt w w') (a : Addr) : w'.cell? a = w.cell? a := by unfold World.cell?; rw [h.1]

theorem Came.at_ {w : World} {p : Option Addr} {n c : Nat} {fs : List ByteArray} (h : Came w (.slice p n c) fs) (hl : fs.length = n) : In w p n fs := by
  intro i hi
  rcases h with ⟨h1, h2⟩ | ⟨x, h1, _, h3⟩
  · subst h2; simp at hl; omega
  · cases h1
    exact ⟨x, rfl, h3 i hi⟩

theorem Came.lt {w : World} {p : Option Addr} {n c : Nat} {fs : List ByteArray} (h : Came w (.slice p n c) fs) (x : Addr) (hx : p = some x) : x.block < w.heap.size := by
  rcases h with ⟨h1, h2⟩ | ⟨y, h1, h3, _⟩
  · cases h1; cases hx
  · cases h1
    cases hx
    exact h3

theorem In.later {w w' : World} {p : Option Addr} {n B : Nat} {fs : List ByteArray} (h : In w p n fs) (hb : Below B w w') (hlt : ∀ x, p = some x → x.block < B) : In w' p n fs := by
  intro i hi
  obtain ⟨x, rfl, hx⟩ := h i hi
  refine ⟨x, rfl, ?_⟩
  have hxb : (x.add i).block = x.block := by unfold Addr.add; split <;> rfl
  rw [hb.cell (p := x.add i) (by rw [hxb]; exact hlt x rfl)]
  exact hx

theorem In.qt {w w' : World} {p : Option Addr} {n : Nat} {fs : List ByteArray} (h : In w p n fs) (hq : Qt w w') : In w' p n fs := by
  intro i hi
  obtain ⟨x, rfl, hx⟩ := h i hi
  exact ⟨x, rfl, by rw [hq.cell]; exact hx⟩

set_option maxHeartbeats 2000000 in
set_option maxRecDepth 100000 in
theorem law_in (p : Option Addr) (n cap : Nat) (fs : List ByteArray) (s : ByteArray) (w : World) (hn : n ≤ 9223372036854775807) (hs : s.size ≤ 9223372036854775807) (hl : fs.length = n) (hI : In w p n fs)
    (hcl : n ≤ 1048576 → Calls Trym.prog 17 #[.slice p n cap] w fun e w' => ClPost w n fs e w') :
    Calls Trym.prog 5 #[.slice p n cap, .string s] w fun e w' => e = .returned (.bool true) ∧ Below w.heap.size w w' := by
  have HI : Hid (In w p n fs) := hI
  have HL : Hid (fs.length = n) := hl
  have HCL : Hid (n ≤ 1048576 → Calls Trym.prog 17 #[.slice p n cap] w fun e w' => ClPost w n fs e w') := hcl
  have HZ : Hid (Calls Trym.prog 16 #[.slice p n cap, .string s] w fun e w' => BoolPost e ∧ w = w') := zz16_any p n cap fs s w hn hs hI
  clear hI hl hcl
  go_enter Trym.func5, Trym.ntmps5
  go_wp2_with fail
  refine HZ.out.mono ?_
  rintro e w' ⟨⟨v, rfl⟩, rfl⟩
  clear HZ
  cases v
  · go_wp2_with fail
    go_ret
    exact ⟨rfl, Below.refl _ _⟩
  by_cases h1 : s.size ≤ 1048576
  rotate_left
  · go_wp2_with fail
    go_ret
    exact ⟨rfl, Below.refl _ _⟩
  by_cases h2 : n ≤ 65536
  rotate_left
  · go_wp2_with fail
    go_ret
    exact ⟨rfl, Below.refl _ _⟩
  have d1 : decide ((1048576 : Int) < (s.size : Int)) = false := by simp; omega
  have d2 : decide ((65536 : Int) < (n : Int)) = false := by simp; omega
  go_wp2_with fail
  go_loop [5, 6] (fun zv iv => ∃ (i : Nat) (z : Int), iv = .int .i64 i ∧ zv = .int .i64 z ∧ i ≤ n ∧ 0 ≤ z ∧ z ≤ 3145728) (fun _ iv => n - (intOf iv).toNat)
  case atStart => exact ⟨0, _, rfl, rfl, Nat.zero_le _, by omega, by omega⟩
  case round =>
    obtain ⟨i, z, rfl, rfl, hi, hz1, hz2⟩ := hrel
    by_cases hlt : i < n
    · obtain ⟨x, hx0, hx⟩ := HI.out i hlt
      subst hx0
      obtain ⟨t, ht⟩ : ∃ t, t = fs.getD i ByteArray.empty := ⟨_, rfl⟩
      rw [← ht] at hx
      clear ht
      by_cases g1 : t.size ≤ 1048576
      · by_cases g2 : z + t.size ≤ 1048576
        · go_wp2_with fail
          go_round
          case rel => exact ⟨i + 1, z + t.size, by go_num, rfl, by omega, by omega, by omega⟩
          case measure => simp [intOf]; omega
        · go_wp2_with fail
          go_ret
          exact ⟨rfl, Below.refl _ _⟩
      · go_wp2_with fail
        go_ret
        exact ⟨rfl, Below.refl _ _⟩
    by_cases hz : z ≤ 1048576
    rotate_left
    · go_wp2_with fail
      go_ret
      exact ⟨rfl, Below.refl _ _⟩
    have d3 : decide ((1048576 : Int) < z) = false := by simp; omega
    go_wp2_with fail
    refine (HCL.out (by omega)).mono ?_
    rintro e w1 ⟨p1, hca, hb1, rfl⟩
    have HCA : Hid (Came w1 (.slice p1 n n) fs) := hca
    have HB1 : Hid (Below w.heap.size w w1) := hb1
    clear hca hb1 HCL
    go_wp2_with fail
    refine (zzCut_any (.slice p1 n n) fs s w1 h1 (by have := HL.out; omega) HCA.out).mono ?_
    rintro e w2 ⟨g, c2, N, qs, hD, hN, hb2, hcell, rfl⟩
    have HD : Hid (Done s qs) := hD
    have HN : Hid (N = fs.length + qs.length) := hN
    have HB2 : Hid (Below w.heap.size w w2) := HB1.out.trans (hb2.mono HB1.out.size)
    have HIN : Hid (In w2 p1 n fs) := (HCA.out.at_ HL.out).later hb2 (HCA.out.lt)
    have HCC : Hid (∀ i, i < fs.length + qs.length → w2.cell? ⟨g, i, none⟩ = some (.string ((fs ++ qs).getD i ByteArray.empty))) := hcell
    have hNn : N = n + (tabs s s.size + 1) := by rw [hN, HL.out, hD.cnt]
    have htl := tabs_le s s.size
    have HNT : Hid (N = n + (tabs s s.size + 1)) := hNn
    clear hD hN hb2 hcell hNn HCA HB1
    go_wp2_with fail
    go_loop [8, 9] (fun tv jv => ∃ j : Nat, jv = .int .i64 j ∧ tv = .int .i64 (tabs s j) ∧ j ≤ s.size) (fun _ jv => s.size - (intOf jv).toNat)
    case atStart => exact ⟨0, rfl, rfl, Nat.zero_le _⟩
    case round =>
      obtain ⟨j, rfl, rfl, hj⟩ := hrel
      have htj := tabs_le s j
      by_cases hjlt : j < s.size
      · by_cases h9 : bt s j = 9
        · have hb9 : ((s[j].toNat : Int) == 9) = true := by rw [bt_at s j hjlt, h9]; rfl
          have HT : Hid (tabs s (j + 1) = tabs s j + 1) := by show _ = _; simp [tabs, h9]
          clear h9
          go_wp2_with fail
          go_round
          case rel => exact ⟨j + 1, by go_num, by rw [HT.out]; go_num, by omega⟩
          case measure => simp [intOf]; omega
        · have hb9 : ((s[j].toNat : Int) == 9) = false := by rw [bt_at s j hjlt]; simp [h9]
          have HT : Hid (tabs s (j + 1) = tabs s j) := by show _ = _; simp [tabs, h9]
          clear h9
          go_wp2_with fail
          go_round
          case rel => exact ⟨j + 1, by go_num, by rw [HT.out], by omega⟩
          case measure => simp [intOf]; omega
      obtain rfl : j = s.size := by omega
      have hNe : ((N : Int) != (n : Int) + (tabs s s.size : Int) + 1) = false := by have := HNT.out; simp; omega
      go_wp2_with fail
      clear hNe
      go_loopw [10] (fun iv wr => ∃ i : Nat, iv = .int .i64 i ∧ i ≤ n ∧ Hid (Qt w2 wr)) (fun iv _ => n - (intOf iv).toNat)
      case atStart => exact ⟨0, rfl, Nat.zero_le _, Qt.refl _⟩
      case round =>
        obtain ⟨i3, rfl, hi3, HQ⟩ := hrel
        by_cases hlt3 : i3 < n
        · obtain ⟨x, hx0, hx⟩ := (HIN.out.qt HQ.out) i3 hlt3
          subst hx0
          have hN3 : i3 < N := by have := HNT.out; omega
          have hout : wr.cell? ⟨g, i3, none⟩ = some (.string (fs.getD i3 ByteArray.empty)) := by
            rw [HQ.out.cell, HCC.out i3 (by have := HL.out; omega)]
            congr 2
            rw [List.getD_eq_getElem?_getD, List.getD_eq_getElem?_getD, List.getElem?_append_left (by have := HL.out; omega)]
          obtain ⟨t, ht⟩ : ∃ t, t = fs.getD i3 ByteArray.empty := ⟨_, rfl⟩
          rw [← ht] at hx hout
          clear ht
          go_wp2_with fail
          go_quiet (fail)
          go_wp2_with fail
          go_roundw
          case rel => exact ⟨i3 + 1, by go_num, by omega, HQ.out.drewN nq⟩
          case measure => simp [intOf]; omega
        obtain rfl : i3 = n := by omega
        go_wp2_with fail
        obtain ⟨wo, hwo⟩ : ∃ wo : World, wo = wr := ⟨_, rfl⟩
        rw [← hwo] at HQ ⊢
        clear hwo
        go_loopw [11, 12] (fun pv kv wr => ∃ i a : Nat, kv = .int .i64 ((i3 : Int) + i) ∧ pv = .int .i64 a ∧ i ≤ tabs s s.size + 1 ∧ a ≤ s.size ∧ Hid (a = st qs i - 1) ∧ Hid (Qt w2 wr)) (fun _ kv _ => N + 1 - (intOf kv).toNat)
        case atStart => exact ⟨0, 0, by simp, rfl, Nat.zero_le _, Nat.zero_le _, by show 0 = _; rw [st_zero], HQ⟩
        case round =>
          clear HQ
          obtain ⟨i4, a, rfl, rfl, hi4, ha, HA, HQ⟩ := hrel
          have hN' := HNT.out
          have hqn : qs.length = tabs s s.size + 1 := HD.out.cnt
          have HQN : Hid (qs.length = tabs s s.size + 1) := hqn
          have HNN : Hid (N = i3 + (tabs s s.size + 1)) := hN'
          clear hqn hN'
          by_cases hlt4 : i4 < tabs s s.size + 1
          rotate_left
          · have hae : a = s.size := by
              obtain rfl : i4 = tabs s s.size + 1 := by omega
              have h3 := HD.out.last (tabs s s.size) (by have := HQN.out; omega) (by have := HQN.out; omega)
              have h4 := st_succ qs (tabs s s.size) (by have := HQN.out; omega)
              have := HA.out
              omega
            have hb1 : ((a : Int) == (s.size : Int)) = true := by simp [hae]
            have hkn : ¬ (i3 : Int) + i4 < N := by have := HNN.out; omega
            have hkd : decide ((i3 : Int) + i4 < N) = false := by simpa using hkn
            clear hae
            go_wp2_with fail
            go_ret
            exact ⟨rfl, HB2.out.trans (HQ.out.below _)⟩
          have hiq : i4 < qs.length := by have := HQN.out; omega
          obtain ⟨q, hq⟩ : ∃ q, q = qs[i4] := ⟨_, rfl⟩
          have hseg := HD.out.seg i4 hiq
          rw [← hq] at hseg
          have hout : wr.cell? ⟨g, i3 + i4, none⟩ = some (.string q) := by
            rw [HQ.out.cell, HCC.out (i3 + i4) (by have := HL.out; omega)]
            congr 2
            rw [List.getD_eq_getElem?_getD, List.getElem?_append_right (by have := HL.out; omega), show i3 + i4 - fs.length = i4 by have := HL.out; omega, List.getElem?_eq_getElem hiq, hq]
            rfl
          have hnext : st qs (i4 + 1) = st qs i4 + q.size + 1 := by rw [hq]; exact st_succ qs i4 hiq
          obtain ⟨b, hb⟩ : ∃ b, b = st qs i4 := ⟨_, rfl⟩
          rw [← hb] at hseg hnext
          have hsg1 := hseg.1
          have HSG : Hid (∀ j, j < q.size → bt q j = bt s (b + j) ∧ bt q j ≠ 9) := hseg.2
          have HNX : Hid (st qs (i4 + 1) = b + q.size + 1) := hnext
          have hkn : (i3 : Int) + i4 < N := by have := HNN.out; omega
          have hkd : decide ((i3 : Int) + i4 < N) = true := by simpa using hkn
          have hN2 : i3 + i4 < N := by omega
          by_cases h0 : i4 = 0
          · have hab : a = b := by
              have := HA.out
              rw [h0, st_zero] at hb this
              omega
            have hd0 : decide ((i3 : Int) < (i3 : Int) + (i4 : Int)) = false := by simp; omega
            clear hb hq hkn
            subst hab
            clear h0
            have hgt : decide ((q.size : Int) > (s.size : Int) - (a : Int)) = false := by simp; omega
            go_wp2_with fail
            obtain ⟨wp, hwp⟩ : ∃ wp : World, wp = wr := ⟨_, rfl⟩
            rw [← hwp] at HQ ⊢
            clear hwp
            go_loopw [14] (fun jv wr => ∃ j : Nat, jv = .int .i64 j ∧ j ≤ q.size ∧ Hid (Qt w2 wr)) (fun jv _ => q.size - (intOf jv).toNat)
            case atStart => exact ⟨0, rfl, Nat.zero_le _, HQ⟩
            case round =>
              clear HQ
              obtain ⟨j5, rfl, hj5, HQ⟩ := hrel
              by_cases hlt5 : j5 < q.size
              · have h5 := HSG.out j5 hlt5
                have hsz : a + j5 < s.size := by omega
                have hszI : (a : Int) + (j5 : Int) < (s.size : Int) := by omega
                have hszN : ((a : Int) + (j5 : Int)).toNat = a + j5 := by omega
                have hsz0 : 0 ≤ (a : Int) + (j5 : Int) := by omega
                have e1 : ((q[j5].toNat : Int) == 9) = false := by rw [bt_at q j5 hlt5]; simp [h5.2]
                have e2 : ((s[a + j5].toNat : Int) != (q[j5].toNat : Int)) = false := by rw [bt_at q j5 hlt5, bt_at s (a + j5) hsz, h5.1]; simp
                clear h5
                go_wp2_with fail
                go_quiet (fail)
                go_wp2_with fail
                go_roundw
                case rel => exact ⟨j5 + 1, by go_num, by omega, HQ.out.drewN nq⟩
                case measure => simp [intOf]; omega
              · obtain rfl : j5 = q.size := by omega
                go_wp2_with fail
                go_roundw
                case rel => exact ⟨i4 + 1, a + q.size, by go_num, by go_num, by omega, by omega, by show _ = _; rw [HNX.out]; omega, HQ⟩
                case measure => simp [intOf]; omega
          · have hpv := HD.out.tab (i4 - 1) (by omega) (by omega)
            have hss := st_succ qs (i4 - 1) (by omega)
            rw [show i4 - 1 + 1 = i4 by omega, ← hb] at hss
            have hab : b = a + 1 := by have := HA.out; omega
            have hae : st qs (i4 - 1) + qs[i4 - 1].size = a := by omega
            rw [hae] at hpv
            have has : a < s.size := hpv.2
            have hb9 : ((s[a].toNat : Int) != 9) = false := by rw [bt_at s a has, hpv.1]; rfl
            have hd0 : decide ((i3 : Int) < (i3 : Int) + (i4 : Int)) = true := by simp; omega
            clear hb hq hkn hpv hss hae
            subst hab
            have hgt : decide ((q.size : Int) > (s.size : Int) - ((a : Int) + 1)) = false := by simp; omega
            go_wp2_with fail
            obtain ⟨wp, hwp⟩ : ∃ wp : World, wp = wr := ⟨_, rfl⟩
            rw [← hwp] at HQ ⊢
            clear hwp
            go_loopw [14] (fun jv wr => ∃ j : Nat, jv = .int .i64 j ∧ j ≤ q.size ∧ Hid (Qt w2 wr)) (fun jv _ => q.size - (intOf jv).toNat)
            case atStart => exact ⟨0, rfl, Nat.zero_le _, HQ⟩
            case round =>
              clear HQ
              obtain ⟨j5, rfl, hj5, HQ⟩ := hrel
              by_cases hlt5 : j5 < q.size
              · have h5 := HSG.out j5 hlt5
                have hsz : a + 1 + j5 < s.size := by omega
                have hszI : ((a : Int) + 1) + (j5 : Int) < (s.size : Int) := by omega
                have hszN : (((a : Int) + 1) + (j5 : Int)).toNat = a + 1 + j5 := by omega
                have hsz0 : 0 ≤ ((a : Int) + 1) + (j5 : Int) := by omega
                have e1 : ((q[j5].toNat : Int) == 9) = false := by rw [bt_at q j5 hlt5]; simp [h5.2]
                have e2 : ((s[a + 1 + j5].toNat : Int) != (q[j5].toNat : Int)) = false := by rw [bt_at q j5 hlt5, bt_at s (a + 1 + j5) hsz, h5.1]; simp
                clear h5
                go_wp2_with fail
                go_quiet (fail)
                go_wp2_with fail
                go_roundw
                case rel => exact ⟨j5 + 1, by go_num, by omega, HQ.out.drewN nq⟩
                case measure => simp [intOf]; omega
              · obtain rfl : j5 = q.size := by omega
                go_wp2_with fail
                go_roundw
                case rel => exact ⟨i4 + 1, a + 1 + q.size, by go_num, by go_num, by omega, by omega, by show _ = _; rw [HNX.out]; omega, HQ⟩
                case measure => simp [intOf]; omega

end Go.Proofs.Qxb6602847aMods

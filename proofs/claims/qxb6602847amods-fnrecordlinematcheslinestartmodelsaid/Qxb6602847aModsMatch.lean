/-
  The walks of recordLineTailHasPrefix and recordLineMatchingStarts; the law FnRecordLineMatchesLineStartModel.
-/
import Derived.Test.Qxb6602847aModsLater
import Derived.Test.Qxb6602847aModsCut
import Derived.Deep.QuietTactic
import Derived.BigQuiet
namespace Go.Proofs.Qxb6602847aMods
open Go.RowKit

/-- Nothing has turned but the tape's place. -/
def Qt (w w' : World) : Prop := w'.heap = w.heap ∧ w'.os = w.os ∧ w'.tape = w.tape ∧ w'.output = w.output
theorem Qt.refl (w : World) : Qt w w := ⟨rfl, rfl, rfl, rfl⟩
theorem Qt.drewN {w w' : World} (h : Qt w w') (n : Nat) : Qt w (w'.drewN n) := h
theorem Qt.below {w w' : World} (h : Qt w w') (B : Nat) : Below B w w' := ⟨h.2.1, h.2.2.1, h.2.2.2, by rw [h.1]; exact Nat.le_refl _, fun k _ => by rw [h.1]⟩
theorem Qt.cell {w w' : World} (h : Qt w w') (a : Addr) : w'.cell? a = w.cell? a := by unfold World.cell?; rw [h.1]

set_option maxHeartbeats 400000 in
set_option maxRecDepth 100000 in
theorem tail_any (b o n c i : Nat) (s : ByteArray) (f : Nat → Int) (w : World) (hi : i ≤ n) (hn : n ≤ 1048576) (hs : s.size ≤ 1048576)
    (hD : ∀ i, i < n → w.cell? ⟨b, o + i, none⟩ = some (.int .u8 (f i))) :
    Calls Trym.prog 26 #[.slice (some ⟨b, o, none⟩) n c, .int .i64 i, .string s] w fun e w' => e = .returned (.bool (Pre f n (bt s) s.size i)) ∧ Qt w w' := by
  have HD : Hid (∀ i, i < n → w.cell? ⟨b, o + i, none⟩ = some (.int .u8 (f i))) := hD
  clear hD
  by_cases hlen : i + s.size ≤ n
  rotate_left
  · have HV : Hid (Pre f n (bt s) s.size i = false) := by show _ = _; unfold Pre; simp; omega
    go_enter Trym.func26, Trym.ntmps26
    go_wp2_with fail
    go_ret
    exact ⟨by rw [HV.out]; rfl, Qt.refl w⟩
  go_enter Trym.func26, Trym.ntmps26
  go_wp2_with fail
  go_loopw [7] (fun kv wr => ∃ k : Nat, kv = .int .i64 k ∧ k ≤ s.size ∧ Hid (∀ j, j < k → f (i + j) = bt s j) ∧ Hid (Qt w wr)) (fun kv _ => s.size - (intOf kv).toNat)
  case atStart => exact ⟨0, rfl, Nat.zero_le _, fun j h => by omega, Qt.refl w⟩
  case round =>
    obtain ⟨k, rfl, hk, HB, HQ⟩ := hrel
    by_cases hlt : k < s.size
    · have hcq : wr.cell? ⟨b, o + (i + k), none⟩ = some (.int .u8 (f (i + k))) := by rw [HQ.out.cell]; exact HD.out (i + k) (by omega)
      by_cases he : f (i + k) = bt s k
      · have hb : (f (i + k) != (s[k].toNat : Int)) = false := by rw [bt_at s k hlt]; simp [he]
        have HB2 : Hid (∀ j, j < k + 1 → f (i + j) = bt s j) := fun j h => if h2 : j < k then HB.out j h2 else by rw [show j = k by omega]; exact he
        clear he
        go_wp2_with fail
        go_quiet (fail)
        go_wp2_with fail
        go_roundw
        case rel => exact ⟨k + 1, by go_num, by omega, HB2, HQ.out.drewN nq⟩
        case measure => simp [intOf]; omega
      · have hb : (f (i + k) != (s[k].toNat : Int)) = true := by rw [bt_at s k hlt]; simp [he]
        have HV : Hid (Pre f n (bt s) s.size i = false) := by
          show _ = _
          unfold Pre
          rw [decide_eq_false_iff_not]
          rintro ⟨_, h⟩
          exact he (h k hlt)
        clear he
        go_wp2_with fail
        go_quiet (fail)
        go_wp2_with fail
        go_ret
        exact ⟨by rw [HV.out]; rfl, HQ.out.drewN nq⟩
    · have HV : Hid (Pre f n (bt s) s.size i = true) := by
        show _ = _
        unfold Pre
        rw [decide_eq_true_iff]
        exact ⟨hlen, fun j hj => HB.out j (by omega)⟩
      go_wp2_with fail
      go_ret
      exact ⟨by rw [HV.out]; rfl, HQ⟩

theorem info3 : (Trym.prog.info? 3).map (fun i => (i.zero, i.size, i.bytes)) = some (some (.int .i64 0), 1, 8) := by kernel_rfl

/-- The numbers as cells. -/
def numv (xs : List Int) : List Value := xs.map (Value.int .i64)

/-- What is found so far: a row of the call's own, or nil. -/
structure Fd (w : World) (v : Value) (m : Nat) (xs : List Int) (wr : World) : Prop where
  bel : Below w.heap.size w wr
  own : wr.ownsRow w.heap.size 3 1 v m (numv xs)

theorem Fd.len {w wr : World} {v : Value} {m : Nat} {xs : List Int} (h : Fd w v m xs wr) : xs.length = m := by
  have := h.own.1
  simpa [numv] using this

theorem Fd.qt {w wr w' : World} {v : Value} {m : Nat} {xs : List Int} (h : Fd w v m xs wr) (hq : Qt wr w') : Fd w v m xs w' := by
  refine ⟨h.bel.trans (hq.below _), ?_⟩
  have := h.own
  unfold World.ownsRow at this ⊢
  rw [hq.1]
  exact this

theorem Fd.push {w wr : World} {v : Value} {m : Nat} {xs : List Int} (h : Fd w v m xs wr) (x : Int) (hm : m ≤ 1048576) :
    ∃ v' w', (Builtin.append_ #[26, 26] 26 #[v, .slice (some ⟨wr.heap.size, 0, none⟩) 1 1]).run Trym.prog (wr.alloc (.cells #[.int .i64 x] 3)) = .ok v' w' ∧ Fd w v' (m + 1) (xs ++ [x]) w' := by
  obtain ⟨i, hi, hz0, hz1, hz2⟩ := info_parts info3
  have hbs := h.bel.size
  obtain ⟨v2, w2, hrun, hown, hgrow, _⟩ := run_append_own (P := Trym.prog) (wr.alloc (.cells #[.int .i64 x] 3)) w.heap.size 26 26 3 i (.int .i64 0) 1 8 Trym.underlying26 hi hz0 hz1 hz2 rfl (by decide)
    v m _ (h.own.alloc _) ⟨wr.heap.size, 0, none⟩ 1 1 [.int .i64 x] rfl (cell_one_new _ _ _) (fun u hu => by simp at hu; subst hu; rfl) (by unfold maxLen; omega) (by omega) (by simp; omega)
  refine ⟨v2, w2, hrun, (h.bel.alloc hbs _).grown hgrow (by simp; omega) (fun k hk => (h.own.lt k hk).1), ?_⟩
  have e : numv (xs ++ [x]) = numv xs ++ [.int .i64 x] := by simp [numv]
  rw [e]
  exact hown

/-- What recordLineMatchingStarts leaves. -/
def FsPost (f : Nat → Int) (n : Nat) (g : Nat → Int) (m : Nat) (w : World) (e : Ending) (w' : World) : Prop :=
  ∃ (p : Option Addr) (c k : Nat) (L : Nat → Int), k = cnt (M f n g m) n ∧ (∀ i, i < n → M f n g m i = true → L (cnt (M f n g m) i) = (cnt (S f) (i + 1) : Int)) ∧
    (∀ j, j < k → ∃ q, p = some ⟨q, 0, none⟩ ∧ w'.cell? ⟨q, j, none⟩ = some (.int .i64 (L j))) ∧ Below w.heap.size w w' ∧ e = .returned (.slice p k c)

theorem Fd.post {f : Nat → Int} {n : Nat} {g : Nat → Int} {m : Nat} {w w' : World} {v : Value} {xs : List Int} (h : Fd w v (cnt (M f n g m) n) xs w')
    (hx : ∀ i, i < n → M f n g m i = true → xs[cnt (M f n g m) i]? = some (cnt (S f) (i + 1) : Int)) : FsPost f n g m w (.returned v) w' := by
  have hL : ∀ i, i < n → M f n g m i = true → (fun j => xs.getD j 0) (cnt (M f n g m) i) = (cnt (S f) (i + 1) : Int) := fun i hi hm => by
    show xs.getD _ 0 = _
    rw [List.getD_eq_getElem?_getD, hx i hi hm]
    rfl
  have hl := h.len
  rcases h.own.2 with ⟨hv, h0⟩ | ⟨q, c, cur, hv, _⟩
  · exact ⟨none, 0, cnt (M f n g m) n, fun j => xs.getD j 0, rfl, hL, fun j hj => by omega, h.bel, by rw [hv, h0]⟩
  · refine ⟨some ⟨q, 0, none⟩, c, cnt (M f n g m) n, fun j => xs.getD j 0, rfl, hL, fun j hj => ⟨q, rfl, ?_⟩, h.bel, by rw [hv]⟩
    have hjx : j < xs.length := by omega
    have := h.own.cells (g := q) (by rw [hv]; rfl) j (.int .i64 (xs.getD j 0)) (by simp [numv, List.getD, hjx])
    have e : (⟨q, 0, none⟩ : Addr).add j = ⟨q, j, none⟩ := by unfold Addr.add; split <;> simp_all
    rwa [e] at this

set_option maxHeartbeats 2000000 in
set_option maxRecDepth 100000 in
theorem matching_any (p : Option Addr) (n c : Nat) (s : ByteArray) (f : Nat → Int) (w : World) (hn : n ≤ 1048576) (hs : s.size ≤ 1048576) (hB : Bl w p n f w.heap.size) :
    Calls Trym.prog 13 #[.slice p n c, .string s] w fun e w' => FsPost f n (bt s) s.size w e w' := by
  have HB : Hid (Bl w p n f w.heap.size) := hB
  clear hB
  go_enter Trym.func13, Trym.ntmps13
  go_wp2_with fail
  go_loopg [5, 6, 7] n (fun gk v vl vi wr => ∃ (i l : Nat) (xs : List Int), n - i ≤ gk ∧ vi = .int .i64 i ∧ vl = .int .i64 l ∧ i ≤ n ∧ (i = 0 → l = 1) ∧ (0 < i → l = cnt (S f) i) ∧
    Hid (∀ i', i' < i → M f n (bt s) s.size i' = true → xs[cnt (M f n (bt s) s.size) i']? = some (cnt (S f) (i' + 1) : Int)) ∧ Hid (Fd w v (cnt (M f n (bt s) s.size) i) xs wr))
  case atStart => exact ⟨0, 1, [], by omega, rfl, rfl, Nat.zero_le _, fun _ => rfl, fun h => by omega, fun i' h => by omega, Below.refl _ _, World.ownsRow_nil _ _ _ _⟩
  case round =>
    obtain ⟨i, l, xs, hgk, rfl, rfl, hi, hl0, hl1, HX, HH⟩ := hrel
    by_cases hlt : i < n
    rotate_left
    · obtain rfl : i = n := by omega
      have HP := HH.out.post HX.out
      have HP2 : Hid (FsPost f i (bt s) s.size w (.returned _) wr) := HP
      clear HP hl0 hl1
      go_wp2_with fail
      go_ret
      exact HP2
    have hbs := HB.out.bs HH.out.bel
    obtain ⟨b, o, hp, hDr⟩ := hbs.get i hlt
    subst hp
    clear hbs
    have hcs := cnt_le (S f) i
    by_cases h0 : i = 0
    · have hi0 : ((i : Int) == 0) = true := by simp [h0]
      have hi1 : decide (0 < i) = false := by simp; omega
      have HSi : Hid (S f i = true) := by show _ = _; simp [S, h0]
      have HSn : Hid (cnt (S f) (i + 1) = l) := by
        show _ = _
        rw [cnt_succ_yes HSi.out, hl0 h0, h0]
        rfl
      have hl := hl0 h0
      have hl2 : l ≤ 1 := by omega
      clear hl0 hl1 h0 hl
      go_wp2_with fail
      refine (tail_any _ _ _ _ i s f _ (by omega) hn hs hDr).mono ?_
      rintro e w1 ⟨rfl, hq⟩
      have HH1 : Hid (Fd w _ (cnt (M f n (bt s) s.size) i) xs w1) := HH.out.qt hq
      clear hq
      have hMe : M f n (bt s) s.size i = Pre f n (bt s) s.size i := by unfold M; rw [HSi.out]; rfl
      cases hP : Pre f n (bt s) s.size i
      · rw [hP] at hMe
        have HM1 : Hid (cnt (M f n (bt s) s.size) (i + 1) = cnt (M f n (bt s) s.size) i) := cnt_succ_no hMe
        have HXX : Hid (∀ i', i' < i + 1 → M f n (bt s) s.size i' = true → xs[cnt (M f n (bt s) s.size) i']? = some (cnt (S f) (i' + 1) : Int)) := fun i' h1 h2 => if h3 : i' < i then HX.out i' h3 h2 else by rw [show i' = i by omega, hMe] at h2; cases h2
        clear hP hMe
        go_wp2_with fail
        go_roundg (n - (i + 1))
        case measure => omega
        case rel => exact ⟨i + 1, cnt (S f) (i + 1), xs, by omega, by go_num, by rw [HSn.out], by omega, fun h => by omega, fun _ => rfl, HXX, by show Fd _ _ _ _ _; rw [HM1.out]; exact HH1.out⟩
      · rw [hP] at hMe
        have HM1 : Hid (cnt (M f n (bt s) s.size) (i + 1) = cnt (M f n (bt s) s.size) i + 1) := cnt_succ_yes hMe
        have hcm := cnt_le (M f n (bt s) s.size) i
        obtain ⟨v', w2, hrun, hH2⟩ := HH1.out.push ((l : Int)) (by omega)
        have HH2 : Hid (Fd w v' (cnt (M f n (bt s) s.size) i + 1) (xs ++ [(l : Int)]) w2) := hH2
        have HXX : Hid (∀ i', i' < i + 1 → M f n (bt s) s.size i' = true → (xs ++ [(l : Int)])[cnt (M f n (bt s) s.size) i']? = some (cnt (S f) (i' + 1) : Int)) := fun i' h1 h2 => by
          have hlx := HH.out.len
          by_cases h3 : i' < i
          · rw [List.getElem?_append_left (by rw [hlx]; exact cnt_lt h2 h3)]
            exact HX.out i' h3 h2
          · obtain rfl : i' = i := by omega
            rw [List.getElem?_append_right (by omega), hlx, Nat.sub_self, HSn.out]
            simp
        have HR : Hid (_ = _) := hrun
        clear hP hMe hrun hH2
        go_wp2_with (at_builtin; refine wpList_append_run rfl (.tmp 42) (.tmp 44) 26 rfl _ _ rfl rfl HR.out ?_)
        go_roundg (n - (i + 1))
        case measure => omega
        case rel => exact ⟨i + 1, cnt (S f) (i + 1), _, by omega, by go_num, by rw [HSn.out], by omega, fun h => by omega, fun _ => rfl, HXX, by show Fd _ _ _ _ _; rw [HM1.out]; exact HH2.out⟩
    · have hi0 : ((i : Int) == 0) = false := by simp; omega
      have hi1 : decide ((0 : Int) < (i : Int)) = true := by simp; omega
      have hi2 : 1 ≤ i := by omega
      have hcp := hDr (i - 1) (by omega)
      have hl := hl1 (by omega)
      have hl2 : l ≤ n := by omega
      by_cases h10 : f (i - 1) = 10
      · have hb : (f (i - 1) == 10) = true := by simp [h10]
        have HSi : Hid (S f i = true) := by show _ = _; simp [S, h10]
        have HSn : Hid (cnt (S f) (i + 1) = l + 1) := by show _ = _; rw [cnt_succ_yes HSi.out, hl]
        have HD : Hid (∀ i, i < n → wr.cell? ⟨b, o + i, none⟩ = some (.int .u8 (f i))) := hDr
        clear hl0 hl1 h0 hl h10 hDr
        go_wp2_with fail
        have hDr := HD.out
        refine (tail_any _ _ _ _ i s f _ (by omega) hn hs hDr).mono ?_
        rintro e w1 ⟨rfl, hq⟩
        have HH1 : Hid (Fd w _ (cnt (M f n (bt s) s.size) i) xs w1) := HH.out.qt hq
        clear hq
        have hMe : M f n (bt s) s.size i = Pre f n (bt s) s.size i := by unfold M; rw [HSi.out]; rfl
        cases hP : Pre f n (bt s) s.size i
        · rw [hP] at hMe
          have HM1 : Hid (cnt (M f n (bt s) s.size) (i + 1) = cnt (M f n (bt s) s.size) i) := cnt_succ_no hMe
          have HXX : Hid (∀ i', i' < i + 1 → M f n (bt s) s.size i' = true → xs[cnt (M f n (bt s) s.size) i']? = some (cnt (S f) (i' + 1) : Int)) := fun i' h1 h2 => if h3 : i' < i then HX.out i' h3 h2 else by rw [show i' = i by omega, hMe] at h2; cases h2
          clear hP hMe
          go_wp2_with fail
          go_roundg (n - (i + 1))
          case measure => omega
          case rel => exact ⟨i + 1, cnt (S f) (i + 1), xs, by omega, by go_num, by rw [HSn.out]; go_num, by omega, fun h => by omega, fun _ => rfl, HXX, by show Fd _ _ _ _ _; rw [HM1.out]; exact HH1.out⟩
        · rw [hP] at hMe
          have HM1 : Hid (cnt (M f n (bt s) s.size) (i + 1) = cnt (M f n (bt s) s.size) i + 1) := cnt_succ_yes hMe
          have hcm := cnt_le (M f n (bt s) s.size) i
          obtain ⟨v', w2, hrun, hH2⟩ := HH1.out.push ((l : Int) + 1) (by omega)
          have HH2 : Hid (Fd w v' (cnt (M f n (bt s) s.size) i + 1) (xs ++ [(l : Int) + 1]) w2) := hH2
          have HXX : Hid (∀ i', i' < i + 1 → M f n (bt s) s.size i' = true → (xs ++ [(l : Int) + 1])[cnt (M f n (bt s) s.size) i']? = some (cnt (S f) (i' + 1) : Int)) := fun i' h1 h2 => by
            have hlx := HH.out.len
            by_cases h3 : i' < i
            · rw [List.getElem?_append_left (by rw [hlx]; exact cnt_lt h2 h3)]
              exact HX.out i' h3 h2
            · obtain rfl : i' = i := by omega
              rw [List.getElem?_append_right (by omega), hlx, Nat.sub_self, HSn.out]
              simp
          have HR : Hid (_ = _) := hrun
          clear hP hMe hrun hH2
          go_wp2_with (at_builtin; refine wpList_append_run rfl (.tmp 42) (.tmp 44) 26 rfl _ _ rfl rfl HR.out ?_)
          go_roundg (n - (i + 1))
          case measure => omega
          case rel => exact ⟨i + 1, cnt (S f) (i + 1), _, by omega, by go_num, by rw [HSn.out]; go_num, by omega, fun h => by omega, fun _ => rfl, HXX, by show Fd _ _ _ _ _; rw [HM1.out]; exact HH2.out⟩
      · have hb : (f (i - 1) == 10) = false := by simp [h10]
        have hSi : S f i = false := by simp [S, h10, h0]
        have HSn : Hid (cnt (S f) (i + 1) = l) := by show _ = _; rw [cnt_succ_no hSi, hl]
        have hM : M f n (bt s) s.size i = false := by unfold M; rw [hSi]; rfl
        have HM1 : Hid (cnt (M f n (bt s) s.size) (i + 1) = cnt (M f n (bt s) s.size) i) := cnt_succ_no hM
        have HXX : Hid (∀ i', i' < i + 1 → M f n (bt s) s.size i' = true → xs[cnt (M f n (bt s) s.size) i']? = some (cnt (S f) (i' + 1) : Int)) := fun i' h1 h2 => if h3 : i' < i then HX.out i' h3 h2 else by rw [show i' = i by omega, hM] at h2; cases h2
        clear hl0 hl1 h0 hl h10 hDr hM hSi
        go_wp2_with fail
        go_roundg (n - (i + 1))
        case measure => omega
        case rel => exact ⟨i + 1, cnt (S f) (i + 1), xs, by omega, by go_num, by rw [HSn.out], by omega, fun h => by omega, fun _ => rfl, HXX, by show Fd _ _ _ _ _; rw [HM1.out]; exact HH.out⟩

set_option maxHeartbeats 1000000 in
set_option maxRecDepth 100000 in
theorem match_in (p : Option Addr) (n cap : Nat) (s : ByteArray) (v : Int) (f : Nat → Int) (w : World) (hn : n ≤ 9223372036854775807) (hs : s.size ≤ 9223372036854775807)
    (hv : -9223372036854775808 ≤ v ∧ v ≤ 9223372036854775807) (hf : ∀ i, 0 ≤ f i ∧ f i ≤ 255)
    (hcl : n ≤ 1048576 → Calls Trym.prog 11 #[.slice p n cap] w fun e w' => RcPost w n f e w') :
    Calls Trym.prog 3 #[.slice p n cap, .string s, .int .i64 v] w fun e w' => e = .returned (.bool true) ∧ Below w.heap.size w w' := by
  have HF : Hid (∀ i, 0 ≤ f i ∧ f i ≤ 255) := hf
  have HV : Hid (-9223372036854775808 ≤ v ∧ v ≤ 9223372036854775807) := hv
  have HCL : Hid (n ≤ 1048576 → Calls Trym.prog 11 #[.slice p n cap] w fun e w' => RcPost w n f e w') := hcl
  have HZ : Hid (Calls Trym.prog 10 #[.slice p n cap, .string s, .int .i64 v] w fun e w' => BoolP e ∧ w = w') := zz10_any p n cap s v w hn hs
  clear hf hcl hv
  go_enter Trym.func3, Trym.ntmps3
  go_wp2_with fail
  refine HZ.out.mono ?_
  rintro e w' ⟨⟨z, rfl⟩, rfl⟩
  clear HZ
  cases z
  · go_wp2_with fail
    go_ret
    exact ⟨rfl, Below.refl _ _⟩
  by_cases h1 : n ≤ 1048576
  rotate_left
  · go_wp2_with fail
    go_ret
    exact ⟨rfl, Below.refl _ _⟩
  by_cases h2 : s.size ≤ 1048576
  rotate_left
  · go_wp2_with fail
    go_ret
    exact ⟨rfl, Below.refl _ _⟩
  by_cases h3 : n + s.size ≤ 1048576
  rotate_left
  · go_wp2_with fail
    go_ret
    exact ⟨rfl, Below.refl _ _⟩
  go_wp2_with fail
  refine (HCL.out h1).mono ?_
  rintro e w1 ⟨p1, c1, hc1, hD, hb, rfl⟩
  have HD : Hid (Bl w1 p1 n f w1.heap.size) := hD
  have HB : Hid (Below w.heap.size w w1) := hb
  clear hD hb HCL
  go_wp2_with fail
  refine (zzRecordLine_any _ _ _ f s v _ h1 h2 hc1 HV.out HF.out HD.out).mono ?_
  rintro e w2 ⟨⟨a, hA, rfl⟩, hb⟩
  have HA : Hid (RL f n (bt s) s.size v a) := hA
  have HB2 : Hid (Below w.heap.size w w2) := HB.out.trans (hb.mono HB.out.size)
  have HD2 : Hid (Bl w2 p1 n f w2.heap.size) := HD.out.later hb
  clear hA hb HD HB
  go_wp2_with fail
  refine (matching_any _ _ _ s f _ h1 h2 HD2.out).mono ?_
  rintro e w3 ⟨q, cq, k, L, hk, hL, hcell, hb, rfl⟩
  obtain ⟨hr1, hr2⟩ := HA.out.listed L hL
  have HB3 : Hid (Below w.heap.size w w3) := HB2.out.trans (hb.mono HB2.out.size)
  have hkl : k ≤ n := by rw [hk]; exact cnt_le _ _
  rw [← hk] at hr1 hr2
  have HC : Hid (∀ j, j < k → ∃ b, q = some ⟨b, 0, none⟩ ∧ w3.cell? ⟨b, j, none⟩ = some (.int .i64 (L j))) := hcell
  clear hk hL hcell hb HD2 HB2
  by_cases hneg : v < 0
  · have ha : a = 1 := hr2 (Or.inl hneg)
    subst ha
    clear hr1 hr2
    go_wp2_with fail
    go_ret
    exact ⟨rfl, HB3⟩
  obtain ⟨x, rfl⟩ := Int.eq_ofNat_of_zero_le (show 0 ≤ v by omega)
  by_cases hx : x < k
  · have ha : a = L x := hr1 x rfl hx
    subst ha
    obtain ⟨b, hq, hcx⟩ := HC.out x hx
    subst hq
    clear hr1 hr2
    generalize L x = lx at *
    go_wp2_with fail
    go_ret
    exact ⟨rfl, HB3⟩
  · have ha : a = 1 := hr2 (Or.inr (by omega))
    subst ha
    clear hr1 hr2
    go_wp2_with fail
    go_ret
    exact ⟨rfl, HB3⟩

end Go.Proofs.Qxb6602847aMods

/-
  The law's walks: FnSkipNestedMatchesByteScan, FnSkipNestedPiecewiseAgreesWithWhole.
-/
import Derived.Test.Qxb6601167aModsZz
import Derived.Test.Qxb6601167aModsClone
import Derived.Test.Qxb6601167aModsModel
namespace Go.Proofs.Qxb6601167aMods
open Go.RowKit

set_option maxRecDepth 100000 in
theorem zz13_any (p : Option Addr) (n c : Nat) (s e : Bool) (d : Int) (w : World) (hn : n ≤ 1048576) :
    Calls Trym.prog 13 #[.slice p n c, .bool s, .bool e, .int .i64 d] w fun e w' => e = .returned (.bool true) ∧ w = w' := by
  go_enter Trym.func13, Trym.ntmps13
  go_wp2
  go_ret
  exact ⟨rfl, rfl⟩

set_option maxRecDepth 100000 in
theorem zz13_no (p : Option Addr) (n c : Nat) (s e : Bool) (d : Int) (w : World) (hn : 1048576 < n) :
    Calls Trym.prog 13 #[.slice p n c, .bool s, .bool e, .int .i64 d] w fun e w' => e = .returned (.bool false) ∧ w = w' := by
  go_enter Trym.func13, Trym.ntmps13
  go_wp2
  go_ret
  exact ⟨rfl, rfl⟩

set_option maxRecDepth 100000 in
theorem zz16_any (p : Option Addr) (n c : Nat) (k : Int) (s e : Bool) (d : Int) (w : World) (hn : n ≤ 1048576) :
    Calls Trym.prog 16 #[.slice p n c, .int .i64 k, .bool s, .bool e, .int .i64 d] w fun e w' => e = .returned (.bool true) ∧ w = w' := by
  go_enter Trym.func16, Trym.ntmps16
  go_wp2
  go_ret
  exact ⟨rfl, rfl⟩

set_option maxRecDepth 100000 in
theorem zz16_no (p : Option Addr) (n c : Nat) (k : Int) (s e : Bool) (d : Int) (w : World) (hn : 1048576 < n) :
    Calls Trym.prog 16 #[.slice p n c, .int .i64 k, .bool s, .bool e, .int .i64 d] w fun e w' => e = .returned (.bool false) ∧ w = w' := by
  go_enter Trym.func16, Trym.ntmps16
  go_wp2
  go_ret
  exact ⟨rfl, rfl⟩

theorem zzSkip_at (s e : Bool) (d : Int) (p : Option Addr) (n c : Nat) (f : Nat → Int) (w : World) (hn : n ≤ 1048576) (hnc : n ≤ c)
    (hf : ∀ i, 0 ≤ f i ∧ f i ≤ 255) (hD : Bl w p n f w.heap.size) :
    Calls Trym.prog 14 #[.slice p n c, .bool s, .bool e, .int .i64 d] w fun e' w' => ZzPost w ⟨s, e, d⟩ f n e' w' := zzSkip_any ⟨s, e, d⟩ p n c f w hn hnc hf hD

theorem model_at (s e : Bool) (d : Int) (p : Option Addr) (n c : Nat) (f : Nat → Int) (w : World) (hn : n ≤ 1048576) (hB : Bs w p n f) :
    Calls Trym.prog 15 #[.slice p n c, .bool s, .bool e, .int .i64 d] w fun e' w' => MoPost ⟨s, e, d⟩ f n e' ∧ w = w' := model_any ⟨s, e, d⟩ p n c f w hn hB

/-- The slice still lies there in a later world. -/
theorem Bl.later {w w' : World} {p : Option Addr} {n : Nat} {f : Nat → Int} (h : Bl w p n f w.heap.size) (hb : Below w.heap.size w w') : Bl w' p n f w'.heap.size := by
  rcases h with h | ⟨b, o, rfl, hlt, hc⟩
  · exact Or.inl h
  · exact Or.inr ⟨b, o, rfl, Nat.lt_of_lt_of_le hlt hb.size, fun i hi => by rw [hb.cell (p := ⟨b, o + i, none⟩) hlt]; exact hc i hi⟩

theorem Bl.first {w0 : World} {p : Option Addr} {n g : Nat} {f : Nat → Int} (h : Bl w0 p n f g) (m : Nat) (hm : m ≤ n) : Bl w0 p m f g := by
  rcases h with h | ⟨b, o, rfl, hlt, hc⟩
  · exact Or.inl (by omega)
  · exact Or.inr ⟨b, o, rfl, hlt, fun i hi => hc i (by omega)⟩

set_option maxHeartbeats 400000 in
set_option maxRecDepth 100000 in
theorem match_in (p : Option Addr) (n cap : Nat) (s e : Bool) (d : Int) (f : Nat → Int) (w : World) (hn : n ≤ 1048576) (hf : ∀ i, 0 ≤ f i ∧ f i ≤ 255)
    (hcl : Calls Trym.prog 9 #[.slice p n cap] w fun e w' => ClPost w n f e w') :
    Calls Trym.prog 5 #[.slice p n cap, .bool s, .bool e, .int .i64 d] w fun e w' => e = .returned (.bool true) ∧ Below w.heap.size w w' := by
  have HF : Hid (∀ i, 0 ≤ f i ∧ f i ≤ 255) := hf
  have HCL : Hid (Calls Trym.prog 9 #[.slice p n cap] w fun e w' => ClPost w n f e w') := hcl
  clear hf hcl
  go_enter Trym.func5, Trym.ntmps5
  go_wp2_with fail
  refine (zz13_any _ _ _ _ _ _ _ hn).mono ?_
  rintro e1 w' ⟨rfl, rfl⟩
  go_wp2_with fail
  refine HCL.out.mono ?_
  rintro e1 w1 ⟨p1, c1, hc1, hD, hb, rfl⟩
  have HD : Hid (Bl w1 p1 n f w1.heap.size) := hD
  have HB : Hid (Below w.heap.size w w1) := hb
  clear hD hb
  go_wp2_with fail
  refine (zzSkip_at s e d _ _ _ f _ hn hc1 HF.out HD.out).mono ?_
  rintro e1 w2 ⟨r, ok, q', hR, hb, rfl⟩
  have HR : Hid (Res f n ⟨s, e, d⟩ r ok q') := hR
  have HB2 : Hid (Below w1.heap.size w1 w2) := hb
  clear hR hb
  go_wp2_with fail
  refine (model_at s e d _ _ _ f _ hn (HD.out.bs HB2.out)).mono ?_
  rintro e1 w' ⟨⟨r', ok', q2, hR, rfl⟩, rfl⟩
  obtain ⟨h1, h2, h3⟩ := hR.unique HR.out
  subst h1 h2 h3
  clear hR
  go_wp2_with fail
  go_ret
  exact ⟨rfl, HB.out.trans (HB2.out.mono HB.out.size)⟩

set_option maxHeartbeats 400000 in
set_option maxRecDepth 100000 in
theorem piece_in (p : Option Addr) (n cap k : Nat) (s e : Bool) (d : Int) (f : Nat → Int) (w : World) (hn : n ≤ 1048576) (hk : k ≤ n) (hf : ∀ i, 0 ≤ f i ∧ f i ≤ 255)
    (hcl : Calls Trym.prog 9 #[.slice p n cap] w fun e w' => ClPost w n f e w') :
    Calls Trym.prog 6 #[.slice p n cap, .int .i64 k, .bool s, .bool e, .int .i64 d] w fun e w' => e = .returned (.bool true) ∧ Below w.heap.size w w' := by
  have HF : Hid (∀ i, 0 ≤ f i ∧ f i ≤ 255) := hf
  have HCL : Hid (Calls Trym.prog 9 #[.slice p n cap] w fun e w' => ClPost w n f e w') := hcl
  clear hf hcl
  go_enter Trym.func6, Trym.ntmps6
  go_wp2_with fail
  refine (zz16_any _ _ _ _ _ _ _ _ hn).mono ?_
  rintro e1 w' ⟨rfl, rfl⟩
  go_wp2_with fail
  refine HCL.out.mono ?_
  rintro e1 w1 ⟨p1, c1, hc1, hD, hb, rfl⟩
  have HD : Hid (Bl w1 p1 n f w1.heap.size) := hD
  have HB : Hid (Below w.heap.size w w1) := hb
  clear hD hb
  go_wp2_with fail
  refine (zzSkip_at s e d _ _ _ f _ hn hc1 HF.out HD.out).mono ?_
  rintro e1 w2 ⟨r, ok, q', hR, hb, rfl⟩
  have HR : Hid (Res f n ⟨s, e, d⟩ r ok q') := hR
  have HB2 : Hid (Below w.heap.size w w2) := HB.out.trans (hb.mono HB.out.size)
  have HD2 : Hid (Bl w2 p1 n f w2.heap.size) := HD.out.later hb
  clear hR hb HD HB
  have hcut := cut_to p1 n c1 k (by omega)
  go_wp2_with fail
  clear hcut
  refine (zzSkip_at s e d _ _ _ f _ (by omega) (by omega) HF.out (HD2.out.first k hk)).mono ?_
  rintro e1 w3 ⟨r1, ok1, q1, hR, hb, rfl⟩
  have HR1 : Hid (Res f k ⟨s, e, d⟩ r1 ok1 q1) := hR
  have HB3 : Hid (Below w.heap.size w w3) := HB2.out.trans (hb.mono HB2.out.size)
  have HD3 : Hid (Bl w3 p1 n f w3.heap.size) := HD2.out.later hb
  clear hR hb HD2 HB2
  cases ok1
  · obtain ⟨hO, h1, h2⟩ := HR1.out.went
    subst h1
    have HO : Hid (Open f ⟨s, e, d⟩ k) := hO
    have HQ : Hid (q1 = stt f ⟨s, e, d⟩ k) := h2
    clear hO h2
    have hcut := cut_from p1 n c1 k hk
    go_wp2_with fail
    clear hcut
    refine (zzSkip_at q1.s q1.e q1.d _ _ _ (fun i => f (k + i)) _ (by omega) (by omega) (fun i => HF.out _) (HD3.out.cut k (n - k) (by omega) hc1)).mono ?_
    rintro e1 w4 ⟨r2, ok2, q2, hR, hb, rfl⟩
    have hq : (⟨q1.s, q1.e, q1.d⟩ : S) = stt f ⟨s, e, d⟩ k := HQ.out
    rw [hq] at hR
    obtain ⟨h1, h2, h3⟩ := HR.out.unique (Res.join hk HO.out hR)
    subst h1 h2 h3
    have hr2 : 0 ≤ r2 ∧ r2 ≤ 1048577 := by
      rcases hR with ⟨j, hj, _, _, rfl, _⟩ | ⟨_, rfl, _⟩ <;> omega
    have HB4 : Hid (Below w.heap.size w w4) := HB3.out.trans (hb.mono HB3.out.size)
    clear hR hb HD3 HB3 hq
    go_wp2_with fail
    go_ret
    exact ⟨rfl, HB4⟩
  · obtain ⟨h1, h2, h3⟩ := HR.out.unique (HR1.out.first hk)
    subst h1 h2 h3
    go_wp2_with fail
    go_ret
    exact ⟨rfl, HB3⟩

end Go.Proofs.Qxb6601167aMods

/-
  The walk of ZZSkipNested.
-/
import Derived.Test.Qxb6601167aModsSkip
namespace Go.Proofs.Qxb6601167aMods
open Go.RowKit

set_option maxHeartbeats 400000 in
set_option maxRecDepth 100000 in
theorem skipNested_zero (w0 : World) (g : Nat) (q : S) (p : Option Addr) (c : Nat) (f : Nat → Int) (w : World) (hP : Pk w0 g q w) :
    Calls Trym.prog 21 #[.pointer (some ⟨g, 0, none⟩), .slice p 0 c] w fun e w' => SkPost w0 g q f 0 e w' := by
  have HP : Hid (Pk w0 g q w) := hP
  clear hP
  go_enter Trym.func21, Trym.ntmps21
  go_wp2_with fail
  refine wp_loop_rounds 1 ?_; rw [rounds_succ]
  go_wp2_with fail
  go_ret2
  exact ⟨_, _, _, Or.inr ⟨Open.zero f q, rfl, rfl, rfl⟩, HP, rfl⟩

theorem skipNested_all (w0 : World) (g : Nat) (q : S) (p : Option Addr) (n c : Nat) (f : Nat → Int) (w : World) (hn : n ≤ 1048576) (hnc : n ≤ c)
    (hf : ∀ i, 0 ≤ f i ∧ f i ≤ 255) (hD : Bl w0 p n f g) (hP : Pk w0 g q w) :
    Calls Trym.prog 21 #[.pointer (some ⟨g, 0, none⟩), .slice p n c] w fun e w' => SkPost w0 g q f n e w' := by
  rcases hD with rfl | ⟨b, o, rfl, hlt, hc⟩
  · exact skipNested_zero w0 g q p c f w hP
  · exact skipNested_any w0 g q b o n c f w hn hnc hlt hc hP hf

theorem Pk.new (w : World) (c : Array Value) (t : TypeId) (q : S) (h8 : c[8]? = some (.int .i64 q.d)) (h9 : c[9]? = some (.bool q.s)) (h10 : c[10]? = some (.bool q.e)) :
    Pk w w.heap.size q (w.alloc (.cells c t)) := by
  refine ⟨(Below.refl _ _).alloc (Nat.le_refl _) _, c, t, ?_, h8, h9, h10⟩
  show (w.heap.push _)[w.heap.size]? = _
  rw [Array.getElem?_push, if_pos rfl]

/-- What ZZSkipNested leaves. -/
def ZzPost (w : World) (q : S) (f : Nat → Int) (n : Nat) (e : Ending) (w' : World) : Prop :=
  ∃ (r : Int) (ok : Bool) (q' : S), Res f n q r ok q' ∧ Below w.heap.size w w' ∧ e = .returned (.tuple #[.int .i64 r, .bool ok, .bool q'.s, .bool q'.e, .int .i64 q'.d])

set_option maxHeartbeats 400000 in
set_option maxRecDepth 100000 in
theorem zzSkip_any (q : S) (p : Option Addr) (n c : Nat) (f : Nat → Int) (w : World) (hn : n ≤ 1048576) (hnc : n ≤ c)
    (hf : ∀ i, 0 ≤ f i ∧ f i ≤ 255) (hD : Bl w p n f w.heap.size) :
    Calls Trym.prog 14 #[.slice p n c, .bool q.s, .bool q.e, .int .i64 q.d] w fun e w' => ZzPost w q f n e w' := by
  have HF : Hid (∀ i, 0 ≤ f i ∧ f i ≤ 255) := hf
  have HD : Hid (Bl w p n f w.heap.size) := hD
  clear hf hD
  go_enter Trym.func14, Trym.ntmps14
  go_wp2_with fail
  refine (skipNested_all w w.heap.size q _ _ _ f _ hn hnc HF.out HD.out ?_).mono ?_
  · exact Pk.new w _ 44 q rfl rfl rfl
  rintro e w1 ⟨r, ok, q', hR, hP, rfl⟩
  have HR : Hid (Res f n q r ok q') := hR
  have HP : Hid (Pk w w.heap.size q' w1) := hP
  have h8 := hP.d
  have h9 := hP.s
  have h10 := hP.e
  clear hR hP
  go_wp2_with fail
  go_region
  go_wp2_with fail
  refine bodyPost_ret (v := .tuple #[.int .i64 r, .bool ok, .bool q'.s, .bool q'.e, .int .i64 q'.d]) (by simp [results, Trym.results14, go_sem]) rfl ?_
  exact ⟨_, _, _, HR, HP.out.bel.drew, rfl⟩

end Go.Proofs.Qxb6601167aMods

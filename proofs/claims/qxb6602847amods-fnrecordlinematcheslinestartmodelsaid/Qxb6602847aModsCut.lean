/-
  The walks of strings.IndexByte and cutFields.
-/
import Derived.Test.Qxb6602847aModsPieces
import Derived.Test.Qxb6602847aModsRows
import Derived.WalkKit
import Derived.ProofKit
import Derived.Below
import Derived.ArgAppend
import Derived.WalkSpells
import Derived.Outline
import Derived.Deep.LoopGhost
namespace Go.Proofs.Qxb6602847aMods
open Go.RowKit

set_option maxHeartbeats 400000 in
set_option maxRecDepth 100000 in
theorem slIndexByte_any (s : ByteArray) (cv : Int) (w : World) (hc : 0 ≤ cv ∧ cv ≤ 255) :
    Calls Trym.prog 35 #[.string s, .int .u8 cv] w fun e w' => (∃ r : Int, IB (bt s) cv s.size r ∧ e = .returned (.int .i64 r)) ∧ w = w' := by
  have hrun := Lib.run_indexByteString (P := Trym.prog) s cv w
  have HR : Hid (IB (bt s) cv s.size (Lib.indexByte s.data.toList cv.toNat.toUInt8)) := ib_string s cv hc
  generalize Lib.indexByte s.data.toList cv.toNat.toUInt8 = r at *
  clear hc
  go_enter Trym.func35, Trym.ntmps35
  go_wp2
  rw [run_callFunc_extern Trym.func37 (by kernel_rfl) (by kernel_rfl) (by kernel_rfl) (e := Extern.BytealgIndexByte.indexByte) (by kernel_rfl), hrun]
  simp only [Result.andThen]
  rw [Oper.upon_value]
  go_wp2
  go_ret
  exact ⟨⟨r, HR, rfl⟩, rfl⟩

set_option maxHeartbeats 400000 in
set_option maxRecDepth 100000 in
theorem sIndexByte_any (s : ByteArray) (cv : Int) (w : World) (hc : 0 ≤ cv ∧ cv ≤ 255) :
    Calls Trym.prog 31 #[.string s, .int .u8 cv] w fun e w' => (∃ r : Int, IB (bt s) cv s.size r ∧ e = .returned (.int .i64 r)) ∧ w = w' := by
  go_enter Trym.func31, Trym.ntmps31
  go_wp2_with fail
  refine (slIndexByte_any _ _ _ hc).mono ?_
  rintro e w' ⟨⟨r, hr, rfl⟩, rfl⟩
  have HR : Hid (IB (bt s) cv s.size r) := hr
  clear hr
  go_wp2_with fail
  go_ret
  exact ⟨⟨r, HR, rfl⟩, rfl⟩

/-- An append whose run is known. -/
theorem wpList_append_run {P : Program} {w w' : World} {v' : Value} {ops : Array Oper} {rest : List Oper} {o : Oper} {a : Act} {Q : Exit → Act → World → Prop} (hgd : o.guard = none) (s x : Operand) (t : TypeId)
    (ho : o.op = .call { callee := .builtin .append, args := #[s, x], argTypes := #[t, t] }) (v1 v2 : Value) (hs : a.eval s = v1) (hx : a.eval x = v2)
    (hrun : (Builtin.append_ #[t, t] o.type #[v1, v2]).run P w = .ok v' w') (h : wpList P ops Q rest (a.put o.dst v') w') : wpList P ops Q (o :: rest) a w := by
  refine wpList_plain hgd fun K hK => ?_
  unfold Oper.wp
  simp [execOp, ho, resolve, invoke, builtin, hs, hx, hrun, Result.andThen]
  exact hK _ _ h

theorem info9 : (Trym.prog.info? 9).map (fun i => (i.zero, i.size, i.bytes)) = some (some (.string ByteArray.empty), 1, 16) := by kernel_rfl

/-- The strings as cells. -/
def strv (xs : List ByteArray) : List Value := xs.map Value.string

/-- What cutFields has in hand: 'fs', as it came, full; or a row of its own. -/
structure Hd (w : World) (v0 v : Value) (fs ps : List ByteArray) (wr : World) : Prop where
  bel : Below w.heap.size w wr
  own : (ps = [] ∧ v = v0) ∨ wr.ownsRow w.heap.size 9 1 v (fs.length + ps.length) (strv (fs ++ ps))

/-- The slice as it comes in: nil; or an address with its cells, and no room behind them. -/
def Came (w : World) (v0 : Value) (fs : List ByteArray) : Prop :=
  (v0 = .slice none 0 0 ∧ fs = []) ∨ ∃ x : Addr, v0 = .slice (some x) fs.length fs.length ∧ x.block < w.heap.size ∧ ∀ i, i < fs.length → w.cell? (x.add i) = some (.string (fs.getD i ByteArray.empty))

theorem ownsRow_less {w : World} {base base' : Nat} {e : TypeId} {size : Nat} {v : Value} {n : Nat} {xs : List Value} (h : w.ownsRow base e size v n xs) (hb : base' ≤ base) : w.ownsRow base' e size v n xs := by
  refine ⟨h.1, ?_⟩
  rcases h.2 with h2 | ⟨g, cap, cur, hv, hg, r⟩
  · exact Or.inl h2
  · exact Or.inr ⟨g, cap, cur, hv, Nat.le_trans hb hg, r⟩

theorem Hd.push {w wr : World} {v0 v : Value} {fs ps : List ByteArray} (h : Hd w v0 v fs ps wr) (hc : Came w v0 fs) (p : ByteArray) (hl : fs.length + ps.length ≤ 4194304) :
    ∃ v' w', (Builtin.append_ #[29, 29] 29 #[v, .slice (some ⟨wr.heap.size, 0, none⟩) 1 1]).run Trym.prog (wr.alloc (.cells #[.string p] 9)) = .ok v' w' ∧
      wr.heap.size ≤ w'.heap.size ∧ Hd w v0 v' fs (ps ++ [p]) w' := by
  obtain ⟨i, hi, hz0, hz1, hz2⟩ := info_parts info9
  have hbs := h.bel.size
  have hlen : (strv (fs ++ (ps ++ [p]))) = strv (fs ++ ps) ++ [.string p] := by simp [strv]
  have hn1 : fs.length + (ps ++ [p]).length = fs.length + ps.length + 1 := by simp; omega
  rcases h.own with ⟨rfl, rfl⟩ | hown
  · rcases hc with ⟨rfl, rfl⟩ | ⟨x, rfl, hxb, hcell⟩
    · obtain ⟨v2, w2, hrun, hown, hgrow, _⟩ := run_append_own (P := Trym.prog) (wr.alloc (.cells #[.string p] 9)) w.heap.size 29 29 9 i (.string ByteArray.empty) 1 16 Trym.underlying29 hi hz0 hz1 hz2 rfl (by decide)
        (.slice none 0 0) 0 [] (World.ownsRow_nil _ _ _ _) ⟨wr.heap.size, 0, none⟩ 1 1 [.string p] rfl (cell_one_new _ _ _) (fun u hu => by simp at hu; subst hu; rfl) (by unfold maxLen; omega) (by omega) (by simp; omega)
      refine ⟨v2, w2, hrun, by have := hgrow.size; simp at this; omega, (h.bel.alloc hbs _).grown hgrow (by simp; omega) (fun k hk => by simp [Value.ownBlock] at hk), Or.inr ?_⟩
      simpa [strv] using hown
    · have hcell' : ∀ j u, (strv fs)[j]? = some u → (wr.alloc (.cells #[.string p] 9)).cell? (x.add j) = some u := fun j u hu => by
        have hj : j < fs.length := by have := (List.getElem?_eq_some_iff.1 hu).1; simpa [strv] using this
        have hu' : u = .string (fs.getD j ByteArray.empty) := by
          simp [strv, hj] at hu
          rw [← hu]
          simp [List.getD, hj]
        have hxb' : (x.add j).block = x.block := by unfold Addr.add; split <;> rfl
        rw [(h.bel.alloc hbs _).cell (p := x.add j) (by rw [hxb']; exact hxb), hu']
        exact hcell j hj
      obtain ⟨v2, w2, hrun, hown, hgrow⟩ := run_append_arg_grows (P := Trym.prog) (wr.alloc (.cells #[.string p] 9)) 29 29 9 i (.string ByteArray.empty) 1 16 Trym.underlying29 hi hz0 hz1 hz2 rfl (by decide)
        x fs.length fs.length (strv fs) (by simp [strv]) hcell' ⟨wr.heap.size, 0, none⟩ 1 1 [.string p] rfl (cell_one_new _ _ _) (by omega) (by unfold maxLen; omega) (by simp at hl; omega)
      refine ⟨v2, w2, hrun, by have := hgrow.size; simp at this; omega, (h.bel.alloc hbs _).grown hgrow (by simp; omega) (fun k hk => by cases hk), Or.inr ?_⟩
      have := ownsRow_less hown (base' := w.heap.size) (by simp; omega)
      simpa [strv] using this
  · obtain ⟨v2, w2, hrun, hown2, hgrow, _⟩ := run_append_own (P := Trym.prog) (wr.alloc (.cells #[.string p] 9)) w.heap.size 29 29 9 i (.string ByteArray.empty) 1 16 Trym.underlying29 hi hz0 hz1 hz2 rfl (by decide)
        v (fs.length + ps.length) _ (hown.alloc _) ⟨wr.heap.size, 0, none⟩ 1 1 [.string p] rfl (cell_one_new _ _ _) (fun u hu => by simp at hu; subst hu; rfl) (by unfold maxLen; omega) (by omega) (by simp; omega)
    refine ⟨v2, w2, hrun, by have := hgrow.size; simp at this; omega, (h.bel.alloc hbs _).grown hgrow (by simp; omega) (fun k hk => (hown.lt k hk).1), Or.inr ?_⟩
    rw [hlen, hn1]
    exact hown2

/-- What cutFields leaves. -/
def CfPost (s : ByteArray) (fs : List ByteArray) (w : World) (e : Ending) (w' : World) : Prop :=
  ∃ (g cap N : Nat) (qs : List ByteArray), Done s qs ∧ N = fs.length + qs.length ∧ Below w.heap.size w w' ∧
    (∀ i, i < fs.length + qs.length → w'.cell? ⟨g, i, none⟩ = some (.string ((fs ++ qs).getD i ByteArray.empty))) ∧ e = .returned (.slice (some ⟨g, 0, none⟩) N cap)

theorem CfPost.of {s : ByteArray} {fs ps : List ByteArray} {w w' : World} {v0 v : Value} (hd : Hd w v0 v fs ps w') (hD : Done s ps) : CfPost s fs w (.returned v) w' := by
  have hne : ps ≠ [] := fun h => by have := hD.cnt; rw [h] at this; simp at this
  rcases hd.own with ⟨h, _⟩ | hown
  · exact absurd h hne
  · have hpos : 0 < ps.length := by cases ps with | nil => exact absurd rfl hne | cons a b => simp
    rcases hown.2 with ⟨_, h0⟩ | ⟨g, cap, cur, hv, _⟩
    · omega
    · subst hv
      refine ⟨g, cap, _, ps, hD, rfl, hd.bel, fun i hi => ?_, rfl⟩
      have := hown.cells (g := g) rfl i (.string ((fs ++ ps).getD i ByteArray.empty)) (by
        have hi' : i < (fs ++ ps).length := by simpa using hi
        simp only [strv, List.getElem?_map, List.getD]
        rw [List.getElem?_eq_getElem hi']
        rfl)
      have e : (⟨g, 0, none⟩ : Addr).add i = ⟨g, i, none⟩ := by unfold Addr.add; split <;> simp_all
      rwa [e] at this

set_option maxHeartbeats 1000000 in
set_option maxRecDepth 100000 in
theorem cutFields_any (v0 : Value) (fs : List ByteArray) (s : ByteArray) (w : World) (hs : s.size ≤ 1048576) (hfs : fs.length ≤ 1048576) (hc : Came w v0 fs) :
    Calls Trym.prog 27 #[v0, .string s] w fun e w' => CfPost s fs w e w' := by
  have HC : Hid (Came w v0 fs) := hc
  clear hc
  go_enter Trym.func27, Trym.ntmps27
  go_wp2_with fail
  go_loopg [0, 1] s.size (fun gk vf vr wr => ∃ (r : ByteArray) (ps : List ByteArray) (k : Nat), vr = .string r ∧ r.size ≤ gk ∧ k + r.size = s.size ∧ Hid (∀ j, j < r.size → bt r j = bt s (k + j)) ∧ Hid (Cuts s ps k) ∧ Hid (Hd w v0 vf fs ps wr))
  case atStart => exact ⟨s, [], 0, rfl, Nat.le_refl _, by omega, fun j _ => by rw [Nat.zero_add], Cuts.nil s, Below.refl _ _, Or.inl ⟨rfl, rfl⟩⟩
  case round =>
    obtain ⟨r, ps, k, rfl, hgk, hk, HB, HCU, HH⟩ := hrel
    have hlen := HCU.out.len
    go_wp2_with fail
    refine (sIndexByte_any _ _ _ (by omega)).mono ?_
    rintro e w' ⟨⟨x, hx, rfl⟩, rfl⟩
    rcases hx with ⟨rfl, hno⟩ | ⟨d, hd, rfl, hfd, hbef⟩
    · have HS : Hid (Seg s k r) := ⟨by omega, fun j hj => ⟨HB.out j hj, hno j hj⟩⟩
      clear hno
      obtain ⟨v', w', hrun, hsz, hH⟩ := HH.out.push HC.out r (by omega)
      have HP : Hid (CfPost s fs w (.returned v') w') := CfPost.of hH (HCU.out.done r HS.out hk)
      have HR : Hid (_ = _) := hrun
      clear hH hrun
      go_wp2_with (at_builtin; refine wpList_append_run rfl (.tmp 10) (.tmp 12) 29 rfl _ _ rfl rfl HR.out ?_)
      go_ret
      exact HP
    · have hlt : d < r.size := hd
      obtain ⟨p, hp⟩ : ∃ p, p = r.extract 0 d := ⟨_, rfl⟩
      obtain ⟨r', hr'⟩ : ∃ r', r' = r.extract (d + 1) r.size := ⟨_, rfl⟩
      have hps : p.size = d := by rw [hp, size_extract _ _ _ (by omega)]; omega
      have hrs : r'.size = r.size - (d + 1) := by rw [hr', size_extract _ _ _ (Nat.le_refl _)]
      have HPB : Hid (∀ j, j < d → bt p j = bt r j) := fun j hj => by rw [hp, bt_extract _ _ _ _ (by omega), Nat.zero_add]
      have HRB : Hid (∀ j, j < r'.size → bt r' j = bt s (k + d + 1 + j)) := fun j hj => by
        rw [hr', bt_extract _ _ _ _ (by omega), HB.out _ (by omega)]
        congr 1
        omega
      have HS : Hid (Seg s k p) := ⟨by omega, fun j hj => by
        have h1 := HPB.out j (by omega)
        have h2 := HB.out j (by omega)
        exact ⟨by rw [h1, h2], by rw [h1]; exact hbef j (by omega)⟩⟩
      have HCU2 : Hid (Cuts s (ps ++ [p]) (k + d + 1)) := by
        have := HCU.out.snoc p HS.out (by omega) (by rw [hps, ← HB.out d hlt]; exact hfd)
        rwa [hps] at this
      obtain ⟨v', w', hrun, hsz, hH⟩ := HH.out.push HC.out p (by omega)
      have HH2 : Hid (Hd w v0 v' fs (ps ++ [p]) w') := hH
      have HR : Hid (_ = _) := hrun
      have HP : Hid (p = r.extract 0 d) := hp
      have HRR : Hid (r' = r.extract (d + 1) r.size) := hr'
      clear hH hrun hbef hfd hp hr'
      go_wp2_with (at_builtin; refine wpList_append_run rfl (.tmp 14) (.tmp 18) 29 rfl _ _ rfl rfl (by rw [← HP.out]; exact HR.out) ?_)
      go_roundg r'.size
      case measure => omega
      case rel => exact ⟨r', ps ++ [p], k + d + 1, by rw [HRR.out], Nat.le_refl _, by omega, HRB, HCU2, HH2⟩

set_option maxRecDepth 100000 in
theorem zzCut_any (v0 : Value) (fs : List ByteArray) (s : ByteArray) (w : World) (hs : s.size ≤ 1048576) (hfs : fs.length ≤ 1048576) (hc : Came w v0 fs) :
    Calls Trym.prog 18 #[v0, .string s] w fun e w' => CfPost s fs w e w' := by
  have H : Hid (Calls Trym.prog 27 #[v0, .string s] w fun e w' => CfPost s fs w e w') := cutFields_any v0 fs s w hs hfs hc
  clear hc
  go_enter Trym.func18, Trym.ntmps18
  go_wp2_with fail
  refine H.out.mono ?_
  rintro e w' ⟨g, cap, N, qs, h1, h2, h3, h4, rfl⟩
  have HP : Hid (CfPost s fs w (.returned (.slice (some ⟨g, 0, none⟩) N cap)) w') := ⟨g, cap, N, qs, h1, h2, h3, h4, rfl⟩
  clear h1 h2 h3 h4
  go_wp2_with fail
  go_ret
  exact HP

end Go.Proofs.Qxb6602847aMods

/- A builder of scripts: what its block holds; one opcode more. -/
import Derived.Test.YtdmpjoglejnpbabBase
import Derived.Test.YtdmpjoglejnpbabQFnBuiltx
namespace Go.Proofs.Ytdmpjoglejnpbab.Bd
open Go.RowKit Go.Proofs.YtdmpjoglejnpbabW.PrintWords Go.Proofs.YtdmpjoglejnpbabW.PrintLast Go.Proofs.YtdmpjoglejnpbabW.PrintMore Go.Proofs.Ytdmpjoglejnpbab.QFnBuilt
set_option linter.unusedVariables false
set_option linter.unusedSimpArgs false
theorem infoB : (Try.prog.info? 5).map (fun i => (i.zero, i.size, i.bytes)) = some (some (.int .u8 0), 1, 1) := by kernel_rfl
/-- What a builder's block holds: a row of its own, and an error. -/
structure Bd (w0 w : World) (g : Nat) (v err : Value) (s : List Int) : Prop where
  blk : w.heap[g]? = some (.cells #[v, err] 55 (0, 0))
  row : Kd.R (Kd.int .u8) 5 w w0.heap.size (fun _ => True) v s
  new : w0.heap.size ≤ g
  low : Below w0.heap.size w0 w
namespace Bd
variable {w0 w w1 : World} {g : Nat} {v err v1 e : Value} {s s1 : List Int}
theorem ne (h : Bd w0 w g v err s) : some g ≠ v.ownBlock := Kd.R_ne h.row h.blk (by decide)
theorem below (h : Bd w0 w g v err s) (hb : Below w.heap.size w w1) : Bd w0 w1 g v err s :=
  ⟨(hb.block g (blk_lt' h.blk)).trans h.blk, Kd.R_below h.row hb, h.new, h.low.trans (hb.mono h.low.size)⟩
theorem alloc (h : Bd w0 w g v err s) (o : Obj) : Bd w0 (w.alloc o) g v err s := h.below (below_alloc (Below.refl _ _) o)
theorem drewN (h : Bd w0 w g v err s) (m : Nat) : Bd w0 (w.drewN m) g v err s := h.below (pw_below_drewN (Below.refl _ _) m)
theorem drew (h : Bd w0 w g v err s) : Bd w0 w.drew g v err s := h.below (below_drew (Below.refl _ _))
/-- Behind an append to the row, ahead of its store. -/
theorem grown (h : Bd w0 w g v err s) (hg : w.grownBy w1 v.ownBlock) : w1.heap[g]? = some (.cells #[v, err] 55 (0, 0)) := (hg.block g (blk_lt' h.blk) h.ne).trans h.blk
theorem put (h : Bd w0 w g v err s) (ho : Kd.R (Kd.int .u8) 5 w1 w0.heap.size (fun _ => True) v1 s1) (hb : Below w0.heap.size w0 w1) (hg : w.grownBy w1 v.ownBlock) : Bd w0 (w1.setCell ⟨g, 0, none⟩ v1) g v1 err s1 := by
  have h1 := h.grown hg
  refine ⟨by rw [heap_set_same h1]; simp, Kd.R_mono (Kd.R_far (p := ⟨g, 0, none⟩) (Kd.R_far1 ho rfl (Kd.R_ne ho h1 (by decide))) (fun k hk => hk.2) v1) (fun _ _ => trivial), h.new, below_set hb h.new⟩
theorem bad (h : Bd w0 w g v err s) (e : Value) : Bd w0 (w.setCell ⟨g, 1, none⟩ e) g v e s := by
  refine ⟨by rw [heap_set_same h.blk]; simp, Kd.R_mono (Kd.R_far (p := ⟨g, 1, none⟩) (Kd.R_far1 h.row rfl h.ne) (fun k hk => hk.2) e) (fun _ _ => trivial), h.new, below_set h.low h.new⟩
theorem cut (h : Bd w0 w g v .nilIface s) : True := trivial
end Bd
def errB (x : ByteArray) : Value := .iface 56 (.string x)
/-- A builder, and whether it has an error. -/
def St (w0 w : World) (g : Nat) (s : List Int) (b : Bool) : Prop := ∃ v err, Bd w0 w g v err s ∧ (b = false → err = .nilIface) ∧ (b = true → ∃ x, err = errB x)
theorem St.ok {w0 w : World} {g : Nat} {v : Value} {s : List Int} (h : Bd w0 w g v .nilIface s) : St w0 w g s false := ⟨v, _, h, fun _ => rfl, fun h => absurd h (by decide)⟩
theorem St.bad {w0 w : World} {g : Nat} {v : Value} {x : ByteArray} {s : List Int} (h : Bd w0 w g v (errB x) s) : St w0 w g s true := ⟨v, _, h, fun h => absurd h (by decide), fun _ => ⟨x, rfl⟩⟩
abbrev pt (g : Nat) : Value := .pointer (some ⟨g, 0, none⟩)
/-- A builder that has an error keeps it: one opcode. -/
theorem addOpBad (g : Nat) (op : Int) (v : Value) (x : ByteArray) (s : List Int) (w0 w : World) (h : Bd w0 w g v (errB x) s) :
    Calls Try.prog 14 #[pt g, .int .u8 op] w fun e w' => e = .returned (pt g) ∧ Bd w0 w' g v (errB x) s := by
  have h1 := cell_of h.blk (j := 1) (v := errB x) rfl
  unfold errB at h1
  go_enter Try.func14, Try.ntmps14
  go_wp2
  go_ret
  exact ⟨rfl, h⟩
set_option maxHeartbeats 4000000 in
theorem addOpLong (g : Nat) (op : Int) (v : Value) (s : List Int) (w0 w : World) (h : Bd w0 w g v .nilIface s) (hl : s.length = 10000) :
    Calls Try.prog 14 #[pt g, .int .u8 op] w fun e w' => e = .returned (pt g) ∧ ∃ x, Bd w0 w' g v (errB x) s := by
  have HB := Aside0.mk h
  obtain ⟨A, c, hv⟩ := Kd.R_slice h.row
  subst hv
  rw [hl] at h
  have h0 := cell_of h.blk (j := 0) rfl
  have h1 := cell_of h.blk (j := 1) rfl
  have h2 := frozen_of h.blk 1
  clear h hl
  go_enter Try.func14, Try.ntmps14
  go_wp2
  go_ret
  exact ⟨rfl, _, HB.out.bad _⟩
set_option maxHeartbeats 4000000 in
theorem addOpC (g : Nat) (op : Int) (v : Value) (s : List Int) (w0 w : World) (h : Bd w0 w g v .nilIface s) (hl : s.length < 10000) :
    Calls Try.prog 14 #[pt g, .int .u8 op] w fun e w' => e = .returned (pt g) ∧ ∃ v', Bd w0 w' g v' .nilIface (s ++ [op]) := by
  have HB := Aside0.mk h
  obtain ⟨A, c, hv⟩ := Kd.R_slice h.row
  subst hv
  have h0 := cell_of h.blk (j := 0) rfl
  have h1 := cell_of h.blk (j := 1) rfl
  have h3 : ¬ (wrap64 ((s.length : Int) + 1)) > 10000 := by unfold wrap64; omega
  have h4 : ¬ 10000 < (wrap64 ((s.length : Int) + 1)) := by unfold wrap64; omega
  have HL := Aside0.mk hl
  clear h hl
  go_enter Try.func14, Try.ntmps14
  go_wp2_with ((with_reducible refine gate_builtin (b := .append) (xs := #[.tmp 29, .tmp 31]) rfl ?_); at_builtin; refine Kd.R_append (Kd.int .u8) (w0 := w0) w0.heap.size rfl (.tmp 29) (.tmp 31) 23 5 (.int .u8 0) 1 rfl Try.underlying23 infoB rfl (by decide) (by decide) (.slice A s.length c) s op [.int .u8 op] (fun _ => True) (fun _ => False) rfl rfl rfl (fun _ hk => hk.elim) (fun _ _ => trivial) HB.out.row HB.out.low HB.out.low.size ?aL ?_; (case aL => have := HL.out; omega); intro v1 w1 ho hb hg hat; (obtain ⟨A1, c1, e1⟩ := Kd.R_slice ho); subst e1; have hg1 := cell_of (HB.out.grown hg) (j := 0) rfl; have hf1 := frozen_of (HB.out.grown hg) 0; have HP := Aside0.mk (HB.out.put ho hb hg); clear ho hb hg hat)
  go_ret
  exact ⟨rfl, _, by simpa using HP.out⟩
end Go.Proofs.Ytdmpjoglejnpbab.Bd

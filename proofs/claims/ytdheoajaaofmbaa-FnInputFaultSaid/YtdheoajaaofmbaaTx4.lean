/- A transaction of the text's own: what impl.txOf makes. -/
import Derived.Test.YtdheoajaaofmbaaTx3
namespace Go.Proofs.YtdheoajaaofmbaaW.PrintWords
open Go.RowKit
set_option linter.unusedVariables false
namespace Kd
/-- Of a kind, and such. -/
def sub {α : Type} (d : Kd α) (p : α → List Value → Prop) : Kd α where
  sz := d.sz
  E := d.E
  K := fun w x cs => d.K w x cs ∧ p x cs
  M := fun w base ok x cs => d.M w base ok x cs ∧ p x cs
  K_len := fun h => d.K_len h.1
  K_one := fun h => d.K_one h.1
  K_below := fun hb h => ⟨d.K_below hb h.1, h.2⟩
  K_of_M := fun h => ⟨d.K_of_M h.1, h.2⟩
  M_mono := fun hok h => ⟨d.M_mono hok h.1, h.2⟩
  M_bound := fun h => ⟨d.M_bound h.1, h.2⟩
  M_move := fun hm h => ⟨d.M_move hm h.1, h.2⟩
  M_lower := fun hb h => ⟨d.M_lower hb h.1, h.2⟩
theorem heap_sub {α : Type} {d : Kd α} {p : α → List Value → Prop} (hd : Heap d) : Heap (sub d p) := ⟨fun hb h => ⟨hd.K hb h.1, h.2⟩⟩
end Kd
theorem list33 (t0 : List Value) (l0 : t0.length = 33) : ∃ a0 a1 a2 a3 a4 a5 a6 a7 a8 a9 a10 a11 a12 a13 a14 a15 a16 a17 a18 a19 a20 a21 a22 a23 a24 a25 a26 a27 a28 a29 a30 a31 a32 : Value, t0 = [a0, a1, a2, a3, a4, a5, a6, a7, a8, a9, a10, a11, a12, a13, a14, a15, a16, a17, a18, a19, a20, a21, a22, a23, a24, a25, a26, a27, a28, a29, a30, a31, a32] := by
  obtain ⟨a0, t1, e0, l1⟩ := uncons_ (n := 32) t0 l0
  obtain ⟨a1, t2, e1, l2⟩ := uncons_ (n := 31) t1 l1
  obtain ⟨a2, t3, e2, l3⟩ := uncons_ (n := 30) t2 l2
  obtain ⟨a3, t4, e3, l4⟩ := uncons_ (n := 29) t3 l3
  obtain ⟨a4, t5, e4, l5⟩ := uncons_ (n := 28) t4 l4
  obtain ⟨a5, t6, e5, l6⟩ := uncons_ (n := 27) t5 l5
  obtain ⟨a6, t7, e6, l7⟩ := uncons_ (n := 26) t6 l6
  obtain ⟨a7, t8, e7, l8⟩ := uncons_ (n := 25) t7 l7
  obtain ⟨a8, t9, e8, l9⟩ := uncons_ (n := 24) t8 l8
  obtain ⟨a9, t10, e9, l10⟩ := uncons_ (n := 23) t9 l9
  obtain ⟨a10, t11, e10, l11⟩ := uncons_ (n := 22) t10 l10
  obtain ⟨a11, t12, e11, l12⟩ := uncons_ (n := 21) t11 l11
  obtain ⟨a12, t13, e12, l13⟩ := uncons_ (n := 20) t12 l12
  obtain ⟨a13, t14, e13, l14⟩ := uncons_ (n := 19) t13 l13
  obtain ⟨a14, t15, e14, l15⟩ := uncons_ (n := 18) t14 l14
  obtain ⟨a15, t16, e15, l16⟩ := uncons_ (n := 17) t15 l15
  obtain ⟨a16, t17, e16, l17⟩ := uncons_ (n := 16) t16 l16
  obtain ⟨a17, t18, e17, l18⟩ := uncons_ (n := 15) t17 l17
  obtain ⟨a18, t19, e18, l19⟩ := uncons_ (n := 14) t18 l18
  obtain ⟨a19, t20, e19, l20⟩ := uncons_ (n := 13) t19 l19
  obtain ⟨a20, t21, e20, l21⟩ := uncons_ (n := 12) t20 l20
  obtain ⟨a21, t22, e21, l22⟩ := uncons_ (n := 11) t21 l21
  obtain ⟨a22, t23, e22, l23⟩ := uncons_ (n := 10) t22 l22
  obtain ⟨a23, t24, e23, l24⟩ := uncons_ (n := 9) t23 l23
  obtain ⟨a24, t25, e24, l25⟩ := uncons_ (n := 8) t24 l24
  obtain ⟨a25, t26, e25, l26⟩ := uncons_ (n := 7) t25 l25
  obtain ⟨a26, t27, e26, l27⟩ := uncons_ (n := 6) t26 l26
  obtain ⟨a27, t28, e27, l28⟩ := uncons_ (n := 5) t27 l27
  obtain ⟨a28, t29, e28, l29⟩ := uncons_ (n := 4) t28 l28
  obtain ⟨a29, t30, e29, l30⟩ := uncons_ (n := 3) t29 l29
  obtain ⟨a30, t31, e30, l31⟩ := uncons_ (n := 2) t30 l30
  obtain ⟨a31, t32, e31, l32⟩ := uncons_ (n := 1) t31 l31
  obtain ⟨a32, t33, e32, l33⟩ := uncons_ (n := 0) t32 l32
  have e := List.length_eq_zero_iff.1 l33
  exact ⟨_, _, _, _, _, _, _, _, _, _, _, _, _, _, _, _, _, _, _, _, _, _, _, _, _, _, _, _, _, _, _, _, _, by rw [e0, e1, e2, e3, e4, e5, e6, e7, e8, e9, e10, e11, e12, e13, e14, e15, e16, e17, e18, e19, e20, e21, e22, e23, e24, e25, e26, e27, e28, e29, e30, e31, e32, e]⟩
end Go.Proofs.YtdheoajaaofmbaaW.PrintWords
namespace Go.Proofs.Ytdheoajaaofmbaa.QFnScriptPlaces
open Go.RowKit Go.Proofs.YtdheoajaaofmbaaW.PrintWords Go.Proofs.YtdheoajaaofmbaaW.PrintLast Go.Proofs.YtdheoajaaofmbaaW.PrintMore
set_option linter.unusedVariables false
set_option linter.unusedSimpArgs false
/-- An input of the text's own: no witness is nil. -/
def wIn : Kd S35 := Kd.sub k35 (fun x cs => x.f2 = [] → cs[34]? = some (.slice none 0 0))
def pIn : Kd S35 := Kd.ptr 108 wIn
def pOut : Kd S41 := Kd.ptr 111 k41
theorem heapIn : Kd.Heap k35 := Kd.heap_iso _ (Kd.heap_pair (Kd.heap_iso _ (Kd.heap_pair (Kd.heap_arr (Kd.heap_int _)) (Kd.heap_int _))) (Kd.heap_pair (Kd.heap_slice _ (Kd.heap_int _)) (Kd.heap_pair (Kd.heap_slice _ (Kd.heap_slice _ (Kd.heap_int _))) (Kd.heap_int _))))
theorem heapOut : Kd.Heap k41 := Kd.heap_iso _ (Kd.heap_pair (Kd.heap_int _) (Kd.heap_slice _ (Kd.heap_int _)))
theorem heapPIn : Kd.Heap pIn := Kd.heap_ptr _ (Kd.heap_sub heapIn)
theorem heapPOut : Kd.Heap pOut := Kd.heap_ptr _ heapOut
theorem infoPI : (Try.prog.info? 99).map (fun i => (i.zero, i.size, i.bytes)) = some (some (.pointer none), 1, 8) := by kernel_rfl
theorem infoPO : (Try.prog.info? 109).map (fun i => (i.zero, i.size, i.bytes)) = some (some (.pointer none), 1, 8) := by kernel_rfl
/-- A message of a transaction in memory. -/
structure Msg (w : World) (g : Nat) (v lock : Int) (ins : List S35) (outs : List S41) (A1 : Option Addr) (c1 : Nat) (A2 : Option Addr) (c2 : Nat) : Prop where
  blk : w.heap[g]? = some (.cells #[.int .i32 v, .slice A1 ins.length c1, .slice A2 outs.length c2, .int .u32 lock] 98 (0, 0))
  l1 : ins.length ≤ c1
  l2 : outs.length ≤ c2
  g1 : Kd.C pIn w A1 ins.length ins
  g2 : Kd.C pOut w A2 outs.length outs
theorem Msg.below {w w1 : World} {g : Nat} {v lock : Int} {ins : List S35} {outs : List S41} {A1 A2 : Option Addr} {c1 c2 : Nat} (h : Msg w g v lock ins outs A1 c1 A2 c2) (hb : Below w.heap.size w w1) : Msg w1 g v lock ins outs A1 c1 A2 c2 :=
  ⟨(hb.block g (blk_lt' h.blk)).trans h.blk, h.l1, h.l2, Kd.C_below h.g1 hb, Kd.C_below h.g2 hb⟩
/-- A transaction of bounded size. -/
structure TxFit (ins : List S35) (outs : List S41) : Prop where
  n1 : ins.length ≤ 1000000
  n2 : outs.length ≤ 1000000
  i1 : ∀ x ∈ ins, x.f1.length ≤ 1000000 ∧ x.f2.length ≤ 1000000 ∧ ∀ s ∈ x.f2, s.length ≤ 1000000
  o1 : ∀ y ∈ outs, y.f1.length ≤ 1000000
theorem copied_any (l : List Int) (hl : l.length ≤ 1000000) : impl_copied.f l = some l := by
  unfold impl_copied.f
  simp; omega
theorem ev_copies (l : List (List Int)) (hl : l.length ≤ 1000000) (hs : ∀ s ∈ l, s.length ≤ 1000000) : Ev (fun k => impl_copies.f k l) l := by
  have rd_in : ∀ i (h : i < l.length), rd_L1 l (i : Int) = l[i] := fun i h => by
    show l.getD (i : Int).toNat _ = _
    rw [Int.toNat_natCast, List.getD_eq_getElem?_getD, List.getElem?_eq_getElem h]; rfl
  have key : ∀ d (i : Nat), i + d = l.length → Ev (fun k => impl_copies.l0 k l (l.take i) (i : Int)) l := by
    intro d
    induction d with
    | zero =>
      intro i hi
      refine Ev.step (f := fun _ => some l) (fun k => ?_) (Ev.now _)
      rw [impl_copies.l0, if_neg (by omega), List.take_of_length_le (by omega)]
    | succ d ih =>
      intro i hi
      have hil : i < l.length := by omega
      have c2 : (l.take i).length < 5864062014805 := by rw [List.length_take]; omega
      refine Ev.step (fun k => ?_) (ih (i + 1) (by omega))
      rw [impl_copies.l0, if_pos (by omega), if_pos (by omega), rd_in i hil, copied_any _ (hs _ (List.getElem_mem hil)), Option.bind_some, if_pos c2, ln64 _ (by omega) (by omega), List.take_succ_eq_append_getElem hil]
      rfl
  have h := key l.length 0 (by omega)
  rw [List.take_zero] at h
  exact Ev.congr (fun k => by unfold impl_copies.f; rfl) h
set_option maxRecDepth 100000 in
set_option maxHeartbeats 4000000 in
/-- Copies of lists of bytes; none is nil. -/
theorem copiesC (A : Option Addr) (c : Nat) (l : List (List Int)) (w : World) (hC : Kd.C (Kd.slice 5 (Kd.int .u8)) w A l.length l) (hc : l.length ≤ c) (hl : l.length ≤ 1000000) (hs : ∀ s ∈ l, s.length ≤ 1000000) :
    Calls Try.prog 48 #[.slice A l.length c] w fun e w' => ∃ A' c', e = .returned (.slice A' l.length c') ∧ Kd.R (Kd.slice 5 (Kd.int .u8)) 32 w' w.heap.size (fun _ => True) (.slice A' l.length c') l ∧ (l = [] → A' = none ∧ c' = 0) ∧ Below w.heap.size w w' := by
  by_cases h0 : l = []
  · subst h0
    clear hC
    go_enter Try.func48, Try.ntmps48
    go_wp2_with fail
    go_loopg [3, 4] 1 (fun kq p3 p4 w' => p3 = .slice none 0 0 ∧ p4 = .int .i64 0 ∧ w' = w)
    case atStart => exact ⟨rfl, rfl, rfl⟩
    case round =>
    obtain ⟨rfl, rfl, rfl⟩ := hrel
    go_wp2
    go_ret
    exact ⟨none, 0, rfl, Kd.R_nil _ _ _ _ _, fun _ => ⟨rfl, rfl⟩, Below.refl _ _⟩
  · obtain ⟨k, hk⟩ := (ev_copies l hl hs).rounds
    refine (impl_copies.calls k A c l l w hC hc hk).mono ?_
    rintro e w' ⟨v, rfl, hr, hb⟩
    have hr := Kd.S_R hr
    obtain ⟨A', c', e⟩ := Kd.R_slice hr
    subst e
    exact ⟨A', c', rfl, hr, fun h => absurd h h0, hb⟩
theorem take33 {x : S35} {cs : List Value} {A1 A2 : Option Addr} {c1 c2 : Nat} {w : World} (h : InCells w x cs A1 c1 A2 c2) : cs.take 33 = hashC x.f0.f0 ++ [Value.int .u32 x.f0.f1] := by
  rw [h.eq]
  unfold inC
  rw [List.take_append, hashC_len h.hl, List.take_of_length_le (by rw [hashC_len h.hl]; decide)]; rfl
theorem builtOp (h : List Value) (hl : h.length = 32) (n : Int) : Try.prog.built 102 [(0, .agg h.toArray), (1, .int .u32 n)] = some (h ++ [Value.int .u32 n]).toArray := by
  obtain ⟨a0, a1, a2, a3, a4, a5, a6, a7, a8, a9, a10, a11, a12, a13, a14, a15, a16, a17, a18, a19, a20, a21, a22, a23, a24, a25, a26, a27, a28, a29, a30, a31, rfl⟩ := list32 h hl
  kernel_rfl
theorem builtIn (h : List Value) (hl : h.length = 33) (A1 : Option Addr) (n1 c1 : Nat) (A2 : Option Addr) (n2 c2 : Nat) (s : Int) : Try.prog.built 108 [(0, .agg h.toArray), (1, .slice A1 n1 c1), (2, .slice A2 n2 c2), (3, .int .u32 s)] = some (h ++ [Value.slice A1 n1 c1, Value.slice A2 n2 c2, Value.int .u32 s]).toArray := by
  obtain ⟨a0, a1, a2, a3, a4, a5, a6, a7, a8, a9, a10, a11, a12, a13, a14, a15, a16, a17, a18, a19, a20, a21, a22, a23, a24, a25, a26, a27, a28, a29, a30, a31, a32, rfl⟩ := list33 h hl
  kernel_rfl
theorem sizeOp : (Try.prog.info? 102).map (·.size) = some 33 := by kernel_rfl
theorem sizeIp : (Try.prog.info? 31).map (·.size) = some 33 := by kernel_rfl
theorem sizeH : (Try.prog.info? 29).map (·.size) = some 32 := by kernel_rfl
set_option maxRecDepth 100000 in
set_option maxHeartbeats 4000000 in
/-- The name of an output, of the text's own. -/
theorem outPointC (hs : List Int) (n : Int) (hl : hs.length = 32) (w : World) :
    Calls Try.prog 46 #[.agg (hashC hs ++ [Value.int .u32 n]).toArray] w fun e w' => e = .returned (.agg (hashC hs ++ [Value.int .u32 n]).toArray) ∧ Below w.heap.size w w' := by
  obtain ⟨h, hh⟩ : ∃ h, hashC hs = h := ⟨_, rfl⟩
  have hl32 : h.length = 32 := by rw [← hh, hashC_len hl]
  obtain ⟨cs, hcs⟩ : ∃ cs, h ++ [Value.int .u32 n] = cs := ⟨_, rfl⟩
  have hcl : cs.length = 33 := by rw [← hcs]; simp [hl32]
  have hone : cs.toArray.all (·.oneCell') = true := by
    rw [List.all_toArray, List.all_eq_true, ← hcs, ← hh]
    intro u hu
    unfold hashC at hu
    rw [List.mem_append, List.mem_map] at hu
    rcases hu with ⟨y, _, rfl⟩ | hu
    · rfl
    · simp at hu; rw [hu]; rfl
  rw [hh, hcs]
  have hw0 := heap_alloc_new w (.cells cs.toArray 31)
  have k1 := cell_of hw0 (j := 32) (by rw [List.getElem?_toArray, ← hcs, List.getElem?_append_right (by omega), hl32]; rfl)
  have HW0 : Aside0 (∀ Z, ((w.alloc (.cells cs.toArray 31)).alloc (.cells Z 102)).heap[w.heap.size + 1]? = some (.cells Z 102 (0, 0))) := ⟨fun Z => by
    have h := heap_alloc_new (w.alloc (.cells cs.toArray 31)) (.cells Z 102)
    rwa [show (w.alloc (.cells cs.toArray 31)).heap.size = w.heap.size + 1 by simp] at h⟩
  have HK1 : Aside0 (∀ Z, ((w.alloc (.cells cs.toArray 31)).alloc (.cells Z 102)).cell? ⟨w.heap.size, 32, none⟩ = some (.int .u32 n)) := ⟨fun Z => (Below.cell (below_alloc (Below.refl _ _) _) (World.block_lt_of_cell? _ _ k1)).trans k1⟩
  have HH : Aside0 (∀ Z j v, h[j]? = some v → ((w.alloc (.cells cs.toArray 31)).alloc (.cells Z 102)).cell? ((⟨w.heap.size, 0, none⟩ : Addr).add j) = some v) := ⟨fun Z j v hv => by
    rw [add_plain]
    have k2 := cell_of hw0 (j := j) (by rw [List.getElem?_toArray, ← hcs, List.getElem?_append_left (List.getElem?_eq_some_iff.1 hv).1]; exact hv)
    exact (Below.cell (below_alloc (Below.refl _ _) _) (World.block_lt_of_cell? _ _ k2)).trans k2⟩
  have HL := Aside0.mk hl32
  have HCL := Aside0.mk hcl
  have HCS := Aside0.mk hcs
  have HONE := Aside0.mk hone
  have hw1 : Aside0 (∀ Z, Below w.heap.size w ((w.alloc (.cells cs.toArray 31)).alloc (.cells Z 102))) := ⟨fun Z => below_alloc (below_alloc (Below.refl _ _) _) _⟩
  clear hw0 hl32 hcl hcs hone hh k1
  go_enter Try.func46, Try.ntmps46
  go_upto_region 1 with fail
  have HW0 := Aside0.mk (HW0.out #[Value.int .u8 0, Value.int .u8 0, Value.int .u8 0, Value.int .u8 0, Value.int .u8 0, Value.int .u8 0, Value.int .u8 0, Value.int .u8 0, Value.int .u8 0, Value.int .u8 0, Value.int .u8 0, Value.int .u8 0, Value.int .u8 0, Value.int .u8 0, Value.int .u8 0, Value.int .u8 0, Value.int .u8 0, Value.int .u8 0, Value.int .u8 0, Value.int .u8 0, Value.int .u8 0, Value.int .u8 0, Value.int .u8 0, Value.int .u8 0, Value.int .u8 0, Value.int .u8 0, Value.int .u8 0, Value.int .u8 0, Value.int .u8 0, Value.int .u8 0, Value.int .u8 0, Value.int .u8 0, Value.int .u32 0])
  have k1 := HK1.out #[Value.int .u8 0, Value.int .u8 0, Value.int .u8 0, Value.int .u8 0, Value.int .u8 0, Value.int .u8 0, Value.int .u8 0, Value.int .u8 0, Value.int .u8 0, Value.int .u8 0, Value.int .u8 0, Value.int .u8 0, Value.int .u8 0, Value.int .u8 0, Value.int .u8 0, Value.int .u8 0, Value.int .u8 0, Value.int .u8 0, Value.int .u8 0, Value.int .u8 0, Value.int .u8 0, Value.int .u8 0, Value.int .u8 0, Value.int .u8 0, Value.int .u8 0, Value.int .u8 0, Value.int .u8 0, Value.int .u8 0, Value.int .u8 0, Value.int .u8 0, Value.int .u8 0, Value.int .u8 0, Value.int .u32 0]
  have HH := Aside0.mk (HH.out #[Value.int .u8 0, Value.int .u8 0, Value.int .u8 0, Value.int .u8 0, Value.int .u8 0, Value.int .u8 0, Value.int .u8 0, Value.int .u8 0, Value.int .u8 0, Value.int .u8 0, Value.int .u8 0, Value.int .u8 0, Value.int .u8 0, Value.int .u8 0, Value.int .u8 0, Value.int .u8 0, Value.int .u8 0, Value.int .u8 0, Value.int .u8 0, Value.int .u8 0, Value.int .u8 0, Value.int .u8 0, Value.int .u8 0, Value.int .u8 0, Value.int .u8 0, Value.int .u8 0, Value.int .u8 0, Value.int .u8 0, Value.int .u8 0, Value.int .u8 0, Value.int .u8 0, Value.int .u8 0, Value.int .u32 0])
  have HB := Aside0.mk (hw1.out #[Value.int .u8 0, Value.int .u8 0, Value.int .u8 0, Value.int .u8 0, Value.int .u8 0, Value.int .u8 0, Value.int .u8 0, Value.int .u8 0, Value.int .u8 0, Value.int .u8 0, Value.int .u8 0, Value.int .u8 0, Value.int .u8 0, Value.int .u8 0, Value.int .u8 0, Value.int .u8 0, Value.int .u8 0, Value.int .u8 0, Value.int .u8 0, Value.int .u8 0, Value.int .u8 0, Value.int .u8 0, Value.int .u8 0, Value.int .u8 0, Value.int .u8 0, Value.int .u8 0, Value.int .u8 0, Value.int .u8 0, Value.int .u8 0, Value.int .u8 0, Value.int .u8 0, Value.int .u8 0, Value.int .u32 0])
  clear HK1 hw1
  generalize ((w.alloc (.cells cs.toArray 31)).alloc (.cells #[Value.int .u8 0, Value.int .u8 0, Value.int .u8 0, Value.int .u8 0, Value.int .u8 0, Value.int .u8 0, Value.int .u8 0, Value.int .u8 0, Value.int .u8 0, Value.int .u8 0, Value.int .u8 0, Value.int .u8 0, Value.int .u8 0, Value.int .u8 0, Value.int .u8 0, Value.int .u8 0, Value.int .u8 0, Value.int .u8 0, Value.int .u8 0, Value.int .u8 0, Value.int .u8 0, Value.int .u8 0, Value.int .u8 0, Value.int .u8 0, Value.int .u8 0, Value.int .u8 0, Value.int .u8 0, Value.int .u8 0, Value.int .u8 0, Value.int .u8 0, Value.int .u8 0, Value.int .u8 0, Value.int .u32 0] 102)) = w2 at *
  go_wp2_with (first
    | ((with_reducible refine at_dst (N := 4) rfl ?_); refine wpList_load_at rfl 29 (.tmp 3) rfl ⟨w.heap.size, 0, none⟩ rfl h _ HH.out Try.underlying29 rfl (by rw [HL.out]; exact sizeH) ?_)
    | ((with_reducible refine at_dst (N := 7) rfl ?_); refine wpList_run rfl _ (run_built 102 _ rfl [(0, .agg h.toArray), (1, .int .u32 n)] (by (try simp only [List.map_toArray, List.map_cons, List.map_nil]); rfl) _ (builtOp h HL.out n)) ?_; rw [HCS.out])
    | ((with_reducible refine at_none rfl ?_); refine wpList_store_whole rfl 102 (.tmp 2) (.tmp 7) rfl (w.heap.size + 1) cs.toArray rfl rfl 102 _ HW0.out (by rw [List.size_toArray, HCL.out]; exact sizeOp) ?ho HONE.out (w0 := w) (B := w.heap.size) HB.out (Nat.le_succ _) ?_; (case ho => show 33 = cs.toArray.size; rw [List.size_toArray]; exact HCL.out.symm); intro W1 hg1 hb1 hk1 hz1; have HG1 := Aside0.mk hg1; have HB1 := Aside0.mk hb1; clear hg1 hb1 hk1 hz1))
  exact bodyPost_ret (v := .agg cs.toArray) (results_cell_row rfl _ _ (w.heap.size + 1) 102 cs.toArray (0, 0) _ rfl HG1.out Try.underlying102 rfl (by rw [List.size_toArray, HCL.out]; exact sizeOp)) rfl ⟨rfl, HB1.out⟩
end Go.Proofs.Ytdheoajaaofmbaa.QFnScriptPlaces

/- FnProofFault: a header's proof of work is refused just as the reference says, for every header and every limit; no condition. -/
import Derived.Deep.LoopGhost
import Derived.SizedLaws
import Derived.ShapedOpen
import Derived.ProofKit
import Derived.Test.YtigpdgfhngknhaaRows
import Derived.WalkKit
import Derived.OpenShut
import Derived.ShutString
import Derived.ChangeOld
import Derived.Below
import Derived.Test.YtigpdgfhngknhaaWSized
import Derived.Test.YtigpdgfhngknhaaK0
import Derived.Test.YtigpdgfhngknhaaK1
import Derived.Test.YtigpdgfhngknhaaK2
import Derived.Test.YtigpdgfhngknhaaK3
import Derived.Test.YtigpdgfhngknhaaK6
/- A header of the text's own; a block that has it alone. -/
namespace Go.Proofs.Ytigpdgfhngknhaa.Snk
open Go.RowKit Go.Proofs.YtigpdgfhngknhaaW.PrintWords Go.Proofs.YtigpdgfhngknhaaW.PrintLast Go.Proofs.YtigpdgfhngknhaaW.PrintMore Go.Proofs.Ytigpdgfhngknhaa.QFnProofFault
set_option linter.unusedVariables false
set_option linter.unusedSimpArgs false
/-- A header's cells (k: the kind of its time). -/
def hdC (k : IntKind) (h : HdV) : List Value := .int .i32 h.v :: (byteC h.p ++ (byteC h.r ++ [.int k h.t, .int .u32 h.b, .int .u32 h.n]))
theorem hdC_len (k : IntKind) {h : HdV} (ho : h.ok) : (hdC k h).length = 68 := by
  unfold hdC
  simp only [List.length_cons, List.length_append, byteC_len, ho.p, ho.r, List.length_nil]
theorem hdC_one (k : IntKind) (h : HdV) (r : List Value) (hr : r.all (·.oneCell') = true) : ((hdC k h ++ r).toArray).all (·.oneCell') = true := by
  simp only [hdC, byteC]
  simp [Value.oneCell']
  simpa [Value.oneCell'] using hr
theorem hdC_p (k : IntKind) {h : HdV} (ho : h.ok) (r : List Value) (j : Nat) (hj : j < 32) : (hdC k h ++ r)[1 + j]? = some (.int .u8 (h.p.getD j 0)) := by
  unfold hdC
  rw [List.cons_append, Nat.add_comm 1 j, List.getElem?_cons_succ, List.append_assoc, List.getElem?_append_left (by rw [byteC_len, ho.p]; exact hj)]
  exact byteC_at (by rw [ho.p]; exact hj)
theorem hdC_r (k : IntKind) {h : HdV} (ho : h.ok) (r : List Value) (j : Nat) (hj : j < 32) : (hdC k h ++ r)[33 + j]? = some (.int .u8 (h.r.getD j 0)) := by
  unfold hdC
  rw [List.cons_append, show 33 + j = (32 + j) + 1 by omega, List.getElem?_cons_succ, List.append_assoc, List.getElem?_append_right (by rw [byteC_len, ho.p]; omega), byteC_len, ho.p, Nat.add_sub_cancel_left, List.append_assoc, List.getElem?_append_left (by rw [byteC_len, ho.r]; exact hj)]
  exact byteC_at (by rw [ho.r]; exact hj)
theorem hdC_tail (k : IntKind) {h : HdV} (ho : h.ok) (r : List Value) (j : Nat) : (hdC k h ++ r)[65 + j]? = ([.int k h.t, .int .u32 h.b, .int .u32 h.n] ++ r)[j]? := by
  unfold hdC
  rw [List.cons_append, show 65 + j = (64 + j) + 1 by omega, List.getElem?_cons_succ, List.append_assoc, List.getElem?_append_right (by rw [byteC_len, ho.p]; omega), byteC_len, ho.p, show 64 + j - 32 = 32 + j by omega, List.append_assoc, List.getElem?_append_right (by rw [byteC_len, ho.r]; omega), byteC_len, ho.r, Nat.add_sub_cancel_left]
theorem hdAt_of {w : World} {g : Nat} {h : HdV} {r : List Value} {T : TypeId} (ho : h.ok) (hb : w.heap[g]? = some (.cells (hdC .i64 h ++ r).toArray T (0, 0))) : HdAt w g h :=
  ⟨cell_of hb rfl, fun j hj => cell_of hb (by rw [List.getElem?_toArray]; exact hdC_p _ ho r j hj), fun j hj => cell_of hb (by rw [List.getElem?_toArray]; exact hdC_r _ ho r j hj),
   cell_of hb (by rw [List.getElem?_toArray]; exact hdC_tail _ ho r 0), cell_of hb (by rw [List.getElem?_toArray]; exact hdC_tail _ ho r 1), cell_of hb (by rw [List.getElem?_toArray]; exact hdC_tail _ ho r 2)⟩
theorem uncI {n : Nat} (h : List Int) (hl : h.length = n + 1) : ∃ a t, h = a :: t ∧ t.length = n := by
  cases h with
  | nil => simp at hl
  | cons a t => exact ⟨a, t, rfl, by simpa using hl⟩
theorem list32I (t0 : List Int) (l0 : t0.length = 32) : ∃ a0 a1 a2 a3 a4 a5 a6 a7 a8 a9 a10 a11 a12 a13 a14 a15 a16 a17 a18 a19 a20 a21 a22 a23 a24 a25 a26 a27 a28 a29 a30 a31 : Int, t0 = [a0, a1, a2, a3, a4, a5, a6, a7, a8, a9, a10, a11, a12, a13, a14, a15, a16, a17, a18, a19, a20, a21, a22, a23, a24, a25, a26, a27, a28, a29, a30, a31] := by
  obtain ⟨a0, t1, e0, l1⟩ := uncI (n := 31) t0 l0
  obtain ⟨a1, t2, e1, l2⟩ := uncI (n := 30) t1 l1
  obtain ⟨a2, t3, e2, l3⟩ := uncI (n := 29) t2 l2
  obtain ⟨a3, t4, e3, l4⟩ := uncI (n := 28) t3 l3
  obtain ⟨a4, t5, e4, l5⟩ := uncI (n := 27) t4 l4
  obtain ⟨a5, t6, e5, l6⟩ := uncI (n := 26) t5 l5
  obtain ⟨a6, t7, e6, l7⟩ := uncI (n := 25) t6 l6
  obtain ⟨a7, t8, e7, l8⟩ := uncI (n := 24) t7 l7
  obtain ⟨a8, t9, e8, l9⟩ := uncI (n := 23) t8 l8
  obtain ⟨a9, t10, e9, l10⟩ := uncI (n := 22) t9 l9
  obtain ⟨a10, t11, e10, l11⟩ := uncI (n := 21) t10 l10
  obtain ⟨a11, t12, e11, l12⟩ := uncI (n := 20) t11 l11
  obtain ⟨a12, t13, e12, l13⟩ := uncI (n := 19) t12 l12
  obtain ⟨a13, t14, e13, l14⟩ := uncI (n := 18) t13 l13
  obtain ⟨a14, t15, e14, l15⟩ := uncI (n := 17) t14 l14
  obtain ⟨a15, t16, e15, l16⟩ := uncI (n := 16) t15 l15
  obtain ⟨a16, t17, e16, l17⟩ := uncI (n := 15) t16 l16
  obtain ⟨a17, t18, e17, l18⟩ := uncI (n := 14) t17 l17
  obtain ⟨a18, t19, e18, l19⟩ := uncI (n := 13) t18 l18
  obtain ⟨a19, t20, e19, l20⟩ := uncI (n := 12) t19 l19
  obtain ⟨a20, t21, e20, l21⟩ := uncI (n := 11) t20 l20
  obtain ⟨a21, t22, e21, l22⟩ := uncI (n := 10) t21 l21
  obtain ⟨a22, t23, e22, l23⟩ := uncI (n := 9) t22 l22
  obtain ⟨a23, t24, e23, l24⟩ := uncI (n := 8) t23 l23
  obtain ⟨a24, t25, e24, l25⟩ := uncI (n := 7) t24 l24
  obtain ⟨a25, t26, e25, l26⟩ := uncI (n := 6) t25 l25
  obtain ⟨a26, t27, e26, l27⟩ := uncI (n := 5) t26 l26
  obtain ⟨a27, t28, e27, l28⟩ := uncI (n := 4) t27 l27
  obtain ⟨a28, t29, e28, l29⟩ := uncI (n := 3) t28 l28
  obtain ⟨a29, t30, e29, l30⟩ := uncI (n := 2) t29 l29
  obtain ⟨a30, t31, e30, l31⟩ := uncI (n := 1) t30 l30
  obtain ⟨a31, t32, e31, l32⟩ := uncI (n := 0) t31 l31
  have e := List.length_eq_zero_iff.1 l32
  exact ⟨_, _, _, _, _, _, _, _, _, _, _, _, _, _, _, _, _, _, _, _, _, _, _, _, _, _, _, _, _, _, _, _, by rw [e0, e1, e2, e3, e4, e5, e6, e7, e8, e9, e10, e11, e12, e13, e14, e15, e16, e17, e18, e19, e20, e21, e22, e23, e24, e25, e26, e27, e28, e29, e30, e31, e]⟩
set_option maxRecDepth 100000 in
theorem build_hd {h : HdV} (ho : h.ok) : Try.prog.built 61 [(0, .int .i32 h.v), (1, .agg (byteC h.p).toArray), (2, .agg (byteC h.r).toArray), (3, .agg #[.int .i64 h.t]), (4, .int .u32 h.b), (5, .int .u32 h.n)] = some (hdC .i64 h).toArray := by
  obtain ⟨v, p, r, t, b, n⟩ := h
  obtain ⟨p0, p1, p2, p3, p4, p5, p6, p7, p8, p9, p10, p11, p12, p13, p14, p15, p16, p17, p18, p19, p20, p21, p22, p23, p24, p25, p26, p27, p28, p29, p30, p31, e1⟩ := list32I p ho.p
  obtain ⟨q0, q1, q2, q3, q4, q5, q6, q7, q8, q9, q10, q11, q12, q13, q14, q15, q16, q17, q18, q19, q20, q21, q22, q23, q24, q25, q26, q27, q28, q29, q30, q31, e2⟩ := list32I r ho.r
  subst e1 e2
  kernel_rfl
set_option maxRecDepth 100000 in
theorem build_msg {h : HdV} (ho : h.ok) : Try.prog.built 64 [(0, .agg (hdC .i64 h).toArray)] = some (hdC .i64 h ++ [Value.slice none 0 0]).toArray := by
  obtain ⟨v, p, r, t, b, n⟩ := h
  obtain ⟨p0, p1, p2, p3, p4, p5, p6, p7, p8, p9, p10, p11, p12, p13, p14, p15, p16, p17, p18, p19, p20, p21, p22, p23, p24, p25, p26, p27, p28, p29, p30, p31, e1⟩ := list32I p ho.p
  obtain ⟨q0, q1, q2, q3, q4, q5, q6, q7, q8, q9, q10, q11, q12, q13, q14, q15, q16, q17, q18, q19, q20, q21, q22, q23, q24, q25, q26, q27, q28, q29, q30, q31, e2⟩ := list32I r ho.r
  subst e1 e2
  kernel_rfl
set_option maxRecDepth 100000 in
theorem build_blk {h : HdV} (ho : h.ok) : Try.prog.built 41 [(0, .agg (hdC .u32 h).toArray)] = some (hdC .u32 h ++ [Value.slice none 0 0]).toArray := by
  obtain ⟨v, p, r, t, b, n⟩ := h
  obtain ⟨p0, p1, p2, p3, p4, p5, p6, p7, p8, p9, p10, p11, p12, p13, p14, p15, p16, p17, p18, p19, p20, p21, p22, p23, p24, p25, p26, p27, p28, p29, p30, p31, e1⟩ := list32I p ho.p
  obtain ⟨q0, q1, q2, q3, q4, q5, q6, q7, q8, q9, q10, q11, q12, q13, q14, q15, q16, q17, q18, q19, q20, q21, q22, q23, q24, q25, q26, q27, q28, q29, q30, q31, e2⟩ := list32I r ho.r
  subst e1 e2
  kernel_rfl
theorem size_in : (Try.prog.info? 25).map (·.size) = some 68 := by kernel_rfl
theorem size_wh : (Try.prog.info? 61).map (·.size) = some 68 := by kernel_rfl
theorem size_a32 : (Try.prog.info? 22).map (·.size) = some 32 := by kernel_rfl
theorem size_blk : (Try.prog.info? 41).map (·.size) = some 69 := by kernel_rfl
theorem cells_row {w : World} {g o : Nat} {cs : List Value} {T : TypeId} {r : List Value} (hb : w.heap[g]? = some (.cells (r).toArray T (0, 0))) (hc : ∀ j, j < cs.length → r[o + j]? = cs[j]?) : ∀ j v, cs[j]? = some v → w.cell? ((⟨g, o, none⟩ : Addr).add j) = some v := fun j v hv => by
  rw [add_any]
  exact cell_of hb (by rw [List.getElem?_toArray, hc j (List.getElem?_eq_some_iff.1 hv).1]; exact hv)
set_option maxRecDepth 100000 in
set_option maxHeartbeats 4000000 in
theorem headerOfC (h : HdV) (ho : h.ok) (w : World) : Calls Try.prog 32 #[.agg (hdC .u32 h).toArray] w fun e w' => ∃ gh, e = .returned (.pointer (some ⟨gh, 0, none⟩)) ∧ w'.heap[gh]? = some (.cells (hdC .i64 h).toArray 61 (0, 0)) ∧ w.heap.size ≤ gh ∧ Below w.heap.size w w' := by
  have HO := Aside0.mk ho
  obtain ⟨cs, hcs⟩ : ∃ c, hdC .u32 h = c := ⟨_, rfl⟩
  have HCS := Aside0.mk hcs
  rw [hcs]
  have ht1 := ho.t0
  have ht2 := ho.t1
  have HT : Aside0 (IntKind.i64.wrap h.t = h.t) := ⟨by simp [IntKind.wrap, IntKind.signed, IntKind.bits]; omega⟩
  clear ho hcs ht1 ht2
  go_enter Try.func32, Try.ntmps32
  go_upto_region 1 with fail
  obtain ⟨g, hg⟩ : ∃ g, w.heap.size = g := ⟨_, rfl⟩
  have HG := Aside0.mk hg
  rw [hg]
  generalize hw1 : World.alloc _ _ = w1
  have HB1 : Aside0 (Below w.heap.size w w1) := ⟨by rw [← hw1]; exact below_alloc (Below.refl _ _) _⟩
  have HR1 : Aside0 (w1.drew.heap[g]? = some (.cells (hdC .u32 h).toArray 25 (0, 0))) := ⟨by rw [← hw1, ← hg, HCS.out]; exact heap_alloc_new w _⟩
  clear hw1 hg
  refine start_ (n := 17) (S := fun w' => w'.heap[g]? = some (.cells (hdC .u32 h).toArray 25 (0, 0))) (ds := [15]) #[false, false, false, false, false, false, false, false, false, false, false, false, false, false, false, false, false] (by kernel_rfl) rfl rfl HR1.out (fun hHeld => ?_)
  refine pure_ (i := 0) (N := some 3) (v := ?_) (a' := ?_) #[true, false, false, false, false, false, false, false, false, false, false, false, false, false, false, false, false] rfl rfl (by kernel_rfl) (fun _ _ _ h => h) (Or.inl ⟨by rfl, ?_⟩) ?_ ?_
  rotate_left
  · intro w'
    go_simp
    with_reducible rfl
  rotate_left
  · simp only [Act.put, List.setIfInBounds_toArray, List.set_cons_zero, List.set_cons_succ, i64_w, i32_w]
    rfl
  refine take_ (i := 1) (N := some 4) (v := ?_) (a' := ?_) #[true, true, false, false, false, false, false, false, false, false, false, false, false, false, false, false, false] rfl rfl (by kernel_rfl) (fun _ _ _ h => h) (Or.inl ⟨by rfl, ?_⟩) hHeld ?_ ?_
  rotate_left
  · rintro w' s0
    have z : w'.cell? ⟨g, 0, none⟩ = some (.int .i32 h.v) := cell_of s0 (by rw [List.getElem?_toArray]; exact rfl)
    go_simp
    with_reducible rfl
  rotate_left
  · simp only [Act.put, List.setIfInBounds_toArray, List.set_cons_zero, List.set_cons_succ, i64_w, i32_w]
    rfl
  refine pure_ (i := 2) (N := some 5) (v := ?_) (a' := ?_) #[true, true, true, false, false, false, false, false, false, false, false, false, false, false, false, false, false] rfl rfl (by kernel_rfl) (fun _ _ _ h => h) (Or.inl ⟨by rfl, ?_⟩) ?_ ?_
  rotate_left
  · intro w'
    go_simp
    with_reducible rfl
  rotate_left
  · simp only [Act.put, List.setIfInBounds_toArray, List.set_cons_zero, List.set_cons_succ, i64_w, i32_w]
    rfl
  refine take_ (i := 3) (N := some 6) (v := ?_) (a' := ?_) #[true, true, true, true, false, false, false, false, false, false, false, false, false, false, false, false, false] rfl rfl (by kernel_rfl) (fun _ _ _ h => h) (Or.inl ⟨by rfl, ?_⟩) hHeld ?_ ?_
  rotate_left
  · rintro w' s0
    refine run_load_at 22 (.tmp 5) ?_ ⟨g, 1, none⟩ ?_ (byteC h.p) _ (cells_row (o := 1) s0 (fun j hj => by rw [byteC_len, HO.out.p] at hj; have e := hdC_p .u32 HO.out [] j hj; rw [List.append_nil] at e; rw [e, byteC_at (by rw [HO.out.p]; exact hj)])) Try.underlying22 rfl (by rw [byteC_len, HO.out.p]; exact size_a32) <;> rfl
  rotate_left
  · simp only [Act.put, List.setIfInBounds_toArray, List.set_cons_zero, List.set_cons_succ, i64_w, i32_w]
    rfl
  refine pure_ (i := 4) (N := some 7) (v := ?_) (a' := ?_) #[true, true, true, true, true, false, false, false, false, false, false, false, false, false, false, false, false] rfl rfl (by kernel_rfl) (fun _ _ _ h => h) (Or.inl ⟨by rfl, ?_⟩) ?_ ?_
  rotate_left
  · intro w'
    go_simp
    with_reducible rfl
  rotate_left
  · simp only [Act.put, List.setIfInBounds_toArray, List.set_cons_zero, List.set_cons_succ, i64_w, i32_w]
    rfl
  refine take_ (i := 5) (N := some 8) (v := ?_) (a' := ?_) #[true, true, true, true, true, true, false, false, false, false, false, false, false, false, false, false, false] rfl rfl (by kernel_rfl) (fun _ _ _ h => h) (Or.inl ⟨by rfl, ?_⟩) hHeld ?_ ?_
  rotate_left
  · rintro w' s0
    refine run_load_at 22 (.tmp 7) ?_ ⟨g, 33, none⟩ ?_ (byteC h.r) _ (cells_row (o := 33) s0 (fun j hj => by rw [byteC_len, HO.out.r] at hj; have e := hdC_r .u32 HO.out [] j hj; rw [List.append_nil] at e; rw [e, byteC_at (by rw [HO.out.r]; exact hj)])) Try.underlying22 rfl (by rw [byteC_len, HO.out.r]; exact size_a32) <;> rfl
  rotate_left
  · simp only [Act.put, List.setIfInBounds_toArray, List.set_cons_zero, List.set_cons_succ, i64_w, i32_w]
    rfl
  refine pure_ (i := 6) (N := some 9) (v := ?_) (a' := ?_) #[true, true, true, true, true, true, true, false, false, false, false, false, false, false, false, false, false] rfl rfl (by kernel_rfl) (fun _ _ _ h => h) (Or.inl ⟨by rfl, ?_⟩) ?_ ?_
  rotate_left
  · intro w'
    go_simp
    with_reducible rfl
  rotate_left
  · simp only [Act.put, List.setIfInBounds_toArray, List.set_cons_zero, List.set_cons_succ, i64_w, i32_w]
    rfl
  refine take_ (i := 7) (N := some 10) (v := ?_) (a' := ?_) #[true, true, true, true, true, true, true, true, false, false, false, false, false, false, false, false, false] rfl rfl (by kernel_rfl) (fun _ _ _ h => h) (Or.inl ⟨by rfl, ?_⟩) hHeld ?_ ?_
  rotate_left
  · rintro w' s0
    have z : w'.cell? ⟨g, 65, none⟩ = some (.int .u32 h.t) := cell_of s0 (by rw [List.getElem?_toArray]; exact (by have e := hdC_tail .u32 HO.out [] 0; rw [List.append_nil] at e; exact e))
    go_simp
    with_reducible rfl
  rotate_left
  · simp only [Act.put, List.setIfInBounds_toArray, List.set_cons_zero, List.set_cons_succ, i64_w, i32_w]
    rfl
  refine pure_ (i := 10) (N := some 13) (v := ?_) (a' := ?_) #[true, true, true, true, true, true, true, true, false, false, true, false, false, false, false, false, false] rfl rfl (by kernel_rfl) (fun _ _ _ h => h) (Or.inl ⟨by rfl, ?_⟩) ?_ ?_
  rotate_left
  · intro w'
    go_simp
    with_reducible rfl
  rotate_left
  · simp only [Act.put, List.setIfInBounds_toArray, List.set_cons_zero, List.set_cons_succ, i64_w, i32_w]
    rfl
  refine take_ (i := 11) (N := some 14) (v := ?_) (a' := ?_) #[true, true, true, true, true, true, true, true, false, false, true, true, false, false, false, false, false] rfl rfl (by kernel_rfl) (fun _ _ _ h => h) (Or.inl ⟨by rfl, ?_⟩) hHeld ?_ ?_
  rotate_left
  · rintro w' s0
    have z : w'.cell? ⟨g, 66, none⟩ = some (.int .u32 h.b) := cell_of s0 (by rw [List.getElem?_toArray]; exact (by have e := hdC_tail .u32 HO.out [] 1; rw [List.append_nil] at e; exact e))
    go_simp
    with_reducible rfl
  rotate_left
  · simp only [Act.put, List.setIfInBounds_toArray, List.set_cons_zero, List.set_cons_succ, i64_w, i32_w]
    rfl
  refine pure_ (i := 12) (N := some 15) (v := ?_) (a' := ?_) #[true, true, true, true, true, true, true, true, false, false, true, true, true, false, false, false, false] rfl rfl (by kernel_rfl) (fun _ _ _ h => h) (Or.inl ⟨by rfl, ?_⟩) ?_ ?_
  rotate_left
  · intro w'
    go_simp
    with_reducible rfl
  rotate_left
  · simp only [Act.put, List.setIfInBounds_toArray, List.set_cons_zero, List.set_cons_succ, i64_w, i32_w]
    rfl
  refine take_ (i := 13) (N := some 16) (v := ?_) (a' := ?_) #[true, true, true, true, true, true, true, true, false, false, true, true, true, true, false, false, false] rfl rfl (by kernel_rfl) (fun _ _ _ h => h) (Or.inl ⟨by rfl, ?_⟩) hHeld ?_ ?_
  rotate_left
  · rintro w' s0
    have z : w'.cell? ⟨g, 67, none⟩ = some (.int .u32 h.n) := cell_of s0 (by rw [List.getElem?_toArray]; exact (by have e := hdC_tail .u32 HO.out [] 2; rw [List.append_nil] at e; exact e))
    go_simp
    with_reducible rfl
  rotate_left
  · simp only [Act.put, List.setIfInBounds_toArray, List.set_cons_zero, List.set_cons_succ, i64_w, i32_w]
    rfl
  refine pure_ (i := 8) (N := some 11) (v := ?_) (a' := ?_) #[true, true, true, true, true, true, true, true, true, false, true, true, true, true, false, false, false] rfl rfl (by kernel_rfl) (fun _ _ _ h => h) (Or.inl ⟨by rfl, ?_⟩) ?_ ?_
  rotate_left
  · intro w'
    go_simp
    exact congrArg (Value.int .i64) HT.out
  rotate_left
  · simp only [Act.put, List.setIfInBounds_toArray, List.set_cons_zero, List.set_cons_succ, i64_w, i32_w]
    rfl
  refine one_ (i := 9) (N := some 12) #[true, true, true, true, true, true, true, true, true, true, true, true, true, true, false, false, false] rfl rfl (by kernel_rfl) (by decide) (fun K hK => ?_)
  refine goes_ Try.func43 (by kernel_rfl) rfl #[.int .i64 h.t, .int .i64 0] (by rfl) rfl rfl (by (try simp only [List.map_toArray, List.map_cons, List.map_nil]); first | done | rfl | (simp only [List.length_drop, List.length_take]; rfl)) ?_
  with_reducible refine (time_Unix.calls h.t 0 h.t _ rfl).mono ?_
  rintro e w2 ⟨rfl, k1⟩
  refine ⟨_, rfl, ?_⟩
  have HB2 : Aside0 (Below w.heap.size w w2) := ⟨HB1.out.trans ⟨k1.os, k1.tape, k1.output, k1.size, fun k hk => k1.block k (Nat.lt_of_lt_of_le hk HB1.out.size)⟩⟩
  refine hK.out _ _ ((k1.block g (blk_lt' HR1.out)).trans HR1.out) (fun hHeld => ?_)
  clear hK K
  refine norm_ (a' := ?_) ?_ ?_
  rotate_left
  · show Act.put _ (some 12) _ = _
    simp only [Act.put, List.setIfInBounds_toArray, List.set_cons_zero, List.set_cons_succ, i64_w, i32_w]
    rfl
  refine pure_ (i := 14) (N := some 17) (v := ?_) (a' := ?_) #[true, true, true, true, true, true, true, true, true, true, true, true, true, true, true, false, false] rfl rfl (by kernel_rfl) (fun _ _ _ h => h) (Or.inl ⟨by rfl, ?_⟩) ?_ ?_
  rotate_left
  · intro w'
    refine run_built 61 #[(0, .tmp 4), (1, .tmp 6), (2, .tmp 8), (3, .tmp 12), (4, .tmp 14), (5, .tmp 16)] ?_ _ ?_ _ (build_hd HO.out)
    · rfl
    · simp only [List.map_toArray, List.map_cons, List.map_nil]; rfl
  rotate_left
  · simp only [Act.put, List.setIfInBounds_toArray, List.set_cons_zero, List.set_cons_succ, i64_w, i32_w]
    rfl
  refine last_ (i := 15) (N := some 18) #[true, true, true, true, true, true, true, true, true, true, true, true, true, true, true, true, false] rfl rfl (by kernel_rfl) (by decide) (fun K hK => ?_)
  refine yval_ (.pointer (some ⟨w2.heap.size, 0, none⟩)) (by rfl) rfl (run_boxed 61 (.tmp 17) (by rfl) (hdC .i64 h).toArray (by rfl)) ?_
  refine hK.out _ _ ?_
  clear hK K
  refine norm_ (a' := ?_) ?_ ?_
  rotate_left
  · show Act.put _ (some 18) _ = _
    simp only [Act.put, List.setIfInBounds_toArray, List.set_cons_zero, List.set_cons_succ, i64_w, i32_w]
    rfl
  refine pure_ (i := 16) (N := some 2) (v := ?_) (a' := ?_) #[true, true, true, true, true, true, true, true, true, true, true, true, true, true, true, true, true] rfl rfl (by kernel_rfl) (fun _ _ _ h => h) (Or.inl ⟨by rfl, ?_⟩) ?_ ?_
  rotate_left
  · intro w'
    go_simp
    with_reducible rfl
  rotate_left
  · simp only [Act.put, List.setIfInBounds_toArray, List.set_cons_zero, List.set_cons_succ, i64_w, i32_w]
    rfl
  refine done_ (by kernel_rfl) ?_
  go_wp2_with fail
  go_ret
  exact ⟨_, rfl, heap_alloc_new w2 _, by have := HB2.out.size; omega, below_alloc HB2.out _⟩
end Go.Proofs.Ytigpdgfhngknhaa.Snk
/- A block that has a header alone, as the package's own. -/
namespace Go.Proofs.Ytigpdgfhngknhaa.Snk
open Go.RowKit Go.Proofs.YtigpdgfhngknhaaW.PrintWords Go.Proofs.YtigpdgfhngknhaaW.PrintLast Go.Proofs.YtigpdgfhngknhaaW.PrintMore Go.Proofs.Ytigpdgfhngknhaa.QFnProofFault
set_option linter.unusedVariables false
set_option linter.unusedSimpArgs false
theorem below_tr {w w1 w2 : World} (h : Below w.heap.size w w1) (k : Below w1.heap.size w1 w2) : Below w.heap.size w w2 :=
  h.trans ⟨k.os, k.tape, k.output, k.size, fun i hi => k.block i (Nat.lt_of_lt_of_le hi h.size)⟩
set_option maxRecDepth 100000 in
set_option maxHeartbeats 4000000 in
theorem blockOfC (h : HdV) (ho : h.ok) (w : World) : Calls Try.prog 21 #[.agg (hdC .u32 h ++ [Value.slice none 0 0]).toArray] w fun e w' => ∃ gh, e = .returned (.pointer (some ⟨gh, 0, none⟩)) ∧ w'.heap[gh]? = some (.cells (hdC .i64 h ++ [Value.slice none 0 0]).toArray 64 (0, 0)) ∧ w.heap.size ≤ gh ∧ Below w.heap.size w w' := by
  have HO := Aside0.mk ho
  obtain ⟨cs, hcs⟩ : ∃ c, hdC .u32 h ++ [Value.slice none 0 0] = c := ⟨_, rfl⟩
  have HCS := Aside0.mk hcs
  rw [hcs]
  clear ho hcs
  go_enter Try.func21, Try.ntmps21
  go_upto_region 1 with fail
  obtain ⟨g, hg⟩ : ∃ g, w.heap.size = g := ⟨_, rfl⟩
  have HG := Aside0.mk hg
  rw [hg]
  generalize hw1 : World.alloc _ _ = w1
  have HB1 : Aside0 (Below w.heap.size w w1) := ⟨by rw [← hw1]; exact below_alloc (Below.refl _ _) _⟩
  have HR1 : Aside0 (w1.heap[g]? = some (.cells (hdC .u32 h ++ [Value.slice none 0 0]).toArray 41 (0, 0))) := ⟨by rw [← hw1, ← hg, HCS.out]; exact heap_alloc_new w _⟩
  clear hw1 hg
  have hlen := hdC_len .u32 HO.out
  have HLEN := Aside0.mk hlen
  clear hlen
  have HLW := Aside0.mk (hdC_len .i64 HO.out)
  go_upto_region 2 with (first
    | ((with_reducible refine at_dst (N := 6) rfl ?_); refine wpList_load_at rfl 25 (.tmp 5) rfl ⟨g, 0, none⟩ rfl (hdC .u32 h) _ (cells_row (o := 0) HR1.out (fun j hj => by rw [Nat.zero_add, List.getElem?_append_left hj])) Try.underlying25 rfl (by rw [HLEN.out]; exact size_in) ?_)
    | (go_at_call 32; (with_reducible refine (headerOfC h HO.out w1).mono ?_); rintro e w2 ⟨gh, rfl, k1, k2, k3⟩; have HR2 := Aside0.mk k1; have HG2 := Aside0.mk k2; have HB2 := Aside0.mk k3; clear k1 k2 k3)
    | ((with_reducible refine at_dst (N := 9) rfl ?_); refine wpList_load_at rfl 61 (.tmp 8) rfl ⟨gh, 0, none⟩ rfl (hdC .i64 h) _ (cells_row (o := 0) HR2.out (fun j hj => by rw [Nat.zero_add])) Try.underlying61 rfl (by rw [HLW.out]; exact size_wh) ?_)
    | ((with_reducible refine at_dst (N := 10) rfl ?_); refine wpList_run rfl _ (run_built 64 #[(0, .tmp 9)] rfl [(0, .agg (hdC .i64 h).toArray)] (by simp only [List.map_toArray, List.map_cons, List.map_nil]; rfl) _ (build_msg HO.out)) ?_)
    | ((with_reducible refine at_dst (N := 11) rfl ?_); refine wpList_run rfl _ (run_boxed 64 (.tmp 10) rfl (hdC .i64 h ++ [Value.slice none 0 0]).toArray rfl) ?_))
  obtain ⟨gm, hgm⟩ : ∃ g, w2.heap.size = g := ⟨_, rfl⟩
  have HGM := Aside0.mk hgm
  rw [hgm]
  generalize hw3 : World.alloc _ _ = w3
  have HB3 : Aside0 (Below w.heap.size w w3) := ⟨by rw [← hw3]; exact below_tr (below_tr HB1.out HB2.out) (below_alloc (Below.refl _ _) _)⟩
  have HR3 : Aside0 (w3.heap[gm]? = some (.cells (hdC .i64 h ++ [Value.slice none 0 0]).toArray 64 (0, 0))) := ⟨by rw [← hw3, ← hgm]; exact heap_alloc_new w2 _⟩
  have zt : w3.cell? ⟨g, 68, none⟩ = some (.slice none 0 0) := by
    have z1 : w1.cell? ⟨g, 68, none⟩ = some (.slice none 0 0) := cell_of HR1.out (by rw [List.getElem?_toArray, List.getElem?_append_right (by rw [HLEN.out]; decide), HLEN.out]; rfl)
    rw [← hw3]
    exact pw_cell_below (below_alloc (Below.refl _ _) _) (pw_cell_below HB2.out z1)
  clear hw3 hgm
  go_upto_region 3 with fail
  go_loopg [4] 1 (fun kq p4 w' => p4 = .int .i64 0 ∧ w' = w3)
  case atStart => exact ⟨rfl, rfl⟩
  case round =>
    obtain ⟨rfl, rfl⟩ := hrel
    go_wp2_with fail
    go_ret
    exact ⟨_, rfl, HR3.out, by have h1 := HB1.out.size; have h2 := HB2.out.size; have h3 := HGM.out; omega, HB3.out⟩
set_option maxRecDepth 100000 in
theorem newBlockC (gm : Nat) (w : World) : Calls Try.prog 20 #[.pointer (some ⟨gm, 0, none⟩)] w fun e w' => ∃ gu, e = .returned (.pointer (some ⟨gu, 0, none⟩)) ∧ w'.cell? ⟨gu, 0, none⟩ = some (.pointer (some ⟨gm, 0, none⟩)) ∧ Below w.heap.size w w' := by
  go_enter Try.func20, Try.ntmps20
  go_wp2_with fail
  go_ret
  exact ⟨_, rfl, cell_of (heap_alloc_new w _) rfl, below_alloc (Below.refl _ _) _⟩
set_option maxRecDepth 100000 in
theorem msgBlockC (gu gm : Nat) (w : World) (hc : w.cell? ⟨gu, 0, none⟩ = some (.pointer (some ⟨gm, 0, none⟩))) : Calls Try.prog 19 #[.pointer (some ⟨gu, 0, none⟩)] w fun e w' => e = .returned (.pointer (some ⟨gm, 0, none⟩)) ∧ w' = w := by
  go_enter Try.func19, Try.ntmps19
  go_wp2_with fail
  go_ret
  exact ⟨rfl, rfl⟩
set_option maxRecDepth 100000 in
set_option maxHeartbeats 2000000 in
theorem utilBlockC (h : HdV) (ho : h.ok) (w : World) : Calls Try.prog 11 #[.agg (hdC .u32 h ++ [Value.slice none 0 0]).toArray] w fun e w' => ∃ gu gm, e = .returned (.pointer (some ⟨gu, 0, none⟩)) ∧ w'.cell? ⟨gu, 0, none⟩ = some (.pointer (some ⟨gm, 0, none⟩)) ∧ HdAt w' gm h ∧ Below w.heap.size w w' := by
  have HO := Aside0.mk ho
  have HC := Aside0.mk (fun w => blockOfC h ho w)
  have HL : Aside0 ((hdC .u32 h ++ [Value.slice none 0 0]).length = 69) := ⟨by rw [List.length_append, hdC_len _ ho]; rfl⟩
  obtain ⟨cs, hcs⟩ : ∃ c, hdC .u32 h ++ [Value.slice none 0 0] = c := ⟨_, rfl⟩
  rw [hcs] at HC HL ⊢
  clear ho hcs
  go_enter Try.func11, Try.ntmps11
  go_upto_region 1 with fail
  obtain ⟨g, hg⟩ : ∃ g, w.heap.size = g := ⟨_, rfl⟩
  have HG := Aside0.mk hg
  rw [hg]
  generalize hw1 : World.alloc _ _ = w1
  have HB1 : Aside0 (Below w.heap.size w w1) := ⟨by rw [← hw1]; exact below_alloc (Below.refl _ _) _⟩
  have HR1 : Aside0 (w1.heap[g]? = some (.cells cs.toArray 41 (0, 0))) := ⟨by rw [← hw1, ← hg]; exact heap_alloc_new w _⟩
  clear hw1 hg
  go_wp2_with (first
    | ((with_reducible refine at_dst (N := 3) rfl ?_); refine wpList_load_at rfl 41 (.tmp 1) rfl ⟨g, 0, none⟩ rfl cs _ (cells_row (o := 0) HR1.out (fun j hj => by rw [Nat.zero_add])) Try.underlying41 rfl (by rw [HL.out]; exact size_blk) ?_)
    | (go_at_call 21; (with_reducible refine (HC.out w1).mono ?_); rintro e w2 ⟨gm, rfl, k1, k2, k3⟩; have HR2 := Aside0.mk k1; have HB2 := Aside0.mk k3; clear k1 k2 k3)
    | (go_at_call 20; (with_reducible refine (newBlockC gm w2).mono ?_); rintro e w3 ⟨gu, rfl, k1, k2⟩; have HU := Aside0.mk k1; have HB3 := Aside0.mk k2; clear k1 k2))
  go_ret
  exact ⟨_, _, rfl, HU.out, (hdAt_of HO.out HR2.out).below HB3.out, below_tr (below_tr HB1.out HB2.out) HB3.out⟩
end Go.Proofs.Ytigpdgfhngknhaa.Snk
/- The proof of work is checked. -/
namespace Go.Proofs.Ytigpdgfhngknhaa.Pf
open Go.RowKit Go.Proofs.YtigpdgfhngknhaaW.PrintWords Go.Proofs.YtigpdgfhngknhaaW.PrintLast Go.Proofs.YtigpdgfhngknhaaW.PrintMore Go.Proofs.Ytigpdgfhngknhaa.QFnProofFault Go.Proofs.Ytigpdgfhngknhaa.Snk
set_option linter.unusedVariables false
set_option linter.unusedSimpArgs false
theorem put4_bytes (l : List Int) (o : Nat) (v : Int) (h : Big.Bytes l) : Big.Bytes (Sha.put4 l o v) := by
  unfold Sha.put4
  intro d hd
  rcases List.mem_or_eq_of_mem_set hd with hd | rfl
  · rcases List.mem_or_eq_of_mem_set hd with hd | rfl
    · rcases List.mem_or_eq_of_mem_set hd with hd | rfl
      · rcases List.mem_or_eq_of_mem_set hd with hd | rfl
        · exact h d hd
        · omega
      · omega
    · omega
  · omega
theorem sha_bytes (kl bs : List Int) : Big.Bytes (Sha.shaL kl bs) := by
  unfold Sha.shaL Sha.sumD
  repeat apply put4_bytes
  intro d hd
  rw [List.mem_replicate] at hd
  omega
theorem shaD_bytes (kl bs : List Int) : Big.Bytes (Sha.shaD kl bs) := sha_bytes _ _
/-- What is told. -/
def codeOf (neg : Bool) (lt : List Int) (r1 r3 : Int) : Int := if lt.length = 0 ∨ neg = true then 8 else if r1 > 0 then 8 else if r3 > 0 then 9 else 0
theorem err8 (d : ByteArray) (c : Int) : ErrV c (.iface 54 (.agg #[.int .i64 c, .string d])) := .inr ⟨d, rfl⟩
set_option maxRecDepth 100000 in
set_option maxHeartbeats 8000000 in
theorem powC (gh gl : Nat) (h : HdV) (ho : h.ok) (kl : List Int) (w : World) (hd : HdAt w gh h) (hk : Sha.KRow w kl) (okl : Nat → Prop) (ll : List Int) (hL : Big.Is w gl okl false ll) (neg : Bool) (lt : List Int) (hC : Big.Compacts h.b neg lt)
    (k1 : Nat) (r1 : Int) (h1 : smallbig_nat_cmp.f k1 lt ll = some r1) (k2 : Nat) (lh : List Int) (h2 : smallbig_nat_norm.f k2 (Big.dg (Big.vB (Sha.shaD kl h.bytes).reverse) 8) = some lh) (k3 : Nat) (r3 : Int) (h3 : smallbig_nat_cmp.f k3 lh lt = some r3) :
    Calls Try.prog 18 #[.pointer (some ⟨gh, 0, none⟩), .pointer (some ⟨gl, 0, none⟩), .int .u32 0] w fun e w' => ∃ v, e = .returned v ∧ ErrV (codeOf neg lt r1 r3) v ∧ Below w.heap.size w w' := by
  have HD := Aside0.mk hd
  have HO := Aside0.mk ho
  have HK := Aside0.mk hk
  have HL := Aside0.mk hL
  have HC := Aside0.mk hC
  have H1 := Aside0.mk h1
  have H2 := Aside0.mk h2
  have H3 := Aside0.mk h3
  have zb := hd.b
  have HLG : Aside0 (gl < w.heap.size) := ⟨blk_lt' hL.choose_spec.1⟩
  have HXB := Aside0.mk (shaD_bytes kl h.bytes)
  have HXL := Aside0.mk (Sha.shaD_len kl h.bytes)
  have HBH := Aside0.mk (fun w1 hb hkk => blockHashC gh h ho kl w1 hb hkk)
  obtain ⟨xs, hxs⟩ : ∃ x, Sha.shaD kl h.bytes = x := ⟨_, rfl⟩
  rw [hxs] at HXB HXL H2 HBH
  clear ho hk hL hC h1 h2 h3 hxs hd
  obtain ⟨s, hs⟩ : ∃ s : Int, (if lt.length = 0 then (0 : Int) else if neg = true then -1 else 1) = s := ⟨_, rfl⟩
  have HS := Aside0.mk hs
  have hcode : codeOf neg lt r1 r3 = if s ≤ 0 then 8 else if r1 > 0 then 8 else if r3 > 0 then 9 else 0 := by
    unfold codeOf
    rw [← hs]
    by_cases c1 : lt.length = 0
    · rw [if_pos (.inl c1), if_pos c1]; rfl
    · by_cases c2 : neg = true
      · rw [if_pos (.inr c2), if_neg c1, if_pos c2]; rfl
      · rw [if_neg (by simp only [not_or]; exact ⟨c1, c2⟩), if_neg c1, if_neg c2]; rfl
  clear hs
  by_cases c1 : s ≤ 0
  · rw [if_pos c1] at hcode
    rw [hcode]
    clear hcode
    go_enter Try.func18, Try.ntmps18
    go_wp2_with (first
      | (go_at_call 26; (with_reducible refine (Big.compactToBig h.b neg lt HC.out w).mono ?_); rintro e w1 ⟨rfl, k1, k2⟩; have HI := Aside0.mk k1; have HB1 := Aside0.mk k2; clear k1 k2)
      | (go_at_call 27; (with_reducible refine (Big.sign w.heap.size _ neg lt w1 HI.out).mono ?_); rw [HS.out]; rintro e w2 ⟨rfl, rfl⟩)
      | (go_at_call 28; (with_reducible refine (blockchain_ruleError.calls _ _ _ _ _ rfl).mono ?_); rintro e w3 ⟨rfl, k1⟩; have HB3 := Aside0.mk k1; clear k1))
    go_ret
    exact ⟨_, rfl, err8 _ _, below_tr HB1.out HB3.out⟩
  · rw [if_neg c1] at hcode
    go_enter Try.func18, Try.ntmps18
    go_upto_region 5 with (first
      | (go_at_call 26; (with_reducible refine (Big.compactToBig h.b neg lt HC.out w).mono ?_); rintro e w1 ⟨rfl, k1, k2⟩; have HI := Aside0.mk k1; have HB1 := Aside0.mk k2; clear k1 k2)
      | (go_at_call 27; (with_reducible refine (Big.sign w.heap.size _ neg lt w1 HI.out).mono ?_); rw [HS.out]; rintro e w2 ⟨rfl, rfl⟩))
    have HNG : Aside0 (neg = false) := ⟨by
      have h1 := HS.out
      by_cases e1 : lt.length = 0
      · rw [if_pos e1] at h1; omega
      · by_cases e2 : neg = true
        · rw [if_neg e1, if_pos e2] at h1; omega
        · simpa using e2⟩
    have HI2 : Aside0 (Big.Is w2 w.heap.size (· ≠ w.heap.size) false lt) := ⟨by have h := HI.out; rw [HNG.out] at h; exact h⟩
    have HCM := Aside0.mk (Big.cmpC w.heap.size gl _ _ lt ll k1 r1 w2 HI2.out (HL.out.below HB1.out) (by have := HLG.out; omega) H1.out)
    by_cases c2 : r1 > 0
    · rw [if_pos c2] at hcode
      go_wp2_with (first
        | (go_at_call 29; (with_reducible refine HCM.out.mono ?_); rintro e w3 ⟨rfl, k1⟩; have HB3 := Aside0.mk k1; clear k1)
        | (go_at_call 28; (with_reducible refine (blockchain_ruleError.calls _ _ _ _ _ rfl).mono ?_); rintro e w4 ⟨rfl, k1⟩; have HB4 := Aside0.mk k1; clear k1))
      go_ret
      exact ⟨_, rfl, hcode ▸ err8 _ _, below_tr (below_tr HB1.out HB3.out) HB4.out⟩
    · rw [if_neg c2] at hcode
      go_upto_region 9 with (go_at_call 29; (with_reducible refine HCM.out.mono ?_); rintro e w3 ⟨rfl, k1⟩; have HB3 := Aside0.mk k1; clear k1)
      have HBb := Aside0.mk (below_tr HB1.out HB3.out)
      have HBC := Aside0.mk (HBH.out w3 (HD.out.below HBb.out) (HK.out.below HBb.out))
      go_upto_region 10 with (first
        | (go_at_call 30; (with_reducible refine HBC.out.mono ?_); rintro e w4 ⟨rfl, k1⟩; have HB4 := Aside0.mk k1; clear k1)
        | (refine wpList_store_row rfl 50 (.tmp 10) (.tmp 35) rfl w4.heap.size (byteC xs).toArray rfl rfl 50 _ (Sha.row_alloc w4 _) (Sha.hash_info _ HXL.out) (Sha.row_size _ HXL.out) (Sha.byteC_one _) ?_))
      obtain ⟨gx, hgx⟩ : ∃ g, w4.heap.size = g := ⟨_, rfl⟩
      have HGX := Aside0.mk hgx
      rw [hgx]
      generalize hw5 : World.setRow _ _ _ = w5
      have HB5 : Aside0 (Below w4.heap.size w4 w5) := ⟨by rw [← hw5, ← hgx]; exact Sha.below_setRow _ (below_alloc (Below.refl _ _) _) (Nat.le_refl _)⟩
      have HX5 : Aside0 (w5.heap[gx]? = some (.cells (xs.map (Value.int .u8)).toArray 50 (0, 0))) := ⟨by rw [← hw5, ← hgx]; exact setRow_heap _ _ _ _ _ _ (Sha.row_alloc w4 _)⟩
      clear hw5 hgx
      have HBd := Aside0.mk (below_tr (below_tr HBb.out HB4.out) HB5.out)
      have HHB := Aside0.mk (Big.hashToBig2 gx xs HXL.out HXB.out k2 lh H2.out w5 _ HX5.out)
      go_upto_region 11 with (go_at_call 31; (with_reducible refine HHB.out.mono ?_); rintro e w6 ⟨rfl, k1, k2⟩; have HI6 := Aside0.mk k1; have HB6 := Aside0.mk k2; clear k1 k2)
      have HT6 : Aside0 (Big.Is w6 w.heap.size (· ≠ w.heap.size) false lt) := ⟨(((HI2.out.below HB3.out).below HB4.out).below HB5.out).below HB6.out⟩
      have HCN := Aside0.mk (Big.cmpC (w5.heap.size + 1) w.heap.size _ _ lh lt k3 r3 w6 HI6.out HT6.out (by have := HBd.out.size; omega) H3.out)
      by_cases c3 : r3 > 0
      · rw [if_pos c3] at hcode
        go_wp2_with (first
          | (go_at_call 29; (with_reducible refine HCN.out.mono ?_); rintro e w7 ⟨rfl, k1⟩; have HB7 := Aside0.mk k1; clear k1)
          | (go_at_call 28; (with_reducible refine (blockchain_ruleError.calls _ _ _ _ _ rfl).mono ?_); rintro e w8 ⟨rfl, k1⟩; have HB8 := Aside0.mk k1; clear k1))
        go_ret
        exact ⟨_, rfl, hcode ▸ err8 _ _, below_tr (below_tr (below_tr HBd.out HB6.out) HB7.out) HB8.out⟩
      · rw [if_neg c3] at hcode
        go_wp2_with (go_at_call 29; (with_reducible refine HCN.out.mono ?_); rintro e w7 ⟨rfl, k1⟩; have HB7 := Aside0.mk k1; clear k1)
        go_ret
        exact ⟨_, rfl, (by rw [hcode]; exact .inl ⟨rfl, rfl⟩), below_tr (below_tr HBd.out HB6.out) HB7.out⟩
set_option maxRecDepth 100000 in
set_option maxHeartbeats 2000000 in
theorem checkC (gu gm gl : Nat) (w : World) (hu : w.cell? ⟨gu, 0, none⟩ = some (.pointer (some ⟨gm, 0, none⟩))) (c : Int) (hP : Calls Try.prog 18 #[.pointer (some ⟨gm, 0, none⟩), .pointer (some ⟨gl, 0, none⟩), .int .u32 0] w fun e w' => ∃ v, e = .returned v ∧ ErrV c v ∧ Below w.heap.size w w') :
    Calls Try.prog 10 #[.pointer (some ⟨gu, 0, none⟩), .pointer (some ⟨gl, 0, none⟩)] w fun e w' => ∃ v, e = .returned v ∧ ErrV c v ∧ Below w.heap.size w w' := by
  have HP := Aside0.mk hP
  have HU := Aside0.mk hu
  clear hP hu
  go_enter Try.func10, Try.ntmps10
  go_wp2_with (first
    | (go_at_call 19; (with_reducible refine (msgBlockC gu gm w HU.out).mono ?_); rintro e w1 ⟨rfl, rfl⟩)
    | (go_at_call 18; (with_reducible refine HP.out.mono ?_); rintro e w2 ⟨v, rfl, k1, k2⟩; have H1 := Aside0.mk k1; have H2 := Aside0.mk k2; clear k1 k2))
  go_ret
  exact ⟨_, rfl, H1.out, H2.out⟩
end Go.Proofs.Ytigpdgfhngknhaa.Pf
/- Numbers are compared: by digits, by bytes. -/
namespace Go.Proofs.Ytigpdgfhngknhaa.Big
open Go.RowKit Go.Proofs.YtigpdgfhngknhaaW.PrintWords Go.Proofs.YtigpdgfhngknhaaW.PrintLast Go.Proofs.YtigpdgfhngknhaaW.PrintMore Go.Proofs.Ytigpdgfhngknhaa.QFnProofFault
set_option linter.unusedVariables false
set_option linter.unusedSimpArgs false
/-- -1, 0, 1: how two numbers stand. -/
def cmpV (a b : Int) : Int := if a < b then -1 else if a = b then 0 else 1
theorem cmpV_lt {a b : Int} (h : a < b) : cmpV a b = -1 := if_pos h
theorem cmpV_gt {a b : Int} (h : b < a) : cmpV a b = 1 := by unfold cmpV; rw [if_neg (by omega), if_neg (by omega)]
theorem cmpV_eq (a : Int) : cmpV a a = 0 := by unfold cmpV; rw [if_neg (by omega), if_pos rfl]
theorem nv_top {l : List Int} (h : Dig l) (ht : Top l) (h0 : l ≠ []) : 2 ^ (32 * (l.length - 1)) ≤ nv l := by
  obtain ⟨a, x, rfl⟩ : ∃ a x, l = a ++ [x] := ⟨_, _, (List.dropLast_concat_getLast h0).symm⟩
  have hx := ht a x rfl
  have hx2 := h x (by simp)
  have ha := nv_range (l := a) (fun d hd => h d (by simp [hd]))
  rw [nv_append, List.length_append, List.length_singleton, Nat.add_sub_cancel]
  have e : nv [x] = x := by simp [nv]
  rw [e]
  have hp := pow_pos2 (32 * a.length)
  have : (2 : Int) ^ (32 * a.length) * 1 ≤ 2 ^ (32 * a.length) * x := Int.mul_le_mul_of_nonneg_left (by omega) (by omega)
  omega
theorem nv_less {a b : List Int} (ha : Dig a) (hb : Dig b) (tb : Top b) (h : a.length < b.length) : nv a < nv b := by
  have h1 := (nv_range ha).2
  have h2 := nv_top hb tb (by intro e; subst e; simp at h)
  have h3 : (2 : Int) ^ (32 * a.length) ≤ 2 ^ (32 * (b.length - 1)) := pow_le2 (by omega)
  omega
theorem nv_at {l : List Int} {j : Nat} (h : j < l.length) : nv l = nv (l.take j) + 2 ^ (32 * j) * (l.getD j 0 + 4294967296 * nv (l.drop (j + 1))) := by
  have e := nv_append (l.take j) (l.drop j)
  rw [List.take_append_drop, List.length_take, Nat.min_eq_left (by omega), List.drop_eq_getElem_cons h] at e
  rw [e, List.getD_eq_getElem?_getD, List.getElem?_eq_getElem h]
  simp [nv]
theorem mul_step {p a b x y : Int} (hp : 0 < p) (ha : a < p) (hb : 0 ≤ b) (h : x < y) : a + p * x < b + p * y := by
  have : p * (x + 1) ≤ p * y := Int.mul_le_mul_of_nonneg_left (by omega) (by omega)
  rw [Int.mul_add, Int.mul_one] at this
  omega
theorem ev_cmpL (a b : List Int) (ha : Dig a) (hb : Dig b) (hl : a.length = b.length) (hn : a.length < 1000000) : ∀ j : Nat, j ≤ a.length → a.drop j = b.drop j → Ev (fun k => smallbig_nat_cmp.l0 k a b ((j : Int) - 1)) (cmpV (nv a) (nv b)) := by
  intro j
  induction j with
  | zero =>
    intro _ he
    have e : a = b := by simpa using he
    subst e
    rw [cmpV_eq]
    refine Ev.step (fun k => ?_) (Ev.now _)
    rw [smallbig_nat_cmp.l0, if_neg (by omega)]
  | succ j ih =>
    intro hj he
    have ja : j < a.length := by omega
    have jb : j < b.length := by omega
    have e1 : rd a (((j + 1 : Nat) : Int) - 1) = a.getD j 0 := by simp [rd]
    have e2 : rd b (((j + 1 : Nat) : Int) - 1) = b.getD j 0 := by simp [rd]
    by_cases c : a.getD j 0 = b.getD j 0
    · have hd : a.drop j = b.drop j := by
        rw [List.drop_eq_getElem_cons ja, List.drop_eq_getElem_cons jb, he]
        congr 1
        simpa [List.getD_eq_getElem?_getD, List.getElem?_eq_getElem ja, List.getElem?_eq_getElem jb] using c
      refine Ev.step (fun k => ?_) (ih (by omega) hd)
      rw [smallbig_nat_cmp.l0, if_pos (by omega), if_pos (by omega), if_pos (by omega), if_pos (by omega), e1, e2, if_pos c, w64 (by omega) (by omega), show (((j + 1 : Nat) : Int) - 1) - 1 = (j : Int) - 1 by omega]
    · have hA := nv_at ja
      have hB := nv_at jb
      rw [he] at hA
      have ra := nv_range (l := a.take j) (fun d hd => ha d (List.mem_of_mem_take hd))
      have rb := nv_range (l := b.take j) (fun d hd => hb d (List.mem_of_mem_take hd))
      rw [List.length_take, Nat.min_eq_left (by omega)] at ra rb
      have hp := pow_pos2 (32 * j)
      refine Ev.step (fun k => ?_) (Ev.now _)
      rw [smallbig_nat_cmp.l0, if_pos (by omega), if_pos (by omega), if_pos (by omega), if_pos (by omega), e1, e2, if_neg c]
      by_cases c2 : a.getD j 0 < b.getD j 0
      · rw [if_pos c2, cmpV_lt]
        rw [hA, hB]
        exact mul_step hp ra.2 rb.1 (by omega)
      · rw [if_neg c2, cmpV_gt]
        rw [hA, hB]
        exact mul_step hp rb.2 ra.1 (by omega)
theorem ev_cmp (a b : List Int) (ha : Dig a) (hb : Dig b) (ta : Top a) (tb : Top b) (hn : a.length < 1000000) : Ev (fun k => smallbig_nat_cmp.f k a b) (cmpV (nv a) (nv b)) := by
  by_cases c : a.length = b.length
  · refine Ev.congr (fun k => ?_) (ev_cmpL a b ha hb c hn a.length (Nat.le_refl _) (by rw [List.drop_length, c, List.drop_length]))
    unfold smallbig_nat_cmp.f
    rw [if_pos (by omega), w64 (by omega) (by omega)]
  · refine Ev.congr (fun k => ?_) (Ev.now _)
    unfold smallbig_nat_cmp.f
    rw [if_neg (by omega)]
    by_cases c2 : a.length < b.length
    · rw [if_pos (by omega), cmpV_lt (nv_less ha hb tb c2)]
    · rw [if_neg (by omega), cmpV_gt (nv_less hb ha ta (by omega))]
theorem vB_less {a b : List Int} (ha : Bytes a) (hb : Bytes b) (lb : Lead b) (h : a.length < b.length) : vB a < vB b := by
  have h1 := (vB_range ha).2
  have h2 := lead_ge hb lb a.length h
  omega
theorem vB_at {l : List Int} {j : Nat} (h : j < l.length) : vB l = vB (l.take j) * 256 ^ (l.length - j) + (l.getD j 0 * 256 ^ (l.length - j - 1) + vB (l.drop (j + 1))) := by
  have e := vB_append (l.take j) (l.drop j)
  rw [List.take_append_drop, List.length_drop] at e
  rw [e, List.drop_eq_getElem_cons h, List.getD_eq_getElem?_getD, List.getElem?_eq_getElem h]
  have e2 := vB_append [l[j]] (l.drop (j + 1))
  rw [List.singleton_append] at e2
  rw [e2, List.length_drop, show l.length - (j + 1) = l.length - j - 1 by omega]
  simp [vB]
theorem mul_step2 {p a b x y : Int} (hp : 0 < p) (ha : a < p) (hb : 0 ≤ b) (h : x < y) : x * p + a < y * p + b := by
  have := mul_step hp ha hb h
  rw [Int.mul_comm x p, Int.mul_comm y p]; omega
theorem ev_cgL (a b : List Int) (ha : Bytes a) (hb : Bytes b) (hl : a.length = b.length) (hn : a.length < 1000000) : ∀ d i : Nat, i + d = a.length → a.take i = b.take i → Ev (fun k => spec_compareGreat.l0 k a b (i : Int)) (cmpV (vB a) (vB b)) := by
  intro d
  induction d with
  | zero =>
    intro i hi he
    have e : a = b := by
      rw [List.take_of_length_le (by omega), List.take_of_length_le (by omega)] at he
      exact he
    subst e
    rw [cmpV_eq]
    refine Ev.step (fun k => ?_) (Ev.now _)
    rw [spec_compareGreat.l0, if_neg (by omega)]
  | succ d ih =>
    intro i hi he
    have ja : i < a.length := by omega
    have jb : i < b.length := by omega
    have e1 : rd a (i : Int) = a.getD i 0 := by simp [rd]
    have e2 : rd b (i : Int) = b.getD i 0 := by simp [rd]
    by_cases c : a.getD i 0 = b.getD i 0
    · have hd : a.take (i + 1) = b.take (i + 1) := by
        rw [List.take_add_one, List.take_add_one, he, List.getElem?_eq_getElem ja, List.getElem?_eq_getElem jb]
        congr 2
        simpa [List.getD_eq_getElem?_getD, List.getElem?_eq_getElem ja, List.getElem?_eq_getElem jb] using c
      refine Ev.step (fun k => ?_) (ih (i + 1) (by omega) hd)
      rw [spec_compareGreat.l0, if_pos (by omega), if_pos (by omega), if_pos (by omega), e1, e2, if_pos c, w64 (by omega) (by omega)]
      rfl
    · have hA := vB_at ja
      have hB := vB_at jb
      rw [he, hl] at hA
      have ra := vB_range (b := a.drop (i + 1)) (fun d hd => ha d (List.mem_of_mem_drop hd))
      have rb := vB_range (b := b.drop (i + 1)) (fun d hd => hb d (List.mem_of_mem_drop hd))
      rw [List.length_drop] at ra rb
      rw [hl] at ra
      rw [show b.length - (i + 1) = b.length - i - 1 by omega] at ra rb
      have hp := pow_pos256 (b.length - i - 1)
      refine Ev.step (fun k => ?_) (Ev.now _)
      rw [spec_compareGreat.l0, if_pos (by omega), if_pos (by omega), if_pos (by omega), e1, e2, if_neg c]
      by_cases c2 : a.getD i 0 < b.getD i 0
      · rw [if_pos c2, cmpV_lt]
        rw [hA, hB]
        have := mul_step2 hp ra.2 rb.1 c2
        omega
      · rw [if_neg c2, cmpV_gt]
        rw [hA, hB]
        have := mul_step2 hp rb.2 ra.1 (show b.getD i 0 < a.getD i 0 by omega)
        omega
theorem ev_cg (a b : List Int) (ha : Bytes a) (hb : Bytes b) (hn : a.length < 1000000) (hm : b.length < 1000000) : Ev (fun k => spec_compareGreat.f k a b) (cmpV (vB a) (vB b)) := by
  rw [← trimL_vB a, ← trimL_vB b]
  have h := ev_trim a hn
  have h2 := ev_trim b hm
  have la := trimL_len a
  refine Ev.bind h (Ev.bind h2 ?_)
  by_cases c : (trimL a).length = (trimL b).length
  · refine Ev.congr (fun k => ?_) (ev_cgL (trimL a) (trimL b) (trimL_bytes ha) (trimL_bytes hb) c (by omega) (trimL a).length 0 (by omega) (by simp))
    rw [if_pos (by omega)]
    rfl
  · refine Ev.congr (fun k => ?_) (Ev.now _)
    rw [if_neg (by omega)]
    by_cases c2 : (trimL a).length < (trimL b).length
    · rw [if_pos (by omega), cmpV_lt (vB_less (trimL_bytes ha) (trimL_bytes hb) (trimL_lead b) c2)]
    · rw [if_neg (by omega), cmpV_gt (vB_less (trimL_bytes hb) (trimL_bytes ha) (trimL_lead a) (by omega))]
end Go.Proofs.Ytigpdgfhngknhaa.Big
/- The bytes of numbers, the lowest first. -/
namespace Go.Proofs.Ytigpdgfhngknhaa.QFnProofFault
open Go.RowKit Go.Proofs.YtigpdgfhngknhaaW.PrintWords Go.Proofs.YtigpdgfhngknhaaW.PrintLast Go.Proofs.YtigpdgfhngknhaaW.PrintMore
set_option linter.unusedVariables false
set_option linter.unusedSimpArgs false
/-- The k lowest bytes of a number, the lowest first. -/
def leB : Nat → Int → List Int
  | 0, _ => []
  | k + 1, n => n % 256 :: leB k (n / 256)
theorem leB_succ (k : Nat) (n : Int) : leB (k + 1) n = n % 256 :: leB k (n / 256) := rfl
theorem leB_zero (n : Int) : leB 0 n = [] := rfl
theorem leB_len : ∀ k n, (leB k n).length = k
  | 0, _ => rfl
  | k + 1, n => by show (leB k (n / 256)).length + 1 = _; rw [leB_len k]
theorem u64wr {x : Int} (h0 : 0 ≤ x) (h1 : x < 18446744073709551616) : IntKind.u64.wrap x = x := by
  simp [IntKind.wrap, IntKind.signed, IntKind.bits]; omega
theorem leB_snoc : ∀ k n, leB k n ++ [n / 256 ^ k % 256] = leB (k + 1) n
  | 0, n => by simp [leB]
  | k + 1, n => by
    show n % 256 :: (leB k (n / 256) ++ [n / 256 ^ (k + 1) % 256]) = n % 256 :: leB (k + 1) (n / 256)
    rw [← leB_snoc k (n / 256), Int.pow_succ', Int.ediv_ediv_of_nonneg (by decide)]
theorem ev_little (n : Int) (m : Nat) (h0 : 0 ≤ n) (h1 : n < 18446744073709551616) (hm : m ≤ 100) : Ev (fun k => spec_little.f k n (m : Int)) (leB m n) := by
  have key : ∀ d (i : Nat) (x : Int) (acc : List Int), i + d = m → 0 ≤ x → x < 18446744073709551616 → acc.length ≤ i → Ev (fun k => spec_little.l0 k x acc (m : Int) (i : Int)) (acc ++ leB d x) := by
    intro d
    induction d with
    | zero =>
      intro i x acc hi x0 x1 ha
      rw [leB_zero, List.append_nil]
      refine Ev.step (f := fun _ => some acc) (fun k => ?_) (Ev.now _)
      rw [spec_little.l0, if_neg (by omega)]
    | succ d ih =>
      intro i x acc hi x0 x1 ha
      have c1 : (i : Int) < (m : Int) := by omega
      have c2 : acc.length < 140737488355328 := by omega
      have y0 : 0 ≤ x / 256 := by omega
      have y1 : x / 256 < 18446744073709551616 := by omega
      have ha2 : (acc ++ [x % 256]).length ≤ i + 1 := by rw [List.length_append]; simp; omega
      have hi2 : i + 1 + d = m := by omega
      have e1 : Int.tdiv x 256 = x / 256 := Int.tdiv_eq_ediv_of_nonneg x0
      have e2 : Int.tmod x 256 = x % 256 := Int.tmod_eq_emod_of_nonneg x0
      have e3 : x % 256 % 256 = x % 256 := Int.emod_emod_of_dvd _ (Int.dvd_refl _)
      have e4 : IntKind.u64.wrap (x / 256) = x / 256 := u64wr y0 y1
      have e5 : wrap64 ((i : Int) + 1) = ((i + 1 : Nat) : Int) := by unfold wrap64; omega
      have h := ih (i + 1) (x / 256) (acc ++ [x % 256]) hi2 y0 y1 ha2
      have e6 : acc ++ leB (d + 1) x = (acc ++ [x % 256]) ++ leB d (x / 256) := by rw [leB_succ, List.append_assoc, List.singleton_append]
      rw [e6]
      refine Ev.step (f := fun k => spec_little.l0 k (x / 256) (acc ++ [x % 256]) (m : Int) ((i + 1 : Nat) : Int)) (fun k => ?_) h
      rw [spec_little.l0, if_pos c1, if_pos c2, e1, e2, e3, e4, e5]
  have h := key m 0 n [] (by omega) h0 h1 (by simp)
  rw [List.nil_append] at h
  exact Ev.congr (fun k => by unfold spec_little.f; rfl) h
end Go.Proofs.Ytigpdgfhngknhaa.QFnProofFault
/- The reference's bytes of a header, and its name. -/
namespace Go.Proofs.Ytigpdgfhngknhaa.Snk
open Go.RowKit Go.Proofs.YtigpdgfhngknhaaW.PrintWords Go.Proofs.YtigpdgfhngknhaaW.PrintLast Go.Proofs.YtigpdgfhngknhaaW.PrintMore Go.Proofs.Ytigpdgfhngknhaa.QFnProofFault
set_option linter.unusedVariables false
set_option linter.unusedSimpArgs false
theorem leB4 (v : Int) : leB 4 v = le4 v := by
  unfold le4 leB leB leB leB leB
  rw [Int.ediv_ediv_of_nonneg (by decide), Int.ediv_ediv_of_nonneg (by decide)]
  rfl
theorem little4 (v : Int) (h0 : 0 ≤ v) (h1 : v < 4294967296) : ∃ k, spec_little.f k v 4 = some (le4 v) := by
  have h := ev_little v 4 h0 (by omega) (by decide)
  rw [leB4] at h
  exact h.rounds
theorem infoB8 : (Try.prog.info? 5).map (fun i => (i.zero, i.size, i.bytes)) = some (some (.int .u8 0), 1, 1) := by kernel_rfl
theorem reads_C {w : World} {A : Option Addr} {n : Nat} {xs : List Int} (h : ReadsInt w .u8 A n xs) : Kd.C (Kd.int .u8) w A n xs := Kd.C_of_reads (readsInt_of.1 h)
theorem row_formS {e base : Nat} {w : World} {v : Value} {xs : List Int} (h : Kd.R (Kd.int .u8) e w base (fun _ => True) v xs) : ∃ A c, v = .slice A xs.length c := by
  obtain ⟨A, c, e⟩ := Kd.R_slice h
  exact ⟨A, c, e⟩
theorem below_trS {w w1 w2 : World} (h : Below w.heap.size w w1) (k : Below w1.heap.size w1 w2) : Below w.heap.size w w2 :=
  h.trans ⟨k.os, k.tape, k.output, k.size, fun i hi => k.block i (Nat.lt_of_lt_of_le hi h.size)⟩
set_option maxRecDepth 100000 in
set_option maxHeartbeats 8000000 in
theorem headerBytesC (h : HdV) (ho : h.ok) (w : World) : Calls Try.prog 16 #[.agg (hdC .u32 h).toArray] w fun e w' => ∃ v, e = .returned v ∧ Kd.R (Kd.int .u8) 5 w' w.heap.size (fun _ => True) v h.bytes ∧ Below w.heap.size w w' := by
  have HO := Aside0.mk ho
  obtain ⟨cs, hcs⟩ : ∃ c, hdC .u32 h = c := ⟨_, rfl⟩
  have HCS := Aside0.mk hcs
  rw [hcs]
  obtain ⟨k1, hk1⟩ := little4 (h.v % 4294967296) (by omega) (by omega)
  obtain ⟨k2, hk2⟩ := little4 h.t ho.t0 ho.t1
  obtain ⟨k3, hk3⟩ := little4 h.b ho.b0 ho.b1
  obtain ⟨k4, hk4⟩ := little4 h.n ho.n0 ho.n1
  have HK1 := Aside0.mk hk1
  have HK2 := Aside0.mk hk2
  have HK3 := Aside0.mk hk3
  have HK4 := Aside0.mk hk4
  have hu1 : IntKind.u64.wrap (IntKind.u32.wrap h.v) = h.v % 4294967296 := by simp [IntKind.wrap, IntKind.signed, IntKind.bits]; omega
  have hu2 : IntKind.u64.wrap h.t = h.t := by have h1 := ho.t0; have h2 := ho.t1; simp [IntKind.wrap, IntKind.signed, IntKind.bits]; omega
  have hu3 : IntKind.u64.wrap h.b = h.b := by have h1 := ho.b0; have h2 := ho.b1; simp [IntKind.wrap, IntKind.signed, IntKind.bits]; omega
  have hu4 : IntKind.u64.wrap h.n = h.n := by have h1 := ho.n0; have h2 := ho.n1; simp [IntKind.wrap, IntKind.signed, IntKind.bits]; omega
  have U1 := Aside0.mk hu1
  have U2 := Aside0.mk hu2
  have U3 := Aside0.mk hu3
  have U4 := Aside0.mk hu4
  clear ho hcs hk1 hk2 hk3 hk4 hu1 hu2 hu3 hu4
  go_enter Try.func16, Try.ntmps16
  go_upto_region 1 with fail
  obtain ⟨g, hg⟩ : ∃ g, w.heap.size = g := ⟨_, rfl⟩
  have HG := Aside0.mk hg
  rw [hg]
  generalize hw1 : World.alloc _ _ = w1
  have HB1 : Aside0 (Below w.heap.size w w1) := ⟨by rw [← hw1]; exact below_alloc (Below.refl _ _) _⟩
  have HR1 : Aside0 (w1.heap[g]? = some (.cells (hdC .u32 h ++ []).toArray 25 (0, 0))) := ⟨by rw [← hw1, ← hg, List.append_nil, HCS.out]; exact heap_alloc_new w _⟩
  have HBk : Aside0 (∀ W, Below w1.heap.size w1 W → W.heap[g]? = some (.cells (hdC .u32 h ++ []).toArray 25 (0, 0))) := ⟨fun W hW => (hW.block g (blk_lt' HR1.out)).trans HR1.out⟩
  have HX0 := Aside0.mk (Below.refl w1.heap.size w1)
  clear hw1 hg
  have zc := (cell_of (HBk.out w1 HX0.out) (j := 0) (v := .int .i32 h.v) (by rw [List.getElem?_toArray]; exact rfl))
  go_upto_region 2 with (go_at_call 24; (try rw [U1.out]); (with_reducible refine (spec_little.calls k1 (h.v % 4294967296) 4 _ w1 HK1.out).mono ?_); rintro e v1 ⟨s1, rfl, q1, q2⟩; have HS1 := Aside0.mk q1; have HY1 := Aside0.mk q2; clear q1 q2)
  clear zc
  have HX1 := Aside0.mk HY1.out
  have HC2 : Aside0 (Kd.C (Kd.int .u8) v1 (some ⟨g, 1, none⟩) 32 h.p) := ⟨reads_C ⟨HO.out.p, by decide, fun _ => ⟨_, rfl, fun j hj => by rw [add_any]; exact cell_of (HBk.out v1 HX1.out) (by rw [List.getElem?_toArray]; exact hdC_p .u32 HO.out [] j hj)⟩⟩⟩
  go_upto_region 3 with ((with_reducible refine gate_builtin (b := .append) (xs := #[.tmp 9, .tmp 11]) rfl ?_); at_builtin; refine Kd.R_append_rows (Kd.int .u8) (w0 := w1) w1.heap.size rfl (.tmp 9) (.tmp 11) 26 5 (.int .u8 0) 1 rfl Try.underlying26 infoB8 rfl (by decide) (by decide) s1 (le4 (h.v % 4294967296)) (h.p) _ _ _ (fun _ => True) (fun _ => False) rfl rfl HS1.out (HC2.out) (fun _ _ h => h) (fun _ h => h.elim) (fun _ _ => trivial) HX1.out HX1.out.size (by have h1 := HO.out.p; have h2 := HO.out.r; (try simp only [List.length_append, le4_len]); omega) ?_; intro s2 v2 ho hb hg hat; have HS2 := Aside0.mk ho; have HX2 := Aside0.mk hb; clear ho hb hg hat)
  have HC3 : Aside0 (Kd.C (Kd.int .u8) v2 (some ⟨g, 33, none⟩) 32 h.r) := ⟨reads_C ⟨HO.out.r, by decide, fun _ => ⟨_, rfl, fun j hj => by rw [add_any]; exact cell_of (HBk.out v2 HX2.out) (by rw [List.getElem?_toArray]; exact hdC_r .u32 HO.out [] j hj)⟩⟩⟩
  go_upto_region 4 with ((with_reducible refine gate_builtin (b := .append) (xs := #[.tmp 13, .tmp 15]) rfl ?_); at_builtin; refine Kd.R_append_rows (Kd.int .u8) (w0 := w1) w1.heap.size rfl (.tmp 13) (.tmp 15) 26 5 (.int .u8 0) 1 rfl Try.underlying26 infoB8 rfl (by decide) (by decide) s2 ((le4 (h.v % 4294967296)) ++ h.p) (h.r) _ _ _ (fun _ => True) (fun _ => False) rfl rfl HS2.out (HC3.out) (fun _ _ h => h) (fun _ h => h.elim) (fun _ _ => trivial) HX2.out HX2.out.size (by have h1 := HO.out.p; have h2 := HO.out.r; (try simp only [List.length_append, le4_len]); omega) ?_; intro s3 v3 ho hb hg hat; have HS3 := Aside0.mk ho; have HX3 := Aside0.mk hb; clear ho hb hg hat)
  have zc := (cell_of (HBk.out v3 HX3.out) (j := 65) (v := .int .u32 h.t) (by rw [List.getElem?_toArray]; exact (hdC_tail .u32 HO.out [] 0)))
  go_upto_region 5 with (first
    | (go_at_call 24; (try rw [U2.out]); (with_reducible refine (spec_little.calls k2 h.t 4 _ v3 HK2.out).mono ?_); rintro e v4 ⟨s4, rfl, q1, q2⟩; have HQ4 := Aside0.mk q1; have HX4 := Aside0.mk (Below.trans HX3.out ⟨q2.os, q2.tape, q2.output, q2.size, fun k hk => q2.block k (Nat.lt_of_lt_of_le hk HX3.out.size)⟩); have HS4 := Aside0.mk (Kd.R_below HS3.out q2); (obtain ⟨A4, c4, e4⟩ := row_formS q1); subst e4; have HC4 := Aside0.mk (Kd.R_reads' q1).2.2; clear q1 q2)
    | ((with_reducible refine gate_builtin (b := .append) (xs := #[.tmp 17, .tmp 21]) rfl ?_); at_builtin; refine Kd.R_append_rows (Kd.int .u8) (w0 := w1) w1.heap.size rfl (.tmp 17) (.tmp 21) 26 5 (.int .u8 0) 1 rfl Try.underlying26 infoB8 rfl (by decide) (by decide) s3 (((le4 (h.v % 4294967296)) ++ h.p) ++ h.r) (le4 h.t) _ _ _ (fun _ => True) (fun _ => False) rfl rfl HS4.out (HC4.out) (fun _ _ h => h) (fun _ h => h.elim) (fun _ _ => trivial) HX4.out HX4.out.size (by have h1 := HO.out.p; have h2 := HO.out.r; (try simp only [List.length_append, le4_len]); omega) ?_; intro s5 v5 ho hb hg hat; have HS5 := Aside0.mk ho; have HX5 := Aside0.mk hb; clear ho hb hg hat))
  clear zc
  have zc := (cell_of (HBk.out v5 HX5.out) (j := 66) (v := .int .u32 h.b) (by rw [List.getElem?_toArray]; exact (hdC_tail .u32 HO.out [] 1)))
  go_upto_region 6 with (first
    | (go_at_call 24; (try rw [U3.out]); (with_reducible refine (spec_little.calls k3 h.b 4 _ v5 HK3.out).mono ?_); rintro e v6 ⟨s6, rfl, q1, q2⟩; have HQ6 := Aside0.mk q1; have HX6 := Aside0.mk (Below.trans HX5.out ⟨q2.os, q2.tape, q2.output, q2.size, fun k hk => q2.block k (Nat.lt_of_lt_of_le hk HX5.out.size)⟩); have HS6 := Aside0.mk (Kd.R_below HS5.out q2); (obtain ⟨A6, c6, e6⟩ := row_formS q1); subst e6; have HC6 := Aside0.mk (Kd.R_reads' q1).2.2; clear q1 q2)
    | ((with_reducible refine gate_builtin (b := .append) (xs := #[.tmp 23, .tmp 27]) rfl ?_); at_builtin; refine Kd.R_append_rows (Kd.int .u8) (w0 := w1) w1.heap.size rfl (.tmp 23) (.tmp 27) 26 5 (.int .u8 0) 1 rfl Try.underlying26 infoB8 rfl (by decide) (by decide) s5 ((((le4 (h.v % 4294967296)) ++ h.p) ++ h.r) ++ le4 h.t) (le4 h.b) _ _ _ (fun _ => True) (fun _ => False) rfl rfl HS6.out (HC6.out) (fun _ _ h => h) (fun _ h => h.elim) (fun _ _ => trivial) HX6.out HX6.out.size (by have h1 := HO.out.p; have h2 := HO.out.r; (try simp only [List.length_append, le4_len]); omega) ?_; intro s7 v7 ho hb hg hat; have HS7 := Aside0.mk ho; have HX7 := Aside0.mk hb; clear ho hb hg hat))
  clear zc
  have zc := (cell_of (HBk.out v7 HX7.out) (j := 67) (v := .int .u32 h.n) (by rw [List.getElem?_toArray]; exact (hdC_tail .u32 HO.out [] 2)))
  go_wp2_with (first
    | (go_at_call 24; (try rw [U4.out]); (with_reducible refine (spec_little.calls k4 h.n 4 _ v7 HK4.out).mono ?_); rintro e v8 ⟨s8, rfl, q1, q2⟩; have HQ8 := Aside0.mk q1; have HX8 := Aside0.mk (Below.trans HX7.out ⟨q2.os, q2.tape, q2.output, q2.size, fun k hk => q2.block k (Nat.lt_of_lt_of_le hk HX7.out.size)⟩); have HS8 := Aside0.mk (Kd.R_below HS7.out q2); (obtain ⟨A8, c8, e8⟩ := row_formS q1); subst e8; have HC8 := Aside0.mk (Kd.R_reads' q1).2.2; clear q1 q2)
    | ((with_reducible refine gate_builtin (b := .append) (xs := #[.tmp 29, .tmp 33]) rfl ?_); at_builtin; refine Kd.R_append_rows (Kd.int .u8) (w0 := w1) w1.heap.size rfl (.tmp 29) (.tmp 33) 26 5 (.int .u8 0) 1 rfl Try.underlying26 infoB8 rfl (by decide) (by decide) s7 (((((le4 (h.v % 4294967296)) ++ h.p) ++ h.r) ++ le4 h.t) ++ le4 h.b) (le4 h.n) _ _ _ (fun _ => True) (fun _ => False) rfl rfl HS8.out (HC8.out) (fun _ _ h => h) (fun _ h => h.elim) (fun _ _ => trivial) HX8.out HX8.out.size (by have h1 := HO.out.p; have h2 := HO.out.r; (try simp only [List.length_append, le4_len]); omega) ?_; intro s9 v9 ho hb hg hat; have HS9 := Aside0.mk ho; have HX9 := Aside0.mk hb; clear ho hb hg hat))
  clear zc
  go_ret
  refine ⟨_, rfl, ?_, below_trS HB1.out HX9.out⟩
  have hfin := HS9.out
  unfold HdV.bytes
  simp only [List.append_assoc] at hfin
  exact Kd.R_lower hfin HB1.out.size
end Go.Proofs.Ytigpdgfhngknhaa.Snk
/- The reference's name of a header. -/
namespace Go.Proofs.Ytigpdgfhngknhaa.Snk
open Go.RowKit Go.Proofs.YtigpdgfhngknhaaW.PrintWords Go.Proofs.YtigpdgfhngknhaaW.PrintLast Go.Proofs.YtigpdgfhngknhaaW.PrintMore Go.Proofs.Ytigpdgfhngknhaa.QFnProofFault
set_option linter.unusedVariables false
set_option linter.unusedSimpArgs false
/-- impl.Hash, as a function value. -/
def hashF : Value := .func (.func 8) #[] #[]
theorem reads_R {e base : Nat} {ok : Nat → Prop} {w : World} {A : Option Addr} {n c : Nat} {xs : List Int} (h : Kd.R (Kd.int .u8) e w base ok (.slice A n c) xs) : n = xs.length ∧ n ≤ c ∧ ReadsInt w .u8 A xs.length xs := by
  have h3 := Kd.R_reads' h
  exact ⟨h3.1, h3.2.1, readsInt_of.2 (Kd.reads_of_C (d := (0 : Int)) h3.2.2)⟩
set_option maxRecDepth 100000 in
set_option maxHeartbeats 4000000 in
theorem blockIDC (h : HdV) (ho : h.ok) (kl : List Int) (w : World) (hk : Sha.KRow w kl) : Calls Try.prog 7 #[hashF, .agg (hdC .u32 h).toArray] w fun e w' => e = .returned (.agg (byteC (Sha.shaD kl h.bytes)).toArray) ∧ Below w.heap.size w w' := by
  have HO := Aside0.mk ho
  have HK := Aside0.mk hk
  have HL := Aside0.mk (Sha.shaD_len kl h.bytes)
  have HN := Aside0.mk (HdV.bytes_len ho)
  have HH : Aside0 (∀ w1, Calls Try.prog 16 #[.agg (hdC .u32 h).toArray] w1 fun e w' => ∃ v, e = .returned v ∧ Kd.R (Kd.int .u8) 5 w' w1.heap.size (fun _ => True) v h.bytes ∧ Below w1.heap.size w1 w') := ⟨fun w1 => headerBytesC h ho w1⟩
  have HX : Aside0 (∀ (A : Option Addr) (c : Nat) w1, Below w.heap.size w w1 → ReadsInt w1 .u8 A h.bytes.length h.bytes → h.bytes.length ≤ c → Calls Try.prog 8 #[.slice A h.bytes.length c] w1 fun e w' => e = .returned (.agg (byteC (Sha.shaD kl h.bytes)).toArray) ∧ Below w1.heap.size w1 w') := ⟨fun A c w1 hb hr hc => Sha.hashC A c h.bytes kl w1 hr hc (by rw [HdV.bytes_len ho]; decide) (hk.below hb)⟩
  have hlen : (hdC .u32 h).length = 68 := hdC_len _ ho
  obtain ⟨hl, hhl⟩ : ∃ x, Sha.shaD kl h.bytes = x := ⟨_, rfl⟩
  obtain ⟨cs, hcs⟩ : ∃ c, hdC .u32 h = c := ⟨_, rfl⟩
  rw [hcs] at HH hlen ⊢
  rw [hhl] at HX HL ⊢
  have HLEN := Aside0.mk hlen
  obtain ⟨bs, hbs⟩ : ∃ b, h.bytes = b := ⟨_, rfl⟩
  rw [hbs] at HH HX HN
  clear ho hk hlen hhl hcs hbs
  unfold hashF
  go_enter Try.func7, Try.ntmps7
  go_upto_region 1 with fail
  generalize hw1 : World.alloc (World.alloc _ _) _ = w1
  have HB1 : Aside0 (Below w.heap.size w w1) := ⟨by rw [← hw1]; exact below_alloc (below_alloc (Below.refl _ _) _) _⟩
  have HI1 : Aside0 (w1.heap[w.heap.size]? = some (.cells cs.toArray 25 (0, 0))) := ⟨by rw [← hw1]; exact heap_alloc_lt (heap_alloc_new w _) _⟩
  have HR1 : Aside0 (w1.heap[w.heap.size + 1]? = some (.cells (byteC (List.replicate 32 0)).toArray 22 (0, 0))) := ⟨by
    rw [← hw1]
    have hh := heap_alloc_new (w.alloc (.cells cs.toArray 25)) (.cells (byteC (List.replicate 32 0)).toArray 22)
    rw [show (w.alloc (.cells cs.toArray 25)).heap.size = w.heap.size + 1 by simp] at hh
    exact hh⟩
  clear hw1
  go_wp2_with (first
    | ((with_reducible refine at_dst (N := 6) rfl ?_); refine wpList_load_at rfl 25 (.tmp 3) rfl ⟨w.heap.size, 0, none⟩ rfl cs _ (cells_row (o := 0) HI1.out (fun j hj => by rw [Nat.zero_add])) Try.underlying25 rfl (by rw [HLEN.out]; exact size_in) ?_)
    | (go_at_call 16; (with_reducible refine (HH.out w1).mono ?_); rintro e w2 ⟨v, rfl, k1, k2⟩; (obtain ⟨A, c, ev⟩ := row_formS k1); subst ev; have hr := reads_R k1; have HB2 := Aside0.mk k2; have HB12 := Aside0.mk (below_trS HB1.out k2); have HC3 := Aside0.mk (HX.out A c w2 HB12.out hr.2.2 hr.2.1); have HR2 := Aside0.mk ((k2.block _ (blk_lt' HR1.out)).trans HR1.out); clear k1 k2 hr)
    | (refine valL_ (some 8) rfl rfl (.tmp 5) rfl 8 #[] #[] rfl Try.func8 rfl rfl #[.slice A bs.length c] (by simp only [List.map_toArray, List.map_cons, List.map_nil]; rfl) ?_; (with_reducible refine HC3.out.mono ?_); rintro e w3 ⟨rfl, k1⟩; refine ⟨_, rfl, ?_⟩; have HB3 := Aside0.mk k1; have HR3 := Aside0.mk ((k1.block _ (blk_lt' HR2.out)).trans HR2.out); clear k1)
    | (go_at_call 8; (with_reducible refine HC3.out.mono ?_); rintro e w3 ⟨rfl, k1⟩; have HB3 := Aside0.mk k1; have HR3 := Aside0.mk ((k1.block _ (blk_lt' HR2.out)).trans HR2.out); clear k1)
    | (refine wpList_store_row rfl 22 (.tmp 4) (.tmp 8) rfl (w.heap.size + 1) (byteC hl).toArray rfl rfl 22 _ HR3.out (Sha.row32_info _ HL.out) (Sha.row_size _ HL.out) (Sha.byteC_one _) ?_))
  refine bodyPost_ret_by (results_cell_row rfl _ _ (w.heap.size + 1) 22 _ (0, 0) _ (by rfl) (setRow_heap _ _ _ _ _ _ HR3.out) Try.underlying22 rfl (Sha.row32_info _ HL.out)) rfl ⟨rfl, Sha.below_setRow _ (Sha.below_tr HB12.out HB3.out) (Nat.le_succ _)⟩
end Go.Proofs.Ytigpdgfhngknhaa.Snk
/- The law FnProofFault's walk. -/
namespace Go.Proofs.Ytigpdgfhngknhaa.Pf
open Go.RowKit Go.Proofs.YtigpdgfhngknhaaW.PrintWords Go.Proofs.YtigpdgfhngknhaaW.PrintLast Go.Proofs.YtigpdgfhngknhaaW.PrintMore Go.Proofs.Ytigpdgfhngknhaa.QFnProofFault Go.Proofs.Ytigpdgfhngknhaa.Snk
set_option linter.unusedVariables false
set_option linter.unusedSimpArgs false
theorem reads_V {w : World} {e base : Nat} {A : Option Addr} {c : Nat} {xs : List Int} (h : ReadsInt w .u8 A xs.length xs) (hc : xs.length ≤ c) : Kd.V (Kd.int .u8) e w base (fun k => k < w.heap.size) (.slice A xs.length c) xs := by
  refine Kd.V_mk hc (fun W' hW => ?_)
  refine Kd.C_of_reads (enc := Value.int .u8) (d := 0) ⟨rfl, h.2.1, fun hn => ?_⟩
  obtain ⟨ad, e1, hcell⟩ := h.2.2 hn
  refine ⟨ad, e1, fun j hj => ?_⟩
  have h1 := hcell j hj
  have hlt := World.block_lt_of_cell? w _ h1
  exact (World.cell?_of_block (w := w) (hW _ hlt hlt)).trans h1
set_option maxRecDepth 100000 in
set_option maxHeartbeats 4000000 in
theorem implC (h : HdV) (ho : h.ok) (kl : List Int) (A : Option Addr) (cc : Nat) (ls : List Int) (w : World) (hk : Sha.KRow w kl) (hls : ReadsInt w .u8 A ls.length ls) (hc : ls.length ≤ cc) (hb : Big.Bytes ls) (hn : ls.length ≤ 1000000)
    (k0 : Nat) (ll : List Int) (h0 : smallbig_nat_norm.f k0 (Big.dg (Big.vB ls) ((ls.length + 3) / 4)) = some ll) (neg : Bool) (lt : List Int) (hC : Big.Compacts h.b neg lt)
    (k1 : Nat) (r1 : Int) (h1 : smallbig_nat_cmp.f k1 lt ll = some r1) (k2 : Nat) (lh : List Int) (h2 : smallbig_nat_norm.f k2 (Big.dg (Big.vB (Sha.shaD kl h.bytes).reverse) 8) = some lh) (k3 : Nat) (r3 : Int) (h3 : smallbig_nat_cmp.f k3 lh lt = some r3) :
    Calls Try.prog 5 #[.agg (hdC .u32 h).toArray, .slice A ls.length cc] w fun e w' => e = .returned (.int .i64 (codeOf neg lt r1 r3)) ∧ Below w.heap.size w w' := by
  have HO := Aside0.mk ho
  have HK := Aside0.mk hk
  have HLEN := Aside0.mk (hdC_len .u32 ho)
  have HBB := Aside0.mk (build_blk ho)
  have HU := Aside0.mk (fun w1 => utilBlockC h ho w1)
  have HNU : Aside0 (∀ w1, Below w.heap.size w w1 → Calls Try.prog 12 #[.slice A ls.length cc] w1 fun e w' => e = .returned (.pointer (some ⟨w1.heap.size, 0, none⟩)) ∧ Big.Is w' w1.heap.size (· ≠ w1.heap.size) false ll ∧ Below w1.heap.size w1 w') := ⟨fun w1 hbl => Big.numberC k0 _ _ ls ll w1 0 (fun k hk => hk) (reads_V (hls.below hbl) hc) hb hn h0⟩
  have HP : Aside0 (∀ gu gm gl w1, w1.cell? ⟨gu, 0, none⟩ = some (.pointer (some ⟨gm, 0, none⟩)) → HdAt w1 gm h → Sha.KRow w1 kl → Big.Is w1 gl (· ≠ gl) false ll → Calls Try.prog 10 #[.pointer (some ⟨gu, 0, none⟩), .pointer (some ⟨gl, 0, none⟩)] w1 fun e w' => ∃ v, e = .returned v ∧ ErrV (codeOf neg lt r1 r3) v ∧ Below w1.heap.size w1 w') := ⟨fun gu gm gl w1 a1 a2 a3 a4 => checkC gu gm gl w1 a1 _ (powC gm gl h ho kl w1 a2 a3 _ ll a4 neg lt hC k1 r1 h1 k2 lh h2 k3 r3 h3)⟩
  obtain ⟨cs, hcs⟩ : ∃ c, hdC .u32 h = c := ⟨_, rfl⟩
  obtain ⟨code, hcode⟩ : ∃ c, codeOf neg lt r1 r3 = c := ⟨_, rfl⟩
  rw [hcode] at HP ⊢
  have HCS := Aside0.mk hcs
  rw [hcs] at HLEN HBB HU ⊢
  obtain ⟨n, hln⟩ : ∃ n, ls.length = n := ⟨_, rfl⟩
  rw [hln] at HNU ⊢
  clear ho hk hls hc hb hn h0 hC h1 h2 h3 hcs hcode hln
  go_enter Try.func5, Try.ntmps5
  go_upto_region 1 with fail
  obtain ⟨g, hg⟩ : ∃ g, w.heap.size = g := ⟨_, rfl⟩
  rw [hg]
  generalize hw1 : World.alloc _ _ = w1
  have HB1 : Aside0 (Below w.heap.size w w1) := ⟨by rw [← hw1]; exact below_alloc (Below.refl _ _) _⟩
  have HR1 : Aside0 (w1.heap[g]? = some (.cells cs.toArray 25 (0, 0))) := ⟨by rw [← hw1, ← hg]; exact heap_alloc_new w _⟩
  clear hw1 hg
  go_wp2_with (first
    | ((with_reducible refine at_dst (N := 5) rfl ?_); refine wpList_load_at rfl 25 (.tmp 2) rfl ⟨g, 0, none⟩ rfl cs _ (cells_row (o := 0) HR1.out (fun j hj => by rw [Nat.zero_add])) Try.underlying25 rfl (by rw [HLEN.out]; exact size_in) ?_)
    | ((with_reducible refine at_dst (N := 6) rfl ?_); refine wpList_run rfl _ (run_built 41 #[(0, .tmp 5)] rfl [(0, .agg cs.toArray)] (by simp only [List.map_toArray, List.map_cons, List.map_nil]; rfl) _ HBB.out) ?_)
    | (go_at_call 11; (with_reducible refine (HU.out w1).mono ?_); rintro e w2 ⟨gu, gm, rfl, q1, q2, q3⟩; have HU1 := Aside0.mk q1; have HD2 := Aside0.mk q2; have HB2 := Aside0.mk q3; clear q1 q2 q3)
    | (go_at_call 12; (with_reducible refine (HNU.out w2 (below_tr HB1.out HB2.out)).mono ?_); rintro e w3 ⟨rfl, q1, q2⟩; have HI3 := Aside0.mk q1; have HB3 := Aside0.mk q2; have HP4 := Aside0.mk (HP.out gu gm w2.heap.size w3 (pw_cell_below q2 HU1.out) (HD2.out.below q2) (HK.out.below (below_tr (below_tr HB1.out HB2.out) q2)) q1); clear q1 q2)
    | (go_at_call 10; (with_reducible refine HP4.out.mono ?_); rintro e w4 ⟨v, rfl, q1, q2⟩; have HE4 := Aside0.mk q1; have HB4 := Aside0.mk q2; clear q1 q2)
    | (go_at_call 9; (with_reducible refine (faultC code v HE4.out w4).mono ?_); rintro e w5 ⟨rfl, q1⟩; have HB5 := Aside0.mk q1; clear q1))
  go_ret
  exact ⟨rfl, below_tr (below_tr (below_tr (below_tr HB1.out HB2.out) HB3.out) HB4.out) HB5.out⟩
/-- What the reference tells. -/
def specCode (bel : Bool) (t : List Int) (rl rh : Int) : Int := if bel = true then 8 else if t.length = 0 then 8 else if rl > 0 then 8 else if rh > 0 then 9 else 0
set_option maxRecDepth 100000 in
set_option maxHeartbeats 8000000 in
theorem specC (xs : List Int) (hl : xs.length = 32) (c : Int) (A : Option Addr) (cc : Nat) (ls : List Int) (w : World) (hls : ReadsInt w .u8 A ls.length ls) (hc : ls.length ≤ cc)
    (kT : Nat) (t : List Int) (bel : Bool) (hT : spec_Target.f kT c = some (t, bel)) (kl : Nat) (rl : Int) (hrl : spec_compareGreat.f kl t ls = some rl) (kn : Nat) (hn : List Int) (hhn : spec_trim.f kn xs.reverse = some hn) (kr : Nat) (rh : Int) (hrh : spec_compareGreat.f kr hn t = some rh) :
    Calls Try.prog 6 #[.agg (byteC xs).toArray, .int .u32 c, .slice A ls.length cc] w fun e w' => e = .returned (.int .i64 (specCode bel t rl rh)) ∧ Below w.heap.size w w' := by
  have HLL : Aside0 ((byteC xs).length = 32) := ⟨by rw [byteC_len, hl]⟩
  obtain ⟨cs, hcs⟩ : ∃ c, byteC xs = c := ⟨_, rfl⟩
  have HTG := Aside0.mk (fun w1 => spec_Target.calls kT c t bel w1 hT)
  have HCL : Aside0 (∀ A1 c1 w1, Below w.heap.size w w1 → Kd.C (Kd.int .u8) w1 A1 t.length t → t.length ≤ c1 → Calls Try.prog 14 #[.slice A1 t.length c1, .slice A ls.length cc] w1 fun e w' => e = .returned (.int .i64 rl) ∧ Below w1.heap.size w1 w') := ⟨fun A1 c1 w1 hb h1 h2 => spec_compareGreat.calls kl A1 c1 t A cc ls rl w1 h1 h2 (reads_C (hls.below hb)) hc hrl⟩
  have HCH : Aside0 (∀ A1 c1 A2 c2 w1, Kd.C (Kd.int .u8) w1 A1 hn.length hn → hn.length ≤ c1 → Kd.C (Kd.int .u8) w1 A2 t.length t → t.length ≤ c2 → Calls Try.prog 14 #[.slice A1 hn.length c1, .slice A2 t.length c2] w1 fun e w' => e = .returned (.int .i64 rh) ∧ Below w1.heap.size w1 w') := ⟨fun A1 c1 A2 c2 w1 h1 h2 h3 h4 => spec_compareGreat.calls kr A1 c1 hn A2 c2 t rh w1 h1 h2 h3 h4 hrh⟩
  have HHN : Aside0 (∀ w1, Calls Try.prog 15 #[.agg cs.toArray] w1 fun e w' => ∃ v, e = .returned v ∧ Kd.R (Kd.int .u8) 5 w' w1.heap.size (fun k => w1.heap.size ≤ k) v hn ∧ Below w1.heap.size w1 w') := ⟨fun w1 => Big.specHash2 xs hl kn hn hhn w1 cs.toArray (by rw [← hcs]; rfl)⟩
  rw [hcs] at HLL ⊢
  obtain ⟨n, hln⟩ : ∃ n, ls.length = n := ⟨_, rfl⟩
  rw [hln] at HCL ⊢
  have HCD : Aside0 (specCode bel t rl rh = specCode bel t rl rh) := ⟨rfl⟩
  clear hls hc hT hrl hhn hrh hcs hln hl
  go_enter Try.func6, Try.ntmps6
  go_upto_region 1 with fail
  obtain ⟨g, hg⟩ : ∃ g, w.heap.size = g := ⟨_, rfl⟩
  rw [hg]
  generalize hw1 : World.alloc _ _ = w1
  have HB1 : Aside0 (Below w.heap.size w w1) := ⟨by rw [← hw1]; exact below_alloc (Below.refl _ _) _⟩
  have HR1 : Aside0 (w1.heap[g]? = some (.cells cs.toArray 22 (0, 0))) := ⟨by rw [← hw1, ← hg]; exact heap_alloc_new w _⟩
  clear hw1 hg
  go_upto_region 2 with (go_at_call 13; (with_reducible refine (HTG.out w1).mono ?_); rintro e w2 ⟨v, rfl, q1, q2⟩; (obtain ⟨A2, c2, ev⟩ := Kd.R_slice q1); subst ev; have HT2 := Aside0.mk (Kd.R_reads' q1).2; have HB2 := Aside0.mk (below_tr HB1.out q2); have HR2 := Aside0.mk ((q2.block g (blk_lt' HR1.out)).trans HR1.out); clear q1 q2)
  by_cases b1 : bel = true
  · subst b1
    go_wp2_with fail
    go_ret
    exact ⟨by unfold specCode; rw [if_pos rfl]; rfl, HB2.out⟩
  · obtain rfl : bel = false := by simpa using b1
    by_cases b2 : t.length = 0
    · have b3 : ((t.length : Int) == 0) = true := by rw [b2]; rfl
      have B2 := Aside0.mk b2
      clear b2
      go_wp2_with fail
      go_ret
      exact ⟨by unfold specCode; rw [if_neg b1, if_pos B2.out]; rfl, HB2.out⟩
    · have b3 : ((t.length : Int) == 0) = false := by simp; intro e; exact b2 (by rw [e]; rfl)
      have B2 := Aside0.mk b2
      have HC3 := Aside0.mk (HCL.out A2 c2 w2 HB2.out HT2.out.2 HT2.out.1)
      clear b2
      by_cases b4 : rl > 0
      · go_wp2_with (go_at_call 14; (with_reducible refine HC3.out.mono ?_); rintro e w3 ⟨rfl, q1⟩; have HB3 := Aside0.mk q1; clear q1)
        go_ret
        exact ⟨by unfold specCode; rw [if_neg b1, if_neg B2.out, if_pos (show rl > 0 by omega)]; rfl, below_tr HB2.out HB3.out⟩
      · go_upto_region 4 with (go_at_call 14; (with_reducible refine HC3.out.mono ?_); rintro e w3 ⟨rfl, q1⟩; have HB3 := Aside0.mk q1; clear q1)
        have HR3 := Aside0.mk ((HB3.out.block g (blk_lt' HR2.out)).trans HR2.out)
        have HA : Aside0 (∀ e w4, (∃ v, e = Ending.returned v ∧ Kd.R (Kd.int .u8) 5 w4 w3.heap.size (fun k => w3.heap.size ≤ k) v hn ∧ Below w3.heap.size w3 w4) → ∃ A4 c4, e = .returned (.slice A4 hn.length c4) ∧ Below w3.heap.size w3 w4 ∧ Calls Try.prog 14 #[.slice A4 hn.length c4, .slice A2 t.length c2] w4 fun e w' => e = .returned (.int .i64 rh) ∧ Below w4.heap.size w4 w') := ⟨by
          rintro e w4 ⟨v, rfl, q1, q2⟩
          obtain ⟨A4, c4, ev⟩ := Kd.R_slice q1
          subst ev
          have q3 := (Kd.R_reads' q1).2
          exact ⟨A4, c4, rfl, q2, HCH.out A4 c4 A2 c2 w4 q3.2 q3.1 (Kd.C_below (Kd.C_below HT2.out.2 HB3.out) q2) HT2.out.1⟩⟩
        by_cases b5 : rh > 0
        · go_wp2_with (first
            | ((with_reducible refine at_dst (N := 28) rfl ?_); refine wpList_load_row rfl 22 (.tmp 3) rfl g rfl 22 _ (0, 0) _ HR3.out Try.underlying22 rfl (by rw [List.size_toArray, HLL.out]; exact size_a32) ?_)
            | (go_at_call 15; (with_reducible refine (HHN.out w3).mono ?_); intro e w4 q0; (obtain ⟨A4, c4, rfl, q1, q2⟩ := HA.out e w4 q0); have HB4 := Aside0.mk q1; have HC4 := Aside0.mk q2; clear q0 q1 q2)
            | (go_at_call 14; (with_reducible refine HC4.out.mono ?_); rintro e w5 ⟨rfl, q1⟩; have HB5 := Aside0.mk q1; clear q1))
          go_ret
          exact ⟨by unfold specCode; rw [if_neg b1, if_neg B2.out, if_neg (show ¬ rl > 0 by omega), if_pos (show rh > 0 by omega)]; rfl, below_tr (below_tr (below_tr HB2.out HB3.out) HB4.out) HB5.out⟩
        · go_wp2_with (first
            | ((with_reducible refine at_dst (N := 28) rfl ?_); refine wpList_load_row rfl 22 (.tmp 3) rfl g rfl 22 _ (0, 0) _ HR3.out Try.underlying22 rfl (by rw [List.size_toArray, HLL.out]; exact size_a32) ?_)
            | (go_at_call 15; (with_reducible refine (HHN.out w3).mono ?_); intro e w4 q0; (obtain ⟨A4, c4, rfl, q1, q2⟩ := HA.out e w4 q0); have HB4 := Aside0.mk q1; have HC4 := Aside0.mk q2; clear q0 q1 q2)
            | (go_at_call 14; (with_reducible refine HC4.out.mono ?_); rintro e w5 ⟨rfl, q1⟩; have HB5 := Aside0.mk q1; clear q1))
          go_ret
          exact ⟨by unfold specCode; rw [if_neg b1, if_neg B2.out, if_neg (show ¬ rl > 0 by omega), if_neg (show ¬ rh > 0 by omega)]; rfl, below_tr (below_tr (below_tr HB2.out HB3.out) HB4.out) HB5.out⟩
end Go.Proofs.Ytigpdgfhngknhaa.Pf
/- The law FnProofFault. -/
namespace Go.Proofs.Ytigpdgfhngknhaa.Pf
open Go.RowKit Go.Proofs.YtigpdgfhngknhaaW.PrintWords Go.Proofs.YtigpdgfhngknhaaW.PrintLast Go.Proofs.YtigpdgfhngknhaaW.PrintMore Go.Proofs.Ytigpdgfhngknhaa.QFnProofFault Go.Proofs.Ytigpdgfhngknhaa.Snk
set_option linter.unusedVariables false
set_option linter.unusedSimpArgs false
set_option maxRecDepth 100000 in
set_option maxHeartbeats 8000000 in
/-- The law's walk: what the two sides tell is one number. -/
theorem lawC (h : HdV) (ho : h.ok) (kl : List Int) (A : Option Addr) (cc : Nat) (ls : List Int) (w : World) (hk : Sha.KRow w kl) (hls : ReadsInt w .u8 A ls.length ls) (hc : ls.length ≤ cc) (hsz : ls.length ≤ 32) (hgr : laws_great.f ls 32 = some true) (code : Int)
    (hI : ∀ w1, Below w.heap.size w w1 → Calls Try.prog 5 #[.agg (hdC .u32 h).toArray, .slice A ls.length cc] w1 fun e w' => e = .returned (.int .i64 code) ∧ Below w1.heap.size w1 w')
    (hS : ∀ w1, Below w.heap.size w w1 → Calls Try.prog 6 #[.agg (byteC (Sha.shaD kl h.bytes)).toArray, .int .u32 h.b, .slice A ls.length cc] w1 fun e w' => e = .returned (.int .i64 code) ∧ Below w1.heap.size w1 w') :
    Calls Try.prog 3 #[.agg (hdC .u32 h).toArray, .slice A ls.length cc] w fun e w' => e = .returned (.bool true) ∧ Below w.heap.size w w' := by
  have HO := Aside0.mk ho
  have HLEN := Aside0.mk (hdC_len .u32 ho)
  have HZB : Aside0 ((hdC .u32 h)[66]? = some (.int .u32 h.b)) := ⟨by have e := hdC_tail .u32 ho [] 1; rw [List.append_nil] at e; exact e⟩
  have HB := Aside0.mk (fun w1 (hkk : Sha.KRow w1 kl) => blockIDC h ho kl w1 hkk)
  have HK := Aside0.mk hk
  have HI := Aside0.mk hI
  have HS := Aside0.mk hS
  obtain ⟨cs, hcs⟩ : ∃ c, hdC .u32 h = c := ⟨_, rfl⟩
  rw [hcs] at HLEN HZB HB HI ⊢
  have HG : Aside0 (∀ w1, Below w.heap.size w w1 → Calls Try.prog 4 #[.slice A ls.length cc, .int .i64 32] w1 fun e w' => e = .returned (.bool true) ∧ Below w1.heap.size w1 w') := ⟨fun w1 hb => (laws_great.calls A cc ls 32 true w1 (reads_C (hls.below hb)) hc hgr).mono fun e w' ⟨he, hd⟩ => ⟨he, hd.below⟩⟩
  obtain ⟨n, hln⟩ : ∃ n, ls.length = n := ⟨_, rfl⟩
  rw [hln] at HI HS HG hsz ⊢
  have hsz2 : ¬ ((n : Int) > 2147483647) := by omega
  obtain ⟨xs, hxs⟩ : ∃ x, Sha.shaD kl h.bytes = x := ⟨_, rfl⟩
  rw [hxs] at HS HB
  clear ho hk hls hc hgr hI hS hcs hln hxs hsz
  go_enter Try.func3, Try.ntmps3
  go_upto_region 1 with fail
  obtain ⟨g, hg⟩ : ∃ g, w.heap.size = g := ⟨_, rfl⟩
  rw [hg]
  generalize hw1 : World.alloc _ _ = w1
  have HB1 : Aside0 (Below w.heap.size w w1) := ⟨by rw [← hw1]; exact below_alloc (Below.refl _ _) _⟩
  have HR1 : Aside0 (w1.heap[g]? = some (.cells cs.toArray 25 (0, 0))) := ⟨by rw [← hw1, ← hg]; exact heap_alloc_new w _⟩
  clear hw1 hg
  go_upto_region 5 with (go_at_call 4; (with_reducible refine (HG.out w1 HB1.out).mono ?_); rintro e w2 ⟨rfl, q1⟩; have HB2 := Aside0.mk (below_tr HB1.out q1); have HR2 := Aside0.mk ((q1.block g (blk_lt' HR1.out)).trans HR1.out); clear q1)
  have HR3 : Aside0 (w2.drew.heap[g]? = some (.cells cs.toArray 25 (0, 0))) := ⟨HR2.out⟩
  have HB3 : Aside0 (Below w.heap.size w w2.drew) := ⟨⟨HB2.out.os, HB2.out.tape, HB2.out.output, HB2.out.size, HB2.out.block⟩⟩
  refine start_ (n := 11) (S := fun w' => w'.heap[g]? = some (.cells cs.toArray 25 (0, 0))) (ds := []) #[false, false, false, false, false, false, false, false, false, false, false] (by kernel_rfl) rfl rfl HR3.out (fun hHeld => ?_)
  refine take_ (i := 0) (N := some 11) (v := ?_) (a' := ?_) #[true, false, false, false, false, false, false, false, false, false, false] rfl rfl (by kernel_rfl) (fun _ _ _ h => h) (Or.inl ⟨by rfl, ?_⟩) hHeld ?_ ?_
  rotate_left
  · rintro w' s0
    refine run_load_at 25 (.tmp 2) ?_ ⟨g, 0, none⟩ ?_ cs _ (cells_row (o := 0) s0 (fun j hj => by rw [Nat.zero_add])) Try.underlying25 rfl (by rw [HLEN.out]; exact size_in) <;> rfl
  rotate_left
  · simp only [Act.put, List.setIfInBounds_toArray, List.set_cons_zero, List.set_cons_succ, i64_w, i32_w]
    rfl
  refine pure_ (i := 1) (N := some 12) (v := ?_) (a' := ?_) #[true, true, false, false, false, false, false, false, false, false, false] rfl rfl (by kernel_rfl) (fun _ _ _ h => h) (Or.inl ⟨by rfl, ?_⟩) ?_ ?_
  rotate_left
  · intro w'
    go_simp
    with_reducible rfl
  rotate_left
  · simp only [Act.put, List.setIfInBounds_toArray, List.set_cons_zero, List.set_cons_succ, i64_w, i32_w]
    rfl
  refine take_ (i := 3) (N := some 14) (v := ?_) (a' := ?_) #[true, true, false, true, false, false, false, false, false, false, false] rfl rfl (by kernel_rfl) (fun _ _ _ h => h) (Or.inl ⟨by rfl, ?_⟩) hHeld ?_ ?_
  rotate_left
  · rintro w' s0
    refine run_load_at 25 (.tmp 2) ?_ ⟨g, 0, none⟩ ?_ cs _ (cells_row (o := 0) s0 (fun j hj => by rw [Nat.zero_add])) Try.underlying25 rfl (by rw [HLEN.out]; exact size_in) <;> rfl
  rotate_left
  · simp only [Act.put, List.setIfInBounds_toArray, List.set_cons_zero, List.set_cons_succ, i64_w, i32_w]
    rfl
  refine pure_ (i := 5) (N := some 16) (v := ?_) (a' := ?_) #[true, true, false, true, false, true, false, false, false, false, false] rfl rfl (by kernel_rfl) (fun _ _ _ h => h) (Or.inl ⟨by rfl, ?_⟩) ?_ ?_
  rotate_left
  · intro w'
    go_simp
    with_reducible rfl
  rotate_left
  · simp only [Act.put, List.setIfInBounds_toArray, List.set_cons_zero, List.set_cons_succ, i64_w, i32_w]
    rfl
  refine take_ (i := 6) (N := some 17) (v := ?_) (a' := ?_) #[true, true, false, true, false, true, true, false, false, false, false] rfl rfl (by kernel_rfl) (fun _ _ _ h => h) (Or.inl ⟨by rfl, ?_⟩) hHeld ?_ ?_
  rotate_left
  · rintro w' s0
    have z : w'.cell? ⟨g, 66, none⟩ = some (.int .u32 h.b) := cell_of s0 (by rw [List.getElem?_toArray]; exact HZB.out)
    go_simp
    with_reducible rfl
  rotate_left
  · simp only [Act.put, List.setIfInBounds_toArray, List.set_cons_zero, List.set_cons_succ, i64_w, i32_w]
    rfl
  refine pure_ (i := 7) (N := some 18) (v := ?_) (a' := ?_) #[true, true, false, true, false, true, true, true, false, false, false] rfl rfl (by kernel_rfl) (fun _ _ _ h => h) (Or.inl ⟨by rfl, ?_⟩) ?_ ?_
  rotate_left
  · intro w'
    go_simp
    with_reducible rfl
  rotate_left
  · simp only [Act.put, List.setIfInBounds_toArray, List.set_cons_zero, List.set_cons_succ, i64_w, i32_w]
    rfl
  refine one_ (i := 2) (N := some 13) #[true, true, true, true, false, true, true, true, false, false, false] rfl rfl (by kernel_rfl) (by decide) (fun K hK => ?_)
  refine goes_ Try.func5 (by kernel_rfl) rfl #[.agg cs.toArray, .slice A n cc] (by rfl) rfl rfl (by (try simp only [List.map_toArray, List.map_cons, List.map_nil]); first | done | rfl | (simp only [List.length_drop, List.length_take]; rfl)) ?_
  with_reducible refine (HI.out w2.drew HB3.out).mono ?_
  rintro e w4 ⟨rfl, q1⟩
  refine ⟨_, rfl, ?_⟩
  have HB4 := Aside0.mk (below_tr HB3.out q1)
  have HR4 := Aside0.mk ((q1.block g (blk_lt' HR3.out)).trans HR3.out)
  refine hK.out _ _ HR4.out (fun hHeld => ?_)
  clear hK K
  refine norm_ (a' := ?_) ?_ ?_
  rotate_left
  · show Act.put _ (some 13) _ = _
    simp only [Act.put, List.setIfInBounds_toArray, List.set_cons_zero, List.set_cons_succ, i64_w, i32_w]
    rfl
  refine one_ (i := 4) (N := some 15) #[true, true, true, true, true, true, true, true, false, false, false] rfl rfl (by kernel_rfl) (by decide) (fun K hK => ?_)
  refine goes_ Try.func7 (by kernel_rfl) rfl #[hashF, .agg cs.toArray] (by rfl) rfl rfl (by (try simp only [List.map_toArray, List.map_cons, List.map_nil]); first | done | rfl | (simp only [List.length_drop, List.length_take]; rfl)) ?_
  with_reducible refine (HB.out w4 (HK.out.below HB4.out)).mono ?_
  rintro e w5 ⟨rfl, q1⟩
  refine ⟨_, rfl, ?_⟩
  have HB5 := Aside0.mk (below_tr HB4.out q1)
  have HR5 := Aside0.mk ((q1.block g (blk_lt' HR4.out)).trans HR4.out)
  refine hK.out _ _ HR5.out (fun hHeld => ?_)
  clear hK K
  refine norm_ (a' := ?_) ?_ ?_
  rotate_left
  · show Act.put _ (some 15) _ = _
    simp only [Act.put, List.setIfInBounds_toArray, List.set_cons_zero, List.set_cons_succ, i64_w, i32_w]
    rfl
  refine one_ (i := 8) (N := some 19) #[true, true, true, true, true, true, true, true, true, false, false] rfl rfl (by kernel_rfl) (by decide) (fun K hK => ?_)
  refine goes_ Try.func6 (by kernel_rfl) rfl #[.agg (byteC xs).toArray, .int .u32 h.b, .slice A n cc] (by rfl) rfl rfl (by (try simp only [List.map_toArray, List.map_cons, List.map_nil]); first | done | rfl | (simp only [List.length_drop, List.length_take]; rfl)) ?_
  with_reducible refine (HS.out w5 HB5.out).mono ?_
  rintro e w6 ⟨rfl, q1⟩
  refine ⟨_, rfl, ?_⟩
  have HB6 := Aside0.mk (below_tr HB5.out q1)
  have HR6 := Aside0.mk ((q1.block g (blk_lt' HR5.out)).trans HR5.out)
  refine hK.out _ _ HR6.out (fun hHeld => ?_)
  clear hK K
  refine norm_ (a' := ?_) ?_ ?_
  rotate_left
  · show Act.put _ (some 19) _ = _
    simp only [Act.put, List.setIfInBounds_toArray, List.set_cons_zero, List.set_cons_succ, i64_w, i32_w]
    rfl
  refine pure_ (i := 9) (N := some 20) (v := ?_) (a' := ?_) #[true, true, true, true, true, true, true, true, true, true, false] rfl rfl (by kernel_rfl) (fun _ _ _ h => h) (Or.inl ⟨by rfl, ?_⟩) ?_ ?_
  rotate_left
  · intro w'
    go_simp
    with_reducible rfl
  rotate_left
  · simp only [Act.put, List.setIfInBounds_toArray, List.set_cons_zero, List.set_cons_succ, i64_w, i32_w]
    rfl
  refine pure_ (i := 10) (N := some 4) (v := ?_) (a' := ?_) #[true, true, true, true, true, true, true, true, true, true, true] rfl rfl (by kernel_rfl) (fun _ _ _ h => h) (Or.inl ⟨by rfl, ?_⟩) ?_ ?_
  rotate_left
  · intro w'
    go_simp
    with_reducible rfl
  rotate_left
  · simp only [Act.put, List.setIfInBounds_toArray, List.set_cons_zero, List.set_cons_succ, i64_w, i32_w]
    rfl
  refine done_ (by kernel_rfl) ?_
  go_wp2_with fail
  go_ret
  exact ⟨rfl, HB6.out⟩
end Go.Proofs.Ytigpdgfhngknhaa.Pf
/- A row whose walk asks the shape of a package's variable; sha256's table has 64 words. -/
namespace Go.Proofs.Ytigpdgfhngknhaa.Sha
open Go.RowKit Go.Proofs.YtigpdgfhngknhaaW.PrintWords Go.Proofs.YtigpdgfhngknhaaW.PrintLast
set_option linter.unusedVariables false
set_option linter.unusedSimpArgs false
section
variable {H : Type} {enc : TypeId × Value → H}
theorem returnsInHanded_shaped {a : Assume} {C : Checked} {os : Os} {f : FuncId} {fn : Func} {s : ChangeSpec} {conds : List PathCond} {apart fresh handsOn again : Bool}
    (own : ownKnob C.prog.godebug = none) (started : os.Started) (noInit : C.prog.inits.idxOf? f = none) (hfn : C.prog.funcs[f]? = some fn)
    (witness : ∃ (w : World) (tape : Tape) (i : Input), w.os = os ∧ (w.forCall tape i).Shaped C.prog ∧ i.vars = [] ∧ Input.okWide C.prog (w.forCall tape i) .any w.heap.size f i ∧
      s.pre6 enc C.prog fn conds apart (w.forCall tape i).memory i.args ∧ a.holds C.prog (lone (Frame.enter C.prog f i.args .normal) [] (w.forCall tape i)))
    (contract : ∀ (W : World) (base : Nat) (args : Array Value) (ds gs : List (DataW H)) (before : List MemPlace),
      (∀ (j : Nat) t v, fn.params[j]? = some t → args[j]? = some v → Value.okWide C.prog W .any base t v) →
      DataW.Whole enc C.prog fn.params.toList s.vars apart W args.toList ds gs before →
      conds.all (PathCond.test C.prog ⟨fn.params.toList, ds, s.plain.varTypes C.prog, gs⟩) = true →
      (DataW.weightsEach C.prog (fn.params.toList ++ s.plain.varTypes C.prog) (ds ++ gs)).all (· ≤ reachBytes) = true →
      a.holds C.prog (lone (Frame.enter C.prog f args .normal) [] W) → W.ShapedOpen C.prog →
      Calls C.prog f args W fun e W' => ∃ v, e = .returned v ∧ s.post enc C.prog fn apart fresh handsOn again W args v W') :
    ReturnsInHanded a C os f .any (s.pre6 enc C.prog fn conds apart) (s.post enc C.prog fn apart fresh handsOn again) := by
  refine returnsInHanded_of_calls own started noInit witness ?_
  intro w tape i _ hsh _ hok hpre hholds
  obtain ⟨_, _, _, fn', hfn', _, _, _, _, hval⟩ := hok
  have e : fn' = fn := Option.some.inj (hfn'.symm.trans hfn)
  subst e
  obtain ⟨⟨ds, gs, before, hw, hc⟩, hz⟩ := hpre
  have hw' := DataW.Whole.of_heap (w' := w.forCall tape i) (by rfl) hw
  refine (contract (w.forCall tape i) w.heap.size i.args ds gs before hval hw' hc (hz.weights hw) hholds hsh).mono fun e W' ⟨v, he, hp⟩ => ?_
  subst he
  exact ChangeSpec.post_blind hp
end
def intV : Value → Int
  | .int _ n => n
  | _ => 0
set_option maxRecDepth 100000 in
theorem krow_of {w : World} (h : w.ShapedOpen Try.prog) : ∃ kl, KRow w kl := by
  obtain ⟨cs, hh, hs, hr⟩ := h.1 1 (List.replicate 64 (Value.int .u32 0)).toArray 171 (of_decide_eq_true (by kernel_rfl)) (by kernel_rfl)
  obtain ⟨ts, hts, hlen, hall⟩ := hr (by kernel_rfl)
  rw [show Try.prog.cellTypes Try.prog.depth 171 = some (List.replicate 64 23) by kernel_rfl] at hts
  cases hts
  have hsz : cs.size = 64 := hs
  have key : ∀ j, j < 64 → ∃ n, cs[j]? = some (.int .u32 n) := by
    intro j hj
    obtain ⟨u, hu, hok⟩ := hall j cs[j] (by simp [hsz, hj])
    rw [List.length_replicate, Nat.mod_eq_of_lt hj, List.getElem?_replicate, if_pos hj] at hu
    cases hu
    have hv : cs[j]? = some cs[j] := by simp [hsz, hj]
    unfold Cell.ok at hok
    rw [Try.underlying23] at hok
    cases hx : cs[j] <;> rw [hx] at hok hv <;> simp at hok
    obtain ⟨rfl, _⟩ := hok
    exact ⟨_, hv⟩
  refine ⟨(List.range 64).map fun j => intV (cs.getD j undef), fun j hj => ?_⟩
  obtain ⟨n, hn⟩ := key j hj
  have e : ((List.range 64).map fun j => intV (cs.getD j undef)).getD j 0 = n := by
    rw [List.getD_eq_getElem?_getD, List.getElem?_map, List.getElem?_range hj]
    simp [hn, intV]
  rw [e]
  exact cell_of hh hn
end Go.Proofs.Ytigpdgfhngknhaa.Sha
/- The law FnProofFault for every input; a header that came in. -/
namespace Go.Proofs.Ytigpdgfhngknhaa.Pf
open Go.RowKit Go.Proofs.YtigpdgfhngknhaaW.PrintWords Go.Proofs.YtigpdgfhngknhaaW.PrintLast Go.Proofs.YtigpdgfhngknhaaW.PrintMore Go.Proofs.Ytigpdgfhngknhaa.QFnProofFault Go.Proofs.Ytigpdgfhngknhaa.Snk
set_option linter.unusedVariables false
set_option linter.unusedSimpArgs false
theorem early_size (cs : List Value) (A : Option Addr) (cc n : Nat) (w : World) (hn : 2147483647 < n) : Calls Try.prog 3 #[.agg cs.toArray, .slice A n cc] w fun e w' => e = .returned (.bool true) ∧ Below w.heap.size w w' := by
  have h1 : (2147483647 : Int) < (n : Int) := by omega
  go_enter Try.func3, Try.ntmps3
  go_wp2_with fail
  go_ret
  exact ⟨rfl, below_alloc (Below.refl _ _) _⟩
theorem early_great (cs : List Value) (A : Option Addr) (cc : Nat) (ls : List Int) (w : World) (hn : ls.length ≤ 2147483647) (hls : ReadsInt w .u8 A ls.length ls) (hc : ls.length ≤ cc) (hg : laws_great.f ls 32 = some false) : Calls Try.prog 3 #[.agg cs.toArray, .slice A ls.length cc] w fun e w' => e = .returned (.bool true) ∧ Below w.heap.size w w' := by
  have h1 : ¬ ((ls.length : Int) > 2147483647) := by omega
  have HG : Aside0 (∀ w1, Below w.heap.size w w1 → Calls Try.prog 4 #[.slice A ls.length cc, .int .i64 32] w1 fun e w' => e = .returned (.bool false) ∧ Below w1.heap.size w1 w') := ⟨fun w1 hb => (laws_great.calls A cc ls 32 false w1 (reads_C (hls.below hb)) hc hg).mono fun e w' ⟨he, hd⟩ => ⟨he, hd.below⟩⟩
  clear hls hc hg hn
  go_enter Try.func3, Try.ntmps3
  go_wp2_with (go_at_call 4; (with_reducible refine (HG.out _ (below_alloc (Below.refl _ _) _)).mono ?_); rintro e w2 ⟨rfl, q1⟩; have HB2 := Aside0.mk (below_tr (below_alloc (Below.refl _ _) _) q1); clear q1)
  go_ret
  exact ⟨rfl, HB2.out⟩
theorem nil_of_nv {l : List Int} (hd : Big.Dig l) (ht : Big.Top l) : l = [] ↔ Big.nv l = 0 := by
  constructor
  · intro e; subst e; rfl
  · intro e
    by_cases c : l = []
    · exact c
    · have h1 := Big.nv_top hd ht c
      have h2 := Big.pow_pos2 (32 * (l.length - 1))
      omega
theorem codes (sg : Bool) (lt t : List Int) (r1 r3 : Int) (h : lt = [] ↔ t = []) : codeOf (sg && decide (lt ≠ [])) lt r1 r3 = specCode (sg && decide (0 < t.length)) t r1 r3 := by
  unfold codeOf specCode
  by_cases c : t = []
  · have c1 := h.2 c
    subst c c1
    simp
  · have c1 : ¬ lt = [] := fun e => c (h.1 e)
    have l1 : ¬ lt.length = 0 := fun e => c1 (List.eq_nil_of_length_eq_zero e)
    have l2 : ¬ t.length = 0 := fun e => c (List.eq_nil_of_length_eq_zero e)
    have l3 : 0 < t.length := by omega
    cases sg
    · simp [l1, l2]
    · simp [l1, l2, c1, l3]
theorem walkProof (h : HdV) (ho : h.ok) (A : Option Addr) (cc : Nat) (ls : List Int) (w : World) (hk : ∃ kl, Sha.KRow w kl) (hls : ReadsInt w .u8 A ls.length ls) (hc : ls.length ≤ cc) (hb : Big.Bytes ls) :
    Calls Try.prog 3 #[.agg (hdC .u32 h).toArray, .slice A ls.length cc] w fun e w' => e = .returned (.bool true) ∧ Below w.heap.size w w' := by
  by_cases c0 : 2147483647 < ls.length
  · exact early_size _ A cc _ w c0
  · have hgr : ∃ b, laws_great.f ls 32 = some b ∧ (b = true → ls.length ≤ 32) := by
      unfold laws_great.f
      by_cases c1 : (ls.length : Int) ≤ 32
      · rw [if_pos c1]
        by_cases c2 : (ls.length : Int) = 0
        · rw [if_pos c2]; exact ⟨_, rfl, fun _ => by omega⟩
        · rw [if_neg c2, if_pos (by omega)]; exact ⟨_, rfl, fun _ => by omega⟩
      · rw [if_neg c1]; exact ⟨_, rfl, fun e => by cases e⟩
    obtain ⟨b, hgr, h32⟩ := hgr
    cases b
    · exact early_great _ A cc ls w (by omega) hls hc hgr
    · have h32 := h32 rfl
      obtain ⟨kl, hk⟩ := hk
      obtain ⟨lt, hC, hnt, hdt, htt, hlt⟩ := Big.compacts h.b ho.b0 ho.b1
      obtain ⟨kT, hT⟩ := (Big.ev_specTarget h.b ho.b0 ho.b1).rounds
      obtain ⟨t, ht⟩ : ∃ t, Big.trimL (Big.specBytes (h.b % 8388608) (h.b / 16777216).toNat) = t := ⟨_, rfl⟩
      have hbt : Big.Bytes t := by rw [← ht]; exact Big.trimL_bytes (Big.specBytes_bytes _ _)
      have hldt : Big.Lead t := by rw [← ht]; exact Big.trimL_lead _
      have hvt : Big.vB t = Big.valueOf h.b := by
        rw [← ht, Big.trimL_vB, Big.specBytes_vB _ (by omega) (by omega)]
        rfl
      have hlent : t.length < 1000000 := by
        have h1 := ho.b1
        have h2 := ho.b0
        rw [← ht]
        refine Nat.lt_of_le_of_lt (Big.trimL_len _) ?_
        unfold Big.specBytes
        split
        · simp [Big.three]; omega
        · simp [Big.three, Big.zeros]; omega
      rw [ht] at hT
      have heq : lt = [] ↔ t = [] := by rw [nil_of_nv hdt htt, hnt, ← hvt]; exact Big.vB_zero hbt hldt
      obtain ⟨ll, hel, hnl, hdl, htl, hll⟩ := Big.ev_norm _ (Big.dg (Big.vB ls) ((ls.length + 3) / 4)) rfl (by rw [Big.dg_length]; omega) (Big.dg_Dig _ _)
      obtain ⟨k0, h0⟩ := hel.rounds
      have hvl : Big.nv ll = Big.vB ls := by
        rw [hnl, Big.dg_nv]
        have hr := Big.vB_range hb
        have hp : (256 : Int) ^ ls.length ≤ 2 ^ (32 * ((ls.length + 3) / 4)) := by rw [Big.pow256]; exact Big.pow_le2 (by omega)
        exact Int.emod_eq_of_lt hr.1 (by omega)
      obtain ⟨xs, hxs⟩ : ∃ x, Sha.shaD kl h.bytes = x := ⟨_, rfl⟩
      have hx32 : xs.length = 32 := by rw [← hxs]; exact Sha.shaD_len _ _
      have hxb : Big.Bytes xs := by rw [← hxs]; exact shaD_bytes _ _
      have hxr : Big.Bytes xs.reverse := fun d hd => hxb d (List.mem_reverse.1 hd)
      have hxl : xs.reverse.length = 32 := by rw [List.length_reverse, hx32]
      obtain ⟨lh, heh, hnh, hdh, hth, hlh⟩ := Big.ev_norm _ (Big.dg (Big.vB xs.reverse) 8) rfl (by rw [Big.dg_length]; decide) (Big.dg_Dig _ _)
      obtain ⟨k2, h2⟩ := heh.rounds
      have hvh : Big.nv lh = Big.vB xs.reverse := by
        rw [hnh, Big.dg_nv]
        have hr := Big.vB_range hxr
        rw [hxl, Big.pow256] at hr
        exact Int.emod_eq_of_lt hr.1 hr.2
      obtain ⟨kn, hn⟩ := (Big.ev_trim xs.reverse (by omega)).rounds
      rw [Big.dg_length] at hll hlh
      obtain ⟨k1, h1⟩ := (Big.ev_cmp lt ll hdt hdl htt htl (by omega)).rounds
      obtain ⟨k3, h3⟩ := (Big.ev_cmp lh lt hdh hdt hth htt (by omega)).rounds
      obtain ⟨k4, h4⟩ := (Big.ev_cg t ls hbt hb hlent (by omega)).rounds
      obtain ⟨k5, h5⟩ := (Big.ev_cg (Big.trimL xs.reverse) t (Big.trimL_bytes hxr) hbt (by have := Big.trimL_len xs.reverse; omega) hlent).rounds
      rw [hnt, hvl, ← hvt] at h1
      rw [hvh, hnt, ← hvt] at h3
      rw [Big.trimL_vB] at h5
      have hcd := codes (Go.bits .and .u32 h.b 8388608 != 0) lt t (Big.cmpV (Big.vB t) (Big.vB ls)) (Big.cmpV (Big.vB xs.reverse) (Big.vB t)) heq
      refine lawC h ho kl A cc ls w hk hls hc h32 hgr (codeOf ((Go.bits .and .u32 h.b 8388608 != 0) && decide (lt ≠ [])) lt (Big.cmpV (Big.vB t) (Big.vB ls)) (Big.cmpV (Big.vB xs.reverse) (Big.vB t))) (fun w1 hbl => ?_) (fun w1 hbl => ?_)
      · exact implC h ho kl A cc ls w1 (hk.below hbl) (hls.below hbl) hc hb (by omega) k0 ll h0 _ lt hC k1 _ h1 k2 lh (by rw [hxs]; exact h2) k3 _ h3
      · rw [hcd, hxs]
        exact specC xs hx32 h.b A cc ls w1 (hls.below hbl) hc kT t _ hT k4 _ h4 kn _ hn k5 _ h5
/-- The kinds of a header's cells. -/
def kindAt (i : Nat) : IntKind := if i = 0 then .i32 else if i < 65 then .u8 else .u32
set_option maxRecDepth 100000 in
theorem open_hdr {W : World} {r : Reach} {base : Nat} {v : Value} (hv : Value.okWide Try.prog W r base 25 v) : ∃ h : HdV, h.ok ∧ v = .agg (hdC .u32 h).toArray := by
  unfold Value.okWide at hv
  rw [Try.underlying25] at hv
  obtain ⟨cs, rfl, hs, ts, hts, _, hall⟩ := hv
  rw [show Try.prog.cellTypes Try.prog.depth 25 = some (21 :: (List.replicate 64 5 ++ [23, 23, 23])) by kernel_rfl] at hts
  cases hts
  have hsz : cs.size = 68 := by rw [hs]; kernel_rfl
  have key : ∀ i, i < 68 → ∃ n, cs.toList[i]? = some (.int (kindAt i) n) ∧ (kindAt i).has n := by
    intro i hi
    obtain ⟨u, hu, hok⟩ := hall i cs[i] (by simp [hsz, hi])
    rw [show (21 :: (List.replicate 64 5 ++ [23, 23, 23])).length = 68 from rfl, Nat.mod_eq_of_lt hi] at hu
    have hk : Try.prog.underlying u = some (.int (kindAt i)) := by
      unfold kindAt
      by_cases c0 : i = 0
      · subst c0
        have e : u = 21 := by simpa using hu.symm
        rw [e, if_pos rfl]; exact Try.underlying21
      · obtain ⟨j, rfl⟩ : ∃ j, i = j + 1 := ⟨i - 1, by omega⟩
        rw [List.getElem?_cons_succ] at hu
        rw [if_neg c0]
        by_cases c1 : j < 64
        · rw [List.getElem?_append_left (by simpa using c1), List.getElem?_replicate, if_pos c1] at hu
          have e : u = 5 := (Option.some.inj hu).symm
          rw [if_pos (by omega), e]; exact Try.underlying5
        · rw [List.getElem?_append_right (by simpa using c1), List.length_replicate] at hu
          rw [if_neg (by omega)]
          have e : u = 23 := by
            have hj : j - 64 = 0 ∨ j - 64 = 1 ∨ j - 64 = 2 := by omega
            rcases hj with h | h | h <;> rw [h] at hu <;> exact (Option.some.inj hu).symm
          rw [e]; exact Try.underlying23
    have hv : cs.toList[i]? = some cs[i] := by simp [hsz, hi]
    unfold Cell.okWide at hok
    rw [hk] at hok
    have hok2 : Cell.ok Try.prog W r base u cs[i] := by
      cases hx : cs[i] <;> rw [hx] at hok <;> exact hok
    unfold Cell.ok at hok2
    rw [hk] at hok2
    cases hx : cs[i] <;> rw [hx] at hok2 hv <;> simp at hok2
    obtain ⟨rfl, hh⟩ := hok2
    exact ⟨_, hv, hh⟩
  have hat : ∀ i, i < 68 → cs.toList[i]? = some (.int (kindAt i) (Sha.intV (cs.toList.getD i undef))) ∧ (kindAt i).has (Sha.intV (cs.toList.getD i undef)) := by
    intro i hi
    obtain ⟨n, h1, h2⟩ := key i hi
    have e : Sha.intV (cs.toList.getD i undef) = n := by rw [List.getD_eq_getElem?_getD, h1]; rfl
    rw [e]
    exact ⟨h1, h2⟩
  obtain ⟨f, hf⟩ : ∃ f : Nat → Int, f = fun i => Sha.intV (cs.toList.getD i undef) := ⟨_, rfl⟩
  have hat2 : ∀ i, i < 68 → cs.toList[i]? = some (.int (kindAt i) (f i)) ∧ (kindAt i).has (f i) := by rw [hf]; exact hat
  have r0 := (hat2 0 (by decide)).2
  have r65 := (hat2 65 (by decide)).2
  have r66 := (hat2 66 (by decide)).2
  have r67 := (hat2 67 (by decide)).2
  simp only [kindAt, IntKind.has, IntKind.min, IntKind.max, IntKind.signed, IntKind.bits] at r0 r65 r66 r67
  obtain ⟨H, hH⟩ : ∃ H : HdV, H = ⟨f 0, (List.range 32).map fun j => f (1 + j), (List.range 32).map fun j => f (33 + j), f 65, f 66, f 67⟩ := ⟨_, rfl⟩
  have hok : H.ok := by
    subst hH
    refine ⟨?_, ?_, by simp, by simp, ?_, ?_, ?_, ?_, ?_, ?_⟩
    all_goals (simp at r0 r65 r66 r67 ⊢; omega)
  refine ⟨H, hok, ?_⟩
  congr 1
  apply Array.ext'
  apply List.ext_getElem?
  intro i
  show cs.toList[i]? = (hdC .u32 H)[i]?
  rcases Nat.lt_or_ge i 68 with hi | hi
  · rw [(hat2 i hi).1]
    by_cases c0 : i = 0
    · subst c0
      rw [hH]; rfl
    · by_cases c1 : i < 33
      · obtain ⟨j, rfl⟩ : ∃ j, i = 1 + j := ⟨i - 1, by omega⟩
        have e := hdC_p .u32 hok [] j (by omega)
        rw [List.append_nil] at e
        rw [e, hH]
        have e2 : ((List.range 32).map fun j => f (1 + j)).getD j 0 = f (1 + j) := by
          rw [List.getD_eq_getElem?_getD, List.getElem?_map, List.getElem?_range (by omega)]; rfl
        show _ = some (Value.int .u8 (((List.range 32).map fun j => f (1 + j)).getD j 0))
        rw [e2]
        unfold kindAt
        rw [if_neg (by omega), if_pos (by omega)]
      · by_cases c2 : i < 65
        · obtain ⟨j, rfl⟩ : ∃ j, i = 33 + j := ⟨i - 33, by omega⟩
          have e := hdC_r .u32 hok [] j (by omega)
          rw [List.append_nil] at e
          rw [e, hH]
          have e2 : ((List.range 32).map fun j => f (33 + j)).getD j 0 = f (33 + j) := by
            rw [List.getD_eq_getElem?_getD, List.getElem?_map, List.getElem?_range (by omega)]; rfl
          show _ = some (Value.int .u8 (((List.range 32).map fun j => f (33 + j)).getD j 0))
          rw [e2]
          unfold kindAt
          rw [if_neg (by omega), if_pos (by omega)]
        · obtain ⟨j, rfl⟩ : ∃ j, i = 65 + j := ⟨i - 65, by omega⟩
          have e := hdC_tail .u32 hok [] j
          rw [List.append_nil] at e
          rw [e, hH]
          have hj : j = 0 ∨ j = 1 ∨ j = 2 := by omega
          rcases hj with rfl | rfl | rfl <;> rfl
  · rw [List.getElem?_eq_none (by simpa [hsz] using hi), List.getElem?_eq_none (by rw [hdC_len _ hok]; exact hi)]
end Go.Proofs.Ytigpdgfhngknhaa.Pf
/- FnProofFault: a header's proof of work is refused just as the reference says, for every header and every limit; no condition. -/
namespace Go.Proofs.Ytigpdgfhngknhaa.fnProofFault
open Go.ChangeShapes Go.WideShapes Go.ChangeAt Go.RowKit Go.Proofs.YtigpdgfhngknhaaW.PrintWords Go.Proofs.YtigpdgfhngknhaaW.PrintLast Go.Proofs.Ytigpdgfhngknhaa.Snk Go.Proofs.Ytigpdgfhngknhaa.Pf
open Go.ChangeMaps (open_string shut_string)
set_option linter.unusedVariables false
theorem own : ownKnob Try.prog.godebug = none := by kernel_rfl
theorem laidOut : laidOutB Try.prog = true := by kernel_rfl
def IsRow (k : IntKind) (w : World) (a : Option Addr) (len cap : Nat) (zs : List Int) : Prop :=
  (a = none ∧ len = 0 ∧ cap = 0 ∧ zs = []) ∨
  ∃ x, a = some x ∧ len ≤ cap ∧ cap ≤ maxLen ∧ zs.length = cap ∧ (∀ i, i < zs.length → w.cell? (x.add i) = some (.int k (zs.getD i 0))) ∧ ∀ n ∈ zs, (Lit.int k n).wf = true
set_option maxRecDepth 100000 in
theorem lifted (os : Os) (started : os.Started) (H : Type) (enc : TypeId × Value → H) :
    ReturnsInHanded {} Try.checked os 3 .any (Rows.fnProofFaultSpec.pre6 enc Try.prog Try.f3 Rows.fnProofFaultRow.domain false) (Rows.fnProofFaultSpec.post enc Try.prog Try.f3 false true false false) := by
  refine Sha.returnsInHanded_shaped (C := Try.checked) own started (by kernel_rfl) Try.func3
    (ChangeSpec.witness6 (enc := enc) (C := Try.checked) false ⟨#[], #[.agg #[.int .i32 0, .int .u8 0, .int .u8 0, .int .u8 0, .int .u8 0, .int .u8 0, .int .u8 0, .int .u8 0, .int .u8 0, .int .u8 0, .int .u8 0, .int .u8 0, .int .u8 0, .int .u8 0, .int .u8 0, .int .u8 0, .int .u8 0, .int .u8 0, .int .u8 0, .int .u8 0, .int .u8 0, .int .u8 0, .int .u8 0, .int .u8 0, .int .u8 0, .int .u8 0, .int .u8 0, .int .u8 0, .int .u8 0, .int .u8 0, .int .u8 0, .int .u8 0, .int .u8 0, .int .u8 0, .int .u8 0, .int .u8 0, .int .u8 0, .int .u8 0, .int .u8 0, .int .u8 0, .int .u8 0, .int .u8 0, .int .u8 0, .int .u8 0, .int .u8 0, .int .u8 0, .int .u8 0, .int .u8 0, .int .u8 0, .int .u8 0, .int .u8 0, .int .u8 0, .int .u8 0, .int .u8 0, .int .u8 0, .int .u8 0, .int .u8 0, .int .u8 0, .int .u8 0, .int .u8 0, .int .u8 0, .int .u8 0, .int .u8 0, .int .u8 0, .int .u8 0, .int .u32 0, .int .u32 0, .int .u32 0], .slice none 0 0], []⟩ 8 (by kernel_rfl) (by kernel_rfl) (by kernel_rfl) (by kernel_rfl)) ?_
  intro W base args ds gs before hval0 hW hcnd hsz0 _ hsh
  have hsz : (DataW.weightsEach Try.prog (Try.f3.params.toList ++ Rows.fnProofFaultSpec.plain.varTypes Try.prog) (ds ++ gs)).all (· ≤ reachBytes) = true := hsz0
  have hval : ∀ (j : Nat) t v, Try.f3.params[j]? = some t → args[j]? = some v → Value.okWide Try.prog W .any base t v := hval0
  have hW' := hW
  obtain ⟨p, q, hA0, hV, rfl, hfz, hnd⟩ := hW
  have hA : DataW.TrodAll enc Try.prog W 0 (fun _ => true) true Try.f3.params.toList args.toList ds p := hA0
  rw [Try.params3] at hA hval hsz
  obtain ⟨v0, vs0, d0, ds0, p0, q0, hargs, rfl, rfl, h0, r0⟩ := trodAll_cons hA
  obtain ⟨v1, vs1, d1, ds1, p1, q1, rfl, rfl, rfl, h1, r1⟩ := trodAll_cons r0
  obtain ⟨rfl, rfl, rfl⟩ := trodAll_nil r1
  obtain rfl : args = #[v0, v1] := by cases args; simp_all
  obtain ⟨rfl, rfl⟩ := trodVars_none hV
  have k0 := h0
  have lt0 : ∀ x ∈ p0, x.block < W.heap.size := by obtain ⟨m, hm⟩ := k0; exact DataW.trod_lt m _ _ _ hm
  obtain ⟨hdr, hokr, rfl⟩ := open_hdr (hval 0 25 v0 rfl rfl)
  have k1 := h1
  have lt1 : ∀ x ∈ p1, x.block < W.heap.size := by obtain ⟨m, hm⟩ := k1; exact DataW.trod_lt m _ _ _ hm
  obtain ⟨a1, len1, cap1, rfl⟩ := okWide_slice Try.underlying26 (hval 1 26 v1 rfl rfl)
  obtain ⟨z1, w1⟩ : ∃ zs, IsRow .u8 W a1 len1 cap1 zs := by
    obtain ⟨fuel, hf⟩ := h1
    rcases open_ints Try.underlying26 Try.underlying5 (by kernel_rfl) hf with ⟨hcs, _⟩ | ⟨x, l, c, zs, hcs, _, hl, hm, hz, _, hcell, hwz⟩
    · simp [Value.cells] at hcs
      obtain ⟨rfl, rfl, rfl⟩ := hcs
      exact ⟨[], .inl ⟨rfl, rfl, rfl, rfl⟩⟩
    · simp [Value.cells] at hcs
      obtain ⟨rfl, rfl, rfl⟩ := hcs
      exact ⟨zs, .inr ⟨_, rfl, hl, hm, by simpa using hz, hcell, hwz⟩⟩
  obtain ⟨l1, rfl, hr1, hm1, hw1, hc1⟩ := ReadsInt.ofRowC w1
  have hB1 : ∀ d ∈ l1, 0 ≤ d ∧ d < 256 := fun d hd => by have := bounds_u8 (hw1 d hd); omega
  refine (walkProof hdr hokr a1 cap1 l1 W (Sha.krow_of hsh) hr1 hc1 (fun d hd => hB1 d hd)).mono fun e W' ⟨he, bel⟩ => ?_
  subst he
  exact ⟨_, rfl, _, _, _, [], _, [], hW', trodAll_mk1 (shut_bool Try.underlying4 _), (trodAll_cons_mk (Below.trod laidOut (by kernel_rfl) (of_decide_eq_true (by kernel_rfl)) k0 bel lt0) (trodAll_cons_mk (Below.trod laidOut (by kernel_rfl) (of_decide_eq_true (by kernel_rfl)) k1 bel lt1) trodAll_mk0)), rfl, bel.frame _, fun h => by cases h⟩
theorem over : Rows.fnProofFaultRow.holds Try.pinned (OpenSpec.ofChange Rows.fnProofFaultSpec) :=
  OpenClaim.holds_of_wide 3 Try.f3 rfl rfl rfl rfl rfl rfl rfl ⟨rfl, rfl, rfl, rfl, rfl⟩ rfl rfl rfl rfl rfl (by kernel_rfl) Try.func3 (by kernel_rfl)
    (of_decide_eq_true (by kernel_rfl)) (by unfold Func.isWrapper; first | (rw [if_pos (by decide +kernel)]; kernel_rfl) | (rw [if_neg (by decide +kernel)]; exact ⟨rfl, rfl⟩))
    (fun os started H enc _ => lifted os started H enc)
theorem proved : Rows.FnProofFaultSaid := over
#print axioms proved
end Go.Proofs.Ytigpdgfhngknhaa.fnProofFault

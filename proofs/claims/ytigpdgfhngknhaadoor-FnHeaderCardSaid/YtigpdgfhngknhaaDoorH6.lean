/- bytes.Reader: bytes are read. -/
import Derived.Lib.EndianBits
import Derived.SizedLaws
import Derived.ShapedOpen
import Derived.ProofKit
import Derived.Test.YtigpdgfhngknhaaDoorH0
import Derived.Test.YtigpdgfhngknhaaDoorH1
import Derived.Test.YtigpdgfhngknhaaDoorH3
import Derived.Test.YtigpdgfhngknhaaDoorH4
import Derived.Test.YtigpdgfhngknhaaDoorH5
namespace Go.Proofs.YtigpdgfhngknhaaDoor.Snk
open Go.RowKit Go.Proofs.YtigpdgfhngknhaaDoorW.PrintWords Go.Proofs.YtigpdgfhngknhaaDoorW.PrintLast Go.Proofs.YtigpdgfhngknhaaDoorW.PrintMore
set_option linter.unusedVariables false
set_option linter.unusedSimpArgs false
/-- A reader's three cells. -/
def RdC (w : World) (b : Nat) (v : Value) (i lr : Int) : Prop := w.heap[b]? = some (.cells #[v, .int .i64 i, .int .i64 lr] 91 (0, 0))
theorem RdC.c0 {w : World} {b : Nat} {v : Value} {i lr : Int} (h : RdC w b v i lr) : w.cell? ⟨b, 0, none⟩ = some v := cell_of h rfl
theorem RdC.c1 {w : World} {b : Nat} {v : Value} {i lr : Int} (h : RdC w b v i lr) : w.cell? ⟨b, 1, none⟩ = some (.int .i64 i) := cell_of h rfl
theorem RdC.c2 {w : World} {b : Nat} {v : Value} {i lr : Int} (h : RdC w b v i lr) : w.cell? ⟨b, 2, none⟩ = some (.int .i64 lr) := cell_of h rfl
theorem RdC.f {w : World} {b : Nat} {v : Value} {i lr : Int} (h : RdC w b v i lr) (j : Nat) : w.frozen? ⟨b, j, none⟩ = false := frozen_of h j
theorem RdC.set1 {w : World} {b : Nat} {v : Value} {i lr : Int} (h : RdC w b v i lr) (x : Int) : RdC (w.setCell ⟨b, 1, none⟩ (.int .i64 x)) b v x lr := heap_set_same h (j := 1) _
theorem RdC.set2 {w : World} {b : Nat} {v : Value} {i lr : Int} (h : RdC w b v i lr) (x : Int) : RdC (w.setCell ⟨b, 2, none⟩ (.int .i64 x)) b v i x := heap_set_same h (j := 2) _
theorem RdC.below {w w1 : World} {b : Nat} {v : Value} {i lr : Int} (h : RdC w b v i lr) (hb : Below w.heap.size w w1) : RdC w1 b v i lr := (hb.block b (blk_lt' h)).trans h
theorem RdC.row {w : World} {b r : Nat} {v : Value} {i lr : Int} (h : RdC w b v i lr) (hr : r ≠ b) (cs : Array Value) : RdC (w.setRow r cs) b v i lr := (setRow_other w r b cs (Ne.symm hr)).trans h
set_option maxRecDepth 100000 in
theorem newReaderC (A : Option Addr) (n c : Nat) (w : World) : Calls Tryd.prog 32 #[.slice A n c] w fun e w' => e = .returned (.pointer (some ⟨w.heap.size, 0, none⟩)) ∧ RdC w' w.heap.size (.slice A n c) 0 (-1) ∧ Below w.heap.size w w' := by
  go_enter Tryd.func32, Tryd.ntmps32
  go_wp2_with fail
  go_ret
  exact ⟨rfl, heap_alloc_new w _, below_alloc (Below.refl _ _) _⟩
set_option maxRecDepth 100000 in
theorem implReaderC (A : Option Addr) (n c : Nat) (w : World) : Calls Tryd.prog 19 #[.slice A n c] w fun e w' => e = .returned (.pointer (some ⟨w.heap.size, 0, none⟩)) ∧ RdC w' w.heap.size (.slice A n c) 0 (-1) ∧ Below w.heap.size w w' := by
  have HC := Aside0.mk (newReaderC A n c w)
  go_enter Tryd.func19, Tryd.ntmps19
  go_wp2_with (go_at_call 32; (with_reducible refine HC.out.mono ?_); rintro e w2 ⟨rfl, k1, k2⟩; have H1 := Aside0.mk k1; have H2 := Aside0.mk k2; clear k1 k2)
  go_ret
  exact ⟨rfl, H1.out, H2.out⟩
/-- A copy of the first of some bytes into a block's places. -/
theorem copyS {W : World} {ρ : Operand → Value} {o : Oper} (d s : Operand) (ho : o.op = .call { callee := .builtin .copy, args := #[d, s], argTypes := #[26, 26] }) {r off n sl dc c : Nat} {A : Option Addr} {q : List Int} {T : TypeId} {cells : Array Value} (hg : W.heap[r]? = some (.cells cells T (0, 0))) (hn : 0 < n) (hsl : n ≤ sl) (hfit : off + n ≤ cells.size)
    (hd : ρ d = .slice (some ⟨r, off, none⟩) n dc) (hs : ρ s = .slice A sl c) (hp : ReadsInt W .u8 A sl q) :
    (execOp ρ o).run Tryd.prog W = .ok (.value (.int .i64 (n : Int))) (W.setRow r (cells.toList.take off ++ (byteC (q.take n) ++ cells.toList.drop (off + n))).toArray) := by
  have hsz : (Tryd.prog.info? 5).map (·.size) = some 1 := by kernel_rfl
  obtain ⟨hl, _, hc⟩ := hp
  obtain ⟨ad, rfl, hcc⟩ := hc (by omega)
  have hb : (byteC (q.take n)).length = n := by rw [byteC_len, List.length_take, hl]; omega
  have hrun := run_copy_row (P := Tryd.prog) W 26 26 o.type 5 r off n dc ad sl c cells T (byteC (q.take n)) Tryd.underlying26 hsz hg (by rw [hb]; exact (Nat.min_eq_right hsl).symm) (fun j v hj => ?_) (by rw [hb]; exact hfit) (fun v hv => ?_)
  · rw [hb] at hrun
    simp [execOp, ho, resolve, invoke, builtin, hd, hs, hrun, Result.andThen]
    rfl
  · have hjl : j < (q.take n).length := by rw [← byteC_len]; exact (List.getElem?_eq_some_iff.1 hj).1
    rw [byteC_at hjl] at hj
    obtain rfl := Option.some.inj hj
    rw [List.length_take] at hjl
    rw [hcc j (by omega), List.getD_eq_getElem?_getD, List.getD_eq_getElem?_getD, List.getElem?_take_of_lt (by omega)]
  · unfold byteC at hv
    obtain ⟨x, _, rfl⟩ := List.mem_map.1 hv
    rfl
theorem add_twoR (a : Addr) (x y : Nat) : (a.add x).add y = a.add (x + y) := by
  unfold Addr.add
  by_cases hx : x = 0
  · subst hx; simp
  · by_cases hy : y = 0
    · subst hy; simp [hx]
    · simp [hx, hy, Nat.add_assoc]
theorem reads_dropR {w : World} {ad : Addr} {n i : Nat} {bs : List Int} (h : ReadsInt w .u8 (some ad) n bs) (hi : i ≤ n) : ReadsInt w .u8 (some (ad.add i)) (n - i) (bs.drop i) := by
  obtain ⟨hl, h63, hc⟩ := h
  refine ⟨by rw [List.length_drop, hl], by omega, fun hp => ⟨_, rfl, fun j hj => ?_⟩⟩
  obtain ⟨ad2, e, hcc⟩ := hc (by omega)
  obtain rfl := Option.some.inj e
  rw [add_twoR, hcc (i + j) (by omega), List.getD_eq_getElem?_getD, List.getD_eq_getElem?_getD, List.getElem?_drop]
theorem Turned.trans {b r : Nat} {w w1 w2 : World} (h : Turned b r w w1) (k : Turned b r w1 w2) : Turned b r w w2 :=
  ⟨k.os.trans h.os, k.tape.trans h.tape, k.output.trans h.output, Nat.le_trans h.size k.size, fun i hi h1 h2 => (k.block i (Nat.lt_of_lt_of_le hi h.size) h1 h2).trans (h.block i hi h1 h2)⟩
theorem Turned.of_below {b r : Nat} {w w1 : World} (h : Below w.heap.size w w1) : Turned b r w w1 := ⟨h.os, h.tape, h.output, h.size, fun k hk _ _ => h.block k hk⟩
theorem Turned.below0 {b r : Nat} {w0 w w1 : World} (h : Below w0.heap.size w0 w) (k : Turned b r w w1) (hb : w0.heap.size ≤ b) (hr : w0.heap.size ≤ r) : Below w0.heap.size w0 w1 :=
  ⟨k.os.trans h.os, k.tape.trans h.tape, k.output.trans h.output, Nat.le_trans h.size k.size, fun i hi => (k.block i (Nat.lt_of_lt_of_le hi h.size) (by omega) (by omega)).trans (h.block i hi)⟩
theorem Turned.of_only {b r : Nat} {w w1 : World} (h : Only b w w1) : Turned b r w w1 := ⟨h.os, h.tape, h.output, h.size, fun k hk h1 _ => h.block k hk h1⟩
theorem Turned.of_only2 {b r : Nat} {w w1 : World} (h : Only r w w1) : Turned b r w w1 := ⟨h.os, h.tape, h.output, h.size, fun k hk _ h2 => h.block k hk h2⟩
set_option maxRecDepth 100000 in
set_option maxHeartbeats 4000000 in
/-- Some bytes are read that are there. -/
theorem readC (w0 : World) (rb gd off m dc i n c : Nat) (lr : Int) (A : Option Addr) (bs : List Int) (cur : Array Value) (T : TypeId) (w : World) (h0 : Below w0.heap.size w0 w) (hrb : w0.heap.size ≤ rb) (hgd : w0.heap.size ≤ gd) (hne : gd ≠ rb) (hr : ReadsInt w0 .u8 A n bs) (hc : n ≤ c) (hn : n ≤ 1000000000)
    (h : RdC w rb (.slice A n c) i lr) (hm : 0 < m) (him : i + m ≤ n) (hg : w.heap[gd]? = some (.cells cur T (0, 0))) (hfit : off + m ≤ cur.size) :
    Calls Tryd.prog 96 #[.pointer (some ⟨rb, 0, none⟩), .slice (some ⟨gd, off, none⟩) m dc] w fun e w' => e = .returned (.tuple #[.int .i64 (m : Int), .nilIface]) ∧ RdC w' rb (.slice A n c) ((i + m : Nat) : Int) (-1) ∧ w'.heap[gd]? = some (.cells (cur.toList.take off ++ (byteC ((bs.drop i).take m) ++ cur.toList.drop (off + m))).toArray T (0, 0)) ∧ Turned rb gd w w' := by
  obtain ⟨ad, hAd, _⟩ := hr.2.2 (by omega)
  subst hAd
  have HR0 := Aside0.mk hr
  have HB0 := Aside0.mk h0
  have HG := Aside0.mk hg
  have HFIT := Aside0.mk hfit
  have HRB := Aside0.mk hrb
  have HGD := Aside0.mk hgd
  have HNE := Aside0.mk hne
  have HM := Aside0.mk hm
  have H := Aside0.mk h
  have HIM := Aside0.mk him
  have hni : ¬ (n : Int) ≤ (i : Int) := by omega
  have hni2 : ¬ n ≤ i := by omega
  have hi0 : (0 : Int) ≤ (i : Int) := by omega
  have hin : (i : Int) ≤ (n : Int) := by omega
  have hin2 : i ≤ n := by omega
  have hnc : (n : Int) ≤ (c : Int) := by omega
  have hic : (i : Int) ≤ (c : Int) := by omega
  have hci : ¬ c = i := by omega
  have hw : wrap64 ((i : Int) + (m : Int)) = ((i + m : Nat) : Int) := by unfold wrap64; omega
  have HW := Aside0.mk hw
  clear hr h0 hg hfit hrb hgd hne hm h hw
  go_enter Tryd.func96, Tryd.ntmps96
  go_upto_region 1 with fail
  refine start_ (n := 10) (S := fun w' => w'.cell? ⟨rb, 0, none⟩ = some (.slice (some ad) n c) ∧ w'.cell? ⟨rb, 1, none⟩ = some (.int .i64 (i : Int))) (ds := []) #[false, false, false, false, false, false, false, false, false, false] (by kernel_rfl) rfl rfl ⟨H.out.c0, H.out.c1⟩ (fun hHeld => ?_)
  refine pure_ (i := 0) (N := some 6) (v := ?_) (a' := ?_) #[true, false, false, false, false, false, false, false, false, false] rfl rfl (by kernel_rfl) (fun _ _ _ h => h) (Or.inl ⟨by rfl, ?_⟩) ?_ ?_
  rotate_left
  · intro w'
    go_simp
    with_reducible rfl
  rotate_left
  · simp only [Act.put, List.setIfInBounds_toArray, List.set_cons_zero, List.set_cons_succ, i64_w, i32_w]
    rfl
  refine pure_ (i := 1) (N := some 7) (v := ?_) (a' := ?_) #[true, true, false, false, false, false, false, false, false, false] rfl rfl (by kernel_rfl) (fun _ _ _ h => h) (Or.inl ⟨by rfl, ?_⟩) ?_ ?_
  rotate_left
  · intro w'
    go_simp
    with_reducible rfl
  rotate_left
  · simp only [Act.put, List.setIfInBounds_toArray, List.set_cons_zero, List.set_cons_succ, i64_w, i32_w]
    rfl
  refine pure_ (i := 2) (N := some 8) (v := ?_) (a' := ?_) #[true, true, true, false, false, false, false, false, false, false] rfl rfl (by kernel_rfl) (fun _ _ _ h => h) (Or.inl ⟨by rfl, ?_⟩) ?_ ?_
  rotate_left
  · intro w'
    go_simp
    with_reducible rfl
  rotate_left
  · simp only [Act.put, List.setIfInBounds_toArray, List.set_cons_zero, List.set_cons_succ, i64_w, i32_w]
    rfl
  refine take_ (i := 3) (N := some 9) (v := ?_) (a' := ?_) #[true, true, true, true, false, false, false, false, false, false] rfl rfl (by kernel_rfl) (fun _ _ _ h => h) (Or.inl ⟨by rfl, ?_⟩) hHeld ?_ ?_
  rotate_left
  · rintro w' ⟨s0, s1⟩
    go_simp
    with_reducible rfl
  rotate_left
  · simp only [Act.put, List.setIfInBounds_toArray, List.set_cons_zero, List.set_cons_succ, i64_w, i32_w]
    rfl
  refine pure_ (i := 4) (N := some 10) (v := ?_) (a' := ?_) #[true, true, true, true, true, false, false, false, false, false] rfl rfl (by kernel_rfl) (fun _ _ _ h => h) (Or.inl ⟨by rfl, ?_⟩) ?_ ?_
  rotate_left
  · intro w'
    go_simp
    with_reducible rfl
  rotate_left
  · simp only [Act.put, List.setIfInBounds_toArray, List.set_cons_zero, List.set_cons_succ, i64_w, i32_w]
    rfl
  refine pure_ (i := 5) (N := some 11) (v := ?_) (a' := ?_) #[true, true, true, true, true, true, false, false, false, false] rfl rfl (by kernel_rfl) (fun _ _ _ h => h) (Or.inl ⟨by rfl, ?_⟩) ?_ ?_
  rotate_left
  · intro w'
    go_simp
    with_reducible rfl
  rotate_left
  · simp only [Act.put, List.setIfInBounds_toArray, List.set_cons_zero, List.set_cons_succ, i64_w, i32_w]
    rfl
  refine pure_ (i := 6) (N := some 12) (v := ?_) (a' := ?_) #[true, true, true, true, true, true, true, false, false, false] rfl rfl (by kernel_rfl) (fun _ _ _ h => h) (Or.inl ⟨by rfl, ?_⟩) ?_ ?_
  rotate_left
  · intro w'
    go_simp
    with_reducible rfl
  rotate_left
  · simp only [Act.put, List.setIfInBounds_toArray, List.set_cons_zero, List.set_cons_succ, i64_w, i32_w]
    rfl
  refine take_ (i := 7) (N := some 13) (v := ?_) (a' := ?_) #[true, true, true, true, true, true, true, true, false, false] rfl rfl (by kernel_rfl) (fun _ _ _ h => h) (Or.inl ⟨by rfl, ?_⟩) hHeld ?_ ?_
  rotate_left
  · rintro w' ⟨s0, s1⟩
    go_simp
    with_reducible rfl
  rotate_left
  · simp only [Act.put, List.setIfInBounds_toArray, List.set_cons_zero, List.set_cons_succ, i64_w, i32_w]
    rfl
  refine pure_ (i := 8) (N := some 14) (v := ?_) (a' := ?_) #[true, true, true, true, true, true, true, true, true, false] rfl rfl (by kernel_rfl) (fun _ _ _ h => h) (Or.inl ⟨by rfl, ?_⟩) ?_ ?_
  rotate_left
  · intro w'
    go_simp
    with_reducible rfl
  rotate_left
  · simp only [Act.put, List.setIfInBounds_toArray, List.set_cons_zero, List.set_cons_succ, i64_w, i32_w]
    rfl
  refine pure_ (i := 9) (N := some 15) (v := ?_) (a' := ?_) #[true, true, true, true, true, true, true, true, true, true] rfl rfl (by kernel_rfl) (fun _ _ _ h => h) (Or.inl ⟨by rfl, ?_⟩) ?_ ?_
  rotate_left
  · intro w'
    go_simp
    with_reducible rfl
  rotate_left
  · simp only [Act.put, List.setIfInBounds_toArray, List.set_cons_zero, List.set_cons_succ, i64_w, i32_w]
    rfl
  refine done_ (by kernel_rfl) ?_
  obtain ⟨u1, hu1⟩ : ∃ x, x = World.drew w := ⟨_, rfl⟩
  rw [← hu1]
  have U1 : Aside0 (RdC u1 rb (.slice (some ad) n c) i lr) := ⟨by rw [hu1]; exact H.out⟩
  have G1 : Aside0 (u1.heap[gd]? = some (.cells cur T (0, 0))) := ⟨by rw [hu1]; exact HG.out⟩
  have B1 : Aside0 (Below w.heap.size w u1) := ⟨by rw [hu1]; exact below_drew (Below.refl _ _)⟩
  clear hu1
  have c2 := U1.out.c2
  have f2 := U1.out.f 2
  go_upto_region 4 with fail
  generalize hw2 : World.setCell _ _ _ = u2
  have U2 : Aside0 (RdC u2 rb (.slice (some ad) n c) i (-1)) := ⟨by rw [← hw2]; exact U1.out.set2 _⟩
  have O2 : Aside0 (Only rb u1 u2) := ⟨by rw [← hw2]; exact (Only.refl _ _).set _ _⟩
  have G2 : Aside0 (u2.heap[gd]? = some (.cells cur T (0, 0))) := ⟨(O2.out.block gd (blk_lt' G1.out) HNE.out).trans G1.out⟩
  clear hw2 c2 f2
  have T2 : Aside0 (Turned rb gd w u2) := ⟨(Turned.of_below B1.out).trans (.of_only O2.out)⟩
  have R2 : Aside0 (ReadsInt u2 .u8 (some (ad.add i)) (n - i) (bs.drop i)) := ⟨reads_dropR (HR0.out.below (Turned.below0 HB0.out T2.out HRB.out HGD.out)) (by have := HIM.out; omega)⟩
  refine start_ (n := 12) (S := fun w' => w'.cell? ⟨rb, 0, none⟩ = some (.slice (some ad) n c) ∧ w'.cell? ⟨rb, 1, none⟩ = some (.int .i64 (i : Int))) (ds := [10]) #[false, false, false, false, false, false, false, false, false, false, false, false] (by kernel_rfl) rfl rfl ⟨U2.out.c0, U2.out.c1⟩ (fun hHeld => ?_)
  generalize hu3 : World.drew u2 = u3 at hHeld ⊢
  have U3 : Aside0 (RdC u3 rb (.slice (some ad) n c) i (-1)) := ⟨by rw [← hu3]; exact U2.out⟩
  have G3 : Aside0 (u3.heap[gd]? = some (.cells cur T (0, 0))) := ⟨by rw [← hu3]; exact G2.out⟩
  have R3 : Aside0 (ReadsInt u3 .u8 (some (ad.add i)) (n - i) (bs.drop i)) := ⟨by rw [← hu3]; exact R2.out⟩
  have T3 : Aside0 (Turned rb gd w u3) := ⟨by rw [← hu3]; exact T2.out.trans (.of_below (below_drew (Below.refl _ _)))⟩
  clear hu3
  refine pure_ (i := 0) (N := some 20) (v := ?_) (a' := ?_) #[true, false, false, false, false, false, false, false, false, false, false, false] rfl rfl (by kernel_rfl) (fun _ _ _ h => h) (Or.inl ⟨by rfl, ?_⟩) ?_ ?_
  rotate_left
  · intro w'
    go_simp
    with_reducible rfl
  rotate_left
  · simp only [Act.put, List.setIfInBounds_toArray, List.set_cons_zero, List.set_cons_succ, i64_w, i32_w]
    rfl
  refine pure_ (i := 1) (N := some 21) (v := ?_) (a' := ?_) #[true, true, false, false, false, false, false, false, false, false, false, false] rfl rfl (by kernel_rfl) (fun _ _ _ h => h) (Or.inl ⟨by rfl, ?_⟩) ?_ ?_
  rotate_left
  · intro w'
    go_simp
    with_reducible rfl
  rotate_left
  · simp only [Act.put, List.setIfInBounds_toArray, List.set_cons_zero, List.set_cons_succ, i64_w, i32_w]
    rfl
  refine pure_ (i := 2) (N := some 22) (v := ?_) (a' := ?_) #[true, true, true, false, false, false, false, false, false, false, false, false] rfl rfl (by kernel_rfl) (fun _ _ _ h => h) (Or.inl ⟨by rfl, ?_⟩) ?_ ?_
  rotate_left
  · intro w'
    go_simp
    with_reducible rfl
  rotate_left
  · simp only [Act.put, List.setIfInBounds_toArray, List.set_cons_zero, List.set_cons_succ, i64_w, i32_w]
    rfl
  refine pure_ (i := 3) (N := some 23) (v := ?_) (a' := ?_) #[true, true, true, true, false, false, false, false, false, false, false, false] rfl rfl (by kernel_rfl) (fun _ _ _ h => h) (Or.inl ⟨by rfl, ?_⟩) ?_ ?_
  rotate_left
  · intro w'
    go_simp
    with_reducible rfl
  rotate_left
  · simp only [Act.put, List.setIfInBounds_toArray, List.set_cons_zero, List.set_cons_succ, i64_w, i32_w]
    rfl
  refine take_ (i := 4) (N := some 24) (v := ?_) (a' := ?_) #[true, true, true, true, true, false, false, false, false, false, false, false] rfl rfl (by kernel_rfl) (fun _ _ _ h => h) (Or.inl ⟨by rfl, ?_⟩) hHeld ?_ ?_
  rotate_left
  · rintro w' ⟨s0, s1⟩
    go_simp
    with_reducible rfl
  rotate_left
  · simp only [Act.put, List.setIfInBounds_toArray, List.set_cons_zero, List.set_cons_succ, i64_w, i32_w]
    rfl
  refine pure_ (i := 5) (N := some 25) (v := ?_) (a' := ?_) #[true, true, true, true, true, true, false, false, false, false, false, false] rfl rfl (by kernel_rfl) (fun _ _ _ h => h) (Or.inl ⟨by rfl, ?_⟩) ?_ ?_
  rotate_left
  · intro w'
    go_simp
    with_reducible rfl
  rotate_left
  · simp only [Act.put, List.setIfInBounds_toArray, List.set_cons_zero, List.set_cons_succ, i64_w, i32_w]
    rfl
  refine pure_ (i := 6) (N := some 26) (v := ?_) (a' := ?_) #[true, true, true, true, true, true, true, false, false, false, false, false] rfl rfl (by kernel_rfl) (fun _ _ _ h => h) (Or.inl ⟨by rfl, ?_⟩) ?_ ?_
  rotate_left
  · intro w'
    go_simp
    with_reducible rfl
  rotate_left
  · simp only [Act.put, List.setIfInBounds_toArray, List.set_cons_zero, List.set_cons_succ, i64_w, i32_w]
    rfl
  refine pure_ (i := 7) (N := some 27) (v := ?_) (a' := ?_) #[true, true, true, true, true, true, true, true, false, false, false, false] rfl rfl (by kernel_rfl) (fun _ _ _ h => h) (Or.inl ⟨by rfl, ?_⟩) ?_ ?_
  rotate_left
  · intro w'
    go_simp
    with_reducible rfl
  rotate_left
  · simp only [Act.put, List.setIfInBounds_toArray, List.set_cons_zero, List.set_cons_succ, i64_w, i32_w]
    rfl
  refine take_ (i := 8) (N := some 28) (v := ?_) (a' := ?_) #[true, true, true, true, true, true, true, true, true, false, false, false] rfl rfl (by kernel_rfl) (fun _ _ _ h => h) (Or.inl ⟨by rfl, ?_⟩) hHeld ?_ ?_
  rotate_left
  · rintro w' ⟨s0, s1⟩
    go_simp
    with_reducible rfl
  rotate_left
  · simp only [Act.put, List.setIfInBounds_toArray, List.set_cons_zero, List.set_cons_succ, i64_w, i32_w]
    rfl
  refine pure_ (i := 9) (N := some 29) (v := ?_) (a' := ?_) #[true, true, true, true, true, true, true, true, true, true, false, false] rfl rfl (by kernel_rfl) (fun _ _ _ h => h) (Or.inl ⟨by rfl, ?_⟩) ?_ ?_
  rotate_left
  · intro w'
    go_simp
    with_reducible rfl
  rotate_left
  · simp only [Act.put, List.setIfInBounds_toArray, List.set_cons_zero, List.set_cons_succ, i64_w, i32_w]
    rfl
  refine last_ (i := 10) (N := some 30) #[true, true, true, true, true, true, true, true, true, true, true, false] rfl rfl (by kernel_rfl) (by decide) (fun K hK => ?_)
  refine yval_ _ (by rfl) rfl (copyS (W := u3) (.tmp 20) (.tmp 29) rfl G3.out HM.out (by have := HIM.out; omega) HFIT.out (by rfl) (by rfl) R3.out) ?_
  refine hK.out _ _ ?_
  clear hK K
  refine norm_ (a' := ?_) ?_ ?_
  rotate_left
  · show Act.put _ (some 30) _ = _
    simp only [Act.put, List.setIfInBounds_toArray, List.set_cons_zero, List.set_cons_succ, i64_w, i32_w]
    rfl
  refine pure_ (i := 11) (N := some 4) (v := ?_) (a' := ?_) #[true, true, true, true, true, true, true, true, true, true, true, true] rfl rfl (by kernel_rfl) (fun _ _ _ h => h) (Or.inl ⟨by rfl, ?_⟩) ?_ ?_
  rotate_left
  · intro w'
    go_simp
    with_reducible rfl
  rotate_left
  · simp only [Act.put, List.setIfInBounds_toArray, List.set_cons_zero, List.set_cons_succ, i64_w, i32_w]
    rfl
  refine done_ (by kernel_rfl) ?_
  generalize hw4 : World.setRow _ _ _ = u4
  have U4 : Aside0 (RdC u4 rb (.slice (some ad) n c) i (-1)) := ⟨by rw [← hw4]; exact U3.out.row HNE.out _⟩
  have G4 : Aside0 (u4.heap[gd]? = some (.cells (cur.toList.take off ++ (byteC ((bs.drop i).take m) ++ cur.toList.drop (off + m))).toArray T (0, 0))) := ⟨by rw [← hw4]; exact setRow_heap _ _ _ _ _ _ G3.out⟩
  have T4 : Aside0 (Turned rb gd w u4) := ⟨by rw [← hw4]; exact T3.out.trans (.row (Only.refl _ _) _)⟩
  clear hw4
  have c1 := U4.out.c1
  have f1 := U4.out.f 1
  go_wp2_with fail
  go_ret2
  refine ⟨rfl, ?_, ?_, ?_⟩
  · exact U4.out.set1 _
  · exact (((Only.refl rb u4).set _ _).block gd (blk_lt' G4.out) HNE.out).trans G4.out
  · exact T4.out.trans (.of_only ((Only.refl _ _).set _ _))
end Go.Proofs.YtigpdgfhngknhaaDoor.Snk
/- io.ReadFull, where there is enough. -/
namespace Go.Proofs.YtigpdgfhngknhaaDoor.Snk
open Go.RowKit Go.Proofs.YtigpdgfhngknhaaDoorW.PrintWords Go.Proofs.YtigpdgfhngknhaaDoorW.PrintLast Go.Proofs.YtigpdgfhngknhaaDoorW.PrintMore
set_option linter.unusedVariables false
set_option linter.unusedSimpArgs false
theorem wr64 (x : Int) (h0 : 0 ≤ x) (h1 : x ≤ 9223372036854775807) : wrap64 x = x := by unfold wrap64; omega
set_option maxRecDepth 100000 in
theorem mReadR (a : Addr) : Meth Tryd.prog 55 (.pointer (some a)) "Read" 96 (.pointer (some a)) := fun n w => by kernel_rfl
set_option maxRecDepth 100000 in
theorem nReadR (a : Addr) : NilNot Tryd.prog 55 (.pointer (some a)) "Read" := fun n w => by kernel_rfl
set_option maxRecDepth 100000 in
set_option maxHeartbeats 4000000 in
theorem readAtLeastC (w0 : World) (rb gd off m dc i n c : Nat) (lr : Int) (A : Option Addr) (bs : List Int) (cur : Array Value) (T : TypeId) (w : World) (h0 : Below w0.heap.size w0 w) (hrb : w0.heap.size ≤ rb) (hgd : w0.heap.size ≤ gd) (hne : gd ≠ rb) (hr : ReadsInt w0 .u8 A n bs) (hc : n ≤ c) (hn : n ≤ 1000000000)
    (h : RdC w rb (.slice A n c) i lr) (hm : 0 < m) (hdc : m ≤ dc) (him : i + m ≤ n) (hg : w.heap[gd]? = some (.cells cur T (0, 0))) (hfit : off + m ≤ cur.size) :
    Calls Tryd.prog 63 #[.iface 55 (.pointer (some ⟨rb, 0, none⟩)), .slice (some ⟨gd, off, none⟩) m dc, .int .i64 (m : Int)] w fun e w' => e = .returned (.tuple #[.int .i64 (m : Int), .nilIface]) ∧ RdC w' rb (.slice A n c) ((i + m : Nat) : Int) (-1) ∧ w'.heap[gd]? = some (.cells (cur.toList.take off ++ (byteC ((bs.drop i).take m) ++ cur.toList.drop (off + m))).toArray T (0, 0)) ∧ Turned rb gd w w' := by
  have HC : Aside0 (∀ w1, RdC w1 rb (.slice A n c) i lr → w1.heap[gd]? = some (.cells cur T (0, 0)) → Turned rb gd w w1 → Calls Tryd.prog 96 #[.pointer (some ⟨rb, 0, none⟩), .slice (some ⟨gd, off, none⟩) m dc] w1 fun e w' => e = .returned (.tuple #[.int .i64 (m : Int), .nilIface]) ∧ RdC w' rb (.slice A n c) ((i + m : Nat) : Int) (-1) ∧ w'.heap[gd]? = some (.cells (cur.toList.take off ++ (byteC ((bs.drop i).take m) ++ cur.toList.drop (off + m))).toArray T (0, 0)) ∧ Turned rb gd w w') := ⟨fun w1 k1 k2 k3 =>
    (readC w0 rb gd off m dc i n c lr A bs cur T w1 (Turned.below0 h0 k3 hrb hgd) hrb hgd hne hr hc hn k1 hm him k2 hfit).mono fun e w' ⟨q1, q2, q3, q4⟩ => ⟨q1, q2, q3, k3.trans q4⟩⟩
  have H := Aside0.mk h
  have HG := Aside0.mk hg
  obtain ⟨cur2, hcur2⟩ : ∃ x, (cur.toList.take off ++ (byteC ((bs.drop i).take m) ++ cur.toList.drop (off + m))).toArray = x := ⟨_, rfl⟩
  rw [hcur2] at HC ⊢
  have hm0 : (0 : Int) < (m : Int) := by omega
  have hm1 : 0 < m := hm
  have hmm : ¬ (m : Int) < (m : Int) := by omega
  have hmm2 : (m : Int) ≤ (m : Int) := by omega
  have hmb : (m : Int) ≤ 1000000000 := by omega
  have hdc0 : ¬ dc = 0 := by omega
  have hmdc : (m : Int) ≤ (dc : Int) := by omega
  have hw : wrap64 (0 + (m : Int)) = (m : Int) := by rw [Int.zero_add]; exact wr64 _ (by omega) (by omega)
  have HW := Aside0.mk hw
  clear hw
  have hw2 : wrap64 (m : Int) = (m : Int) := wr64 _ (by omega) (by omega)
  have HW2 := Aside0.mk hw2
  have HMP := Aside0.mk hm
  clear h0 hrb hgd hne hr hc hn h hm him hg hfit hcur2 hdc hw2
  go_enter Tryd.func63, Tryd.ntmps63
  go_upto_region 3 with fail
  go_loopw [6, 7] (fun v6 v7 wr => (v6 = .int .i64 0 ∧ v7 = .nilIface ∧ Aside0 (RdC wr rb (.slice A n c) i lr) ∧ Aside0 (wr.heap[gd]? = some (.cells cur T (0, 0))) ∧ Aside0 (Turned rb gd w wr)) ∨ (v6 = .int .i64 (m : Int) ∧ v7 = .nilIface ∧ Aside0 (RdC wr rb (.slice A n c) ((i + m : Nat) : Int) (-1)) ∧ Aside0 (wr.heap[gd]? = some (.cells cur2 T (0, 0))) ∧ Aside0 (Turned rb gd w wr))) (fun v6 v7 _ => m - (intOf v6).toNat)
  case atStart => exact .inl ⟨rfl, rfl, H, HG, ⟨.of_below (Below.refl _ _)⟩⟩
  case round =>
    rcases hrel with ⟨rfl, rfl, K1, K2, K3⟩ | ⟨rfl, rfl, K1, K2, K3⟩
    · go_upto_region 5 with fail
      refine start_ (n := 13) (S := fun w' => True) (ds := []) #[false, false, false, false, false, false, false, false, false, false, false, false, false] (by kernel_rfl) rfl rfl trivial (fun hHeld => ?_)
      have D1 : Aside0 (RdC (World.drew wr) rb (.slice A n c) i lr) := ⟨K1.out⟩
      have D2 : Aside0 ((World.drew wr).heap[gd]? = some (.cells cur T (0, 0))) := ⟨K2.out⟩
      have D3 : Aside0 (Turned rb gd w (World.drew wr)) := ⟨K3.out.trans (.of_below (below_drew (Below.refl _ _)))⟩
      refine pure_ (i := 0) (N := some 22) (v := ?_) (a' := ?_) #[true, false, false, false, false, false, false, false, false, false, false, false, false] rfl rfl (by kernel_rfl) (fun _ _ _ h => h) (Or.inl ⟨by rfl, ?_⟩) ?_ ?_
      rotate_left
      · intro w'
        go_simp
        with_reducible rfl
      rotate_left
      · simp only [Act.put, List.setIfInBounds_toArray, List.set_cons_zero, List.set_cons_succ, i64_w, i32_w]
        rfl
      refine pure_ (i := 1) (N := some 23) (v := ?_) (a' := ?_) #[true, true, false, false, false, false, false, false, false, false, false, false, false] rfl rfl (by kernel_rfl) (fun _ _ _ h => h) (Or.inl ⟨by rfl, ?_⟩) ?_ ?_
      rotate_left
      · intro w'
        go_simp
        with_reducible rfl
      rotate_left
      · simp only [Act.put, List.setIfInBounds_toArray, List.set_cons_zero, List.set_cons_succ, i64_w, i32_w]
        rfl
      refine pure_ (i := 2) (N := some 24) (v := ?_) (a' := ?_) #[true, true, true, false, false, false, false, false, false, false, false, false, false] rfl rfl (by kernel_rfl) (fun _ _ _ h => h) (Or.inl ⟨by rfl, ?_⟩) ?_ ?_
      rotate_left
      · intro w'
        go_simp
        with_reducible rfl
      rotate_left
      · simp only [Act.put, List.setIfInBounds_toArray, List.set_cons_zero, List.set_cons_succ, i64_w, i32_w]
        rfl
      refine pure_ (i := 3) (N := some 25) (v := ?_) (a' := ?_) #[true, true, true, true, false, false, false, false, false, false, false, false, false] rfl rfl (by kernel_rfl) (fun _ _ _ h => h) (Or.inl ⟨by rfl, ?_⟩) ?_ ?_
      rotate_left
      · intro w'
        go_simp
        with_reducible rfl
      rotate_left
      · simp only [Act.put, List.setIfInBounds_toArray, List.set_cons_zero, List.set_cons_succ, i64_w, i32_w]
        rfl
      refine pure_ (i := 4) (N := some 26) (v := ?_) (a' := ?_) #[true, true, true, true, true, false, false, false, false, false, false, false, false] rfl rfl (by kernel_rfl) (fun _ _ _ h => h) (Or.inl ⟨by rfl, ?_⟩) ?_ ?_
      rotate_left
      · intro w'
        go_simp
        with_reducible rfl
      rotate_left
      · simp only [Act.put, List.setIfInBounds_toArray, List.set_cons_zero, List.set_cons_succ, i64_w, i32_w]
        rfl
      refine pure_ (i := 5) (N := some 27) (v := ?_) (a' := ?_) #[true, true, true, true, true, true, false, false, false, false, false, false, false] rfl rfl (by kernel_rfl) (fun _ _ _ h => h) (Or.inl ⟨by rfl, ?_⟩) ?_ ?_
      rotate_left
      · intro w'
        refine nil_run (nReadR ⟨rb, 0, none⟩) _ (.tmp 26) ?_ ?_ <;> rfl
      rotate_left
      · simp only [Act.put, List.setIfInBounds_toArray, List.set_cons_zero, List.set_cons_succ, i64_w, i32_w]
        rfl
      refine pure_ (i := 6) (N := some 28) (v := ?_) (a' := ?_) #[true, true, true, true, true, true, true, false, false, false, false, false, false] rfl rfl (by kernel_rfl) (fun _ _ _ h => h) (Or.inl ⟨by rfl, ?_⟩) ?_ ?_
      rotate_left
      · intro w'
        go_simp
        with_reducible rfl
      rotate_left
      · simp only [Act.put, List.setIfInBounds_toArray, List.set_cons_zero, List.set_cons_succ, i64_w, i32_w]
        rfl
      refine one_ (i := 7) (N := some 29) #[true, true, true, true, true, true, true, true, false, false, false, false, false] rfl rfl (by kernel_rfl) (by decide) (fun K hK => ?_)
      refine goesI_ (by rfl) rfl (.tmp 28) "Read" rfl 55 (.pointer (some ⟨rb, 0, none⟩)) rfl 96 (mReadR ⟨rb, 0, none⟩) Tryd.func96 (by kernel_rfl) rfl #[.pointer (some ⟨rb, 0, none⟩), .slice (some ⟨gd, off, none⟩) m dc] (by (try simp only [List.map_toArray, List.map_cons, List.map_nil]); first | done | rfl | (simp only [List.length_drop, List.length_take]; rfl)) ?_
      with_reducible refine (HC.out _ D1.out D2.out D3.out).mono ?_
      rintro e w2 ⟨rfl, k1, k2, k3⟩
      refine ⟨_, rfl, ?_⟩
      have L1 := Aside0.mk k1
      have L2 := Aside0.mk k2
      have L3 := Aside0.mk k3
      clear k1 k2 k3
      refine hK.out _ _ trivial (fun hHeld => ?_)
      clear hK K
      refine norm_ (a' := ?_) ?_ ?_
      rotate_left
      · show Act.put _ (some 29) _ = _
        simp only [Act.put, List.setIfInBounds_toArray, List.set_cons_zero, List.set_cons_succ, i64_w, i32_w]
        rfl
      refine pure_ (i := 8) (N := some 21) (v := ?_) (a' := ?_) #[true, true, true, true, true, true, true, true, true, false, false, false, false] rfl rfl (by kernel_rfl) (fun _ _ _ h => h) (Or.inl ⟨by rfl, ?_⟩) ?_ ?_
      rotate_left
      · intro w'
        go_simp
        with_reducible rfl
      rotate_left
      · simp only [Act.put, List.setIfInBounds_toArray, List.set_cons_zero, List.set_cons_succ, i64_w, i32_w]
        rfl
      refine pure_ (i := 9) (N := some 30) (v := ?_) (a' := ?_) #[true, true, true, true, true, true, true, true, true, true, false, false, false] rfl rfl (by kernel_rfl) (fun _ _ _ h => h) (Or.inl ⟨by rfl, ?_⟩) ?_ ?_
      rotate_left
      · intro w'
        go_simp
        with_reducible rfl
      rotate_left
      · simp only [Act.put, List.setIfInBounds_toArray, List.set_cons_zero, List.set_cons_succ, i64_w, i32_w]
        rfl
      refine pure_ (i := 10) (N := some 31) (v := ?_) (a' := ?_) #[true, true, true, true, true, true, true, true, true, true, true, false, false] rfl rfl (by kernel_rfl) (fun _ _ _ h => h) (Or.inl ⟨by rfl, ?_⟩) ?_ ?_
      rotate_left
      · intro w'
        go_simp
        with_reducible rfl
      rotate_left
      · simp only [Act.put, List.setIfInBounds_toArray, List.set_cons_zero, List.set_cons_succ, i64_w, i32_w]
        rfl
      refine pure_ (i := 11) (N := some 8) (v := ?_) (a' := ?_) #[true, true, true, true, true, true, true, true, true, true, true, true, false] rfl rfl (by kernel_rfl) (fun _ _ _ h => h) (Or.inl ⟨by rfl, ?_⟩) ?_ ?_
      rotate_left
      · intro w'
        go_simp
        with_reducible rfl
      rotate_left
      · simp only [Act.put, List.setIfInBounds_toArray, List.set_cons_zero, List.set_cons_succ, i64_w, i32_w]
        rfl
      refine pure_ (i := 12) (N := some 7) (v := ?_) (a' := ?_) #[true, true, true, true, true, true, true, true, true, true, true, true, true] rfl rfl (by kernel_rfl) (fun _ _ _ h => h) (Or.inl ⟨by rfl, ?_⟩) ?_ ?_
      rotate_left
      · intro w'
        go_simp
        with_reducible rfl
      rotate_left
      · simp only [Act.put, List.setIfInBounds_toArray, List.set_cons_zero, List.set_cons_succ, i64_w, i32_w]
        rfl
      refine done_ (by kernel_rfl) ?_
      have hw := HW.out
      have hw2 := HW2.out
      go_wp2_with fail
      clear hw hw2
      go_roundw
      case rel => exact .inr ⟨by go_num, rfl, L1, L2, L3⟩
      case measure => simp [intOf]; have := HMP.out; omega
    · go_wp2_with fail
      go_ret2
      exact ⟨rfl, K1.out, K2.out, K3.out⟩
set_option maxRecDepth 100000 in
set_option maxHeartbeats 4000000 in
theorem readFullC (w0 : World) (rb gd off m dc i n c : Nat) (lr : Int) (A : Option Addr) (bs : List Int) (cur : Array Value) (T : TypeId) (w : World) (h0 : Below w0.heap.size w0 w) (hrb : w0.heap.size ≤ rb) (hgd : w0.heap.size ≤ gd) (hne : gd ≠ rb) (hr : ReadsInt w0 .u8 A n bs) (hc : n ≤ c) (hn : n ≤ 1000000000)
    (h : RdC w rb (.slice A n c) i lr) (hm : 0 < m) (hdc : m ≤ dc) (him : i + m ≤ n) (hg : w.heap[gd]? = some (.cells cur T (0, 0))) (hfit : off + m ≤ cur.size) :
    Calls Tryd.prog 54 #[.iface 55 (.pointer (some ⟨rb, 0, none⟩)), .slice (some ⟨gd, off, none⟩) m dc] w fun e w' => e = .returned (.tuple #[.int .i64 (m : Int), .nilIface]) ∧ RdC w' rb (.slice A n c) ((i + m : Nat) : Int) (-1) ∧ w'.heap[gd]? = some (.cells (cur.toList.take off ++ (byteC ((bs.drop i).take m) ++ cur.toList.drop (off + m))).toArray T (0, 0)) ∧ Turned rb gd w w' := by
  have HC := Aside0.mk (readAtLeastC w0 rb gd off m dc i n c lr A bs cur T w h0 hrb hgd hne hr hc hn h hm hdc him hg hfit)
  clear h0 hrb hgd hne hr hc hn h hm him hg hfit hdc
  go_enter Tryd.func54, Tryd.ntmps54
  go_wp2_with (go_at_call 63; (with_reducible refine HC.out.mono ?_); rintro e w2 ⟨rfl, k1, k2, k3⟩; have K1 := Aside0.mk k1; have K2 := Aside0.mk k2; have K3 := Aside0.mk k3; clear k1 k2 k3)
  go_ret2
  exact ⟨rfl, K1.out, K2.out, K3.out⟩
end Go.Proofs.YtigpdgfhngknhaaDoor.Snk
/- Four bytes as a number, the lowest first. -/
namespace Go.Proofs.YtigpdgfhngknhaaDoor.Tok
open Go.RowKit Go.Proofs.YtigpdgfhngknhaaDoorW.PrintWords Go.Proofs.YtigpdgfhngknhaaDoorW.PrintLast Go.Proofs.YtigpdgfhngknhaaDoorW.PrintMore Go.Proofs.YtigpdgfhngknhaaDoor.QFnTapRoot
set_option linter.unusedVariables false
set_option linter.unusedSimpArgs false
theorem cell_alloc' {w : World} {p : Addr} {v : Value} (h : w.cell? p = some v) (o : Obj) : (w.alloc o).cell? p = some v := by
  have hlt := World.block_lt_of_cell? w _ h
  exact (World.cell?_of_block (w := w) (Below.heap_alloc w o p.block hlt)).trans h
theorem u16w {x : Int} (h0 : 0 ≤ x) (h1 : x < 65536) : IntKind.u16.wrap x = x := by
  unfold IntKind.wrap; simp [IntKind.signed, IntKind.bits]; omega
theorem u32w {x : Int} (h0 : 0 ≤ x) (h1 : x < 4294967296) : IntKind.u32.wrap x = x := by
  unfold IntKind.wrap; simp [IntKind.signed, IntKind.bits]; omega
theorem orUint32 (a b c d : Int) (a0 : 0 ≤ a) (a1 : a < 256) (b0 : 0 ≤ b) (b1 : b < 256) (c0 : 0 ≤ c) (c1 : c < 256) (d0 : 0 ≤ d) (d1 : d < 256) :
    Go.bits .or .u32 (Go.bits .or .u32 (Go.bits .or .u32 (IntKind.u32.wrap a) (IntKind.u32.wrap (IntKind.u32.wrap b * 256))) (IntKind.u32.wrap (IntKind.u32.wrap c * 65536))) (IntKind.u32.wrap (IntKind.u32.wrap d * 16777216)) = a + b * 256 + c * 65536 + d * 16777216 := by
  rw [u32w a0 (by omega), u32w b0 (by omega), u32w c0 (by omega), u32w d0 (by omega), u32w (x := b * 256) (by omega) (by omega), u32w (x := c * 65536) (by omega) (by omega), u32w (x := d * 16777216) (by omega) (by omega)]
  rw [bits_join_low .u32 32 (by decide) (fun n h0 h1 => by simp [IntKind.wrap, IntKind.signed, IntKind.bits]; omega) 8 a (b * 256) a0 (by omega) (by omega) (by omega) (by omega) (by omega)]
  rw [bits_join_low .u32 32 (by decide) (fun n h0 h1 => by simp [IntKind.wrap, IntKind.signed, IntKind.bits]; omega) 16 (a + b * 256) (c * 65536) (by omega) (by omega) (by omega) (by omega) (by omega) (by omega)]
  exact bits_join_low .u32 32 (by decide) (fun n h0 h1 => by simp [IntKind.wrap, IntKind.signed, IntKind.bits]; omega) 24 (a + b * 256 + c * 65536) (d * 16777216) (by omega) (by omega) (by omega) (by omega) (by omega) (by omega)

set_option maxRecDepth 100000 in
set_option maxHeartbeats 4000000 in
theorem leUint32 (ad : Addr) (m cc : Nat) (hm : 4 ≤ m) (a b c d : Int) (a0 : 0 ≤ a) (a1 : a < 256) (b0 : 0 ≤ b) (b1 : b < 256) (c0 : 0 ≤ c) (c1 : c < 256) (d0 : 0 ≤ d) (d1 : d < 256) (w : World) (ha : w.cell? ad = some (.int .u8 a)) (hb : w.cell? ⟨ad.block, ad.off + 1, none⟩ = some (.int .u8 b)) (hc : w.cell? ⟨ad.block, ad.off + 2, none⟩ = some (.int .u8 c)) (hd : w.cell? ⟨ad.block, ad.off + 3, none⟩ = some (.int .u8 d)) :
    Calls Tryd.prog 55 #[.agg #[], .slice (some ad) m cc] w fun e w' => e = .returned (.int .u32 (a + b * 256 + c * 65536 + d * 16777216)) ∧ Below w.heap.size w w' := by
  have m0 : 0 < m := by omega
  have m1 : 1 < m := by omega
  have m2 : 2 < m := by omega
  have m3 : 3 < m := by omega
  have n0 : (0 : Int) < m := by omega
  have n1 : (1 : Int) < m := by omega
  have n2 : (2 : Int) < m := by omega
  have n3 : (3 : Int) < m := by omega
  clear hm
  have HS := Aside0.mk (And.intro (show (w.alloc (.cells #[] 103)).drew.cell? _ = _ from cell_alloc' ha _) (And.intro (show (w.alloc (.cells #[] 103)).drew.cell? _ = _ from cell_alloc' hb _) (And.intro (show (w.alloc (.cells #[] 103)).drew.cell? _ = _ from cell_alloc' hc _) (show (w.alloc (.cells #[] 103)).drew.cell? _ = _ from cell_alloc' hd _))))
  have hy0 := cell_alloc' ha (.cells #[] 103)
  have hy1 := cell_alloc' hb (.cells #[] 103)
  have hy2 := cell_alloc' hc (.cells #[] 103)
  have hy3 := cell_alloc' hd (.cells #[] 103)
  clear ha hb hc hd
  go_enter Tryd.func55, Tryd.ntmps55
  go_wp2
  refine start_ (n := 23) (S := fun w' => w'.cell? ad = some (.int .u8 a) ∧ w'.cell? ⟨ad.block, ad.off + 1, none⟩ = some (.int .u8 b) ∧ w'.cell? ⟨ad.block, ad.off + 2, none⟩ = some (.int .u8 c) ∧ w'.cell? ⟨ad.block, ad.off + 3, none⟩ = some (.int .u8 d)) (ds := []) #[false, false, false, false, false, false, false, false, false, false, false, false, false, false, false, false, false, false, false, false, false, false, false] (by kernel_rfl) rfl rfl HS.out (fun hHeld => ?_)
  refine pure_ (i := 0) (N := some 8) (v := ?_) (a' := ?_) #[true, false, false, false, false, false, false, false, false, false, false, false, false, false, false, false, false, false, false, false, false, false, false] rfl rfl (by kernel_rfl) (fun _ _ _ h => h) (Or.inl ⟨by rfl, ?_⟩) ?_ ?_
  rotate_left
  · intro w'
    go_simp
    with_reducible rfl
  rotate_left
  · simp only [Act.put, List.setIfInBounds_toArray, List.set_cons_zero, List.set_cons_succ, i64_w, i32_w]
    rfl
  refine pure_ (i := 1) (N := some 9) (v := ?_) (a' := ?_) #[true, true, false, false, false, false, false, false, false, false, false, false, false, false, false, false, false, false, false, false, false, false, false] rfl rfl (by kernel_rfl) (fun _ _ _ h => h) (Or.inl ⟨by rfl, ?_⟩) ?_ ?_
  rotate_left
  · intro w'
    go_simp
    with_reducible rfl
  rotate_left
  · simp only [Act.put, List.setIfInBounds_toArray, List.set_cons_zero, List.set_cons_succ, i64_w, i32_w]
    rfl
  refine take_ (i := 2) (N := some 10) (v := ?_) (a' := ?_) #[true, true, true, false, false, false, false, false, false, false, false, false, false, false, false, false, false, false, false, false, false, false, false] rfl rfl (by kernel_rfl) (fun _ _ _ h => h) (Or.inl ⟨by rfl, ?_⟩) hHeld ?_ ?_
  rotate_left
  · rintro w' ⟨s0, s1, s2, s3⟩
    go_simp
    with_reducible rfl
  rotate_left
  · simp only [Act.put, List.setIfInBounds_toArray, List.set_cons_zero, List.set_cons_succ, i64_w, i32_w]
    rfl
  refine pure_ (i := 3) (N := some 11) (v := ?_) (a' := ?_) #[true, true, true, true, false, false, false, false, false, false, false, false, false, false, false, false, false, false, false, false, false, false, false] rfl rfl (by kernel_rfl) (fun _ _ _ h => h) (Or.inl ⟨by rfl, ?_⟩) ?_ ?_
  rotate_left
  · intro w'
    go_simp
    with_reducible rfl
  rotate_left
  · simp only [Act.put, List.setIfInBounds_toArray, List.set_cons_zero, List.set_cons_succ, i64_w, i32_w]
    rfl
  refine pure_ (i := 4) (N := some 12) (v := ?_) (a' := ?_) #[true, true, true, true, true, false, false, false, false, false, false, false, false, false, false, false, false, false, false, false, false, false, false] rfl rfl (by kernel_rfl) (fun _ _ _ h => h) (Or.inl ⟨by rfl, ?_⟩) ?_ ?_
  rotate_left
  · intro w'
    go_simp
    with_reducible rfl
  rotate_left
  · simp only [Act.put, List.setIfInBounds_toArray, List.set_cons_zero, List.set_cons_succ, i64_w, i32_w]
    rfl
  refine pure_ (i := 5) (N := some 13) (v := ?_) (a' := ?_) #[true, true, true, true, true, true, false, false, false, false, false, false, false, false, false, false, false, false, false, false, false, false, false] rfl rfl (by kernel_rfl) (fun _ _ _ h => h) (Or.inl ⟨by rfl, ?_⟩) ?_ ?_
  rotate_left
  · intro w'
    go_simp
    with_reducible rfl
  rotate_left
  · simp only [Act.put, List.setIfInBounds_toArray, List.set_cons_zero, List.set_cons_succ, i64_w, i32_w]
    rfl
  refine take_ (i := 6) (N := some 14) (v := ?_) (a' := ?_) #[true, true, true, true, true, true, true, false, false, false, false, false, false, false, false, false, false, false, false, false, false, false, false] rfl rfl (by kernel_rfl) (fun _ _ _ h => h) (Or.inl ⟨by rfl, ?_⟩) hHeld ?_ ?_
  rotate_left
  · rintro w' ⟨s0, s1, s2, s3⟩
    go_simp
    with_reducible rfl
  rotate_left
  · simp only [Act.put, List.setIfInBounds_toArray, List.set_cons_zero, List.set_cons_succ, i64_w, i32_w]
    rfl
  refine pure_ (i := 7) (N := some 15) (v := ?_) (a' := ?_) #[true, true, true, true, true, true, true, true, false, false, false, false, false, false, false, false, false, false, false, false, false, false, false] rfl rfl (by kernel_rfl) (fun _ _ _ h => h) (Or.inl ⟨by rfl, ?_⟩) ?_ ?_
  rotate_left
  · intro w'
    go_simp
    with_reducible rfl
  rotate_left
  · simp only [Act.put, List.setIfInBounds_toArray, List.set_cons_zero, List.set_cons_succ, i64_w, i32_w]
    rfl
  refine pure_ (i := 8) (N := some 16) (v := ?_) (a' := ?_) #[true, true, true, true, true, true, true, true, true, false, false, false, false, false, false, false, false, false, false, false, false, false, false] rfl rfl (by kernel_rfl) (fun _ _ _ h => h) (Or.inl ⟨by rfl, ?_⟩) ?_ ?_
  rotate_left
  · intro w'
    go_simp
    with_reducible rfl
  rotate_left
  · simp only [Act.put, List.setIfInBounds_toArray, List.set_cons_zero, List.set_cons_succ, i64_w, i32_w]
    rfl
  refine pure_ (i := 9) (N := some 17) (v := ?_) (a' := ?_) #[true, true, true, true, true, true, true, true, true, true, false, false, false, false, false, false, false, false, false, false, false, false, false] rfl rfl (by kernel_rfl) (fun _ _ _ h => h) (Or.inl ⟨by rfl, ?_⟩) ?_ ?_
  rotate_left
  · intro w'
    go_simp
    with_reducible rfl
  rotate_left
  · simp only [Act.put, List.setIfInBounds_toArray, List.set_cons_zero, List.set_cons_succ, i64_w, i32_w]
    rfl
  refine pure_ (i := 10) (N := some 18) (v := ?_) (a' := ?_) #[true, true, true, true, true, true, true, true, true, true, true, false, false, false, false, false, false, false, false, false, false, false, false] rfl rfl (by kernel_rfl) (fun _ _ _ h => h) (Or.inl ⟨by rfl, ?_⟩) ?_ ?_
  rotate_left
  · intro w'
    go_simp
    with_reducible rfl
  rotate_left
  · simp only [Act.put, List.setIfInBounds_toArray, List.set_cons_zero, List.set_cons_succ, i64_w, i32_w]
    rfl
  refine pure_ (i := 11) (N := some 19) (v := ?_) (a' := ?_) #[true, true, true, true, true, true, true, true, true, true, true, true, false, false, false, false, false, false, false, false, false, false, false] rfl rfl (by kernel_rfl) (fun _ _ _ h => h) (Or.inl ⟨by rfl, ?_⟩) ?_ ?_
  rotate_left
  · intro w'
    go_simp
    with_reducible rfl
  rotate_left
  · simp only [Act.put, List.setIfInBounds_toArray, List.set_cons_zero, List.set_cons_succ, i64_w, i32_w]
    rfl
  refine take_ (i := 12) (N := some 20) (v := ?_) (a' := ?_) #[true, true, true, true, true, true, true, true, true, true, true, true, true, false, false, false, false, false, false, false, false, false, false] rfl rfl (by kernel_rfl) (fun _ _ _ h => h) (Or.inl ⟨by rfl, ?_⟩) hHeld ?_ ?_
  rotate_left
  · rintro w' ⟨s0, s1, s2, s3⟩
    go_simp
    with_reducible rfl
  rotate_left
  · simp only [Act.put, List.setIfInBounds_toArray, List.set_cons_zero, List.set_cons_succ, i64_w, i32_w]
    rfl
  refine pure_ (i := 13) (N := some 21) (v := ?_) (a' := ?_) #[true, true, true, true, true, true, true, true, true, true, true, true, true, true, false, false, false, false, false, false, false, false, false] rfl rfl (by kernel_rfl) (fun _ _ _ h => h) (Or.inl ⟨by rfl, ?_⟩) ?_ ?_
  rotate_left
  · intro w'
    go_simp
    with_reducible rfl
  rotate_left
  · simp only [Act.put, List.setIfInBounds_toArray, List.set_cons_zero, List.set_cons_succ, i64_w, i32_w]
    rfl
  refine pure_ (i := 14) (N := some 22) (v := ?_) (a' := ?_) #[true, true, true, true, true, true, true, true, true, true, true, true, true, true, true, false, false, false, false, false, false, false, false] rfl rfl (by kernel_rfl) (fun _ _ _ h => h) (Or.inl ⟨by rfl, ?_⟩) ?_ ?_
  rotate_left
  · intro w'
    go_simp
    with_reducible rfl
  rotate_left
  · simp only [Act.put, List.setIfInBounds_toArray, List.set_cons_zero, List.set_cons_succ, i64_w, i32_w]
    rfl
  refine pure_ (i := 15) (N := some 23) (v := ?_) (a' := ?_) #[true, true, true, true, true, true, true, true, true, true, true, true, true, true, true, true, false, false, false, false, false, false, false] rfl rfl (by kernel_rfl) (fun _ _ _ h => h) (Or.inl ⟨by rfl, ?_⟩) ?_ ?_
  rotate_left
  · intro w'
    go_simp
    with_reducible rfl
  rotate_left
  · simp only [Act.put, List.setIfInBounds_toArray, List.set_cons_zero, List.set_cons_succ, i64_w, i32_w]
    rfl
  refine pure_ (i := 16) (N := some 24) (v := ?_) (a' := ?_) #[true, true, true, true, true, true, true, true, true, true, true, true, true, true, true, true, true, false, false, false, false, false, false] rfl rfl (by kernel_rfl) (fun _ _ _ h => h) (Or.inl ⟨by rfl, ?_⟩) ?_ ?_
  rotate_left
  · intro w'
    go_simp
    with_reducible rfl
  rotate_left
  · simp only [Act.put, List.setIfInBounds_toArray, List.set_cons_zero, List.set_cons_succ, i64_w, i32_w]
    rfl
  refine pure_ (i := 17) (N := some 25) (v := ?_) (a' := ?_) #[true, true, true, true, true, true, true, true, true, true, true, true, true, true, true, true, true, true, false, false, false, false, false] rfl rfl (by kernel_rfl) (fun _ _ _ h => h) (Or.inl ⟨by rfl, ?_⟩) ?_ ?_
  rotate_left
  · intro w'
    go_simp
    with_reducible rfl
  rotate_left
  · simp only [Act.put, List.setIfInBounds_toArray, List.set_cons_zero, List.set_cons_succ, i64_w, i32_w]
    rfl
  refine take_ (i := 18) (N := some 26) (v := ?_) (a' := ?_) #[true, true, true, true, true, true, true, true, true, true, true, true, true, true, true, true, true, true, true, false, false, false, false] rfl rfl (by kernel_rfl) (fun _ _ _ h => h) (Or.inl ⟨by rfl, ?_⟩) hHeld ?_ ?_
  rotate_left
  · rintro w' ⟨s0, s1, s2, s3⟩
    go_simp
    with_reducible rfl
  rotate_left
  · simp only [Act.put, List.setIfInBounds_toArray, List.set_cons_zero, List.set_cons_succ, i64_w, i32_w]
    rfl
  refine pure_ (i := 19) (N := some 27) (v := ?_) (a' := ?_) #[true, true, true, true, true, true, true, true, true, true, true, true, true, true, true, true, true, true, true, true, false, false, false] rfl rfl (by kernel_rfl) (fun _ _ _ h => h) (Or.inl ⟨by rfl, ?_⟩) ?_ ?_
  rotate_left
  · intro w'
    go_simp
    with_reducible rfl
  rotate_left
  · simp only [Act.put, List.setIfInBounds_toArray, List.set_cons_zero, List.set_cons_succ, i64_w, i32_w]
    rfl
  refine pure_ (i := 20) (N := some 28) (v := ?_) (a' := ?_) #[true, true, true, true, true, true, true, true, true, true, true, true, true, true, true, true, true, true, true, true, true, false, false] rfl rfl (by kernel_rfl) (fun _ _ _ h => h) (Or.inl ⟨by rfl, ?_⟩) ?_ ?_
  rotate_left
  · intro w'
    go_simp
    with_reducible rfl
  rotate_left
  · simp only [Act.put, List.setIfInBounds_toArray, List.set_cons_zero, List.set_cons_succ, i64_w, i32_w]
    rfl
  refine pure_ (i := 21) (N := some 29) (v := ?_) (a' := ?_) #[true, true, true, true, true, true, true, true, true, true, true, true, true, true, true, true, true, true, true, true, true, true, false] rfl rfl (by kernel_rfl) (fun _ _ _ h => h) (Or.inl ⟨by rfl, ?_⟩) ?_ ?_
  rotate_left
  · intro w'
    go_simp
    with_reducible rfl
  rotate_left
  · simp only [Act.put, List.setIfInBounds_toArray, List.set_cons_zero, List.set_cons_succ, i64_w, i32_w]
    rfl
  refine pure_ (i := 22) (N := some 4) (v := ?_) (a' := ?_) #[true, true, true, true, true, true, true, true, true, true, true, true, true, true, true, true, true, true, true, true, true, true, true] rfl rfl (by kernel_rfl) (fun _ _ _ h => h) (Or.inl ⟨by rfl, ?_⟩) ?_ ?_
  rotate_left
  · intro w'
    go_simp
    with_reducible rfl
  rotate_left
  · simp only [Act.put, List.setIfInBounds_toArray, List.set_cons_zero, List.set_cons_succ, i64_w, i32_w]
    rfl
  refine done_ (by kernel_rfl) ?_
  go_wp2
  go_ret
  exact ⟨by simp [orUint32, *], ((Below.refl _ _).alloc (Nat.le_refl _) _).drew⟩

end Go.Proofs.YtigpdgfhngknhaaDoor.Tok
/- A block header is read. -/
namespace Go.Proofs.YtigpdgfhngknhaaDoor.Snk
open Go.RowKit Go.Proofs.YtigpdgfhngknhaaDoorW.PrintWords Go.Proofs.YtigpdgfhngknhaaDoorW.PrintLast Go.Proofs.YtigpdgfhngknhaaDoorW.PrintMore
set_option linter.unusedVariables false
set_option linter.unusedSimpArgs false
theorem hdC_set0 (h : HdV) (x : Int) : (hdC .i64 h).toArray.setIfInBounds 0 (.int .i32 x) = (hdC .i64 { h with v := x }).toArray := by simp [hdC]
theorem tail_set (L : List Value) (hl : L.length = 65) (T : List Value) (j : Nat) (x : Value) : (L ++ T).set (65 + j) x = L ++ T.set j x := by
  rw [List.set_append_right _ _ (by omega), hl, Nat.add_sub_cancel_left]
theorem hdC_split (h : HdV) : hdC .i64 h = (.int .i32 h.v :: (byteC h.p ++ byteC h.r)) ++ [.int .i64 h.t, .int .u32 h.b, .int .u32 h.n] := by simp [hdC]
theorem hdC_head {h : HdV} (hp : h.p.length = 32) (hr : h.r.length = 32) : (Value.int .i32 h.v :: (byteC h.p ++ byteC h.r)).length = 65 := by simp [byteC_len, hp, hr]
theorem hdC_set65 {h : HdV} (hp : h.p.length = 32) (hr : h.r.length = 32) (x : Int) : (hdC .i64 h).toArray.setIfInBounds 65 (.int .i64 x) = (hdC .i64 { h with t := x }).toArray := by
  rw [List.setIfInBounds_toArray, hdC_split, hdC_split, tail_set _ (hdC_head hp hr) _ 0]; rfl
theorem hdC_set66 {h : HdV} (hp : h.p.length = 32) (hr : h.r.length = 32) (x : Int) : (hdC .i64 h).toArray.setIfInBounds 66 (.int .u32 x) = (hdC .i64 { h with b := x }).toArray := by
  rw [List.setIfInBounds_toArray, hdC_split, hdC_split, tail_set _ (hdC_head hp hr) _ 1]; rfl
theorem hdC_set67 {h : HdV} (hp : h.p.length = 32) (hr : h.r.length = 32) (x : Int) : (hdC .i64 h).toArray.setIfInBounds 67 (.int .u32 x) = (hdC .i64 { h with n := x }).toArray := by
  rw [List.setIfInBounds_toArray, hdC_split, hdC_split, tail_set _ (hdC_head hp hr) _ 2]; rfl
theorem hdC_p32 {h : HdV} (hp : h.p.length = 32) (q : List Int) : (hdC .i64 h).take 1 ++ (byteC q ++ (hdC .i64 h).drop (1 + 32)) = hdC .i64 { h with p := q } := by
  unfold hdC
  rw [show 1 + 32 = 32 + 1 from rfl, List.drop_succ_cons, List.drop_left' (by rw [byteC_len, hp])]
  rfl
theorem hdC_r32 {h : HdV} (hp : h.p.length = 32) (hr : h.r.length = 32) (q : List Int) : (hdC .i64 h).take 33 ++ (byteC q ++ (hdC .i64 h).drop (33 + 32)) = hdC .i64 { h with r := q } := by
  unfold hdC
  rw [show 33 + 32 = 64 + 1 from rfl, List.drop_succ_cons, show 33 = 32 + 1 from rfl, List.take_succ_cons, List.take_left' (by rw [byteC_len, hp]), ← List.append_assoc (byteC h.p), List.drop_left' (by rw [List.length_append, byteC_len, byteC_len, hp, hr])]
  simp
/-- How far a header is read: a reader, eight bytes to read into, the header. -/
structure RS (w0 : World) (rb gb gh : Nat) (v : Value) (w : World) (i : Nat) (lr : Int) (buf : List Int) (h : HdV) : Prop where
  rd : RdC w rb v i lr
  bf : w.heap[gb]? = some (.cells (byteC buf).toArray 5 (0, 0))
  b8 : buf.length = 8
  hd : w.heap[gh]? = some (.cells (hdC .i64 h).toArray 53 (0, 0))
  p : h.p.length = 32
  r : h.r.length = 32
  w0 : Below w0.heap.size w0 w
structure RK (w0 : World) (rb gb gh : Nat) : Prop where
  qr : w0.heap.size ≤ rb
  qb : w0.heap.size ≤ gb
  qh : w0.heap.size ≤ gh
  br : gb ≠ rb
  hr : gh ≠ rb
  bh : gb ≠ gh
section
variable {w0 w w' : World} {rb gb gh : Nat} {v : Value} {i : Nat} {lr : Int} {buf : List Int} {h : HdV}
theorem RS.below (k : RS w0 rb gb gh v w i lr buf h) (hb : Below w.heap.size w w') : RS w0 rb gb gh v w' i lr buf h :=
  ⟨k.rd.below hb, (hb.block _ (blk_lt' k.bf)).trans k.bf, k.b8, (hb.block _ (blk_lt' k.hd)).trans k.hd, k.p, k.r, below_then k.w0 k.w0.size hb⟩
theorem RS.drew (k : RS w0 rb gb gh v w i lr buf h) : RS w0 rb gb gh v w.drew i lr buf h := k.below (below_drew (Below.refl _ _))
theorem RS.cell (k : RS w0 rb gb gh v w i lr buf h) (hk : RK w0 rb gb gh) (j : Nat) (x : Value) (h2 : HdV) (hs : (hdC .i64 h).toArray.setIfInBounds j x = (hdC .i64 h2).toArray) (hp : h2.p.length = 32) (hr : h2.r.length = 32) : RS w0 rb gb gh v (w.setCell ⟨gh, j, none⟩ x) i lr buf h2 := by
  have ho : Only gh w (w.setCell ⟨gh, j, none⟩ x) := (Only.refl _ _).set _ _
  refine ⟨(ho.block rb (blk_lt' k.rd) (Ne.symm hk.hr)).trans k.rd, (ho.block gb (blk_lt' k.bf) hk.bh).trans k.bf, k.b8, ?_, hp, hr, ⟨k.w0.os, k.w0.tape, k.w0.output, Nat.le_trans k.w0.size ho.size, fun t ht => (ho.block t (Nat.lt_of_lt_of_le ht k.w0.size) (by have := hk.qh; omega)).trans (k.w0.block t ht)⟩⟩
  have e := heap_set_same k.hd (j := j) x
  rw [hs] at e
  exact e
theorem RS.buf4 (k : RS w0 rb gb gh v w i lr buf h) {x : Int} (h0 : 0 ≤ x) (h1 : x < 4294967296) (hx : buf.take 4 = le4 x) : Calls Tryd.prog 55 #[.agg #[], .slice (some ⟨gb, 0, none⟩) 4 8] w fun e w' => e = .returned (.int .u32 x) ∧ RS w0 rb gb gh v w' i lr buf h := by
  have hc : ∀ j, j < 4 → w.cell? ⟨gb, j, none⟩ = some (.int .u8 ((le4 x).getD j 0)) := fun j hj => by
    refine cell_of k.bf ?_
    rw [List.getElem?_toArray, byteC_at (by rw [k.b8]; omega), ← hx, List.getD_eq_getElem?_getD, List.getD_eq_getElem?_getD, List.getElem?_take_of_lt hj]
  have h := Tok.leUint32 ⟨gb, 0, none⟩ 4 8 (by decide) (x % 256) (x / 256 % 256) (x / 65536 % 256) (x / 16777216 % 256) (by omega) (by omega) (by omega) (by omega) (by omega) (by omega) (by omega) (by omega) w (hc 0 (by decide)) (hc 1 (by decide)) (hc 2 (by decide)) (hc 3 (by decide))
  exact h.mono fun e w' ⟨he, hb⟩ => ⟨by rw [he]; congr 2; omega, k.below hb⟩
end
section
variable {w0 : World} {rb gb gh n c : Nat} {A : Option Addr} {bs : List Int}
theorem rsBuf (hk : RK w0 rb gb gh) (hr : ReadsInt w0 .u8 A n bs) (hc : n ≤ c) (hn : n ≤ 1000000000) {w : World} {i : Nat} {lr : Int} {buf : List Int} {h : HdV} (k : RS w0 rb gb gh (.slice A n c) w i lr buf h) (hi : i + 4 ≤ n) :
    Calls Tryd.prog 54 #[.iface 55 (.pointer (some ⟨rb, 0, none⟩)), .slice (some ⟨gb, 0, none⟩) 4 8] w fun e w' => e = .returned (.tuple #[.int .i64 4, .nilIface]) ∧ ∃ buf2, RS w0 rb gb gh (.slice A n c) w' (i + 4) (-1) buf2 h ∧ buf2.take 4 = (bs.drop i).take 4 := by
  refine (readFullC w0 rb gb 0 4 8 i n c lr A bs _ 5 w k.w0 hk.qr hk.qb hk.br hr hc hn k.rd (by decide) (by decide) hi k.bf (by rw [List.size_toArray, byteC_len, k.b8]; decide)).mono fun e w' ⟨h1, h2, h3, h4⟩ => ⟨h1, ((bs.drop i).take 4) ++ buf.drop 4, ⟨h2, ?_, ?_, (h4.block gh (blk_lt' k.hd) hk.hr (Ne.symm hk.bh)).trans k.hd, k.p, k.r, Turned.below0 k.w0 h4 hk.qr hk.qb⟩, ?_⟩
  · have e : (byteC (((bs.drop i).take 4) ++ buf.drop 4)) = byteC ((bs.drop i).take 4) ++ (byteC buf).drop 4 := by unfold byteC; simp
    rw [e]
    exact h3
  · rw [List.length_append, List.length_take, List.length_drop, List.length_drop, hr.1, k.b8]; omega
  · rw [List.take_left' (by rw [List.length_take, List.length_drop, hr.1]; omega)]
theorem rsP (hk : RK w0 rb gb gh) (hr : ReadsInt w0 .u8 A n bs) (hc : n ≤ c) (hn : n ≤ 1000000000) {w : World} {i : Nat} {lr : Int} {buf : List Int} {h : HdV} (k : RS w0 rb gb gh (.slice A n c) w i lr buf h) (hi : i + 32 ≤ n) :
    Calls Tryd.prog 54 #[.iface 55 (.pointer (some ⟨rb, 0, none⟩)), .slice (some ⟨gh, 1, none⟩) 32 32] w fun e w' => e = .returned (.tuple #[.int .i64 32, .nilIface]) ∧ RS w0 rb gb gh (.slice A n c) w' (i + 32) (-1) buf { h with p := (bs.drop i).take 32 } := by
  refine (readFullC w0 rb gh 1 32 32 i n c lr A bs _ 53 w k.w0 hk.qr hk.qh hk.hr hr hc hn k.rd (by decide) (by decide) hi k.hd (by rw [List.size_toArray, hdC_split, List.length_append, hdC_head k.p k.r]; simp)).mono fun e w' ⟨h1, h2, h3, h4⟩ => ⟨h1, ⟨h2, (h4.block gb (blk_lt' k.bf) hk.br hk.bh).trans k.bf, k.b8, ?_, ?_, k.r, Turned.below0 k.w0 h4 hk.qr hk.qh⟩⟩
  · rw [← hdC_p32 k.p]
    exact h3
  · show ((bs.drop i).take 32).length = 32
    rw [List.length_take, List.length_drop, hr.1]; omega
theorem rsR (hk : RK w0 rb gb gh) (hr : ReadsInt w0 .u8 A n bs) (hc : n ≤ c) (hn : n ≤ 1000000000) {w : World} {i : Nat} {lr : Int} {buf : List Int} {h : HdV} (k : RS w0 rb gb gh (.slice A n c) w i lr buf h) (hi : i + 32 ≤ n) :
    Calls Tryd.prog 54 #[.iface 55 (.pointer (some ⟨rb, 0, none⟩)), .slice (some ⟨gh, 33, none⟩) 32 32] w fun e w' => e = .returned (.tuple #[.int .i64 32, .nilIface]) ∧ RS w0 rb gb gh (.slice A n c) w' (i + 32) (-1) buf { h with r := (bs.drop i).take 32 } := by
  refine (readFullC w0 rb gh 33 32 32 i n c lr A bs _ 53 w k.w0 hk.qr hk.qh hk.hr hr hc hn k.rd (by decide) (by decide) hi k.hd (by rw [List.size_toArray, hdC_split, List.length_append, hdC_head k.p k.r]; simp)).mono fun e w' ⟨h1, h2, h3, h4⟩ => ⟨h1, ⟨h2, (h4.block gb (blk_lt' k.bf) hk.br hk.bh).trans k.bf, k.b8, ?_, k.p, ?_, Turned.below0 k.w0 h4 hk.qr hk.qh⟩⟩
  · rw [← hdC_r32 k.p k.r]
    exact h3
  · show ((bs.drop i).take 32).length = 32
    rw [List.length_take, List.length_drop, hr.1]; omega
end
theorem slice_Hj (g j : Nat) (w : World) : (Instr.sliceAt 49 (.pointer (some ⟨g, j, none⟩)) none none none).run Tryd.prog w = .ok (.slice (some ⟨g, j, none⟩) 32 32) w := by kernel_rfl
theorem exec_store_one {P : Program} {w : World} {ρ : Operand → Value} {o : Oper} (ty : TypeId) (x y : Operand) (ho : o.op = .store ty x y) (a : Addr) (v u : Value) (hx : ρ x = .pointer (some a)) (hy : ρ y = .agg #[v]) (hi : (P.info? ty).map (·.size) = some 1) (hc : w.cell? a = some u) (hf : w.frozen? a = false) (h1 : v.oneCell' = true) : (execOp ρ o).run P w = .ok .skip (w.setCell a v) := by
  have hst : (store (a.add 0) v).run P w = .ok () (w.setCell a v) := by
    rw [show a.add 0 = a by unfold Addr.add; simp, run_store P w a v _ h1, hc]
    simp [hf]
  cases hq : P.info? ty with
  | none => simp [hq] at hi
  | some j =>
    have hs : j.size = 1 := by simpa [hq] using hi
    unfold execOp
    simp [ho, hx, hy, Instr.storeAt, Instr.sureAddr, storeVar, sizeOf, typeInfo, hq, hs, Value.cells, storeCells, Sem.run_bind, hst, Result.andThen]
theorem bytes_at (h : HdV) (ho : h.ok) (tl : List Int) : ((h.bytes ++ tl).drop 0).take 4 = le4 (h.v % 4294967296) ∧ ((h.bytes ++ tl).drop 4).take 32 = h.p ∧ ((h.bytes ++ tl).drop 36).take 32 = h.r ∧ ((h.bytes ++ tl).drop 68).take 4 = le4 h.t ∧ ((h.bytes ++ tl).drop 72).take 4 = le4 h.b ∧ ((h.bytes ++ tl).drop 76).take 4 = le4 h.n := by
  have e1 : (le4 (h.v % 4294967296)).length = 4 := le4_len _
  have e2 : (le4 h.t).length = 4 := le4_len _
  have e3 : (le4 h.b).length = 4 := le4_len _
  have e4 : (le4 h.n).length = 4 := le4_len _
  have e5 := ho.p
  have e6 := ho.r
  have key : ∀ (L M T : List Int) (a m : Nat), L.length = a → M.length = m → ((L ++ (M ++ T)).drop a).take m = M := fun L M T a m ha hm => by
    rw [List.drop_left' ha, List.take_left' hm]
  unfold HdV.bytes
  refine ⟨?_, ?_, ?_, ?_, ?_, ?_⟩
  · have := key (([] : List Int)) (le4 (h.v % 4294967296)) ((h.p) ++ (h.r) ++ (le4 h.t) ++ (le4 h.b) ++ (le4 h.n) ++ tl) 0 4 (by simp [List.length_nil]) e1
    simp only [List.append_assoc, List.nil_append] at this ⊢
    exact this
  · have := key ((le4 (h.v % 4294967296))) (h.p) ((h.r) ++ (le4 h.t) ++ (le4 h.b) ++ (le4 h.n) ++ tl) 4 32 (by simp [e1]) e5
    simp only [List.append_assoc, List.nil_append] at this ⊢
    exact this
  · have := key ((le4 (h.v % 4294967296)) ++ (h.p)) (h.r) ((le4 h.t) ++ (le4 h.b) ++ (le4 h.n) ++ tl) 36 32 (by simp [e1, e5]) e6
    simp only [List.append_assoc, List.nil_append] at this ⊢
    exact this
  · have := key ((le4 (h.v % 4294967296)) ++ (h.p) ++ (h.r)) (le4 h.t) ((le4 h.b) ++ (le4 h.n) ++ tl) 68 4 (by simp [e1, e5, e6]) e2
    simp only [List.append_assoc, List.nil_append] at this ⊢
    exact this
  · have := key ((le4 (h.v % 4294967296)) ++ (h.p) ++ (h.r) ++ (le4 h.t)) (le4 h.b) ((le4 h.n) ++ tl) 72 4 (by simp [e1, e5, e6, e2]) e3
    simp only [List.append_assoc, List.nil_append] at this ⊢
    exact this
  · have := key ((le4 (h.v % 4294967296)) ++ (h.p) ++ (h.r) ++ (le4 h.t) ++ (le4 h.b)) (le4 h.n) (tl) 76 4 (by simp [e1, e5, e6, e2, e3]) e4
    simp only [List.append_assoc, List.nil_append] at this ⊢
    exact this
set_option maxRecDepth 100000 in
set_option maxHeartbeats 8000000 in
theorem readBufC (w0 : World) (rb gb gh n c : Nat) (A : Option Addr) (tl : List Int) (h h0 : HdV) (lr : Int) (buf : List Int) (w : World) (hk : RK w0 rb gb gh) (ho : h.ok) (hr : ReadsInt w0 .u8 A n (h.bytes ++ tl)) (hc : n ≤ c) (hn : n ≤ 1000000000) (k : RS w0 rb gb gh (.slice A n c) w 0 lr buf h0) :
    Calls Tryd.prog 45 #[.iface 55 (.pointer (some ⟨rb, 0, none⟩)), .int .u32 0, .pointer (some ⟨gh, 0, none⟩), .slice (some ⟨gb, 0, none⟩) 8 8] w fun e w' => e = .returned .nilIface ∧ ∃ buf2, RS w0 rb gb gh (.slice A n c) w' 80 (-1) buf2 h := by
  obtain ⟨bs, hbs⟩ : ∃ x, h.bytes ++ tl = x := ⟨_, rfl⟩
  have hat := bytes_at h ho tl
  have hlen : 80 ≤ n := by rw [← hr.1, List.length_append, HdV.bytes_len ho]; omega
  rw [hbs] at hat hr
  obtain ⟨ha0, ha1, ha2, ha3, ha4, ha5⟩ := hat
  have HA0 := Aside0.mk ha0
  have HA1 := Aside0.mk ha1
  have HA2 := Aside0.mk ha2
  have HA3 := Aside0.mk ha3
  have HA4 := Aside0.mk ha4
  have HA5 := Aside0.mk ha5
  have HLN := Aside0.mk hlen
  have HK := Aside0.mk hk
  have HO := Aside0.mk ho
  have K0 := Aside0.mk k
  have HB : Aside0 (∀ (w : World) (i : Nat) (lr : Int) (buf : List Int) (h : HdV), RS w0 rb gb gh (.slice A n c) w i lr buf h → i + 4 ≤ n → Calls Tryd.prog 54 #[.iface 55 (.pointer (some ⟨rb, 0, none⟩)), .slice (some ⟨gb, 0, none⟩) 4 8] w fun e w' => e = .returned (.tuple #[.int .i64 4, .nilIface]) ∧ ∃ buf2, RS w0 rb gb gh (.slice A n c) w' (i + 4) (-1) buf2 h ∧ buf2.take 4 = (bs.drop i).take 4) := ⟨fun w i lr buf h k hi => rsBuf hk hr hc hn k hi⟩
  have HP : Aside0 (∀ (w : World) (i : Nat) (lr : Int) (buf : List Int) (h : HdV), RS w0 rb gb gh (.slice A n c) w i lr buf h → i + 32 ≤ n → Calls Tryd.prog 54 #[.iface 55 (.pointer (some ⟨rb, 0, none⟩)), .slice (some ⟨gh, 1, none⟩) 32 32] w fun e w' => e = .returned (.tuple #[.int .i64 32, .nilIface]) ∧ RS w0 rb gb gh (.slice A n c) w' (i + 32) (-1) buf { h with p := (bs.drop i).take 32 }) := ⟨fun w i lr buf h k hi => rsP hk hr hc hn k hi⟩
  have HR : Aside0 (∀ (w : World) (i : Nat) (lr : Int) (buf : List Int) (h : HdV), RS w0 rb gb gh (.slice A n c) w i lr buf h → i + 32 ≤ n → Calls Tryd.prog 54 #[.iface 55 (.pointer (some ⟨rb, 0, none⟩)), .slice (some ⟨gh, 33, none⟩) 32 32] w fun e w' => e = .returned (.tuple #[.int .i64 32, .nilIface]) ∧ RS w0 rb gb gh (.slice A n c) w' (i + 32) (-1) buf { h with r := (bs.drop i).take 32 }) := ⟨fun w i lr buf h k hi => rsR hk hr hc hn k hi⟩
  have hv : IntKind.i32.wrap (h.v % 4294967296) = h.v := by
    have h1 := ho.v0
    have h2 := ho.v1
    unfold IntKind.wrap; simp [IntKind.signed, IntKind.bits]; omega
  have HV := Aside0.mk hv
  have ht : IntKind.i64.wrap h.t = h.t := by
    have h1 := ho.t0
    have h2 := ho.t1
    unfold IntKind.wrap; simp [IntKind.signed, IntKind.bits]; omega
  have HT := Aside0.mk ht
  have hs1 := slice_Hj gh 1
  have hs33 := slice_Hj gh 33
  have hi1 : (Tryd.prog.info? 51).map (·.size) = some 1 := by kernel_rfl
  have HI1 := Aside0.mk hi1
  clear ha0 ha1 ha2 ha3 ha4 ha5 hlen hk ho hr hc hn k hv ht hbs hi1
  go_enter Tryd.func45, Tryd.ntmps45
  go_upto_region 4 with (go_at_call 54; (with_reducible refine (HB.out _ 0 _ _ _ K0.out (by have := HLN.out; omega)).mono ?_); rintro e v1 ⟨rfl, buf1, k1, k2⟩; have K1 := Aside0.mk k1; have X1 := Aside0.mk (k2.trans HA0.out); clear k1 k2)
  have hv := HV.out
  have HU2 := Aside0.mk (K1.out.drew.buf4 (x := h.v % 4294967296) (by have := HO.out.v0; omega) (by have := HO.out.v1; omega) X1.out)
  refine start_ (n := 9) (S := fun w' => True) (ds := [8]) #[false, false, false, false, false, false, false, false, false] (by kernel_rfl) rfl rfl trivial (fun hHeld => ?_)
  refine pure_ (i := 0) (N := some 31) (v := ?_) (a' := ?_) #[true, false, false, false, false, false, false, false, false] rfl rfl (by kernel_rfl) (fun _ _ _ h => h) (Or.inl ⟨by rfl, ?_⟩) ?_ ?_
  rotate_left
  · intro w'
    go_simp
    with_reducible rfl
  rotate_left
  · simp only [Act.put, List.setIfInBounds_toArray, List.set_cons_zero, List.set_cons_succ, i64_w, i32_w]
    rfl
  refine take_ (i := 1) (N := some 32) (v := ?_) (a' := ?_) #[true, true, false, false, false, false, false, false, false] rfl rfl (by kernel_rfl) (fun _ _ _ h => h) (Or.inl ⟨by rfl, ?_⟩) hHeld ?_ ?_
  rotate_left
  · rintro w' s0
    go_simp
    with_reducible rfl
  rotate_left
  · simp only [Act.put, List.setIfInBounds_toArray, List.set_cons_zero, List.set_cons_succ, i64_w, i32_w]
    rfl
  refine pure_ (i := 2) (N := some 33) (v := ?_) (a' := ?_) #[true, true, true, false, false, false, false, false, false] rfl rfl (by kernel_rfl) (fun _ _ _ h => h) (Or.inl ⟨by rfl, ?_⟩) ?_ ?_
  rotate_left
  · intro w'
    go_simp
    with_reducible rfl
  rotate_left
  · simp only [Act.put, List.setIfInBounds_toArray, List.set_cons_zero, List.set_cons_succ, i64_w, i32_w]
    rfl
  refine pure_ (i := 3) (N := some 34) (v := ?_) (a' := ?_) #[true, true, true, true, false, false, false, false, false] rfl rfl (by kernel_rfl) (fun _ _ _ h => h) (Or.inl ⟨by rfl, ?_⟩) ?_ ?_
  rotate_left
  · intro w'
    go_simp
    with_reducible rfl
  rotate_left
  · simp only [Act.put, List.setIfInBounds_toArray, List.set_cons_zero, List.set_cons_succ, i64_w, i32_w]
    rfl
  refine one_ (i := 4) (N := some 35) #[true, true, true, true, true, false, false, false, false] rfl rfl (by kernel_rfl) (by decide) (fun K hK => ?_)
  refine goes_ Tryd.func55 (by kernel_rfl) rfl #[.agg #[], .slice (some ⟨gb, 0, none⟩) 4 8] (by rfl) rfl rfl (by (try simp only [List.map_toArray, List.map_cons, List.map_nil]); first | done | rfl | (simp only [List.length_drop, List.length_take]; rfl)) ?_
  with_reducible refine HU2.out.mono ?_
  rintro e v2 ⟨rfl, k1⟩
  refine ⟨_, rfl, ?_⟩
  have K2 := Aside0.mk k1
  clear k1
  refine hK.out _ _ trivial (fun hHeld => ?_)
  clear hK K
  refine norm_ (a' := ?_) ?_ ?_
  rotate_left
  · show Act.put _ (some 35) _ = _
    simp only [Act.put, List.setIfInBounds_toArray, List.set_cons_zero, List.set_cons_succ, i64_w, i32_w]
    rfl
  refine pure_ (i := 5) (N := some 36) (v := ?_) (a' := ?_) #[true, true, true, true, true, true, false, false, false] rfl rfl (by kernel_rfl) (fun _ _ _ h => h) (Or.inl ⟨by rfl, ?_⟩) ?_ ?_
  rotate_left
  · intro w'
    go_simp
    with_reducible rfl
  rotate_left
  · simp only [Act.put, List.setIfInBounds_toArray, List.set_cons_zero, List.set_cons_succ, i64_w, i32_w]
    rfl
  refine pure_ (i := 6) (N := some 37) (v := ?_) (a' := ?_) #[true, true, true, true, true, true, true, false, false] rfl rfl (by kernel_rfl) (fun _ _ _ h => h) (Or.inl ⟨by rfl, ?_⟩) ?_ ?_
  rotate_left
  · intro w'
    go_simp
    with_reducible rfl
  rotate_left
  · simp only [Act.put, List.setIfInBounds_toArray, List.set_cons_zero, List.set_cons_succ, i64_w, i32_w]
    rfl
  refine pure_ (i := 7) (N := some 38) (v := ?_) (a' := ?_) #[true, true, true, true, true, true, true, true, false] rfl rfl (by kernel_rfl) (fun _ _ _ h => h) (Or.inl ⟨by rfl, ?_⟩) ?_ ?_
  rotate_left
  · intro w'
    go_simp
    with_reducible rfl
  rotate_left
  · simp only [Act.put, List.setIfInBounds_toArray, List.set_cons_zero, List.set_cons_succ, i64_w, i32_w]
    rfl
  refine last_ (i := 8) (N := none) #[true, true, true, true, true, true, true, true, true] rfl rfl (by kernel_rfl) (by decide) (fun K hK => ?_)
  have cz := cell_of K2.out.hd (j := 0) (v := _) rfl
  have fz := frozen_of K2.out.hd 0
  refine skip_ (w1 := ?_) (by rfl) rfl ?_ ?_
  rotate_left
  · go_simp
    rfl
  refine hK.out _ _ ?_
  clear hK K
  refine norm_ (a' := ?_) ?_ ?_
  rotate_left
  · rfl
  refine done_ (by kernel_rfl) ?_
  clear cz fz
  generalize hs : World.setCell _ _ _ = v3
  have K3 := Aside0.mk (K2.out.cell HK.out 0 (.int .i32 h.v) _ (hdC_set0 _ _) K2.out.p K2.out.r)
  rw [hs] at K3
  clear hs
  clear hv
  go_upto_region 8 with (go_at_call 54; (with_reducible refine (HP.out _ 4 _ _ _ K3.out (by have := HLN.out; omega)).mono ?_); rintro e v4 ⟨rfl, k1⟩; rw [HA1.out] at k1; have K4 := Aside0.mk k1; clear k1)
  go_upto_region 11 with (go_at_call 54; (with_reducible refine (HR.out _ 36 _ _ _ K4.out (by have := HLN.out; omega)).mono ?_); rintro e v5 ⟨rfl, k1⟩; rw [HA2.out] at k1; have K5 := Aside0.mk k1; clear k1)
  go_upto_region 14 with (go_at_call 54; (with_reducible refine (HB.out _ 68 _ _ _ K5.out (by have := HLN.out; omega)).mono ?_); rintro e v6 ⟨rfl, buf6, k1, k2⟩; have K6 := Aside0.mk k1; have X6 := Aside0.mk (k2.trans HA3.out); clear k1 k2)
  have ht := HT.out
  have HU7 := Aside0.mk (K6.out.drew.buf4 (x := h.t) (by have := HO.out.t0; omega) (by have := HO.out.t1; omega) X6.out)
  refine start_ (n := 10) (S := fun w' => True) (ds := [9]) #[false, false, false, false, false, false, false, false, false, false] (by kernel_rfl) rfl rfl trivial (fun hHeld => ?_)
  refine pure_ (i := 0) (N := some 73) (v := ?_) (a' := ?_) #[true, false, false, false, false, false, false, false, false, false] rfl rfl (by kernel_rfl) (fun _ _ _ h => h) (Or.inl ⟨by rfl, ?_⟩) ?_ ?_
  rotate_left
  · intro w'
    go_simp
    with_reducible rfl
  rotate_left
  · simp only [Act.put, List.setIfInBounds_toArray, List.set_cons_zero, List.set_cons_succ, i64_w, i32_w]
    rfl
  refine take_ (i := 1) (N := some 74) (v := ?_) (a' := ?_) #[true, true, false, false, false, false, false, false, false, false] rfl rfl (by kernel_rfl) (fun _ _ _ h => h) (Or.inl ⟨by rfl, ?_⟩) hHeld ?_ ?_
  rotate_left
  · rintro w' s0
    go_simp
    with_reducible rfl
  rotate_left
  · simp only [Act.put, List.setIfInBounds_toArray, List.set_cons_zero, List.set_cons_succ, i64_w, i32_w]
    rfl
  refine pure_ (i := 2) (N := some 75) (v := ?_) (a' := ?_) #[true, true, true, false, false, false, false, false, false, false] rfl rfl (by kernel_rfl) (fun _ _ _ h => h) (Or.inl ⟨by rfl, ?_⟩) ?_ ?_
  rotate_left
  · intro w'
    go_simp
    with_reducible rfl
  rotate_left
  · simp only [Act.put, List.setIfInBounds_toArray, List.set_cons_zero, List.set_cons_succ, i64_w, i32_w]
    rfl
  refine pure_ (i := 3) (N := some 76) (v := ?_) (a' := ?_) #[true, true, true, true, false, false, false, false, false, false] rfl rfl (by kernel_rfl) (fun _ _ _ h => h) (Or.inl ⟨by rfl, ?_⟩) ?_ ?_
  rotate_left
  · intro w'
    go_simp
    with_reducible rfl
  rotate_left
  · simp only [Act.put, List.setIfInBounds_toArray, List.set_cons_zero, List.set_cons_succ, i64_w, i32_w]
    rfl
  refine one_ (i := 4) (N := some 77) #[true, true, true, true, true, false, false, false, false, false] rfl rfl (by kernel_rfl) (by decide) (fun K hK => ?_)
  refine goes_ Tryd.func55 (by kernel_rfl) rfl #[.agg #[], .slice (some ⟨gb, 0, none⟩) 4 8] (by rfl) rfl rfl (by (try simp only [List.map_toArray, List.map_cons, List.map_nil]); first | done | rfl | (simp only [List.length_drop, List.length_take]; rfl)) ?_
  with_reducible refine HU7.out.mono ?_
  rintro e v7 ⟨rfl, k1⟩
  refine ⟨_, rfl, ?_⟩
  have K7 := Aside0.mk k1
  clear k1
  refine hK.out _ _ trivial (fun hHeld => ?_)
  clear hK K
  refine norm_ (a' := ?_) ?_ ?_
  rotate_left
  · show Act.put _ (some 77) _ = _
    simp only [Act.put, List.setIfInBounds_toArray, List.set_cons_zero, List.set_cons_succ, i64_w, i32_w]
    rfl
  refine pure_ (i := 5) (N := some 78) (v := ?_) (a' := ?_) #[true, true, true, true, true, true, false, false, false, false] rfl rfl (by kernel_rfl) (fun _ _ _ h => h) (Or.inl ⟨by rfl, ?_⟩) ?_ ?_
  rotate_left
  · intro w'
    go_simp
    with_reducible rfl
  rotate_left
  · simp only [Act.put, List.setIfInBounds_toArray, List.set_cons_zero, List.set_cons_succ, i64_w, i32_w]
    rfl
  refine one_ (i := 6) (N := some 79) #[true, true, true, true, true, true, true, false, false, false] rfl rfl (by kernel_rfl) (by decide) (fun K hK => ?_)
  refine goes_ Tryd.func29 (by kernel_rfl) rfl #[.int .i64 (h.t), .int .i64 0] (by rfl) rfl rfl (by (try simp only [List.map_toArray, List.map_cons, List.map_nil]); first | done | rfl | (simp only [List.length_drop, List.length_take]; rfl)) ?_
  with_reducible refine (timeMkC _ _ _).mono ?_
  rintro e v8 ⟨rfl, k1⟩
  refine ⟨_, rfl, ?_⟩
  have K8 := Aside0.mk (K7.out.below k1)
  clear k1
  refine hK.out _ _ trivial (fun hHeld => ?_)
  clear hK K
  refine norm_ (a' := ?_) ?_ ?_
  rotate_left
  · show Act.put _ (some 79) _ = _
    simp only [Act.put, List.setIfInBounds_toArray, List.set_cons_zero, List.set_cons_succ, i64_w, i32_w]
    rfl
  refine pure_ (i := 7) (N := some 80) (v := ?_) (a' := ?_) #[true, true, true, true, true, true, true, true, false, false] rfl rfl (by kernel_rfl) (fun _ _ _ h => h) (Or.inl ⟨by rfl, ?_⟩) ?_ ?_
  rotate_left
  · intro w'
    go_simp
    with_reducible rfl
  rotate_left
  · simp only [Act.put, List.setIfInBounds_toArray, List.set_cons_zero, List.set_cons_succ, i64_w, i32_w]
    rfl
  refine pure_ (i := 8) (N := some 81) (v := ?_) (a' := ?_) #[true, true, true, true, true, true, true, true, true, false] rfl rfl (by kernel_rfl) (fun _ _ _ h => h) (Or.inl ⟨by rfl, ?_⟩) ?_ ?_
  rotate_left
  · intro w'
    go_simp
    with_reducible rfl
  rotate_left
  · simp only [Act.put, List.setIfInBounds_toArray, List.set_cons_zero, List.set_cons_succ, i64_w, i32_w]
    rfl
  refine last_ (i := 9) (N := none) #[true, true, true, true, true, true, true, true, true, true] rfl rfl (by kernel_rfl) (by decide) (fun K hK => ?_)
  have cz := cell_of K8.out.hd (j := 65) (v := _) (by rw [List.getElem?_toArray, hdC_split, List.getElem?_append_right (by rw [hdC_head K8.out.p K8.out.r]; decide), hdC_head K8.out.p K8.out.r]; rfl)
  have fz := frozen_of K8.out.hd 65
  refine skip_ (by rfl) rfl (exec_store_one 51 (.tmp 81) (.tmp 79) rfl ⟨gh, 65, none⟩ (.int .i64 (h.t)) _ rfl rfl HI1.out cz fz rfl) ?_
  refine hK.out _ _ ?_
  clear hK K
  refine norm_ (a' := ?_) ?_ ?_
  rotate_left
  · rfl
  refine done_ (by kernel_rfl) ?_
  clear cz fz
  generalize hs : World.setCell _ _ _ = v9
  have K9 := Aside0.mk (K8.out.cell HK.out 65 (.int .i64 h.t) _ (hdC_set65 K8.out.p K8.out.r _) K8.out.p K8.out.r)
  rw [hs] at K9
  clear hs
  clear ht
  go_upto_region 18 with (go_at_call 54; (with_reducible refine (HB.out _ 72 _ _ _ K9.out (by have := HLN.out; omega)).mono ?_); rintro e v10 ⟨rfl, buf10, k1, k2⟩; have K10 := Aside0.mk k1; have X10 := Aside0.mk (k2.trans HA4.out); clear k1 k2)
  have HU11 := Aside0.mk (K10.out.drew.buf4 (x := h.b) (by have := HO.out.b0; omega) (by have := HO.out.b1; omega) X10.out)
  refine start_ (n := 8) (S := fun w' => True) (ds := [7]) #[false, false, false, false, false, false, false, false] (by kernel_rfl) rfl rfl trivial (fun hHeld => ?_)
  refine pure_ (i := 0) (N := some 92) (v := ?_) (a' := ?_) #[true, false, false, false, false, false, false, false] rfl rfl (by kernel_rfl) (fun _ _ _ h => h) (Or.inl ⟨by rfl, ?_⟩) ?_ ?_
  rotate_left
  · intro w'
    go_simp
    with_reducible rfl
  rotate_left
  · simp only [Act.put, List.setIfInBounds_toArray, List.set_cons_zero, List.set_cons_succ, i64_w, i32_w]
    rfl
  refine take_ (i := 1) (N := some 93) (v := ?_) (a' := ?_) #[true, true, false, false, false, false, false, false] rfl rfl (by kernel_rfl) (fun _ _ _ h => h) (Or.inl ⟨by rfl, ?_⟩) hHeld ?_ ?_
  rotate_left
  · rintro w' s0
    go_simp
    with_reducible rfl
  rotate_left
  · simp only [Act.put, List.setIfInBounds_toArray, List.set_cons_zero, List.set_cons_succ, i64_w, i32_w]
    rfl
  refine pure_ (i := 2) (N := some 94) (v := ?_) (a' := ?_) #[true, true, true, false, false, false, false, false] rfl rfl (by kernel_rfl) (fun _ _ _ h => h) (Or.inl ⟨by rfl, ?_⟩) ?_ ?_
  rotate_left
  · intro w'
    go_simp
    with_reducible rfl
  rotate_left
  · simp only [Act.put, List.setIfInBounds_toArray, List.set_cons_zero, List.set_cons_succ, i64_w, i32_w]
    rfl
  refine pure_ (i := 3) (N := some 95) (v := ?_) (a' := ?_) #[true, true, true, true, false, false, false, false] rfl rfl (by kernel_rfl) (fun _ _ _ h => h) (Or.inl ⟨by rfl, ?_⟩) ?_ ?_
  rotate_left
  · intro w'
    go_simp
    with_reducible rfl
  rotate_left
  · simp only [Act.put, List.setIfInBounds_toArray, List.set_cons_zero, List.set_cons_succ, i64_w, i32_w]
    rfl
  refine one_ (i := 4) (N := some 96) #[true, true, true, true, true, false, false, false] rfl rfl (by kernel_rfl) (by decide) (fun K hK => ?_)
  refine goes_ Tryd.func55 (by kernel_rfl) rfl #[.agg #[], .slice (some ⟨gb, 0, none⟩) 4 8] (by rfl) rfl rfl (by (try simp only [List.map_toArray, List.map_cons, List.map_nil]); first | done | rfl | (simp only [List.length_drop, List.length_take]; rfl)) ?_
  with_reducible refine HU11.out.mono ?_
  rintro e v11 ⟨rfl, k1⟩
  refine ⟨_, rfl, ?_⟩
  have K11 := Aside0.mk k1
  clear k1
  refine hK.out _ _ trivial (fun hHeld => ?_)
  clear hK K
  refine norm_ (a' := ?_) ?_ ?_
  rotate_left
  · show Act.put _ (some 96) _ = _
    simp only [Act.put, List.setIfInBounds_toArray, List.set_cons_zero, List.set_cons_succ, i64_w, i32_w]
    rfl
  refine pure_ (i := 5) (N := some 97) (v := ?_) (a' := ?_) #[true, true, true, true, true, true, false, false] rfl rfl (by kernel_rfl) (fun _ _ _ h => h) (Or.inl ⟨by rfl, ?_⟩) ?_ ?_
  rotate_left
  · intro w'
    go_simp
    with_reducible rfl
  rotate_left
  · simp only [Act.put, List.setIfInBounds_toArray, List.set_cons_zero, List.set_cons_succ, i64_w, i32_w]
    rfl
  refine pure_ (i := 6) (N := some 98) (v := ?_) (a' := ?_) #[true, true, true, true, true, true, true, false] rfl rfl (by kernel_rfl) (fun _ _ _ h => h) (Or.inl ⟨by rfl, ?_⟩) ?_ ?_
  rotate_left
  · intro w'
    go_simp
    with_reducible rfl
  rotate_left
  · simp only [Act.put, List.setIfInBounds_toArray, List.set_cons_zero, List.set_cons_succ, i64_w, i32_w]
    rfl
  refine last_ (i := 7) (N := none) #[true, true, true, true, true, true, true, true] rfl rfl (by kernel_rfl) (by decide) (fun K hK => ?_)
  have cz := cell_of K11.out.hd (j := 66) (v := _) (by rw [List.getElem?_toArray, hdC_split, List.getElem?_append_right (by rw [hdC_head K11.out.p K11.out.r]; decide), hdC_head K11.out.p K11.out.r]; rfl)
  have fz := frozen_of K11.out.hd 66
  refine skip_ (w1 := ?_) (by rfl) rfl ?_ ?_
  rotate_left
  · go_simp
    rfl
  refine hK.out _ _ ?_
  clear hK K
  refine norm_ (a' := ?_) ?_ ?_
  rotate_left
  · rfl
  refine done_ (by kernel_rfl) ?_
  clear cz fz
  generalize hs : World.setCell _ _ _ = v12
  have K12 := Aside0.mk (K11.out.cell HK.out 66 (.int .u32 h.b) _ (hdC_set66 K11.out.p K11.out.r _) K11.out.p K11.out.r)
  rw [hs] at K12
  clear hs
  go_upto_region 22 with (go_at_call 54; (with_reducible refine (HB.out _ 76 _ _ _ K12.out (by have := HLN.out; omega)).mono ?_); rintro e v13 ⟨rfl, buf13, k1, k2⟩; have K13 := Aside0.mk k1; have X13 := Aside0.mk (k2.trans HA5.out); clear k1 k2)
  have HU14 := Aside0.mk (K13.out.drew.buf4 (x := h.n) (by have := HO.out.n0; omega) (by have := HO.out.n1; omega) X13.out)
  refine start_ (n := 8) (S := fun w' => True) (ds := [7]) #[false, false, false, false, false, false, false, false] (by kernel_rfl) rfl rfl trivial (fun hHeld => ?_)
  refine pure_ (i := 0) (N := some 109) (v := ?_) (a' := ?_) #[true, false, false, false, false, false, false, false] rfl rfl (by kernel_rfl) (fun _ _ _ h => h) (Or.inl ⟨by rfl, ?_⟩) ?_ ?_
  rotate_left
  · intro w'
    go_simp
    with_reducible rfl
  rotate_left
  · simp only [Act.put, List.setIfInBounds_toArray, List.set_cons_zero, List.set_cons_succ, i64_w, i32_w]
    rfl
  refine take_ (i := 1) (N := some 110) (v := ?_) (a' := ?_) #[true, true, false, false, false, false, false, false] rfl rfl (by kernel_rfl) (fun _ _ _ h => h) (Or.inl ⟨by rfl, ?_⟩) hHeld ?_ ?_
  rotate_left
  · rintro w' s0
    go_simp
    with_reducible rfl
  rotate_left
  · simp only [Act.put, List.setIfInBounds_toArray, List.set_cons_zero, List.set_cons_succ, i64_w, i32_w]
    rfl
  refine pure_ (i := 2) (N := some 111) (v := ?_) (a' := ?_) #[true, true, true, false, false, false, false, false] rfl rfl (by kernel_rfl) (fun _ _ _ h => h) (Or.inl ⟨by rfl, ?_⟩) ?_ ?_
  rotate_left
  · intro w'
    go_simp
    with_reducible rfl
  rotate_left
  · simp only [Act.put, List.setIfInBounds_toArray, List.set_cons_zero, List.set_cons_succ, i64_w, i32_w]
    rfl
  refine pure_ (i := 3) (N := some 112) (v := ?_) (a' := ?_) #[true, true, true, true, false, false, false, false] rfl rfl (by kernel_rfl) (fun _ _ _ h => h) (Or.inl ⟨by rfl, ?_⟩) ?_ ?_
  rotate_left
  · intro w'
    go_simp
    with_reducible rfl
  rotate_left
  · simp only [Act.put, List.setIfInBounds_toArray, List.set_cons_zero, List.set_cons_succ, i64_w, i32_w]
    rfl
  refine one_ (i := 4) (N := some 113) #[true, true, true, true, true, false, false, false] rfl rfl (by kernel_rfl) (by decide) (fun K hK => ?_)
  refine goes_ Tryd.func55 (by kernel_rfl) rfl #[.agg #[], .slice (some ⟨gb, 0, none⟩) 4 8] (by rfl) rfl rfl (by (try simp only [List.map_toArray, List.map_cons, List.map_nil]); first | done | rfl | (simp only [List.length_drop, List.length_take]; rfl)) ?_
  with_reducible refine HU14.out.mono ?_
  rintro e v14 ⟨rfl, k1⟩
  refine ⟨_, rfl, ?_⟩
  have K14 := Aside0.mk k1
  clear k1
  refine hK.out _ _ trivial (fun hHeld => ?_)
  clear hK K
  refine norm_ (a' := ?_) ?_ ?_
  rotate_left
  · show Act.put _ (some 113) _ = _
    simp only [Act.put, List.setIfInBounds_toArray, List.set_cons_zero, List.set_cons_succ, i64_w, i32_w]
    rfl
  refine pure_ (i := 5) (N := some 114) (v := ?_) (a' := ?_) #[true, true, true, true, true, true, false, false] rfl rfl (by kernel_rfl) (fun _ _ _ h => h) (Or.inl ⟨by rfl, ?_⟩) ?_ ?_
  rotate_left
  · intro w'
    go_simp
    with_reducible rfl
  rotate_left
  · simp only [Act.put, List.setIfInBounds_toArray, List.set_cons_zero, List.set_cons_succ, i64_w, i32_w]
    rfl
  refine pure_ (i := 6) (N := some 115) (v := ?_) (a' := ?_) #[true, true, true, true, true, true, true, false] rfl rfl (by kernel_rfl) (fun _ _ _ h => h) (Or.inl ⟨by rfl, ?_⟩) ?_ ?_
  rotate_left
  · intro w'
    go_simp
    with_reducible rfl
  rotate_left
  · simp only [Act.put, List.setIfInBounds_toArray, List.set_cons_zero, List.set_cons_succ, i64_w, i32_w]
    rfl
  refine last_ (i := 7) (N := none) #[true, true, true, true, true, true, true, true] rfl rfl (by kernel_rfl) (by decide) (fun K hK => ?_)
  have cz := cell_of K14.out.hd (j := 67) (v := _) (by rw [List.getElem?_toArray, hdC_split, List.getElem?_append_right (by rw [hdC_head K14.out.p K14.out.r]; decide), hdC_head K14.out.p K14.out.r]; rfl)
  have fz := frozen_of K14.out.hd 67
  refine skip_ (w1 := ?_) (by rfl) rfl ?_ ?_
  rotate_left
  · go_simp
    rfl
  refine hK.out _ _ ?_
  clear hK K
  refine norm_ (a' := ?_) ?_ ?_
  rotate_left
  · rfl
  refine done_ (by kernel_rfl) ?_
  clear cz fz
  generalize hs : World.setCell _ _ _ = v15
  have K15 := Aside0.mk (K14.out.cell HK.out 67 (.int .u32 h.n) _ (hdC_set67 K14.out.p K14.out.r _) K14.out.p K14.out.r)
  rw [hs] at K15
  clear hs
  go_wp2_with fail
  go_ret
  exact ⟨rfl, _, K15.out⟩
end Go.Proofs.YtigpdgfhngknhaaDoor.Snk
/- A header is read from bytes, and written. -/
namespace Go.Proofs.YtigpdgfhngknhaaDoor.Snk
open Go.RowKit Go.Proofs.YtigpdgfhngknhaaDoorW.PrintWords Go.Proofs.YtigpdgfhngknhaaDoorW.PrintLast Go.Proofs.YtigpdgfhngknhaaDoorW.PrintMore
set_option linter.unusedVariables false
set_option linter.unusedSimpArgs false
set_option maxRecDepth 100000 in
theorem readHdrC (w0 : World) (rb gh n c : Nat) (A : Option Addr) (tl : List Int) (h h0 : HdV) (lr : Int) (w : World) (hb0 : Below w0.heap.size w0 w) (hrb : w0.heap.size ≤ rb) (hgh : w0.heap.size ≤ gh) (hne : gh ≠ rb) (ho : h.ok) (hr : ReadsInt w0 .u8 A n (h.bytes ++ tl)) (hc : n ≤ c) (hn : n ≤ 1000000000) (hrd : RdC w rb (.slice A n c) 0 lr)
    (hhd : w.heap[gh]? = some (.cells (hdC .i64 h0).toArray 53 (0, 0))) (hp : h0.p.length = 32) (hq : h0.r.length = 32) :
    Calls Tryd.prog 31 #[.iface 55 (.pointer (some ⟨rb, 0, none⟩)), .int .u32 0, .pointer (some ⟨gh, 0, none⟩)] w fun e w' => e = .returned .nilIface ∧ w'.heap[gh]? = some (.cells (hdC .i64 h).toArray 53 (0, 0)) ∧ Below w0.heap.size w0 w' := by
  have HC : Aside0 (∀ gb w1, Below w.heap.size w w1 → w.heap.size ≤ gb → w1.heap[gb]? = some (.cells (byteC (List.replicate 8 0)).toArray 5 (0, 0)) → Calls Tryd.prog 45 #[.iface 55 (.pointer (some ⟨rb, 0, none⟩)), .int .u32 0, .pointer (some ⟨gh, 0, none⟩), .slice (some ⟨gb, 0, none⟩) 8 8] w1 fun e w' => e = .returned .nilIface ∧ ∃ buf2, RS w0 rb gb gh (.slice A n c) w' 80 (-1) buf2 h) := ⟨fun gb w1 h1 h2 h3 => by
    have hl1 := blk_lt' hrd
    have hl2 := blk_lt' hhd
    have hl3 := hb0.size
    exact readBufC w0 rb gb gh n c A tl h h0 lr _ w1 ⟨hrb, by omega, hgh, by omega, hne, by omega⟩ ho hr hc hn ⟨hrd.below h1, h3, rfl, (h1.block _ hl2).trans hhd, hp, hq, below_then hb0 hb0.size h1⟩⟩
  clear hb0 hrb hgh hne ho hr hc hn hrd hhd hp hq
  go_enter Tryd.func31, Tryd.ntmps31
  go_upto_region 2 with (go_at_call 42; (with_reducible refine (borrowC w).mono ?_); rintro e w1 ⟨gb, rfl, k1, k2, k3⟩; have HG := Aside0.mk (HC.out gb w1 k3 k2 k1); clear k1 k2 k3)
  go_upto_region 3 with (go_at_call 45; (with_reducible refine HG.out.mono ?_); rintro e w2 ⟨rfl, buf2, k1⟩; have K2 := Aside0.mk k1; clear k1)
  go_wp2_with (go_at_call 44; (with_reducible refine (returnC _ w2).mono ?_); rintro e w3 ⟨rfl, k1⟩; have K3 := Aside0.mk (K2.out.below k1); clear k1)
  go_ret
  exact ⟨rfl, K3.out.hd, K3.out.w0⟩
set_option maxRecDepth 100000 in
theorem deserC (w0 : World) (rb gh n c : Nat) (A : Option Addr) (tl : List Int) (h h0 : HdV) (lr : Int) (w : World) (hb0 : Below w0.heap.size w0 w) (hrb : w0.heap.size ≤ rb) (hgh : w0.heap.size ≤ gh) (hne : gh ≠ rb) (ho : h.ok) (hr : ReadsInt w0 .u8 A n (h.bytes ++ tl)) (hc : n ≤ c) (hn : n ≤ 1000000000) (hrd : RdC w rb (.slice A n c) 0 lr)
    (hhd : w.heap[gh]? = some (.cells (hdC .i64 h0).toArray 53 (0, 0))) (hp : h0.p.length = 32) (hq : h0.r.length = 32) :
    Calls Tryd.prog 18 #[.pointer (some ⟨gh, 0, none⟩), .iface 55 (.pointer (some ⟨rb, 0, none⟩))] w fun e w' => e = .returned .nilIface ∧ w'.heap[gh]? = some (.cells (hdC .i64 h).toArray 53 (0, 0)) ∧ Below w0.heap.size w0 w' := by
  have HC := Aside0.mk (readHdrC w0 rb gh n c A tl h h0 lr w hb0 hrb hgh hne ho hr hc hn hrd hhd hp hq)
  clear hb0 hrb hgh hne ho hr hc hn hrd hhd hp hq
  go_enter Tryd.func18, Tryd.ntmps18
  go_wp2_with (go_at_call 31; (with_reducible refine HC.out.mono ?_); rintro e w2 ⟨rfl, k1, k2⟩; have K1 := Aside0.mk k1; have K2 := Aside0.mk k2; clear k1 k2)
  go_ret
  exact ⟨rfl, K1.out, K2.out⟩
set_option maxRecDepth 100000 in
theorem build_in {h : HdV} (ho : h.ok) : Tryd.prog.built 25 [(0, .int .i32 h.v), (1, .agg (byteC h.p).toArray), (2, .agg (byteC h.r).toArray), (3, .int .u32 h.t), (4, .int .u32 h.b), (5, .int .u32 h.n)] = some (hdC .u32 h).toArray := by
  obtain ⟨v, p, r, t, b, n⟩ := h
  obtain ⟨p0, p1, p2, p3, p4, p5, p6, p7, p8, p9, p10, p11, p12, p13, p14, p15, p16, p17, p18, p19, p20, p21, p22, p23, p24, p25, p26, p27, p28, p29, p30, p31, e1⟩ := list32I p ho.p
  obtain ⟨q0, q1, q2, q3, q4, q5, q6, q7, q8, q9, q10, q11, q12, q13, q14, q15, q16, q17, q18, q19, q20, q21, q22, q23, q24, q25, q26, q27, q28, q29, q30, q31, e2⟩ := list32I r ho.r
  subst e1 e2
  kernel_rfl
theorem one_all (k : IntKind) (h : HdV) : ((hdC k h).toArray).all (·.oneCell') = true := by
  have := hdC_one k h [] rfl
  rw [List.append_nil] at this
  exact this
set_option maxRecDepth 100000 in
set_option maxHeartbeats 4000000 in
theorem ofHeaderC (g : Nat) (h : HdV) (ho : h.ok) (w : World) (hb : w.heap[g]? = some (.cells (hdC .i64 h).toArray 53 (0, 0))) : Calls Tryd.prog 20 #[.pointer (some ⟨g, 0, none⟩)] w fun e w' => e = .returned (.agg (hdC .u32 h).toArray) ∧ Below w.heap.size w w' := by
  have HO := Aside0.mk ho
  have HB := Aside0.mk hb
  have ht1 := ho.t0
  have ht2 := ho.t1
  have HT : Aside0 (IntKind.u32.wrap h.t = h.t) := ⟨by simp [IntKind.wrap, IntKind.signed, IntKind.bits]; omega⟩
  have hi1 : (Tryd.prog.info? 51).map (·.size) = some 1 := by kernel_rfl
  have HI1 := Aside0.mk hi1
  have HI68 : Aside0 ((Tryd.prog.info? 25).map (·.size) = some (hdC .u32 h).toArray.size) := ⟨by rw [List.size_toArray, hdC_len _ ho]; exact size_in⟩
  clear ho hb ht1 ht2 hi1
  go_enter Tryd.func20, Tryd.ntmps20
  go_upto_region 1 with fail
  obtain ⟨r, hr⟩ : ∃ r, w.heap.size = r := ⟨_, rfl⟩
  have HRW := Aside0.mk hr
  have HQ := heap_alloc_new w (.cells (hdC .u32 ⟨0, List.replicate 32 0, List.replicate 32 0, 0, 0, 0⟩).toArray 25)
  rw [hr] at HQ ⊢
  have HH := heap_alloc_lt HB.out (.cells (hdC .u32 ⟨0, List.replicate 32 0, List.replicate 32 0, 0, 0, 0⟩).toArray 25)
  have HLL := Aside0.mk (blk_lt' HB.out)
  obtain ⟨w1, hw1⟩ : ∃ w1, w1 = w.alloc (.cells (hdC .u32 ⟨0, List.replicate 32 0, List.replicate 32 0, 0, 0, 0⟩).toArray 25) := ⟨_, rfl⟩
  rw [← hw1] at HQ HH
  have HB1 : Aside0 (Below w.heap.size w w1) := ⟨by rw [hw1]; exact below_alloc (Below.refl _ _) _⟩
  have HQ1 := Aside0.mk HQ
  have HH1 := Aside0.mk HH
  clear HQ HH hr
  generalize hw2 : World.alloc _ _ = w2
  obtain rfl : w2 = w1 := by rw [hw1, ← hw2]; rfl
  clear hw1 hw2
  refine start_ (n := 28) (S := fun w' => w'.heap[g]? = some (.cells (hdC .i64 h).toArray 53 (0, 0))) (ds := [27]) #[false, false, false, false, false, false, false, false, false, false, false, false, false, false, false, false, false, false, false, false, false, false, false, false, false, false, false, false] (by kernel_rfl) rfl rfl HH1.out (fun hHeld => ?_)
  refine pure_ (i := 0) (N := some 3) (v := ?_) (a' := ?_) #[true, false, false, false, false, false, false, false, false, false, false, false, false, false, false, false, false, false, false, false, false, false, false, false, false, false, false, false] rfl rfl (by kernel_rfl) (fun _ _ _ h => h) (Or.inl ⟨by rfl, ?_⟩) ?_ ?_
  rotate_left
  · intro w'
    go_simp
    with_reducible rfl
  rotate_left
  · simp only [Act.put, List.setIfInBounds_toArray, List.set_cons_zero, List.set_cons_succ, i64_w, i32_w]
    rfl
  refine pure_ (i := 1) (N := some 4) (v := ?_) (a' := ?_) #[true, true, false, false, false, false, false, false, false, false, false, false, false, false, false, false, false, false, false, false, false, false, false, false, false, false, false, false] rfl rfl (by kernel_rfl) (fun _ _ _ h => h) (Or.inl ⟨by rfl, ?_⟩) ?_ ?_
  rotate_left
  · intro w'
    go_simp
    with_reducible rfl
  rotate_left
  · simp only [Act.put, List.setIfInBounds_toArray, List.set_cons_zero, List.set_cons_succ, i64_w, i32_w]
    rfl
  refine pure_ (i := 2) (N := some 5) (v := ?_) (a' := ?_) #[true, true, true, false, false, false, false, false, false, false, false, false, false, false, false, false, false, false, false, false, false, false, false, false, false, false, false, false] rfl rfl (by kernel_rfl) (fun _ _ _ h => h) (Or.inl ⟨by rfl, ?_⟩) ?_ ?_
  rotate_left
  · intro w'
    go_simp
    with_reducible rfl
  rotate_left
  · simp only [Act.put, List.setIfInBounds_toArray, List.set_cons_zero, List.set_cons_succ, i64_w, i32_w]
    rfl
  refine take_ (i := 3) (N := some 6) (v := ?_) (a' := ?_) #[true, true, true, true, false, false, false, false, false, false, false, false, false, false, false, false, false, false, false, false, false, false, false, false, false, false, false, false] rfl rfl (by kernel_rfl) (fun _ _ _ h => h) (Or.inl ⟨by rfl, ?_⟩) hHeld ?_ ?_
  rotate_left
  · rintro w' s0
    have z : w'.cell? ⟨g, 0, none⟩ = some (.int .i32 h.v) := cell_of s0 (by rw [List.getElem?_toArray]; exact rfl)
    go_simp
    with_reducible rfl
  rotate_left
  · simp only [Act.put, List.setIfInBounds_toArray, List.set_cons_zero, List.set_cons_succ, i64_w, i32_w]
    rfl
  refine pure_ (i := 4) (N := some 7) (v := ?_) (a' := ?_) #[true, true, true, true, true, false, false, false, false, false, false, false, false, false, false, false, false, false, false, false, false, false, false, false, false, false, false, false] rfl rfl (by kernel_rfl) (fun _ _ _ h => h) (Or.inl ⟨by rfl, ?_⟩) ?_ ?_
  rotate_left
  · intro w'
    go_simp
    with_reducible rfl
  rotate_left
  · simp only [Act.put, List.setIfInBounds_toArray, List.set_cons_zero, List.set_cons_succ, i64_w, i32_w]
    rfl
  refine pure_ (i := 5) (N := some 8) (v := ?_) (a' := ?_) #[true, true, true, true, true, true, false, false, false, false, false, false, false, false, false, false, false, false, false, false, false, false, false, false, false, false, false, false] rfl rfl (by kernel_rfl) (fun _ _ _ h => h) (Or.inl ⟨by rfl, ?_⟩) ?_ ?_
  rotate_left
  · intro w'
    go_simp
    with_reducible rfl
  rotate_left
  · simp only [Act.put, List.setIfInBounds_toArray, List.set_cons_zero, List.set_cons_succ, i64_w, i32_w]
    rfl
  refine pure_ (i := 6) (N := some 9) (v := ?_) (a' := ?_) #[true, true, true, true, true, true, true, false, false, false, false, false, false, false, false, false, false, false, false, false, false, false, false, false, false, false, false, false] rfl rfl (by kernel_rfl) (fun _ _ _ h => h) (Or.inl ⟨by rfl, ?_⟩) ?_ ?_
  rotate_left
  · intro w'
    go_simp
    with_reducible rfl
  rotate_left
  · simp only [Act.put, List.setIfInBounds_toArray, List.set_cons_zero, List.set_cons_succ, i64_w, i32_w]
    rfl
  refine take_ (i := 7) (N := some 10) (v := ?_) (a' := ?_) #[true, true, true, true, true, true, true, true, false, false, false, false, false, false, false, false, false, false, false, false, false, false, false, false, false, false, false, false] rfl rfl (by kernel_rfl) (fun _ _ _ h => h) (Or.inl ⟨by rfl, ?_⟩) hHeld ?_ ?_
  rotate_left
  · rintro w' s0
    refine run_load_at 49 (.tmp 9) ?_ ⟨g, 1, none⟩ ?_ (byteC h.p) _ (cells_row (o := 1) s0 (fun j hj => by rw [byteC_len, HO.out.p] at hj; have e := hdC_p .i64 HO.out [] j hj; rw [List.append_nil] at e; rw [e, byteC_at (by rw [HO.out.p]; exact hj)])) Tryd.underlying49 rfl (by rw [byteC_len, HO.out.p]; exact (by kernel_rfl : (Tryd.prog.info? 49).map (·.size) = some 32)) <;> rfl
  rotate_left
  · simp only [Act.put, List.setIfInBounds_toArray, List.set_cons_zero, List.set_cons_succ, i64_w, i32_w]
    rfl
  refine pure_ (i := 8) (N := some 11) (v := ?_) (a' := ?_) #[true, true, true, true, true, true, true, true, true, false, false, false, false, false, false, false, false, false, false, false, false, false, false, false, false, false, false, false] rfl rfl (by kernel_rfl) (fun _ _ _ h => h) (Or.inl ⟨by rfl, ?_⟩) ?_ ?_
  rotate_left
  · intro w'
    go_simp
    with_reducible rfl
  rotate_left
  · simp only [Act.put, List.setIfInBounds_toArray, List.set_cons_zero, List.set_cons_succ, i64_w, i32_w]
    rfl
  refine pure_ (i := 9) (N := some 12) (v := ?_) (a' := ?_) #[true, true, true, true, true, true, true, true, true, true, false, false, false, false, false, false, false, false, false, false, false, false, false, false, false, false, false, false] rfl rfl (by kernel_rfl) (fun _ _ _ h => h) (Or.inl ⟨by rfl, ?_⟩) ?_ ?_
  rotate_left
  · intro w'
    go_simp
    with_reducible rfl
  rotate_left
  · simp only [Act.put, List.setIfInBounds_toArray, List.set_cons_zero, List.set_cons_succ, i64_w, i32_w]
    rfl
  refine pure_ (i := 10) (N := some 13) (v := ?_) (a' := ?_) #[true, true, true, true, true, true, true, true, true, true, true, false, false, false, false, false, false, false, false, false, false, false, false, false, false, false, false, false] rfl rfl (by kernel_rfl) (fun _ _ _ h => h) (Or.inl ⟨by rfl, ?_⟩) ?_ ?_
  rotate_left
  · intro w'
    go_simp
    with_reducible rfl
  rotate_left
  · simp only [Act.put, List.setIfInBounds_toArray, List.set_cons_zero, List.set_cons_succ, i64_w, i32_w]
    rfl
  refine take_ (i := 11) (N := some 14) (v := ?_) (a' := ?_) #[true, true, true, true, true, true, true, true, true, true, true, true, false, false, false, false, false, false, false, false, false, false, false, false, false, false, false, false] rfl rfl (by kernel_rfl) (fun _ _ _ h => h) (Or.inl ⟨by rfl, ?_⟩) hHeld ?_ ?_
  rotate_left
  · rintro w' s0
    refine run_load_at 49 (.tmp 13) ?_ ⟨g, 33, none⟩ ?_ (byteC h.r) _ (cells_row (o := 33) s0 (fun j hj => by rw [byteC_len, HO.out.r] at hj; have e := hdC_r .i64 HO.out [] j hj; rw [List.append_nil] at e; rw [e, byteC_at (by rw [HO.out.r]; exact hj)])) Tryd.underlying49 rfl (by rw [byteC_len, HO.out.r]; exact (by kernel_rfl : (Tryd.prog.info? 49).map (·.size) = some 32)) <;> rfl
  rotate_left
  · simp only [Act.put, List.setIfInBounds_toArray, List.set_cons_zero, List.set_cons_succ, i64_w, i32_w]
    rfl
  refine pure_ (i := 12) (N := some 15) (v := ?_) (a' := ?_) #[true, true, true, true, true, true, true, true, true, true, true, true, true, false, false, false, false, false, false, false, false, false, false, false, false, false, false, false] rfl rfl (by kernel_rfl) (fun _ _ _ h => h) (Or.inl ⟨by rfl, ?_⟩) ?_ ?_
  rotate_left
  · intro w'
    go_simp
    with_reducible rfl
  rotate_left
  · simp only [Act.put, List.setIfInBounds_toArray, List.set_cons_zero, List.set_cons_succ, i64_w, i32_w]
    rfl
  refine pure_ (i := 13) (N := some 16) (v := ?_) (a' := ?_) #[true, true, true, true, true, true, true, true, true, true, true, true, true, true, false, false, false, false, false, false, false, false, false, false, false, false, false, false] rfl rfl (by kernel_rfl) (fun _ _ _ h => h) (Or.inl ⟨by rfl, ?_⟩) ?_ ?_
  rotate_left
  · intro w'
    go_simp
    with_reducible rfl
  rotate_left
  · simp only [Act.put, List.setIfInBounds_toArray, List.set_cons_zero, List.set_cons_succ, i64_w, i32_w]
    rfl
  refine pure_ (i := 14) (N := some 17) (v := ?_) (a' := ?_) #[true, true, true, true, true, true, true, true, true, true, true, true, true, true, true, false, false, false, false, false, false, false, false, false, false, false, false, false] rfl rfl (by kernel_rfl) (fun _ _ _ h => h) (Or.inl ⟨by rfl, ?_⟩) ?_ ?_
  rotate_left
  · intro w'
    go_simp
    with_reducible rfl
  rotate_left
  · simp only [Act.put, List.setIfInBounds_toArray, List.set_cons_zero, List.set_cons_succ, i64_w, i32_w]
    rfl
  refine take_ (i := 15) (N := some 18) (v := ?_) (a' := ?_) #[true, true, true, true, true, true, true, true, true, true, true, true, true, true, true, true, false, false, false, false, false, false, false, false, false, false, false, false] rfl rfl (by kernel_rfl) (fun _ _ _ h => h) (Or.inl ⟨by rfl, ?_⟩) hHeld ?_ ?_
  rotate_left
  · rintro w' s0
    refine run_load_at 51 (.tmp 17) ?_ ⟨g, 65, none⟩ ?_ [.int .i64 h.t] _ (cells_row (o := 65) s0 (fun j hj => by obtain rfl : j = 0 := (by simp at hj; exact hj); have e := hdC_tail .i64 HO.out [] 0; rw [List.append_nil] at e; exact e)) Tryd.underlying51 rfl HI1.out <;> rfl
  rotate_left
  · simp only [Act.put, List.setIfInBounds_toArray, List.set_cons_zero, List.set_cons_succ, i64_w, i32_w]
    rfl
  refine pure_ (i := 18) (N := some 21) (v := ?_) (a' := ?_) #[true, true, true, true, true, true, true, true, true, true, true, true, true, true, true, true, false, false, true, false, false, false, false, false, false, false, false, false] rfl rfl (by kernel_rfl) (fun _ _ _ h => h) (Or.inl ⟨by rfl, ?_⟩) ?_ ?_
  rotate_left
  · intro w'
    go_simp
    with_reducible rfl
  rotate_left
  · simp only [Act.put, List.setIfInBounds_toArray, List.set_cons_zero, List.set_cons_succ, i64_w, i32_w]
    rfl
  refine pure_ (i := 19) (N := some 22) (v := ?_) (a' := ?_) #[true, true, true, true, true, true, true, true, true, true, true, true, true, true, true, true, false, false, true, true, false, false, false, false, false, false, false, false] rfl rfl (by kernel_rfl) (fun _ _ _ h => h) (Or.inl ⟨by rfl, ?_⟩) ?_ ?_
  rotate_left
  · intro w'
    go_simp
    with_reducible rfl
  rotate_left
  · simp only [Act.put, List.setIfInBounds_toArray, List.set_cons_zero, List.set_cons_succ, i64_w, i32_w]
    rfl
  refine pure_ (i := 20) (N := some 23) (v := ?_) (a' := ?_) #[true, true, true, true, true, true, true, true, true, true, true, true, true, true, true, true, false, false, true, true, true, false, false, false, false, false, false, false] rfl rfl (by kernel_rfl) (fun _ _ _ h => h) (Or.inl ⟨by rfl, ?_⟩) ?_ ?_
  rotate_left
  · intro w'
    go_simp
    with_reducible rfl
  rotate_left
  · simp only [Act.put, List.setIfInBounds_toArray, List.set_cons_zero, List.set_cons_succ, i64_w, i32_w]
    rfl
  refine take_ (i := 21) (N := some 24) (v := ?_) (a' := ?_) #[true, true, true, true, true, true, true, true, true, true, true, true, true, true, true, true, false, false, true, true, true, true, false, false, false, false, false, false] rfl rfl (by kernel_rfl) (fun _ _ _ h => h) (Or.inl ⟨by rfl, ?_⟩) hHeld ?_ ?_
  rotate_left
  · rintro w' s0
    have z : w'.cell? ⟨g, 66, none⟩ = some (.int .u32 h.b) := cell_of s0 (by rw [List.getElem?_toArray]; exact (by have e := hdC_tail .i64 HO.out [] 1; rw [List.append_nil] at e; exact e))
    go_simp
    with_reducible rfl
  rotate_left
  · simp only [Act.put, List.setIfInBounds_toArray, List.set_cons_zero, List.set_cons_succ, i64_w, i32_w]
    rfl
  refine pure_ (i := 22) (N := some 25) (v := ?_) (a' := ?_) #[true, true, true, true, true, true, true, true, true, true, true, true, true, true, true, true, false, false, true, true, true, true, true, false, false, false, false, false] rfl rfl (by kernel_rfl) (fun _ _ _ h => h) (Or.inl ⟨by rfl, ?_⟩) ?_ ?_
  rotate_left
  · intro w'
    go_simp
    with_reducible rfl
  rotate_left
  · simp only [Act.put, List.setIfInBounds_toArray, List.set_cons_zero, List.set_cons_succ, i64_w, i32_w]
    rfl
  refine pure_ (i := 23) (N := some 26) (v := ?_) (a' := ?_) #[true, true, true, true, true, true, true, true, true, true, true, true, true, true, true, true, false, false, true, true, true, true, true, true, false, false, false, false] rfl rfl (by kernel_rfl) (fun _ _ _ h => h) (Or.inl ⟨by rfl, ?_⟩) ?_ ?_
  rotate_left
  · intro w'
    go_simp
    with_reducible rfl
  rotate_left
  · simp only [Act.put, List.setIfInBounds_toArray, List.set_cons_zero, List.set_cons_succ, i64_w, i32_w]
    rfl
  refine pure_ (i := 24) (N := some 27) (v := ?_) (a' := ?_) #[true, true, true, true, true, true, true, true, true, true, true, true, true, true, true, true, false, false, true, true, true, true, true, true, true, false, false, false] rfl rfl (by kernel_rfl) (fun _ _ _ h => h) (Or.inl ⟨by rfl, ?_⟩) ?_ ?_
  rotate_left
  · intro w'
    go_simp
    with_reducible rfl
  rotate_left
  · simp only [Act.put, List.setIfInBounds_toArray, List.set_cons_zero, List.set_cons_succ, i64_w, i32_w]
    rfl
  refine take_ (i := 25) (N := some 28) (v := ?_) (a' := ?_) #[true, true, true, true, true, true, true, true, true, true, true, true, true, true, true, true, false, false, true, true, true, true, true, true, true, true, false, false] rfl rfl (by kernel_rfl) (fun _ _ _ h => h) (Or.inl ⟨by rfl, ?_⟩) hHeld ?_ ?_
  rotate_left
  · rintro w' s0
    have z : w'.cell? ⟨g, 67, none⟩ = some (.int .u32 h.n) := cell_of s0 (by rw [List.getElem?_toArray]; exact (by have e := hdC_tail .i64 HO.out [] 2; rw [List.append_nil] at e; exact e))
    go_simp
    with_reducible rfl
  rotate_left
  · simp only [Act.put, List.setIfInBounds_toArray, List.set_cons_zero, List.set_cons_succ, i64_w, i32_w]
    rfl
  refine one_ (i := 16) (N := some 19) #[true, true, true, true, true, true, true, true, true, true, true, true, true, true, true, true, true, false, true, true, true, true, true, true, true, true, false, false] rfl rfl (by kernel_rfl) (by decide) (fun K hK => ?_)
  refine goes_ Tryd.func33 (by kernel_rfl) rfl #[.agg #[.int .i64 h.t]] (by rfl) rfl rfl (by (try simp only [List.map_toArray, List.map_cons, List.map_nil]); first | done | rfl | (simp only [List.length_drop, List.length_take]; rfl)) ?_
  with_reducible refine (timeUnixC h.t _).mono ?_
  rintro e w3 ⟨rfl, k1⟩
  refine ⟨_, rfl, ?_⟩
  have HR3 := Aside0.mk ((k1.block r (blk_lt' (show (World.drew w2).heap[r]? = _ from HQ1.out))).trans (show (World.drew w2).heap[r]? = _ from HQ1.out))
  have HB3 : Aside0 (Below w.heap.size w w3) := ⟨below_then (below_drew HB1.out) HB1.out.size k1⟩
  refine hK.out _ _ ((k1.block g (blk_lt' (show (World.drew w2).heap[g]? = _ from HH1.out))).trans (show (World.drew w2).heap[g]? = _ from HH1.out)) (fun hHeld => ?_)
  clear hK K
  refine norm_ (a' := ?_) ?_ ?_
  rotate_left
  · show Act.put _ (some 19) _ = _
    simp only [Act.put, List.setIfInBounds_toArray, List.set_cons_zero, List.set_cons_succ, i64_w, i32_w]
    rfl
  refine pure_ (i := 17) (N := some 20) (v := ?_) (a' := ?_) #[true, true, true, true, true, true, true, true, true, true, true, true, true, true, true, true, true, true, true, true, true, true, true, true, true, true, false, false] rfl rfl (by kernel_rfl) (fun _ _ _ h => h) (Or.inl ⟨by rfl, ?_⟩) ?_ ?_
  rotate_left
  · intro w'
    go_simp
    first | exact congrArg (fun x => Result.ok (Next.value (.int .u32 x)) w') HT.out | exact congrArg (Value.int .u32) HT.out
  rotate_left
  · simp only [Act.put, List.setIfInBounds_toArray, List.set_cons_zero, List.set_cons_succ, i64_w, i32_w]
    rfl
  refine pure_ (i := 26) (N := some 29) (v := ?_) (a' := ?_) #[true, true, true, true, true, true, true, true, true, true, true, true, true, true, true, true, true, true, true, true, true, true, true, true, true, true, true, false] rfl rfl (by kernel_rfl) (fun _ _ _ h => h) (Or.inl ⟨by rfl, ?_⟩) ?_ ?_
  rotate_left
  · intro w'
    refine run_built 25 #[(0, .tmp 6), (1, .tmp 10), (2, .tmp 14), (3, .tmp 20), (4, .tmp 24), (5, .tmp 28)] ?_ _ ?_ _ (build_in HO.out)
    · rfl
    · simp only [List.map_toArray, List.map_cons, List.map_nil]; rfl
  rotate_left
  · simp only [Act.put, List.setIfInBounds_toArray, List.set_cons_zero, List.set_cons_succ, i64_w, i32_w]
    rfl
  refine last_ (i := 27) (N := none) #[true, true, true, true, true, true, true, true, true, true, true, true, true, true, true, true, true, true, true, true, true, true, true, true, true, true, true, true] rfl rfl (by kernel_rfl) (by decide) (fun K hK => ?_)
  rw [if_pos (show Region.wanted _ _ = true by rfl)]
  refine wp_store_row 25 (.tmp 2) (.tmp 29) rfl r (hdC .u32 h).toArray rfl rfl 25 _ HR3.out HI68.out (by rw [List.size_toArray, List.size_toArray, hdC_len _ HO.out]; rfl) (one_all _ _) ?_
  refine hK.out _ _ ?_
  clear hK K
  refine norm_ (a' := ?_) ?_ ?_
  rotate_left
  · rfl
  refine done_ (by kernel_rfl) ?_
  go_wp2_with fail
  refine bodyPost_ret_by (results_cell_row rfl _ _ r 25 _ (0, 0) _ (by rfl) (setRow_heap _ _ _ _ _ _ HR3.out) Tryd.underlying25 rfl HI68.out) rfl ⟨rfl, HB3.out.trans ⟨rfl, rfl, rfl, Nat.le_of_eq (setRow_size _ _ _).symm, fun k hk => setRow_other _ _ _ _ (by have := HRW.out; omega)⟩⟩
theorem results_row_tmp {P : Program} {fn : Func} {p u : Tmp} {ty : TypeId} (h : fn.results = #[.cell p ty, .tmp u]) (tmps : Array Value) (w : World) (g : Nat) (t : TypeId) (cs : Array Value) (fr : Nat × Nat) (d : TypeDesc) (x : Value)
    (hp : tmps.getD p undef = .pointer (some ⟨g, 0, none⟩)) (hx : tmps.getD u undef = x) (hg : w.heap[g]? = some (.cells cs t fr)) (hu : P.underlying ty = some d) (hd : (match d with | .struct _ | .array _ _ => true | _ => false) = true) (hi : (P.info? ty).map (·.size) = some cs.size) :
    (results fn tmps).run P w = .ok (.tuple #[.agg cs, x]) w := by
  rw [results_cell_tmp h, hp, hx]
  simp [asAddr, Result.andThen, run_loadVar_row w g t ty cs fr d hg hu hd hi]
set_option maxRecDepth 100000 in
set_option maxHeartbeats 4000000 in
theorem readHeaderC (n c : Nat) (A : Option Addr) (tl : List Int) (h : HdV) (w : World) (ho : h.ok) (hr : ReadsInt w .u8 A n (h.bytes ++ tl)) (hc : n ≤ c) (hn : n ≤ 1000000000) :
    Calls Tryd.prog 6 #[.slice A n c] w fun e w' => e = .returned (.tuple #[.agg (hdC .u32 h).toArray, .int .i64 0]) ∧ Below w.heap.size w w' := by
  have HI68 : Aside0 ((Tryd.prog.info? 25).map (·.size) = some (hdC .u32 h).toArray.size) := ⟨by rw [List.size_toArray, hdC_len _ ho]; exact size_in⟩
  have HLN : Aside0 ((hdC .u32 h).toArray.size = 68) := ⟨by rw [List.size_toArray, hdC_len _ ho]⟩
  have HDS : Aside0 (∀ (wa : World) (rb gh : Nat) (w1 : World), Below w.heap.size w wa → Below wa.heap.size wa w1 → wa.heap.size ≤ rb → wa.heap.size ≤ gh → gh ≠ rb → RdC w1 rb (.slice A n c) 0 (-1) → w1.heap[gh]? = some (.cells (hdC .i64 ⟨0, List.replicate 32 0, List.replicate 32 0, 0, 0, 0⟩).toArray 53 (0, 0)) → Calls Tryd.prog 18 #[.pointer (some ⟨gh, 0, none⟩), .iface 55 (.pointer (some ⟨rb, 0, none⟩))] w1 fun e w' => e = .returned .nilIface ∧ w'.heap[gh]? = some (.cells (hdC .i64 h).toArray 53 (0, 0)) ∧ Below wa.heap.size wa w') := ⟨fun wa rb gh w1 ha h1 h2 h3 h4 h5 h6 => deserC wa rb gh n c A tl h _ (-1) w1 h1 h2 h3 h4 ho (hr.below ha) hc hn h5 h6 rfl rfl⟩
  have HOF : Aside0 (∀ g w1, w1.heap[g]? = some (.cells (hdC .i64 h).toArray 53 (0, 0)) → Calls Tryd.prog 20 #[.pointer (some ⟨g, 0, none⟩)] w1 fun e w' => e = .returned (.agg (hdC .u32 h).toArray) ∧ Below w1.heap.size w1 w') := ⟨fun g w1 h1 => ofHeaderC g h ho w1 h1⟩
  clear ho hr hc hn
  go_enter Tryd.func6, Tryd.ntmps6
  go_upto_region 2 with fail
  obtain ⟨z, hz⟩ : ∃ z : HdV, z = ⟨0, List.replicate 32 0, List.replicate 32 0, 0, 0, 0⟩ := ⟨_, rfl⟩
  obtain ⟨wa, hwa⟩ : ∃ x, x = w.alloc (.cells (hdC .u32 z).toArray 25) := ⟨_, rfl⟩
  obtain ⟨wb, hwb⟩ : ∃ x, x = wa.alloc (.cells (hdC .i64 z).toArray 53) := ⟨_, rfl⟩
  have hsa : wa.heap.size = w.heap.size + 1 := by rw [hwa]; simp
  have Q1 := heap_alloc_new w (.cells (hdC .u32 z).toArray 25)
  rw [← hwa] at Q1
  have Q2 := heap_alloc_new wa (.cells (hdC .i64 z).toArray 53)
  rw [← hwb, hsa] at Q2
  have HQA := Aside0.mk Q1
  have HBA : Aside0 (Below w.heap.size w wa) := ⟨by rw [hwa]; exact below_alloc (Below.refl _ _) _⟩
  have HSA := Aside0.mk hsa
  have HBb : Aside0 (Below wa.heap.size wa wb) := ⟨by rw [hwb]; exact below_alloc (Below.refl _ _) _⟩
  have HSZ : Aside0 (wb.heap.size = w.heap.size + 2) := ⟨by rw [hwb]; simp [hsa]⟩
  generalize hw2 : World.alloc (World.alloc _ _) _ = w2
  obtain rfl : w2 = wb := by rw [hwb, hwa, hz, ← hw2]; rfl
  clear hw2 hwb hwa hsa Q1
  subst hz
  obtain ⟨g, hg⟩ : ∃ g, w.heap.size = g := ⟨_, rfl⟩
  have HG := Aside0.mk hg
  rw [hg] at Q2 ⊢
  rw [hg] at HQA
  have HQ2 := Aside0.mk Q2
  have HRC := Aside0.mk (implReaderC A n c w2)
  obtain ⟨rb, hrb⟩ : ∃ r, w2.heap.size = r := ⟨_, rfl⟩
  have HRB := Aside0.mk hrb
  rw [hrb] at HRC
  clear Q2 hg hrb
  go_upto_region 5 with (first
    | (go_at_call 19; (with_reducible refine HRC.out.mono ?_); rintro e w3 ⟨rfl, k1, k2⟩; have K3 := Aside0.mk k1; have B3 := Aside0.mk k2; clear k1 k2; have HB3 : Aside0 (Below wa.heap.size wa w3) := (⟨by have h1 := B3.out; rw [← HRB.out] at h1; exact below_then HBb.out HBb.out.size h1⟩); have Q3 : Aside0 (w3.heap[g + 1]? = _) := (⟨(B3.out.block _ (by have := HRB.out; have := HSZ.out; have := HG.out; omega)).trans HQ2.out⟩); have HD := Aside0.mk (HDS.out wa rb (g + 1) w3 HBA.out HB3.out (by have := HRB.out; have := HSZ.out; have := HSA.out; omega) (by have := HG.out; have := HSA.out; omega) (by have := HRB.out; have := HSZ.out; have := HG.out; omega) K3.out Q3.out))
    | (go_at_call 18; (with_reducible refine HD.out.mono ?_); rintro e w4 ⟨rfl, k1, k2⟩; have K4 := Aside0.mk k1; have B4 := Aside0.mk k2; clear k1 k2))
  have Q4 := Aside0.mk ((B4.out.block g (blk_lt' HQA.out)).trans HQA.out)
  go_wp2_with (first
    | (go_at_call 20; (with_reducible refine (HOF.out (g + 1) w4 K4.out).mono ?_); rintro e w5 ⟨rfl, k1⟩; have B5 := Aside0.mk k1; have Q5 := Aside0.mk ((k1.block g (blk_lt' Q4.out)).trans Q4.out); clear k1)
    | (refine wpList_store_row rfl 25 (.tmp 2) (.tmp 13) rfl g (hdC .u32 h).toArray rfl rfl 25 _ Q5.out HI68.out (by rw [HLN.out, List.size_toArray]; rfl) (one_all _ _) ?_))
  refine bodyPost_ret_by (results_row_tmp rfl _ _ g 25 _ (0, 0) _ (.int .i64 0) (by rfl) (by rfl) (setRow_heap _ _ _ _ _ _ Q5.out) Tryd.underlying25 rfl HI68.out) rfl ⟨rfl, ?_⟩
  exact (below_then HBA.out HBA.out.size (below_then B4.out B4.out.size B5.out)).trans ⟨rfl, rfl, rfl, Nat.le_of_eq (setRow_size _ _ _).symm, fun k hk => setRow_other _ _ _ _ (by have := HG.out; omega)⟩
end Go.Proofs.YtigpdgfhngknhaaDoor.Snk
/- The law FnHeader: its walk. -/
namespace Go.Proofs.YtigpdgfhngknhaaDoor.Snk
open Go.RowKit Go.Proofs.YtigpdgfhngknhaaDoorW.PrintWords Go.Proofs.YtigpdgfhngknhaaDoorW.PrintLast Go.Proofs.YtigpdgfhngknhaaDoorW.PrintMore Go.Proofs.YtigpdgfhngknhaaDoor.QFnTapRoot
set_option linter.unusedVariables false
set_option linter.unusedSimpArgs false
/-- Bytes appended to a row of one's own. -/
theorem appH_ {w0 W : World} {ops : Array Oper} {rest : List Oper} {o : Oper} {a : Act} {Q : Exit → Act → World → Prop} (N : Tmp) (hN : o.dst = some N) (hgd : o.guard = none) (s x : Operand) (ho : o.op = .call { callee := .builtin .append, args := #[s, x], argTypes := #[26, 26] })
    (v : Value) (xs ys : List Int) (A : Option Addr) (m c : Nat) (hs : a.eval s = v) (hx : a.eval x = .slice A m c) (hR : Kd.R (Kd.int .u8) 5 W w0.heap.size (fun _ => True) v xs) (hr : ReadsInt W .u8 A m ys) (hB : Below w0.heap.size w0 W) (hL : xs.length + m ≤ 140737488355328)
    (h : ∀ v1 w1, Kd.R (Kd.int .u8) 5 w1 w0.heap.size (fun _ => True) v1 (xs ++ ys) → Below w0.heap.size w0 w1 → W.grownBy w1 v.ownBlock → (v1.ownBlock = v.ownBlock ∨ ∃ b, v1.ownBlock = some b ∧ W.heap.size ≤ b) → wpList Tryd.prog ops Q rest (a.put (some N) v1) w1) : wpList Tryd.prog ops Q (o :: rest) a W := by
  refine Kd.R_append_rows (Kd.int .u8) (w0 := w0) w0.heap.size hgd s x 26 5 (.int .u8 0) 1 ho Tryd.underlying26 infoB8 rfl (by decide) (by omega) v xs ys A m c (fun _ => True) (fun _ => False) hs hx hR (reads_C hr) (fun _ _ h => h) (fun _ h => h.elim) (fun _ _ => trivial) hB hB.size (by omega) ?_
  intro v1 w1 h1 h2 h3 h4
  rw [hN]
  exact h v1 w1 h1 h2 h3 h4
theorem ev_same (l : List Int) (hl : l.length ≤ 1000000) : Ev (fun k => laws_same.f k l l) true := by
  have w64 : ∀ x : Int, 0 ≤ x → x ≤ 9223372036854775807 → wrap64 x = x := fun x h0 h1 => by unfold wrap64; omega
  have key : ∀ d (i : Nat), i + d = l.length → Ev (fun k => laws_same.l0 k l l i) true := by
    intro d
    induction d with
    | zero =>
      intro i hi
      refine Ev.step (fun k => ?_) (Ev.now _)
      rw [laws_same.l0, if_neg (by omega)]
    | succ d ih =>
      intro i hi
      refine Ev.step (fun k => ?_) (ih (i + 1) (by omega))
      rw [laws_same.l0, if_pos (by omega), if_pos (by omega), if_pos (by omega), if_pos rfl, w64 _ (by omega) (by omega)]
      rfl
  refine Ev.congr (fun k => ?_) (key l.length 0 (by omega))
  unfold laws_same.f
  rw [if_pos rfl]; rfl
set_option maxRecDepth 100000 in
theorem earlyH_a (h : HdV) (ho : h.ok) (A : Option Addr) (c : Nat) (bb : List Int) (w : World) (hq : 2147483647 < bb.length) : Calls Tryd.prog 3 #[.agg (hdC .u32 h).toArray, .slice A bb.length c] w fun e w' => e = .returned (.bool true) ∧ Below w.heap.size w w' := by
  obtain ⟨cs, hcs⟩ : ∃ c, hdC .u32 h = c := ⟨_, rfl⟩
  rw [hcs]
  clear hcs ho
  have b_2147483647 : (2147483647 : Int) < (bb.length : Int) := by omega
  go_enter Tryd.func3, Tryd.ntmps3
  go_wp2
  go_ret
  exact ⟨rfl, below_alloc (Below.refl _ _) _⟩
set_option maxRecDepth 100000 in
theorem earlyH_b (h : HdV) (ho : h.ok) (A : Option Addr) (c : Nat) (bb : List Int) (w : World) (h1 : bb.length ≤ 2147483647) (hq : 100000 < bb.length) : Calls Tryd.prog 3 #[.agg (hdC .u32 h).toArray, .slice A bb.length c] w fun e w' => e = .returned (.bool true) ∧ Below w.heap.size w w' := by
  obtain ⟨cs, hcs⟩ : ∃ c, hdC .u32 h = c := ⟨_, rfl⟩
  rw [hcs]
  clear hcs ho
  have b_2147483647 : ¬ (2147483647 : Int) < (bb.length : Int) := by omega
  have n_2147483647 : ¬ 2147483647 < bb.length := by omega
  have b_100000 : (100000 : Int) < (bb.length : Int) := by omega
  go_enter Tryd.func3, Tryd.ntmps3
  go_wp2
  go_ret
  exact ⟨rfl, below_alloc (Below.refl _ _) _⟩
set_option maxRecDepth 100000 in
set_option maxHeartbeats 8000000 in
theorem mainHeader (h : HdV) (ho : h.ok) (A : Option Addr) (c : Nat) (bb : List Int) (w : World) (kl : List Int) (hk : Sha.KRow w kl) (hb : bb.length ≤ 100000) (hr : ReadsInt w .u8 A bb.length bb) (hc : bb.length ≤ c) : Calls Tryd.prog 3 #[.agg (hdC .u32 h).toArray, .slice A bb.length c] w fun e w' => e = .returned (.bool true) ∧ Below w.heap.size w w' := by
  have HI68 : Aside0 ((Tryd.prog.info? 25).map (·.size) = some (hdC .u32 h).toArray.size) := ⟨by rw [List.size_toArray, hdC_len _ ho]; exact size_in⟩
  have HLN : Aside0 ((hdC .u32 h).toArray.size = 68) := ⟨by rw [List.size_toArray, hdC_len _ ho]⟩
  have HOA : Aside0 (((hdC .u32 h).toArray).all (·.oneCell') = true) := ⟨one_all _ _⟩
  have HBL := Aside0.mk (HdV.bytes_len ho)
  have HHB : Aside0 (∀ w1, Calls Tryd.prog 5 #[.agg (hdC .u32 h).toArray] w1 fun e w' => ∃ A c, e = .returned (.slice A 80 c) ∧ ReadsInt w' .u8 A 80 h.bytes ∧ 80 ≤ c ∧ Below w1.heap.size w1 w') := ⟨fun w1 => implHeaderBytesC h ho w1⟩
  have HRH : Aside0 (∀ A n c w1, ReadsInt w1 .u8 A n (h.bytes ++ bb) → n ≤ c → Calls Tryd.prog 6 #[.slice A n c] w1 fun e w' => e = .returned (.tuple #[.agg (hdC .u32 h).toArray, .int .i64 0]) ∧ Below w1.heap.size w1 w') := ⟨fun A n c w1 h1 h2 => readHeaderC n c A bb h w1 ho h1 h2 (by have := h1.1; rw [List.length_append, HdV.bytes_len ho] at this; omega)⟩
  have HSH : Aside0 (∀ w1, Calls Tryd.prog 8 #[.agg (hdC .u32 h).toArray] w1 fun e w' => ∃ v, e = .returned v ∧ Kd.R (Kd.int .u8) 5 w' w1.heap.size (fun _ => True) v h.bytes ∧ Below w1.heap.size w1 w') := ⟨fun w1 => headerBytesC h ho w1⟩
  have HIB : Aside0 (∀ w1, Below w.heap.size w w1 → Calls Tryd.prog 9 #[.agg (hdC .u32 h).toArray] w1 fun e w' => e = .returned (.agg (byteC (Sha.shaD kl h.bytes)).toArray) ∧ Below w1.heap.size w1 w') := ⟨fun w1 h1 => implBlockIDC h ho kl w1 (hk.below h1)⟩
  have HSB : Aside0 (∀ w1, Below w.heap.size w w1 → Calls Tryd.prog 10 #[.func (.func 11) #[] #[], .agg (hdC .u32 h).toArray] w1 fun e w' => e = .returned (.agg (byteC (Sha.shaD kl h.bytes)).toArray) ∧ Below w1.heap.size w1 w') := ⟨fun w1 h1 => by
    have q := blockIDC h ho kl w1 (hk.below h1)
    unfold hashF at q
    exact q⟩
  have HE2 : Aside0 (∀ w1 : World, (Op.equalIn 10000 25 (.agg (hdC .u32 h).toArray) (.agg (hdC .u32 h).toArray)).run Tryd.prog w1 = .ok true w1) := ⟨fun w1 => eq25 h ho w1⟩
  have hl := Sha.shaD_len kl h.bytes
  have HSM : Aside0 (∀ (w1 : World) (B : Nat) A1 c1 v, 80 ≤ c1 → ReadsInt w1 .u8 A1 80 h.bytes → Kd.R (Kd.int .u8) 5 w1 B (fun _ => True) v h.bytes → Calls Tryd.prog 7 #[.slice A1 80 c1, v] w1 fun e w' => e = .returned (.bool true) ∧ Below w1.heap.size w1 w') := ⟨fun w1 B A1 c1 v h1 h2 h3 => by
    obtain ⟨A2, c2, rfl, hc2, hC2⟩ := Kd.R_reads h3
    obtain ⟨ks, hks⟩ := (ev_same h.bytes (by rw [HdV.bytes_len ho]; decide)).rounds
    have q := laws_same.calls ks A1 c1 h.bytes A2 c2 h.bytes true w1 (by rw [HdV.bytes_len ho]; exact reads_C h2) (by rw [HdV.bytes_len ho]; exact h1) hC2 hc2 hks
    rw [show (Value.slice A1 h.bytes.length c1) = Value.slice A1 80 c1 by rw [HdV.bytes_len ho]] at q
    exact q.mono fun e w' ⟨h6, h7⟩ => by
      obtain ⟨nd, rfl⟩ := h7
      exact ⟨h6, pw_below_drewN (Below.refl _ _) nd⟩⟩
  obtain ⟨hx, hhx⟩ : ∃ x, Sha.shaD kl h.bytes = x := ⟨_, rfl⟩
  rw [hhx] at HIB HSB hl
  have HE1 : Aside0 (∀ w1 : World, (Op.equalIn 10000 22 (.agg (byteC hx).toArray) (.agg (byteC hx).toArray)).run Tryd.prog w1 = .ok true w1) := ⟨fun w1 => eq22 hx hl w1⟩
  obtain ⟨cs, hcs⟩ : ∃ c, hdC .u32 h = c := ⟨_, rfl⟩
  rw [hcs] at HI68 HLN HOA HHB HRH HSH HIB HSB HE2 ⊢
  obtain ⟨hby, hhby⟩ : ∃ x, h.bytes = x := ⟨_, rfl⟩
  rw [hhby] at HBL HHB HRH HSH HSM
  have HRR := Aside0.mk hr
  have HCC := Aside0.mk hc
  have HBB := Aside0.mk hb
  have hm1 : (Tryd.prog).eqGuardType (Tryd.prog).depth 22 = false := by kernel_rfl
  have hm2 : (Tryd.prog).eqGuardType (Tryd.prog).depth 25 = false := by kernel_rfl
  have HM1 := Aside0.mk hm1
  have HM2 := Aside0.mk hm2
  have b_2147483647 : ¬ (2147483647 : Int) < (bb.length : Int) := by omega
  have n_2147483647 : ¬ 2147483647 < bb.length := by omega
  have b_100000 : ¬ (100000 : Int) < (bb.length : Int) := by omega
  have n_100000 : ¬ 100000 < bb.length := by omega
  clear hcs ho hk hr hc hl hhx hhby hb hm1 hm2
  go_enter Tryd.func3, Tryd.ntmps3
  go_upto_region 5 with fail
  obtain ⟨g, hg⟩ : ∃ g, w.heap.size = g := ⟨_, rfl⟩
  have HG := Aside0.mk hg
  have HR1 := Aside0.mk (heap_alloc_new w (.cells cs.toArray 25))
  rw [hg] at HR1 ⊢
  generalize hw1 : World.alloc _ _ = w1
  have HB1 : Aside0 (Below w.heap.size w w1) := ⟨by rw [← hw1]; exact below_alloc (Below.refl _ _) _⟩
  rw [hw1] at HR1
  clear hw1 hg
  go_upto_region 6 with (first
    | ((with_reducible refine at_dst (N := 14) rfl ?_); refine wpList_load_at rfl 25 (.tmp 2) rfl ⟨g, 0, none⟩ rfl cs _ (cells_row (o := 0) HR1.out (fun j hj => by rw [Nat.zero_add])) Tryd.underlying25 rfl HI68.out ?_)
    | (go_at_call 5; (with_reducible refine (HHB.out w1).mono ?_); rintro e w2 ⟨A1, c1, rfl, k1, k2, k3⟩; have RB2 := Aside0.mk k1; have HC1 := Aside0.mk k2; have HB2 := Aside0.mk (Sha.below_tr HB1.out k3); have HR2 := Aside0.mk ((k3.block _ (blk_lt' HR1.out)).trans HR1.out); clear k1 k2 k3))
  go_upto_region 7 with (first
    | ((with_reducible refine gate_dst (N := 17) rfl ?_); refine Kd.R_lit (Kd.int .u8) (w0 := w2) w2.heap.size 5 ?hg (N := 17) ?hd (xs := ([] : List Int)) (inner := []) (ok := fun _ => True) (okp := fun _ => True) ?hr ?hp (fun _ hk => hk) trivial (Below.refl _ _) (Nat.le_refl _) (by simp) ?_; (case hd => rfl); (case hg => rfl); (case hr => first | (go_simp; done) | (go_simp; rfl)); (case hp => exact (Reps.none _ _)); intro v3 w3 k1 k2 k3 k4; have V3 := Aside0.mk k1; have B3 := Aside0.mk k2; clear k1 k2 k3 k4)
    | ((with_reducible refine gate_dst (N := 19) rfl ?_); refine appH_ (w0 := w2) 19 rfl rfl (.tmp 17) (.tmp 18) rfl v3 [] hby A1 80 c1 rfl rfl V3.out (RB2.out.below B3.out) B3.out (by simp) ?_; intro v4 w4 k1 k2 k3 k4; have V4 := Aside0.mk k1; have B4 := Aside0.mk k2; clear k1 k2 k3 k4)
    | ((with_reducible refine gate_dst (N := 21) rfl ?_); refine appH_ (w0 := w2) 21 rfl rfl (.tmp 19) (.tmp 20) rfl v4 ([] ++ hby) bb A bb.length c rfl rfl V4.out (HRR.out.below (Sha.below_tr HB2.out B4.out)) B4.out (by have := HBL.out; have := HBB.out; simp only [List.length_append, List.length_nil]; omega) ?_; intro v5 w5 k1 k2 k3 k4; have B5 := Aside0.mk k2; obtain ⟨A5, c5, e5, hl5, hC5⟩ := Kd.R_reads k1; obtain ⟨n5, hn5⟩ : ∃ n, ([] ++ hby ++ bb).length = n := ⟨_, rfl⟩; rw [hn5] at e5 hl5 hC5; subst e5; have HRC := Aside0.mk (HRH.out A5 _ c5 w5 (by have q := readsInt_of.2 (Kd.reads_of_C hC5); rw [List.nil_append] at q; exact q) hl5); clear k1 k2 k3 k4 hl5 hC5 hn5)
    | (go_at_call 6; (with_reducible refine HRC.out.mono ?_); rintro e w6 ⟨rfl, k1⟩; have B6 := Aside0.mk (Sha.below_tr B5.out k1); clear k1)
    | (refine wpList_store_row rfl 25 (.tmp 6) (.tmp 23) rfl w6.heap.size cs.toArray rfl rfl 25 _ (heap_alloc_new w6 _) HI68.out (by rw [HLN.out]; rfl) HOA.out ?_))
  obtain ⟨g6, hg6⟩ : ∃ g, w6.heap.size = g := ⟨_, rfl⟩
  have HG6 := Aside0.mk hg6
  rw [hg6]
  generalize hw7 : World.setRow _ _ _ = w7
  have B7 : Aside0 (Below w6.heap.size w6 w7) := ⟨by rw [← hw7, ← hg6]; exact Sha.below_setRow _ (below_alloc (Below.refl _ _) _) (Nat.le_refl _)⟩
  have G7 : Aside0 (w7.heap[g6]? = some (.cells cs.toArray 25 (0, 0))) := ⟨by rw [← hw7, ← hg6]; exact setRow_heap _ _ _ _ _ _ (heap_alloc_new w6 _)⟩
  have B27 := Aside0.mk (Sha.below_tr B6.out B7.out)
  have R7 := Aside0.mk ((B27.out.block _ (blk_lt' HR2.out)).trans HR2.out)
  have HB7 := Aside0.mk (Sha.below_tr HB2.out B27.out)
  have RB7 := Aside0.mk (RB2.out.below B27.out)
  clear hw7 hg6
  refine start_ (n := 21) (S := fun w' => w'.heap[g]? = some (.cells cs.toArray 25 (0, 0)) ∧ w'.heap[g6]? = some (.cells cs.toArray 25 (0, 0))) (ds := []) #[false, false, false, false, false, false, false, false, false, false, false, false, false, false, false, false, false, false, false, false, false] (by kernel_rfl) rfl rfl ⟨R7.out, G7.out⟩ (fun hHeld => ?_)
  generalize hu8 : World.drew w7 = u8 at hHeld ⊢
  have R8 : Aside0 (u8.heap[g]? = some (.cells cs.toArray 25 (0, 0))) := ⟨by rw [← hu8]; exact R7.out⟩
  have G8 : Aside0 (u8.heap[g6]? = some (.cells cs.toArray 25 (0, 0))) := ⟨by rw [← hu8]; exact G7.out⟩
  have HB8 : Aside0 (Below w.heap.size w u8) := ⟨by rw [← hu8]; exact below_drew HB7.out⟩
  have RB8 : Aside0 (ReadsInt u8 .u8 A1 80 hby) := ⟨by rw [← hu8]; exact RB7.out⟩
  clear hu8
  refine pure_ (i := 0) (N := some 25) (v := ?_) (a' := ?_) #[true, false, false, false, false, false, false, false, false, false, false, false, false, false, false, false, false, false, false, false, false] rfl rfl (by kernel_rfl) (fun _ _ _ h => h) (Or.inl ⟨by rfl, ?_⟩) ?_ ?_
  rotate_left
  · intro w'
    go_simp
    with_reducible rfl
  rotate_left
  · simp only [Act.put, List.setIfInBounds_toArray, List.set_cons_zero, List.set_cons_succ, i64_w, i32_w]
    rfl
  refine take_ (i := 1) (N := some 26) (v := ?_) (a' := ?_) #[true, true, false, false, false, false, false, false, false, false, false, false, false, false, false, false, false, false, false, false, false] rfl rfl (by kernel_rfl) (fun _ _ _ h => h) (Or.inl ⟨by rfl, ?_⟩) hHeld ?_ ?_
  rotate_left
  · rintro w' ⟨s0, s1⟩
    refine run_load_at 25 (.tmp 2) ?_ ⟨g, 0, none⟩ ?_ cs _ (cells_row (o := 0) s0 (fun j hj => by rw [Nat.zero_add])) Tryd.underlying25 rfl HI68.out <;> rfl
  rotate_left
  · simp only [Act.put, List.setIfInBounds_toArray, List.set_cons_zero, List.set_cons_succ, i64_w, i32_w]
    rfl
  refine one_ (i := 2) (N := some 27) #[true, true, true, false, false, false, false, false, false, false, false, false, false, false, false, false, false, false, false, false, false] rfl rfl (by kernel_rfl) (by decide) (fun K hK => ?_)
  refine goes_ Tryd.func8 (by kernel_rfl) rfl #[.agg cs.toArray] (by rfl) rfl rfl (by (try simp only [List.map_toArray, List.map_cons, List.map_nil]); first | done | rfl | (simp only [List.length_drop, List.length_take]; rfl)) ?_
  with_reducible refine (HSH.out u8).mono ?_
  rintro e w9 ⟨v9, rfl, k0, k1⟩
  refine ⟨_, rfl, ?_⟩
  have V9 := Aside0.mk k0
  have RB9 := Aside0.mk (RB8.out.below k1)
  clear k0
  have R9 := Aside0.mk ((k1.block _ (blk_lt' R8.out)).trans R8.out)
  have G9 := Aside0.mk ((k1.block _ (blk_lt' G8.out)).trans G8.out)
  have HB9 := Aside0.mk (Sha.below_tr HB8.out k1)
  clear k1
  refine hK.out _ _ ⟨R9.out, G9.out⟩ (fun hHeld => ?_)
  clear hK K
  refine norm_ (a' := ?_) ?_ ?_
  rotate_left
  · show Act.put _ (some 27) _ = _
    simp only [Act.put, List.setIfInBounds_toArray, List.set_cons_zero, List.set_cons_succ, i64_w, i32_w]
    rfl
  refine one_ (i := 3) (N := some 28) #[true, true, true, true, false, false, false, false, false, false, false, false, false, false, false, false, false, false, false, false, false] rfl rfl (by kernel_rfl) (by decide) (fun K hK => ?_)
  refine goes_ Tryd.func7 (by kernel_rfl) rfl #[.slice A1 80 c1, v9] (by rfl) rfl rfl (by (try simp only [List.map_toArray, List.map_cons, List.map_nil]); first | done | rfl | (simp only [List.length_drop, List.length_take]; rfl)) ?_
  with_reducible refine (HSM.out w9 _ A1 c1 v9 HC1.out RB9.out V9.out).mono ?_
  rintro e w10 ⟨rfl, k1⟩
  refine ⟨_, rfl, ?_⟩
  have R10 := Aside0.mk ((k1.block _ (blk_lt' R9.out)).trans R9.out)
  have G10 := Aside0.mk ((k1.block _ (blk_lt' G9.out)).trans G9.out)
  have HB10 := Aside0.mk (Sha.below_tr HB9.out k1)
  clear k1
  refine hK.out _ _ ⟨R10.out, G10.out⟩ (fun hHeld => ?_)
  clear hK K
  refine norm_ (a' := ?_) ?_ ?_
  rotate_left
  · show Act.put _ (some 28) _ = _
    simp only [Act.put, List.setIfInBounds_toArray, List.set_cons_zero, List.set_cons_succ, i64_w, i32_w]
    rfl
  refine pure_ (i := 4) (N := some 29) (v := ?_) (a' := ?_) #[true, true, true, true, true, false, false, false, false, false, false, false, false, false, false, false, false, false, false, false, false] rfl rfl (by kernel_rfl) (fun _ _ _ h => h) (Or.inl ⟨by rfl, ?_⟩) ?_ ?_
  rotate_left
  · intro w'
    go_simp
    with_reducible rfl
  rotate_left
  · simp only [Act.put, List.setIfInBounds_toArray, List.set_cons_zero, List.set_cons_succ, i64_w, i32_w]
    rfl
  refine take_ (i := 5) (N := some 30) (v := ?_) (a' := ?_) #[true, true, true, true, true, true, false, false, false, false, false, false, false, false, false, false, false, false, false, false, false] rfl rfl (by kernel_rfl) (fun _ _ _ h => h) (Or.inl ⟨by rfl, ?_⟩) hHeld ?_ ?_
  rotate_left
  · rintro w' ⟨s0, s1⟩
    refine run_load_at 25 (.tmp 2) ?_ ⟨g, 0, none⟩ ?_ cs _ (cells_row (o := 0) s0 (fun j hj => by rw [Nat.zero_add])) Tryd.underlying25 rfl HI68.out <;> rfl
  rotate_left
  · simp only [Act.put, List.setIfInBounds_toArray, List.set_cons_zero, List.set_cons_succ, i64_w, i32_w]
    rfl
  refine take_ (i := 7) (N := some 32) (v := ?_) (a' := ?_) #[true, true, true, true, true, true, false, true, false, false, false, false, false, false, false, false, false, false, false, false, false] rfl rfl (by kernel_rfl) (fun _ _ _ h => h) (Or.inl ⟨by rfl, ?_⟩) hHeld ?_ ?_
  rotate_left
  · rintro w' ⟨s0, s1⟩
    refine run_load_at 25 (.tmp 2) ?_ ⟨g, 0, none⟩ ?_ cs _ (cells_row (o := 0) s0 (fun j hj => by rw [Nat.zero_add])) Tryd.underlying25 rfl HI68.out <;> rfl
  rotate_left
  · simp only [Act.put, List.setIfInBounds_toArray, List.set_cons_zero, List.set_cons_succ, i64_w, i32_w]
    rfl
  refine one_ (i := 6) (N := some 31) #[true, true, true, true, true, true, true, true, false, false, false, false, false, false, false, false, false, false, false, false, false] rfl rfl (by kernel_rfl) (by decide) (fun K hK => ?_)
  refine goes_ Tryd.func9 (by kernel_rfl) rfl #[.agg cs.toArray] (by rfl) rfl rfl (by (try simp only [List.map_toArray, List.map_cons, List.map_nil]); first | done | rfl | (simp only [List.length_drop, List.length_take]; rfl)) ?_
  with_reducible refine (HIB.out w10 HB10.out).mono ?_
  rintro e w11 ⟨rfl, k1⟩
  refine ⟨_, rfl, ?_⟩
  have R11 := Aside0.mk ((k1.block _ (blk_lt' R10.out)).trans R10.out)
  have G11 := Aside0.mk ((k1.block _ (blk_lt' G10.out)).trans G10.out)
  have HB11 := Aside0.mk (Sha.below_tr HB10.out k1)
  clear k1
  refine hK.out _ _ ⟨R11.out, G11.out⟩ (fun hHeld => ?_)
  clear hK K
  refine norm_ (a' := ?_) ?_ ?_
  rotate_left
  · show Act.put _ (some 31) _ = _
    simp only [Act.put, List.setIfInBounds_toArray, List.set_cons_zero, List.set_cons_succ, i64_w, i32_w]
    rfl
  refine one_ (i := 8) (N := some 33) #[true, true, true, true, true, true, true, true, true, false, false, false, false, false, false, false, false, false, false, false, false] rfl rfl (by kernel_rfl) (by decide) (fun K hK => ?_)
  refine goes_ Tryd.func10 (by kernel_rfl) rfl #[.func (.func 11) #[] #[], .agg cs.toArray] (by rfl) rfl rfl (by (try simp only [List.map_toArray, List.map_cons, List.map_nil]); first | done | rfl | (simp only [List.length_drop, List.length_take]; rfl)) ?_
  with_reducible refine (HSB.out w11 HB11.out).mono ?_
  rintro e w12 ⟨rfl, k1⟩
  refine ⟨_, rfl, ?_⟩
  have R12 := Aside0.mk ((k1.block _ (blk_lt' R11.out)).trans R11.out)
  have G12 := Aside0.mk ((k1.block _ (blk_lt' G11.out)).trans G11.out)
  have HB12 := Aside0.mk (Sha.below_tr HB11.out k1)
  clear k1
  refine hK.out _ _ ⟨R12.out, G12.out⟩ (fun hHeld => ?_)
  clear hK K
  refine norm_ (a' := ?_) ?_ ?_
  rotate_left
  · show Act.put _ (some 33) _ = _
    simp only [Act.put, List.setIfInBounds_toArray, List.set_cons_zero, List.set_cons_succ, i64_w, i32_w]
    rfl
  refine pure_ (i := 9) (N := some 34) (v := ?_) (a' := ?_) #[true, true, true, true, true, true, true, true, true, true, false, false, false, false, false, false, false, false, false, false, false] rfl rfl (by kernel_rfl) (fun _ _ _ h => h) (Or.inl ⟨by rfl, ?_⟩) ?_ ?_
  rotate_left
  · intro w'
    refine exec_eq 22 22 (.tmp 31) (.tmp 33) (byteC hx).toArray ?_ ?_ ?_ HM1.out (HE1.out w') <;> rfl
  rotate_left
  · simp only [Act.put, List.setIfInBounds_toArray, List.set_cons_zero, List.set_cons_succ, i64_w, i32_w]
    rfl
  refine pure_ (i := 10) (N := some 35) (v := ?_) (a' := ?_) #[true, true, true, true, true, true, true, true, true, true, true, false, false, false, false, false, false, false, false, false, false] rfl rfl (by kernel_rfl) (fun _ _ _ h => h) (Or.inl ⟨by rfl, ?_⟩) ?_ ?_
  rotate_left
  · intro w'
    go_simp
    with_reducible rfl
  rotate_left
  · simp only [Act.put, List.setIfInBounds_toArray, List.set_cons_zero, List.set_cons_succ, i64_w, i32_w]
    rfl
  refine pure_ (i := 11) (N := some 36) (v := ?_) (a' := ?_) #[true, true, true, true, true, true, true, true, true, true, true, true, false, false, false, false, false, false, false, false, false] rfl rfl (by kernel_rfl) (fun _ _ _ h => h) (Or.inl ⟨by rfl, ?_⟩) ?_ ?_
  rotate_left
  · intro w'
    go_simp
    with_reducible rfl
  rotate_left
  · simp only [Act.put, List.setIfInBounds_toArray, List.set_cons_zero, List.set_cons_succ, i64_w, i32_w]
    rfl
  refine pure_ (i := 12) (N := some 37) (v := ?_) (a' := ?_) #[true, true, true, true, true, true, true, true, true, true, true, true, true, false, false, false, false, false, false, false, false] rfl rfl (by kernel_rfl) (fun _ _ _ h => h) (Or.inl ⟨by rfl, ?_⟩) ?_ ?_
  rotate_left
  · intro w'
    go_simp
    with_reducible rfl
  rotate_left
  · simp only [Act.put, List.setIfInBounds_toArray, List.set_cons_zero, List.set_cons_succ, i64_w, i32_w]
    rfl
  refine pure_ (i := 13) (N := some 38) (v := ?_) (a' := ?_) #[true, true, true, true, true, true, true, true, true, true, true, true, true, true, false, false, false, false, false, false, false] rfl rfl (by kernel_rfl) (fun _ _ _ h => h) (Or.inl ⟨by rfl, ?_⟩) ?_ ?_
  rotate_left
  · intro w'
    go_simp
    with_reducible rfl
  rotate_left
  · simp only [Act.put, List.setIfInBounds_toArray, List.set_cons_zero, List.set_cons_succ, i64_w, i32_w]
    rfl
  refine pure_ (i := 14) (N := some 39) (v := ?_) (a' := ?_) #[true, true, true, true, true, true, true, true, true, true, true, true, true, true, true, false, false, false, false, false, false] rfl rfl (by kernel_rfl) (fun _ _ _ h => h) (Or.inl ⟨by rfl, ?_⟩) ?_ ?_
  rotate_left
  · intro w'
    go_simp
    with_reducible rfl
  rotate_left
  · simp only [Act.put, List.setIfInBounds_toArray, List.set_cons_zero, List.set_cons_succ, i64_w, i32_w]
    rfl
  refine pure_ (i := 15) (N := some 40) (v := ?_) (a' := ?_) #[true, true, true, true, true, true, true, true, true, true, true, true, true, true, true, true, false, false, false, false, false] rfl rfl (by kernel_rfl) (fun _ _ _ h => h) (Or.inl ⟨by rfl, ?_⟩) ?_ ?_
  rotate_left
  · intro w'
    go_simp
    with_reducible rfl
  rotate_left
  · simp only [Act.put, List.setIfInBounds_toArray, List.set_cons_zero, List.set_cons_succ, i64_w, i32_w]
    rfl
  refine take_ (i := 16) (N := some 41) (v := ?_) (a' := ?_) #[true, true, true, true, true, true, true, true, true, true, true, true, true, true, true, true, true, false, false, false, false] rfl rfl (by kernel_rfl) (fun _ _ _ h => h) (Or.inl ⟨by rfl, ?_⟩) hHeld ?_ ?_
  rotate_left
  · rintro w' ⟨s0, s1⟩
    refine run_load_at 25 (.tmp 6) ?_ ⟨g6, 0, none⟩ ?_ cs _ (cells_row (o := 0) s1 (fun j hj => by rw [Nat.zero_add])) Tryd.underlying25 rfl HI68.out <;> rfl
  rotate_left
  · simp only [Act.put, List.setIfInBounds_toArray, List.set_cons_zero, List.set_cons_succ, i64_w, i32_w]
    rfl
  refine take_ (i := 17) (N := some 42) (v := ?_) (a' := ?_) #[true, true, true, true, true, true, true, true, true, true, true, true, true, true, true, true, true, true, false, false, false] rfl rfl (by kernel_rfl) (fun _ _ _ h => h) (Or.inl ⟨by rfl, ?_⟩) hHeld ?_ ?_
  rotate_left
  · rintro w' ⟨s0, s1⟩
    refine run_load_at 25 (.tmp 2) ?_ ⟨g, 0, none⟩ ?_ cs _ (cells_row (o := 0) s0 (fun j hj => by rw [Nat.zero_add])) Tryd.underlying25 rfl HI68.out <;> rfl
  rotate_left
  · simp only [Act.put, List.setIfInBounds_toArray, List.set_cons_zero, List.set_cons_succ, i64_w, i32_w]
    rfl
  refine pure_ (i := 18) (N := some 43) (v := ?_) (a' := ?_) #[true, true, true, true, true, true, true, true, true, true, true, true, true, true, true, true, true, true, true, false, false] rfl rfl (by kernel_rfl) (fun _ _ _ h => h) (Or.inl ⟨by rfl, ?_⟩) ?_ ?_
  rotate_left
  · intro w'
    refine exec_eq 25 25 (.tmp 41) (.tmp 42) cs.toArray ?_ ?_ ?_ HM2.out (HE2.out w') <;> rfl
  rotate_left
  · simp only [Act.put, List.setIfInBounds_toArray, List.set_cons_zero, List.set_cons_succ, i64_w, i32_w]
    rfl
  refine pure_ (i := 19) (N := some 44) (v := ?_) (a' := ?_) #[true, true, true, true, true, true, true, true, true, true, true, true, true, true, true, true, true, true, true, true, false] rfl rfl (by kernel_rfl) (fun _ _ _ h => h) (Or.inl ⟨by rfl, ?_⟩) ?_ ?_
  rotate_left
  · intro w'
    go_simp
    with_reducible rfl
  rotate_left
  · simp only [Act.put, List.setIfInBounds_toArray, List.set_cons_zero, List.set_cons_succ, i64_w, i32_w]
    rfl
  refine pure_ (i := 20) (N := some 4) (v := ?_) (a' := ?_) #[true, true, true, true, true, true, true, true, true, true, true, true, true, true, true, true, true, true, true, true, true] rfl rfl (by kernel_rfl) (fun _ _ _ h => h) (Or.inl ⟨by rfl, ?_⟩) ?_ ?_
  rotate_left
  · intro w'
    go_simp
    with_reducible rfl
  rotate_left
  · simp only [Act.put, List.setIfInBounds_toArray, List.set_cons_zero, List.set_cons_succ, i64_w, i32_w]
    rfl
  refine done_ (by kernel_rfl) ?_
  go_wp2_with fail
  go_ret
  exact ⟨rfl, HB12.out⟩
theorem walkHeader (h : HdV) (ho : h.ok) (A : Option Addr) (c : Nat) (bb : List Int) (w : World) (hk : ∃ kl, Sha.KRow w kl) (hr : ReadsInt w .u8 A bb.length bb) (hc : bb.length ≤ c) : Calls Tryd.prog 3 #[.agg (hdC .u32 h).toArray, .slice A bb.length c] w fun e w' => e = .returned (.bool true) ∧ Below w.heap.size w w' := by
  obtain ⟨kl, hkr⟩ := hk
  by_cases c0 : 2147483647 < bb.length
  · exact earlyH_a h ho A c bb w c0
  by_cases c1 : 100000 < bb.length
  · exact earlyH_b h ho A c bb w (by omega) c1
  exact mainHeader h ho A c bb w kl hkr (by omega) hr hc
end Go.Proofs.YtigpdgfhngknhaaDoor.Snk
/- A row whose walk asks the shape of a package's variable; sha256's table has 64 words. -/
namespace Go.Proofs.YtigpdgfhngknhaaDoor.Sha
open Go.RowKit Go.Proofs.YtigpdgfhngknhaaDoorW.PrintWords Go.Proofs.YtigpdgfhngknhaaDoorW.PrintLast
set_option linter.unusedVariables false
set_option linter.unusedSimpArgs false
section
variable {H : Type} {enc : TypeId × Value → H}
theorem returnsInHanded_shaped {a : Assume} {C : Checked} {os : Os} {f : FuncId} {fn : Func} {s : ChangeSpec} {conds : List PathCond} {apart fresh handsOn again : Bool}
    (own : ownKnob C.prog.godebug = none) (started : os.Started) (noInit : C.prog.inits.idxOf? f = none) (hfn : C.prog.funcs[f]? = some fn)
    (witness : ∃ (w : World) (tape : Tape) (i : Input), w.os = os ∧ (w.forCall tape i).Shaped C.prog ∧ i.vars = [] ∧ Input.okWide C.prog (w.forCall tape i) .any w.heap.size f i ∧
      s.pre6 enc C.prog fn conds apart (w.forCall tape i).memory i.args ∧ a.holds C.prog (lone (Frame.enter C.prog f i.args .normal) [] (w.forCall tape i)))
    (contract : ∀ (W : World) (base : Nat) (args : Array Value) (ds gs : List (DataW H)) (before : List MemPlace),
      (∀ (j : Nat) t v, fn.params[j]? = some t → args[j]? = some v → Value.okWide C.prog W .any base t v) →
      DataW.Whole enc C.prog fn.params.toList s.vars apart W args.toList ds gs before →
      conds.all (PathCond.test C.prog ⟨fn.params.toList, ds, s.plain.varTypes C.prog, gs⟩) = true →
      (DataW.weightsEach C.prog (fn.params.toList ++ s.plain.varTypes C.prog) (ds ++ gs)).all (· ≤ reachBytes) = true →
      a.holds C.prog (lone (Frame.enter C.prog f args .normal) [] W) → W.ShapedOpen C.prog →
      Calls C.prog f args W fun e W' => ∃ v, e = .returned v ∧ s.post enc C.prog fn apart fresh handsOn again W args v W') :
    ReturnsInHanded a C os f .any (s.pre6 enc C.prog fn conds apart) (s.post enc C.prog fn apart fresh handsOn again) := by
  refine returnsInHanded_of_calls own started noInit witness ?_
  intro w tape i _ hsh _ hok hpre hholds
  obtain ⟨_, _, _, fn', hfn', _, _, _, _, hval⟩ := hok
  have e : fn' = fn := Option.some.inj (hfn'.symm.trans hfn)
  subst e
  obtain ⟨⟨ds, gs, before, hw, hc⟩, hz⟩ := hpre
  have hw' := DataW.Whole.of_heap (w' := w.forCall tape i) (by rfl) hw
  refine (contract (w.forCall tape i) w.heap.size i.args ds gs before hval hw' hc (hz.weights hw) hholds hsh).mono fun e W' ⟨v, he, hp⟩ => ?_
  subst he
  exact ChangeSpec.post_blind hp
end
def intV : Value → Int
  | .int _ n => n
  | _ => 0
set_option maxRecDepth 100000 in
theorem krow_of {w : World} (h : w.ShapedOpen Tryd.prog) : ∃ kl, KRow w kl := by
  obtain ⟨cs, hh, hs, hr⟩ := h.1 6 (List.replicate 64 (Value.int .u32 0)).toArray 158 (of_decide_eq_true (by kernel_rfl)) (by kernel_rfl)
  obtain ⟨ts, hts, hlen, hall⟩ := hr (by kernel_rfl)
  rw [show Tryd.prog.cellTypes Tryd.prog.depth 158 = some (List.replicate 64 23) by kernel_rfl] at hts
  cases hts
  have hsz : cs.size = 64 := hs
  have key : ∀ j, j < 64 → ∃ n, cs[j]? = some (.int .u32 n) := by
    intro j hj
    obtain ⟨u, hu, hok⟩ := hall j cs[j] (by simp [hsz, hj])
    rw [List.length_replicate, Nat.mod_eq_of_lt hj, List.getElem?_replicate, if_pos hj] at hu
    cases hu
    have hv : cs[j]? = some cs[j] := by simp [hsz, hj]
    unfold Cell.ok at hok
    rw [Tryd.underlying23] at hok
    cases hx : cs[j] <;> rw [hx] at hok hv <;> simp at hok
    obtain ⟨rfl, _⟩ := hok
    exact ⟨_, hv⟩
  refine ⟨(List.range 64).map fun j => intV (cs.getD j undef), fun j hj => ?_⟩
  obtain ⟨n, hn⟩ := key j hj
  have e : ((List.range 64).map fun j => intV (cs.getD j undef)).getD j 0 = n := by
    rw [List.getD_eq_getElem?_getD, List.getElem?_map, List.getElem?_range hj]
    simp [hn, intV]
  rw [e]
  exact cell_of hh hn
end Go.Proofs.YtigpdgfhngknhaaDoor.Sha

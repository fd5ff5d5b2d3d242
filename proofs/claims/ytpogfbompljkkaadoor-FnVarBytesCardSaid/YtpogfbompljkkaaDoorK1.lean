/- bytes.Buffer: room is made. -/
import Derived.Deep.QuietTactic
import Derived.BigQuiet
import Derived.Lib.BufferMore
import Derived.Laws.CopyOwn
import Derived.Test.YtpogfbompljkkaaDoorWArr
import Derived.Laws.Rows
import Derived.Test.YtpogfbompljkkaaDoorK0
namespace Go.Proofs.YtpogfbompljkkaaDoor.Snk
open Go.RowKit Go.Proofs.YtpogfbompljkkaaDoorW.PrintWords Go.Proofs.YtpogfbompljkkaaDoorW.PrintLast Go.Proofs.YtpogfbompljkkaaDoorW.PrintMore
set_option linter.unusedVariables false
set_option linter.unusedSimpArgs false
/-- A buffer's three cells. -/
def BfC (w : World) (b : Nat) (v : Value) (lr : Int) : Prop := w.heap[b]? = some (.cells #[v, .int .i64 0, .int .i8 lr] 44 (0, 0))
theorem BfC.c0 {w : World} {b : Nat} {v : Value} {lr : Int} (h : BfC w b v lr) : w.cell? ⟨b, 0, none⟩ = some v := cell_of h rfl
theorem BfC.c1 {w : World} {b : Nat} {v : Value} {lr : Int} (h : BfC w b v lr) : w.cell? ⟨b, 1, none⟩ = some (.int .i64 0) := cell_of h rfl
theorem BfC.c2 {w : World} {b : Nat} {v : Value} {lr : Int} (h : BfC w b v lr) : w.cell? ⟨b, 2, none⟩ = some (.int .i8 lr) := cell_of h rfl
theorem BfC.f {w : World} {b : Nat} {v : Value} {lr : Int} (h : BfC w b v lr) (j : Nat) : w.frozen? ⟨b, j, none⟩ = false := frozen_of h j
theorem BfC.set0 {w : World} {b : Nat} {v : Value} {lr : Int} (h : BfC w b v lr) (u : Value) : BfC (w.setCell ⟨b, 0, none⟩ u) b u lr := heap_set_same h (j := 0) u
theorem BfC.set1 {w : World} {b : Nat} {v : Value} {lr : Int} (h : BfC w b v lr) : BfC (w.setCell ⟨b, 1, none⟩ (.int .i64 0)) b v lr := heap_set_same h (j := 1) _
theorem BfC.set2 {w : World} {b : Nat} {v : Value} {lr : Int} (h : BfC w b v lr) (x : Int) : BfC (w.setCell ⟨b, 2, none⟩ (.int .i8 x)) b v x := heap_set_same h (j := 2) _
theorem BfC.below {w w1 : World} {b : Nat} {v : Value} {lr : Int} (h : BfC w b v lr) (hb : Below w.heap.size w w1) : BfC w1 b v lr := (hb.block b (blk_lt' h)).trans h
theorem tryRoom (b : Nat) (ao : Option Addr) (l cap n : Nat) (lr : Int) (w : World) (h : BfC w b (.slice ao l cap) lr) (hlc : l ≤ cap) (hcap : cap ≤ maxLen) (hn : n ≤ cap - l) :
    Calls Tryd.prog 64 #[.pointer (some ⟨b, 0, none⟩), .int .i64 n] w fun e w' => e = .returned (.tuple #[.int .i64 l, .bool true]) ∧ w' = w.setCell ⟨b, 0, none⟩ (.slice ao (l + n) cap) :=
  Any.Buffer_tryGrow_room { Tryd.laysM252 with } b ao l cap n w h.c0 (h.f 0) hlc hcap hn
theorem tryNone (b : Nat) (ao : Option Addr) (l cap n : Nat) (lr : Int) (w : World) (h : BfC w b (.slice ao l cap) lr) (hlc : l ≤ cap) (hcap : cap ≤ maxLen) (hn : cap - l < n) :
    Calls Tryd.prog 64 #[.pointer (some ⟨b, 0, none⟩), .int .i64 n] w fun e w' => e = .returned (.tuple #[.int .i64 0, .bool false]) ∧ w' = w :=
  Any.Buffer_tryGrow_none { Tryd.laysM252 with } b ao l cap n w h.c0 hlc hcap hn
theorem growRow (g l c n : Nat) (cur : Array Value) (w : World) (hg : w.heap[g]? = some (.cells cur 5 (0, 0))) (hcs : cur.size = c) (hlc : l ≤ c) (hn : 1 ≤ n) (hlim : l + n ≤ 140737488355328) (hc2 : c ≤ 140737488355328) (h1 : ∀ v ∈ cur.toList.take l, v.oneCell' = true) :
    Calls Tryd.prog 67 #[.slice (some ⟨g, 0, none⟩) l c, .int .i64 n] w fun e w' => ∃ cap2 cells, e = .returned (.slice (some ⟨w.heap.size, 0, none⟩) l cap2) ∧ w'.heap[w.heap.size]? = some (.cells cells 5 (0, 0)) ∧ cells.size = cap2 ∧ cells.toList.take l = cur.toList.take l ∧ l + n ≤ cap2 ∧ cap2 ≤ maxLen ∧ Below w.heap.size w w' :=
  Any.bytes_growSlice_row { Tryd.laysM252 with } g l c n cur w hg hcs hlc hn hlim hc2 h1
theorem growNil (n : Nat) (w : World) (hn : 1 ≤ n) (hlim : n ≤ 140737488355328) :
    Calls Tryd.prog 67 #[.slice none 0 0, .int .i64 n] w fun e w' => ∃ cap2 cells, e = .returned (.slice (some ⟨w.heap.size, 0, none⟩) 0 cap2) ∧ w'.heap[w.heap.size]? = some (.cells cells 5 (0, 0)) ∧ cells.size = cap2 ∧ n ≤ cap2 ∧ cap2 ≤ maxLen ∧ Below w.heap.size w w' :=
  Any.bytes_growSlice_nil { Tryd.laysM252 with } n w hn hlim
set_option maxRecDepth 100000 in
theorem lenC (b : Nat) (ao : Option Addr) (l cap : Nat) (lr : Int) (w : World) (h : BfC w b (.slice ao l cap) lr) (hl : l ≤ 9223372036854775807) : Calls Tryd.prog 66 #[.pointer (some ⟨b, 0, none⟩)] w fun e w' => e = .returned (.int .i64 l) ∧ Below w.heap.size w w' ∧ BfC w' b (.slice ao l cap) lr := by
  have H := Aside0.mk h
  have hw : wrap64 (l : Int) = l := by unfold wrap64; omega
  have HW := Aside0.mk hw
  have z0 := h.c0
  have z1 := h.c1
  have hl2 : (l : Int) ≤ 9223372036854775807 := by omega
  clear h hl hw
  go_enter Tryd.func66, Tryd.ntmps66
  go_upto_region 1 with fail
  refine start_ (n := 11) (S := fun w' => w'.cell? ⟨b, 0, none⟩ = some (.slice ao l cap) ∧ w'.cell? ⟨b, 1, none⟩ = some (.int .i64 0)) (ds := []) #[false, false, false, false, false, false, false, false, false, false, false] (by kernel_rfl) rfl rfl ⟨H.out.c0, H.out.c1⟩ (fun hHeld => ?_)
  refine pure_ (i := 0) (N := some 3) (v := ?_) (a' := ?_) #[true, false, false, false, false, false, false, false, false, false, false] rfl rfl (by kernel_rfl) (fun _ _ _ h => h) (Or.inl ⟨by rfl, ?_⟩) ?_ ?_
  rotate_left
  · intro w'
    go_simp
    with_reducible rfl
  rotate_left
  · simp only [Act.put, List.setIfInBounds_toArray, List.set_cons_zero, List.set_cons_succ, i64_w, i32_w]
    rfl
  refine pure_ (i := 1) (N := some 4) (v := ?_) (a' := ?_) #[true, true, false, false, false, false, false, false, false, false, false] rfl rfl (by kernel_rfl) (fun _ _ _ h => h) (Or.inl ⟨by rfl, ?_⟩) ?_ ?_
  rotate_left
  · intro w'
    go_simp
    with_reducible rfl
  rotate_left
  · simp only [Act.put, List.setIfInBounds_toArray, List.set_cons_zero, List.set_cons_succ, i64_w, i32_w]
    rfl
  refine pure_ (i := 2) (N := some 5) (v := ?_) (a' := ?_) #[true, true, true, false, false, false, false, false, false, false, false] rfl rfl (by kernel_rfl) (fun _ _ _ h => h) (Or.inl ⟨by rfl, ?_⟩) ?_ ?_
  rotate_left
  · intro w'
    go_simp
    with_reducible rfl
  rotate_left
  · simp only [Act.put, List.setIfInBounds_toArray, List.set_cons_zero, List.set_cons_succ, i64_w, i32_w]
    rfl
  refine take_ (i := 3) (N := some 6) (v := ?_) (a' := ?_) #[true, true, true, true, false, false, false, false, false, false, false] rfl rfl (by kernel_rfl) (fun _ _ _ h => h) (Or.inl ⟨by rfl, ?_⟩) hHeld ?_ ?_
  rotate_left
  · rintro w' ⟨s0, s1⟩
    go_simp
    with_reducible rfl
  rotate_left
  · simp only [Act.put, List.setIfInBounds_toArray, List.set_cons_zero, List.set_cons_succ, i64_w, i32_w]
    rfl
  refine pure_ (i := 4) (N := some 7) (v := ?_) (a' := ?_) #[true, true, true, true, true, false, false, false, false, false, false] rfl rfl (by kernel_rfl) (fun _ _ _ h => h) (Or.inl ⟨by rfl, ?_⟩) ?_ ?_
  rotate_left
  · intro w'
    go_simp
    with_reducible rfl
  rotate_left
  · simp only [Act.put, List.setIfInBounds_toArray, List.set_cons_zero, List.set_cons_succ, i64_w, i32_w]
    rfl
  refine pure_ (i := 5) (N := some 8) (v := ?_) (a' := ?_) #[true, true, true, true, true, true, false, false, false, false, false] rfl rfl (by kernel_rfl) (fun _ _ _ h => h) (Or.inl ⟨by rfl, ?_⟩) ?_ ?_
  rotate_left
  · intro w'
    go_simp
    with_reducible rfl
  rotate_left
  · simp only [Act.put, List.setIfInBounds_toArray, List.set_cons_zero, List.set_cons_succ, i64_w, i32_w]
    rfl
  refine pure_ (i := 6) (N := some 9) (v := ?_) (a' := ?_) #[true, true, true, true, true, true, true, false, false, false, false] rfl rfl (by kernel_rfl) (fun _ _ _ h => h) (Or.inl ⟨by rfl, ?_⟩) ?_ ?_
  rotate_left
  · intro w'
    go_simp
    with_reducible rfl
  rotate_left
  · simp only [Act.put, List.setIfInBounds_toArray, List.set_cons_zero, List.set_cons_succ, i64_w, i32_w]
    rfl
  refine pure_ (i := 7) (N := some 10) (v := ?_) (a' := ?_) #[true, true, true, true, true, true, true, true, false, false, false] rfl rfl (by kernel_rfl) (fun _ _ _ h => h) (Or.inl ⟨by rfl, ?_⟩) ?_ ?_
  rotate_left
  · intro w'
    go_simp
    with_reducible rfl
  rotate_left
  · simp only [Act.put, List.setIfInBounds_toArray, List.set_cons_zero, List.set_cons_succ, i64_w, i32_w]
    rfl
  refine take_ (i := 8) (N := some 11) (v := ?_) (a' := ?_) #[true, true, true, true, true, true, true, true, true, false, false] rfl rfl (by kernel_rfl) (fun _ _ _ h => h) (Or.inl ⟨by rfl, ?_⟩) hHeld ?_ ?_
  rotate_left
  · rintro w' ⟨s0, s1⟩
    go_simp
    with_reducible rfl
  rotate_left
  · simp only [Act.put, List.setIfInBounds_toArray, List.set_cons_zero, List.set_cons_succ, i64_w, i32_w]
    rfl
  refine pure_ (i := 9) (N := some 12) (v := ?_) (a' := ?_) #[true, true, true, true, true, true, true, true, true, true, false] rfl rfl (by kernel_rfl) (fun _ _ _ h => h) (Or.inl ⟨by rfl, ?_⟩) ?_ ?_
  rotate_left
  · intro w'
    go_simp
    with_reducible rfl
  rotate_left
  · simp only [Act.put, List.setIfInBounds_toArray, List.set_cons_zero, List.set_cons_succ, i64_w, i32_w]
    rfl
  refine pure_ (i := 10) (N := some 2) (v := ?_) (a' := ?_) #[true, true, true, true, true, true, true, true, true, true, true] rfl rfl (by kernel_rfl) (fun _ _ _ h => h) (Or.inl ⟨by rfl, ?_⟩) ?_ ?_
  rotate_left
  · intro w'
    go_simp
    with_reducible rfl
  rotate_left
  · simp only [Act.put, List.setIfInBounds_toArray, List.set_cons_zero, List.set_cons_succ, i64_w, i32_w]
    rfl
  refine done_ (by kernel_rfl) ?_
  go_wp2_with fail
  go_ret
  exact ⟨congrArg (fun x => Ending.returned (Value.int .i64 x)) HW.out, ⟨rfl, rfl, rfl, Nat.le_refl _, fun _ _ => rfl⟩, H.out⟩
theorem mk_bytes (n c : Nat) (hn : n ≤ c) (hc : c ≤ 1000000) (w : World) : (Instr.makeSlice 28 (.int .i64 (n : Int)) (.int .i64 (c : Int))).run Tryd.prog w = .ok (.slice (some ⟨w.heap.size, 0, none⟩) n c) (w.alloc (.cells (madeCells #[.int .u8 0] c) 5)) := by
  obtain ⟨i, z, hi, hi1, hi2, hi3, hi4⟩ : ∃ i z, Tryd.prog.info? 5 = some i ∧ i.size = 1 ∧ i.zero = some z ∧ i.bytes = 1 ∧ z.cells = #[.int .u8 0] := by
    have h : (match Tryd.prog.info? 5 with | some i => i.size == 1 && (i.bytes == 1 && (match i.zero with | some (.int .u8 0) => true | _ => false)) | none => false) = true := by kernel_rfl
    split at h
    · rename_i i hi
      simp only [Bool.and_eq_true, beq_iff_eq] at h
      obtain ⟨h1, h2, h3⟩ := h
      split at h3
      · rename_i hz
        exact ⟨i, _, hi, h1, hz, h2, rfl⟩
      · cases h3
    · cases h
  have h := run_make (P := Tryd.prog) w 28 5 i _ Tryd.underlying28 hi hi2 .i64 .i64 (n : Int) (c : Int) (by omega) (by omega) (by rw [hi3]; omega) (by omega)
  rw [hi1, hi4] at h
  simpa only [Int.toNat_natCast, Nat.mul_one] using h
/-- The buffer has grown: its row is a new one. -/
def Grown (b l n : Nat) (old : List Value) (lr : Int) (w w' : World) : Prop := ∃ r cap cells, w.heap.size ≤ r ∧ BfC w' b (.slice (some ⟨r, 0, none⟩) (l + n) cap) lr ∧ w'.heap[r]? = some (.cells cells 5 (0, 0)) ∧ cells.size = cap ∧ cells.toList.take l = old ∧ l + n ≤ cap ∧ cap ≤ maxLen ∧ Only b w w'
theorem grown_of {b l n r cap : Nat} {cells : Array Value} {old : List Value} {lr : Int} {w w3 w' : World} (hb : b < w.heap.size) (hr : w.heap.size ≤ r) (hrow : w3.heap[r]? = some (.cells cells 5 (0, 0))) (hO : Only b w w3) (hO2 : Only b w3 w') (hB : BfC w' b (.slice (some ⟨r, 0, none⟩) (l + n) cap) lr) (hs : cells.size = cap) (ho : cells.toList.take l = old) (h1 : l + n ≤ cap) (h2 : cap ≤ maxLen) : Grown b l n old lr w w' :=
  ⟨r, cap, cells, hr, hB, (hO2.block r (blk_lt' hrow) (by omega)).trans hrow, hs, ho, h1, h2, hO.trans hO2⟩
set_option maxRecDepth 100000 in
set_option maxHeartbeats 4000000 in
theorem growN (b n : Nat) (lr : Int) (w : World) (h : BfC w b (.slice none 0 0) lr) (hn : 1 ≤ n) (hn2 : n ≤ 64) :
    Calls Tryd.prog 65 #[.pointer (some ⟨b, 0, none⟩), .int .i64 n] w fun e w' => e = .returned (.int .i64 (0 : Nat)) ∧ Grown b 0 n [] lr w w' := by
  have HL := Aside0.mk (lenC b none 0 0 lr w h (by omega))
  have HX : Aside0 (0 ≤ 0 ∧ 0 ≤ maxLen ∧ 0 - 0 < n) := ⟨by omega, by simp [maxLen], by omega⟩
  have HN := Aside0.mk hn
  have HN2 := Aside0.mk hn2
  have H := Aside0.mk h
  have hi64 : (n : Int) ≤ 64 := by omega
  have h8 : ∀ w, (Instr.makeSlice 28 (.int .i64 (n : Int)) (.int .i64 64)).run Tryd.prog w = .ok (.slice (some ⟨w.heap.size, 0, none⟩) n 64) (w.alloc (.cells (madeCells #[.int .u8 0] 64) 5)) := fun w => mk_bytes n 64 (by omega) (by omega) w
  have h7 : ∀ w : World, (binOp .eql 28 (.slice none 0 0) (.slice none 0 0)).run Tryd.prog w = .ok (.bool true) w := fun w => Lib.run_eql_slice_nil_nil w 0 0 Tryd.underlying28
  clear h hn hn2
  go_enter Tryd.func65, Tryd.ntmps65
  go_upto_region 2 with (go_at_call 66; (with_reducible refine (HL.out).mono ?_); rintro e w1 ⟨rfl, hb1, h1⟩; have H1 := Aside0.mk h1; have HB1 := Aside0.mk hb1; clear hb1 h1)
  have c0 := H1.out.c0
  have c1 := H1.out.c1
  go_upto_region 5 with (go_at_call 64; (with_reducible refine (tryNone b none 0 0 n lr w1 H1.out HX.out.1 HX.out.2.1 HX.out.2.2).mono ?_); rintro e w2 ⟨rfl, rfl⟩)
  go_upto_region 8 with fail
  have HA : BfC (w2.alloc (.cells (madeCells #[.int .u8 0] 64) 5)) b (.slice none 0 0) lr := H1.out.below (below_alloc (Below.refl _ _) _)
  have cA := HA.c0
  have fA := HA.f 0
  go_wp2_with fail
  go_ret
  exact ⟨rfl, grown_of (blk_lt' H.out) (HB1.out.size) (heap_alloc_new w2 _) (Only.of_below (below_alloc HB1.out _)) ((Only.refl _ _).set _ _) (by rw [Nat.zero_add]; exact HA.set0 _) (size_madeCells _ _) rfl (by omega) (by simp [maxLen])⟩
set_option maxRecDepth 100000 in
set_option maxHeartbeats 8000000 in
theorem growB (b n : Nat) (lr : Int) (w : World) (h : BfC w b (.slice none 0 0) lr) (hn : 64 < n) (hlim : n ≤ 140737488355328) :
    Calls Tryd.prog 65 #[.pointer (some ⟨b, 0, none⟩), .int .i64 n] w fun e w' => e = .returned (.int .i64 (0 : Nat)) ∧ Grown b 0 n [] lr w w' := by
  have hlc : 0 ≤ 0 := Nat.zero_le _
  have hnl : 0 - 0 < n := by omega
  have HW : Aside0 (IntKind.i64.wrap (n : Int) = n) := ⟨by rw [i64_w]; unfold wrap64; omega⟩
  have HGS : Aside0 (∀ w2 : World, Below w.heap.size w w2 → Calls Tryd.prog 67 #[.slice none 0 0, .int .i64 n] w2 fun e w3 => ∃ cap2 cells, e = .returned (.slice (some ⟨w2.heap.size, 0, none⟩) 0 cap2) ∧ w3.heap[w2.heap.size]? = some (.cells cells 5 (0, 0)) ∧ cells.size = cap2 ∧ cells.toList.take 0 = [] ∧ 0 + n ≤ cap2 ∧ cap2 ≤ maxLen ∧ Below w2.heap.size w2 w3) := ⟨fun w2 hb2 => by
    refine (growNil n w2 (by omega) (by omega)).mono ?_
    rintro e w3 ⟨cap2, cells, h1, h2, h3, h4⟩
    exact ⟨cap2, cells, h1, h2, h3, rfl, by rw [Nat.zero_add]; exact h4.1, h4.2.1, h4.2.2⟩⟩
  have HL := Aside0.mk (lenC b none 0 0 lr w h (by omega))
  have HX : Aside0 (0 ≤ 0 ∧ 0 ≤ maxLen ∧ 0 - 0 < n) := ⟨hlc, by simp only [maxLen]; omega, hnl⟩
  have HN : Aside0 (0 + n ≤ 140737488355328) := ⟨by omega⟩
  have H := Aside0.mk h
  obtain ⟨m, hm⟩ : ∃ m, 0 + n = m := ⟨_, rfl⟩
  have HM := Aside0.mk hm
  have HS : Aside0 (wrap64 ((n : Int)) = (m : Int)) := ⟨by unfold wrap64; omega⟩
  have hm0 : 0 < m := by omega
  have h7 : ∀ w : World, (binOp .eql 28 (.slice none 0 0) (.slice none 0 0)).run Tryd.prog w = .ok (.bool true) w := fun w => Lib.run_eql_slice_nil_nil w 0 0 Tryd.underlying28
  have hn64 : ¬ (n : Int) ≤ 64 := by omega
  have hq2 : ¬ wrap64 (9223372036854775807 - (n : Int)) < 0 := by unfold wrap64; omega
  clear h hlc hnl hn hlim hm
  go_enter Tryd.func65, Tryd.ntmps65
  go_upto_region 2 with (go_at_call 66; (with_reducible refine (HL.out).mono ?_); rintro e w1 ⟨rfl, hb1, h1⟩; have H1 := Aside0.mk h1; have HB1 := Aside0.mk hb1; clear hb1 h1)
  have c0 := H1.out.c0
  have c1 := H1.out.c1
  go_upto_region 5 with (go_at_call 64; (with_reducible refine (tryNone b none 0 0 n lr w1 H1.out HX.out.1 HX.out.2.1 HX.out.2.2).mono ?_); rintro e w2 ⟨rfl, rfl⟩)
  go_upto_region 15 with fail
  refine start_ (n := 20) (S := fun w' => w'.cell? ⟨b, 0, none⟩ = some (.slice none 0 0) ∧ w'.cell? ⟨b, 1, none⟩ = some (.int .i64 0) ∧ BfC w' b (.slice none 0 0) lr) (ds := [19]) #[false, false, false, false, false, false, false, false, false, false, false, false, false, false, false, false, false, false, false, false] (by kernel_rfl) rfl rfl ⟨H1.out.c0, H1.out.c1, H1.out⟩ (fun hHeld => ?_)
  refine pure_ (i := 0) (N := some 76) (v := ?_) (a' := ?_) #[true, false, false, false, false, false, false, false, false, false, false, false, false, false, false, false, false, false, false, false] rfl rfl (by kernel_rfl) (fun _ _ _ h => h) (Or.inl ⟨by rfl, ?_⟩) ?_ ?_
  rotate_left
  · intro w'
    go_simp
    with_reducible rfl
  rotate_left
  · simp only [Act.put, List.setIfInBounds_toArray, List.set_cons_zero, List.set_cons_succ, i64_w, i32_w]
    rfl
  refine pure_ (i := 1) (N := some 77) (v := ?_) (a' := ?_) #[true, true, false, false, false, false, false, false, false, false, false, false, false, false, false, false, false, false, false, false] rfl rfl (by kernel_rfl) (fun _ _ _ h => h) (Or.inl ⟨by rfl, ?_⟩) ?_ ?_
  rotate_left
  · intro w'
    go_simp
    with_reducible rfl
  rotate_left
  · simp only [Act.put, List.setIfInBounds_toArray, List.set_cons_zero, List.set_cons_succ, i64_w, i32_w]
    rfl
  refine pure_ (i := 2) (N := some 78) (v := ?_) (a' := ?_) #[true, true, true, false, false, false, false, false, false, false, false, false, false, false, false, false, false, false, false, false] rfl rfl (by kernel_rfl) (fun _ _ _ h => h) (Or.inl ⟨by rfl, ?_⟩) ?_ ?_
  rotate_left
  · intro w'
    go_simp
    with_reducible rfl
  rotate_left
  · simp only [Act.put, List.setIfInBounds_toArray, List.set_cons_zero, List.set_cons_succ, i64_w, i32_w]
    rfl
  refine pure_ (i := 3) (N := some 79) (v := ?_) (a' := ?_) #[true, true, true, true, false, false, false, false, false, false, false, false, false, false, false, false, false, false, false, false] rfl rfl (by kernel_rfl) (fun _ _ _ h => h) (Or.inl ⟨by rfl, ?_⟩) ?_ ?_
  rotate_left
  · intro w'
    go_simp
    with_reducible rfl
  rotate_left
  · simp only [Act.put, List.setIfInBounds_toArray, List.set_cons_zero, List.set_cons_succ, i64_w, i32_w]
    rfl
  refine take_ (i := 4) (N := some 80) (v := ?_) (a' := ?_) #[true, true, true, true, true, false, false, false, false, false, false, false, false, false, false, false, false, false, false, false] rfl rfl (by kernel_rfl) (fun _ _ _ h => h) (Or.inl ⟨by rfl, ?_⟩) hHeld ?_ ?_
  rotate_left
  · rintro w' ⟨s0, s1, s2⟩
    go_simp
    with_reducible rfl
  rotate_left
  · simp only [Act.put, List.setIfInBounds_toArray, List.set_cons_zero, List.set_cons_succ, i64_w, i32_w]
    rfl
  refine pure_ (i := 5) (N := some 81) (v := ?_) (a' := ?_) #[true, true, true, true, true, true, false, false, false, false, false, false, false, false, false, false, false, false, false, false] rfl rfl (by kernel_rfl) (fun _ _ _ h => h) (Or.inl ⟨by rfl, ?_⟩) ?_ ?_
  rotate_left
  · intro w'
    go_simp
    with_reducible rfl
  rotate_left
  · simp only [Act.put, List.setIfInBounds_toArray, List.set_cons_zero, List.set_cons_succ, i64_w, i32_w]
    rfl
  refine pure_ (i := 6) (N := some 82) (v := ?_) (a' := ?_) #[true, true, true, true, true, true, true, false, false, false, false, false, false, false, false, false, false, false, false, false] rfl rfl (by kernel_rfl) (fun _ _ _ h => h) (Or.inl ⟨by rfl, ?_⟩) ?_ ?_
  rotate_left
  · intro w'
    go_simp
    with_reducible rfl
  rotate_left
  · simp only [Act.put, List.setIfInBounds_toArray, List.set_cons_zero, List.set_cons_succ, i64_w, i32_w]
    rfl
  refine pure_ (i := 7) (N := some 83) (v := ?_) (a' := ?_) #[true, true, true, true, true, true, true, true, false, false, false, false, false, false, false, false, false, false, false, false] rfl rfl (by kernel_rfl) (fun _ _ _ h => h) (Or.inl ⟨by rfl, ?_⟩) ?_ ?_
  rotate_left
  · intro w'
    go_simp
    with_reducible rfl
  rotate_left
  · simp only [Act.put, List.setIfInBounds_toArray, List.set_cons_zero, List.set_cons_succ, i64_w, i32_w]
    rfl
  refine take_ (i := 8) (N := some 84) (v := ?_) (a' := ?_) #[true, true, true, true, true, true, true, true, true, false, false, false, false, false, false, false, false, false, false, false] rfl rfl (by kernel_rfl) (fun _ _ _ h => h) (Or.inl ⟨by rfl, ?_⟩) hHeld ?_ ?_
  rotate_left
  · rintro w' ⟨s0, s1, s2⟩
    go_simp
    with_reducible rfl
  rotate_left
  · simp only [Act.put, List.setIfInBounds_toArray, List.set_cons_zero, List.set_cons_succ, i64_w, i32_w]
    rfl
  refine pure_ (i := 9) (N := some 85) (v := ?_) (a' := ?_) #[true, true, true, true, true, true, true, true, true, true, false, false, false, false, false, false, false, false, false, false] rfl rfl (by kernel_rfl) (fun _ _ _ h => h) (Or.inl ⟨by rfl, ?_⟩) ?_ ?_
  rotate_left
  · intro w'
    go_simp
    with_reducible rfl
  rotate_left
  · simp only [Act.put, List.setIfInBounds_toArray, List.set_cons_zero, List.set_cons_succ, i64_w, i32_w]
    rfl
  refine pure_ (i := 10) (N := some 86) (v := ?_) (a' := ?_) #[true, true, true, true, true, true, true, true, true, true, true, false, false, false, false, false, false, false, false, false] rfl rfl (by kernel_rfl) (fun _ _ _ h => h) (Or.inl ⟨by rfl, ?_⟩) ?_ ?_
  rotate_left
  · intro w'
    go_simp
    with_reducible rfl
  rotate_left
  · simp only [Act.put, List.setIfInBounds_toArray, List.set_cons_zero, List.set_cons_succ, i64_w, i32_w]
    rfl
  refine pure_ (i := 11) (N := some 87) (v := ?_) (a' := ?_) #[true, true, true, true, true, true, true, true, true, true, true, true, false, false, false, false, false, false, false, false] rfl rfl (by kernel_rfl) (fun _ _ _ h => h) (Or.inl ⟨by rfl, ?_⟩) ?_ ?_
  rotate_left
  · intro w'
    go_simp
    with_reducible rfl
  rotate_left
  · simp only [Act.put, List.setIfInBounds_toArray, List.set_cons_zero, List.set_cons_succ, i64_w, i32_w]
    rfl
  refine pure_ (i := 12) (N := some 88) (v := ?_) (a' := ?_) #[true, true, true, true, true, true, true, true, true, true, true, true, true, false, false, false, false, false, false, false] rfl rfl (by kernel_rfl) (fun _ _ _ h => h) (Or.inl ⟨by rfl, ?_⟩) ?_ ?_
  rotate_left
  · intro w'
    go_simp
    with_reducible rfl
  rotate_left
  · simp only [Act.put, List.setIfInBounds_toArray, List.set_cons_zero, List.set_cons_succ, i64_w, i32_w]
    rfl
  refine take_ (i := 13) (N := some 89) (v := ?_) (a' := ?_) #[true, true, true, true, true, true, true, true, true, true, true, true, true, true, false, false, false, false, false, false] rfl rfl (by kernel_rfl) (fun _ _ _ h => h) (Or.inl ⟨by rfl, ?_⟩) hHeld ?_ ?_
  rotate_left
  · rintro w' ⟨s0, s1, s2⟩
    go_simp
    with_reducible rfl
  rotate_left
  · simp only [Act.put, List.setIfInBounds_toArray, List.set_cons_zero, List.set_cons_succ, i64_w, i32_w]
    rfl
  refine pure_ (i := 14) (N := some 90) (v := ?_) (a' := ?_) #[true, true, true, true, true, true, true, true, true, true, true, true, true, true, true, false, false, false, false, false] rfl rfl (by kernel_rfl) (fun _ _ _ h => h) (Or.inl ⟨by rfl, ?_⟩) ?_ ?_
  rotate_left
  · intro w'
    go_simp
    with_reducible rfl
  rotate_left
  · simp only [Act.put, List.setIfInBounds_toArray, List.set_cons_zero, List.set_cons_succ, i64_w, i32_w]
    rfl
  refine pure_ (i := 15) (N := some 91) (v := ?_) (a' := ?_) #[true, true, true, true, true, true, true, true, true, true, true, true, true, true, true, true, false, false, false, false] rfl rfl (by kernel_rfl) (fun _ _ _ h => h) (Or.inl ⟨by rfl, ?_⟩) ?_ ?_
  rotate_left
  · intro w'
    go_simp
    rw [HW.out]
  rotate_left
  · simp only [Act.put, List.setIfInBounds_toArray, List.set_cons_zero, List.set_cons_succ, i64_w, i32_w]
    rfl
  refine one_ (i := 16) (N := some 92) #[true, true, true, true, true, true, true, true, true, true, true, true, true, true, true, true, true, false, false, false] rfl rfl (by kernel_rfl) (by decide) (fun K hK => ?_)
  refine goes_ Tryd.func67 (by kernel_rfl) rfl #[.slice none 0 0, .int .i64 n] (by rfl) rfl rfl (by (try simp only [List.map_toArray, List.map_cons, List.map_nil]); first | done | rfl | (simp only [List.length_drop, List.length_take]; rfl)) ?_
  with_reducible refine (HGS.out w2.drew (below_drew HB1.out)).mono ?_
  rintro e w3 ⟨cap2, cells, rfl, k1, k2, k3, k4, k5, k6⟩
  refine ⟨_, rfl, ?_⟩
  refine hK.out _ _ (let q := hHeld.2.2.below k6; ⟨q.c0, q.c1, q⟩) (fun hHeld => ?_)
  clear hK K
  refine norm_ (a' := ?_) ?_ ?_
  rotate_left
  · show Act.put _ (some 92) _ = _
    simp only [Act.put, List.setIfInBounds_toArray, List.set_cons_zero, List.set_cons_succ, i64_w, i32_w]
    rfl
  refine pure_ (i := 17) (N := some 93) (v := ?_) (a' := ?_) #[true, true, true, true, true, true, true, true, true, true, true, true, true, true, true, true, true, true, false, false] rfl rfl (by kernel_rfl) (fun _ _ _ h => h) (Or.inl ⟨by rfl, ?_⟩) ?_ ?_
  rotate_left
  · intro w'
    go_simp
    with_reducible rfl
  rotate_left
  · simp only [Act.put, List.setIfInBounds_toArray, List.set_cons_zero, List.set_cons_succ, i64_w, i32_w]
    rfl
  refine pure_ (i := 18) (N := some 94) (v := ?_) (a' := ?_) #[true, true, true, true, true, true, true, true, true, true, true, true, true, true, true, true, true, true, true, false] rfl rfl (by kernel_rfl) (fun _ _ _ h => h) (Or.inl ⟨by rfl, ?_⟩) ?_ ?_
  rotate_left
  · intro w'
    go_simp
    with_reducible rfl
  rotate_left
  · simp only [Act.put, List.setIfInBounds_toArray, List.set_cons_zero, List.set_cons_succ, i64_w, i32_w]
    rfl
  refine last_ (i := 19) (N := none) #[true, true, true, true, true, true, true, true, true, true, true, true, true, true, true, true, true, true, true, true] rfl rfl (by kernel_rfl) (by decide) (fun K hK => ?_)
  obtain ⟨s0, s1, s2⟩ := hHeld
  have fA := s2.f 0
  refine skip_ (w1 := ?_) (by rfl) rfl ?_ ?_
  rotate_left
  · go_simp
    rfl
  refine hK.out _ _ ?_
  clear hK K
  refine norm_ (a' := ?_) ?_ ?_
  rotate_left
  · rfl
  refine done_ (by kernel_rfl) ?_
  have K1 := Aside0.mk k1
  have K2 := Aside0.mk k2
  have K3 := Aside0.mk k3
  have K4 : Aside0 (m ≤ cap2) := ⟨by have := HM.out; omega⟩
  have K5 := Aside0.mk k5
  have K6 : Aside0 (Below w2.heap.size w2 w3) := ⟨below_then (below_drew (Below.refl _ w2)) (Nat.le_refl _) k6⟩
  have hm2 : (m : Int) ≤ cap2 := by have := HM.out; omega
  have hm3 : m ≤ cap2 := by have := HM.out; omega
  have hm4 : ¬ cap2 = 0 := by omega
  clear k1 k2 k3 k4 k5 k6 s0 s1 fA c0 c1 hq2
  generalize hw4 : World.setCell _ _ _ = w4
  have H4 : Aside0 (BfC w4 b (.slice (some ⟨w2.heap.size, 0, none⟩) 0 cap2) lr) := ⟨by rw [← hw4]; exact s2.set0 _⟩
  have O4 : Aside0 (Only b w3 w4) := ⟨by rw [← hw4]; exact (Only.refl _ _).set _ _⟩
  clear hw4 s2
  have f1 := H4.out.f 1
  have cc1 := H4.out.c1
  go_upto_region 17 with fail
  generalize hw5 : World.setCell _ _ _ = w5
  have H5 : Aside0 (BfC w5 b (.slice (some ⟨w2.heap.size, 0, none⟩) 0 cap2) lr) := ⟨by rw [← hw5]; exact H4.out.set1⟩
  have O5 : Aside0 (Only b w3 w5) := ⟨by rw [← hw5]; exact O4.out.set _ _⟩
  clear hw5 f1 cc1
  have f0 := H5.out.f 0
  have c50 := H5.out.c0
  have hs := HS.out
  go_wp2_with fail
  go_ret
  have hm := HM.out
  subst hm
  exact ⟨rfl, grown_of (blk_lt' H.out) HB1.out.size K1.out (Only.of_below (below_then HB1.out HB1.out.size K6.out)) (O5.out.set _ _) (H5.out.set0 _) K2.out K3.out K4.out K5.out⟩
set_option maxRecDepth 100000 in
set_option maxHeartbeats 8000000 in
theorem growE (b n : Nat) (lr : Int) (w : World) (g cap : Nat) (cur : Array Value) (h : BfC w b (.slice (some ⟨g, 0, none⟩) 0 cap) lr) (hg : w.heap[g]? = some (.cells cur 5 (0, 0))) (hcs : cur.size = cap) (hn : cap - 0 < n) (hlim : 0 + n ≤ 140737488355328) (h1c : ∀ v ∈ cur.toList.take 0, v.oneCell' = true) :
    Calls Tryd.prog 65 #[.pointer (some ⟨b, 0, none⟩), .int .i64 n] w fun e w' => e = .returned (.int .i64 (0 : Nat)) ∧ Grown b 0 n (cur.toList.take 0) lr w w' := by
  have hlc : 0 ≤ cap := Nat.zero_le _
  have hnl : cap - 0 < n := by omega
  have HW : Aside0 (IntKind.i64.wrap (n : Int) = n) := ⟨by rw [i64_w]; unfold wrap64; omega⟩
  have HGS : Aside0 (∀ w2 : World, Below w.heap.size w w2 → Calls Tryd.prog 67 #[.slice (some ⟨g, 0, none⟩) 0 cap, .int .i64 n] w2 fun e w3 => ∃ cap2 cells, e = .returned (.slice (some ⟨w2.heap.size, 0, none⟩) 0 cap2) ∧ w3.heap[w2.heap.size]? = some (.cells cells 5 (0, 0)) ∧ cells.size = cap2 ∧ cells.toList.take 0 = (cur.toList.take 0) ∧ 0 + n ≤ cap2 ∧ cap2 ≤ maxLen ∧ Below w2.heap.size w2 w3) := ⟨fun w2 hb2 => by
    refine (growRow g 0 cap n cur w2 ((hb2.block g (blk_lt' hg)).trans hg) hcs hlc (by omega) hlim (by omega) h1c).mono ?_
    rintro e w3 ⟨cap2, cells, h1, h2, h3, h4⟩
    exact ⟨cap2, cells, h1, h2, h3, h4⟩⟩
  have HL := Aside0.mk (lenC b (some ⟨g, 0, none⟩) 0 cap lr w h (by omega))
  have HX : Aside0 (0 ≤ cap ∧ cap ≤ maxLen ∧ cap - 0 < n) := ⟨hlc, by simp only [maxLen]; omega, hnl⟩
  have HN : Aside0 (0 + n ≤ 140737488355328) := ⟨by omega⟩
  have H := Aside0.mk h
  obtain ⟨m, hm⟩ : ∃ m, 0 + n = m := ⟨_, rfl⟩
  have HM := Aside0.mk hm
  have HS : Aside0 (wrap64 ((n : Int)) = (m : Int)) := ⟨by unfold wrap64; omega⟩
  have hm0 : 0 < m := by omega
  have hq1 : ¬ (n : Int) ≤ wrap64 (wrap64 ((cap : Int) / 2)) := by unfold wrap64; omega
  have hq2 : ¬ wrap64 (wrap64 (9223372036854775807 - (cap : Int)) - (n : Int)) < (cap : Int) := by unfold wrap64; omega
  have h7 : ∀ w : World, (binOp .eql 28 (.slice (some ⟨g, 0, none⟩) 0 cap) (.slice none 0 0)).run Tryd.prog w = .ok (.bool false) w := fun w => Lib.run_eql_slice_some_nil w _ _ _ Tryd.underlying28
  clear h hlc hnl hn hlim hm hg hcs h1c
  go_enter Tryd.func65, Tryd.ntmps65
  go_upto_region 2 with (go_at_call 66; (with_reducible refine (HL.out).mono ?_); rintro e w1 ⟨rfl, hb1, h1⟩; have H1 := Aside0.mk h1; have HB1 := Aside0.mk hb1; clear hb1 h1)
  have c0 := H1.out.c0
  have c1 := H1.out.c1
  go_upto_region 5 with (go_at_call 64; (with_reducible refine (tryNone b (some ⟨g, 0, none⟩) 0 cap n lr w1 H1.out HX.out.1 HX.out.2.1 HX.out.2.2).mono ?_); rintro e w2 ⟨rfl, rfl⟩)
  go_upto_region 15 with fail
  refine start_ (n := 20) (S := fun w' => w'.cell? ⟨b, 0, none⟩ = some (.slice (some ⟨g, 0, none⟩) 0 cap) ∧ w'.cell? ⟨b, 1, none⟩ = some (.int .i64 0) ∧ BfC w' b (.slice (some ⟨g, 0, none⟩) 0 cap) lr) (ds := [19]) #[false, false, false, false, false, false, false, false, false, false, false, false, false, false, false, false, false, false, false, false] (by kernel_rfl) rfl rfl ⟨H1.out.c0, H1.out.c1, H1.out⟩ (fun hHeld => ?_)
  refine pure_ (i := 0) (N := some 76) (v := ?_) (a' := ?_) #[true, false, false, false, false, false, false, false, false, false, false, false, false, false, false, false, false, false, false, false] rfl rfl (by kernel_rfl) (fun _ _ _ h => h) (Or.inl ⟨by rfl, ?_⟩) ?_ ?_
  rotate_left
  · intro w'
    go_simp
    with_reducible rfl
  rotate_left
  · simp only [Act.put, List.setIfInBounds_toArray, List.set_cons_zero, List.set_cons_succ, i64_w, i32_w]
    rfl
  refine pure_ (i := 1) (N := some 77) (v := ?_) (a' := ?_) #[true, true, false, false, false, false, false, false, false, false, false, false, false, false, false, false, false, false, false, false] rfl rfl (by kernel_rfl) (fun _ _ _ h => h) (Or.inl ⟨by rfl, ?_⟩) ?_ ?_
  rotate_left
  · intro w'
    go_simp
    with_reducible rfl
  rotate_left
  · simp only [Act.put, List.setIfInBounds_toArray, List.set_cons_zero, List.set_cons_succ, i64_w, i32_w]
    rfl
  refine pure_ (i := 2) (N := some 78) (v := ?_) (a' := ?_) #[true, true, true, false, false, false, false, false, false, false, false, false, false, false, false, false, false, false, false, false] rfl rfl (by kernel_rfl) (fun _ _ _ h => h) (Or.inl ⟨by rfl, ?_⟩) ?_ ?_
  rotate_left
  · intro w'
    go_simp
    with_reducible rfl
  rotate_left
  · simp only [Act.put, List.setIfInBounds_toArray, List.set_cons_zero, List.set_cons_succ, i64_w, i32_w]
    rfl
  refine pure_ (i := 3) (N := some 79) (v := ?_) (a' := ?_) #[true, true, true, true, false, false, false, false, false, false, false, false, false, false, false, false, false, false, false, false] rfl rfl (by kernel_rfl) (fun _ _ _ h => h) (Or.inl ⟨by rfl, ?_⟩) ?_ ?_
  rotate_left
  · intro w'
    go_simp
    with_reducible rfl
  rotate_left
  · simp only [Act.put, List.setIfInBounds_toArray, List.set_cons_zero, List.set_cons_succ, i64_w, i32_w]
    rfl
  refine take_ (i := 4) (N := some 80) (v := ?_) (a' := ?_) #[true, true, true, true, true, false, false, false, false, false, false, false, false, false, false, false, false, false, false, false] rfl rfl (by kernel_rfl) (fun _ _ _ h => h) (Or.inl ⟨by rfl, ?_⟩) hHeld ?_ ?_
  rotate_left
  · rintro w' ⟨s0, s1, s2⟩
    go_simp
    with_reducible rfl
  rotate_left
  · simp only [Act.put, List.setIfInBounds_toArray, List.set_cons_zero, List.set_cons_succ, i64_w, i32_w]
    rfl
  refine pure_ (i := 5) (N := some 81) (v := ?_) (a' := ?_) #[true, true, true, true, true, true, false, false, false, false, false, false, false, false, false, false, false, false, false, false] rfl rfl (by kernel_rfl) (fun _ _ _ h => h) (Or.inl ⟨by rfl, ?_⟩) ?_ ?_
  rotate_left
  · intro w'
    go_simp
    with_reducible rfl
  rotate_left
  · simp only [Act.put, List.setIfInBounds_toArray, List.set_cons_zero, List.set_cons_succ, i64_w, i32_w]
    rfl
  refine pure_ (i := 6) (N := some 82) (v := ?_) (a' := ?_) #[true, true, true, true, true, true, true, false, false, false, false, false, false, false, false, false, false, false, false, false] rfl rfl (by kernel_rfl) (fun _ _ _ h => h) (Or.inl ⟨by rfl, ?_⟩) ?_ ?_
  rotate_left
  · intro w'
    go_simp
    with_reducible rfl
  rotate_left
  · simp only [Act.put, List.setIfInBounds_toArray, List.set_cons_zero, List.set_cons_succ, i64_w, i32_w]
    rfl
  refine pure_ (i := 7) (N := some 83) (v := ?_) (a' := ?_) #[true, true, true, true, true, true, true, true, false, false, false, false, false, false, false, false, false, false, false, false] rfl rfl (by kernel_rfl) (fun _ _ _ h => h) (Or.inl ⟨by rfl, ?_⟩) ?_ ?_
  rotate_left
  · intro w'
    go_simp
    with_reducible rfl
  rotate_left
  · simp only [Act.put, List.setIfInBounds_toArray, List.set_cons_zero, List.set_cons_succ, i64_w, i32_w]
    rfl
  refine take_ (i := 8) (N := some 84) (v := ?_) (a' := ?_) #[true, true, true, true, true, true, true, true, true, false, false, false, false, false, false, false, false, false, false, false] rfl rfl (by kernel_rfl) (fun _ _ _ h => h) (Or.inl ⟨by rfl, ?_⟩) hHeld ?_ ?_
  rotate_left
  · rintro w' ⟨s0, s1, s2⟩
    go_simp
    with_reducible rfl
  rotate_left
  · simp only [Act.put, List.setIfInBounds_toArray, List.set_cons_zero, List.set_cons_succ, i64_w, i32_w]
    rfl
  refine pure_ (i := 9) (N := some 85) (v := ?_) (a' := ?_) #[true, true, true, true, true, true, true, true, true, true, false, false, false, false, false, false, false, false, false, false] rfl rfl (by kernel_rfl) (fun _ _ _ h => h) (Or.inl ⟨by rfl, ?_⟩) ?_ ?_
  rotate_left
  · intro w'
    go_simp
    with_reducible rfl
  rotate_left
  · simp only [Act.put, List.setIfInBounds_toArray, List.set_cons_zero, List.set_cons_succ, i64_w, i32_w]
    rfl
  refine pure_ (i := 10) (N := some 86) (v := ?_) (a' := ?_) #[true, true, true, true, true, true, true, true, true, true, true, false, false, false, false, false, false, false, false, false] rfl rfl (by kernel_rfl) (fun _ _ _ h => h) (Or.inl ⟨by rfl, ?_⟩) ?_ ?_
  rotate_left
  · intro w'
    go_simp
    with_reducible rfl
  rotate_left
  · simp only [Act.put, List.setIfInBounds_toArray, List.set_cons_zero, List.set_cons_succ, i64_w, i32_w]
    rfl
  refine pure_ (i := 11) (N := some 87) (v := ?_) (a' := ?_) #[true, true, true, true, true, true, true, true, true, true, true, true, false, false, false, false, false, false, false, false] rfl rfl (by kernel_rfl) (fun _ _ _ h => h) (Or.inl ⟨by rfl, ?_⟩) ?_ ?_
  rotate_left
  · intro w'
    go_simp
    with_reducible rfl
  rotate_left
  · simp only [Act.put, List.setIfInBounds_toArray, List.set_cons_zero, List.set_cons_succ, i64_w, i32_w]
    rfl
  refine pure_ (i := 12) (N := some 88) (v := ?_) (a' := ?_) #[true, true, true, true, true, true, true, true, true, true, true, true, true, false, false, false, false, false, false, false] rfl rfl (by kernel_rfl) (fun _ _ _ h => h) (Or.inl ⟨by rfl, ?_⟩) ?_ ?_
  rotate_left
  · intro w'
    go_simp
    with_reducible rfl
  rotate_left
  · simp only [Act.put, List.setIfInBounds_toArray, List.set_cons_zero, List.set_cons_succ, i64_w, i32_w]
    rfl
  refine take_ (i := 13) (N := some 89) (v := ?_) (a' := ?_) #[true, true, true, true, true, true, true, true, true, true, true, true, true, true, false, false, false, false, false, false] rfl rfl (by kernel_rfl) (fun _ _ _ h => h) (Or.inl ⟨by rfl, ?_⟩) hHeld ?_ ?_
  rotate_left
  · rintro w' ⟨s0, s1, s2⟩
    go_simp
    with_reducible rfl
  rotate_left
  · simp only [Act.put, List.setIfInBounds_toArray, List.set_cons_zero, List.set_cons_succ, i64_w, i32_w]
    rfl
  refine pure_ (i := 14) (N := some 90) (v := ?_) (a' := ?_) #[true, true, true, true, true, true, true, true, true, true, true, true, true, true, true, false, false, false, false, false] rfl rfl (by kernel_rfl) (fun _ _ _ h => h) (Or.inl ⟨by rfl, ?_⟩) ?_ ?_
  rotate_left
  · intro w'
    go_simp
    with_reducible rfl
  rotate_left
  · simp only [Act.put, List.setIfInBounds_toArray, List.set_cons_zero, List.set_cons_succ, i64_w, i32_w]
    rfl
  refine pure_ (i := 15) (N := some 91) (v := ?_) (a' := ?_) #[true, true, true, true, true, true, true, true, true, true, true, true, true, true, true, true, false, false, false, false] rfl rfl (by kernel_rfl) (fun _ _ _ h => h) (Or.inl ⟨by rfl, ?_⟩) ?_ ?_
  rotate_left
  · intro w'
    go_simp
    rw [HW.out]
  rotate_left
  · simp only [Act.put, List.setIfInBounds_toArray, List.set_cons_zero, List.set_cons_succ, i64_w, i32_w]
    rfl
  refine one_ (i := 16) (N := some 92) #[true, true, true, true, true, true, true, true, true, true, true, true, true, true, true, true, true, false, false, false] rfl rfl (by kernel_rfl) (by decide) (fun K hK => ?_)
  refine goes_ Tryd.func67 (by kernel_rfl) rfl #[.slice (some ⟨g, 0, none⟩) 0 cap, .int .i64 n] (by rfl) rfl rfl (by (try simp only [List.map_toArray, List.map_cons, List.map_nil]); first | done | rfl | (simp only [List.length_drop, List.length_take]; rfl)) ?_
  with_reducible refine (HGS.out w2.drew (below_drew HB1.out)).mono ?_
  rintro e w3 ⟨cap2, cells, rfl, k1, k2, k3, k4, k5, k6⟩
  refine ⟨_, rfl, ?_⟩
  refine hK.out _ _ (let q := hHeld.2.2.below k6; ⟨q.c0, q.c1, q⟩) (fun hHeld => ?_)
  clear hK K
  refine norm_ (a' := ?_) ?_ ?_
  rotate_left
  · show Act.put _ (some 92) _ = _
    simp only [Act.put, List.setIfInBounds_toArray, List.set_cons_zero, List.set_cons_succ, i64_w, i32_w]
    rfl
  refine pure_ (i := 17) (N := some 93) (v := ?_) (a' := ?_) #[true, true, true, true, true, true, true, true, true, true, true, true, true, true, true, true, true, true, false, false] rfl rfl (by kernel_rfl) (fun _ _ _ h => h) (Or.inl ⟨by rfl, ?_⟩) ?_ ?_
  rotate_left
  · intro w'
    go_simp
    with_reducible rfl
  rotate_left
  · simp only [Act.put, List.setIfInBounds_toArray, List.set_cons_zero, List.set_cons_succ, i64_w, i32_w]
    rfl
  refine pure_ (i := 18) (N := some 94) (v := ?_) (a' := ?_) #[true, true, true, true, true, true, true, true, true, true, true, true, true, true, true, true, true, true, true, false] rfl rfl (by kernel_rfl) (fun _ _ _ h => h) (Or.inl ⟨by rfl, ?_⟩) ?_ ?_
  rotate_left
  · intro w'
    go_simp
    with_reducible rfl
  rotate_left
  · simp only [Act.put, List.setIfInBounds_toArray, List.set_cons_zero, List.set_cons_succ, i64_w, i32_w]
    rfl
  refine last_ (i := 19) (N := none) #[true, true, true, true, true, true, true, true, true, true, true, true, true, true, true, true, true, true, true, true] rfl rfl (by kernel_rfl) (by decide) (fun K hK => ?_)
  obtain ⟨s0, s1, s2⟩ := hHeld
  have fA := s2.f 0
  refine skip_ (w1 := ?_) (by rfl) rfl ?_ ?_
  rotate_left
  · go_simp
    rfl
  refine hK.out _ _ ?_
  clear hK K
  refine norm_ (a' := ?_) ?_ ?_
  rotate_left
  · rfl
  refine done_ (by kernel_rfl) ?_
  have K1 := Aside0.mk k1
  have K2 := Aside0.mk k2
  have K3 := Aside0.mk k3
  have K4 : Aside0 (m ≤ cap2) := ⟨by have := HM.out; omega⟩
  have K5 := Aside0.mk k5
  have K6 : Aside0 (Below w2.heap.size w2 w3) := ⟨below_then (below_drew (Below.refl _ w2)) (Nat.le_refl _) k6⟩
  have hm2 : (m : Int) ≤ cap2 := by have := HM.out; omega
  have hm3 : m ≤ cap2 := by have := HM.out; omega
  have hm4 : ¬ cap2 = 0 := by omega
  clear k1 k2 k3 k4 k5 k6 s0 s1 fA c0 c1 hq2
  generalize hw4 : World.setCell _ _ _ = w4
  have H4 : Aside0 (BfC w4 b (.slice (some ⟨w2.heap.size, 0, none⟩) 0 cap2) lr) := ⟨by rw [← hw4]; exact s2.set0 _⟩
  have O4 : Aside0 (Only b w3 w4) := ⟨by rw [← hw4]; exact (Only.refl _ _).set _ _⟩
  clear hw4 s2
  have f1 := H4.out.f 1
  have cc1 := H4.out.c1
  go_upto_region 17 with fail
  generalize hw5 : World.setCell _ _ _ = w5
  have H5 : Aside0 (BfC w5 b (.slice (some ⟨w2.heap.size, 0, none⟩) 0 cap2) lr) := ⟨by rw [← hw5]; exact H4.out.set1⟩
  have O5 : Aside0 (Only b w3 w5) := ⟨by rw [← hw5]; exact O4.out.set _ _⟩
  clear hw5 f1 cc1
  have f0 := H5.out.f 0
  have c50 := H5.out.c0
  have hs := HS.out
  go_wp2_with fail
  go_ret
  have hm := HM.out
  subst hm
  exact ⟨rfl, grown_of (blk_lt' H.out) HB1.out.size K1.out (Only.of_below (below_then HB1.out HB1.out.size K6.out)) (O5.out.set _ _) (H5.out.set0 _) K2.out K3.out K4.out K5.out⟩
set_option maxRecDepth 100000 in
set_option maxHeartbeats 8000000 in
theorem growD (b n : Nat) (lr : Int) (w : World) (g l cap : Nat) (cur : Array Value) (h : BfC w b (.slice (some ⟨g, 0, none⟩) l cap) lr) (hg : w.heap[g]? = some (.cells cur 5 (0, 0))) (hcs : cur.size = cap) (hl : 0 < l) (hlc : l ≤ cap) (hn : cap - l < n) (hlim : l + n ≤ 140737488355328) (h1c : ∀ v ∈ cur.toList.take l, v.oneCell' = true) :
    Calls Tryd.prog 65 #[.pointer (some ⟨b, 0, none⟩), .int .i64 n] w fun e w' => e = .returned (.int .i64 (l : Nat)) ∧ Grown b l n (cur.toList.take l) lr w w' := by
  have hnl : cap - l < n := by omega
  have HW : Aside0 (IntKind.i64.wrap (n : Int) = n) := ⟨by rw [i64_w]; unfold wrap64; omega⟩
  have HGS : Aside0 (∀ w2 : World, Below w.heap.size w w2 → Calls Tryd.prog 67 #[.slice (some ⟨g, 0, none⟩) l cap, .int .i64 n] w2 fun e w3 => ∃ cap2 cells, e = .returned (.slice (some ⟨w2.heap.size, 0, none⟩) l cap2) ∧ w3.heap[w2.heap.size]? = some (.cells cells 5 (0, 0)) ∧ cells.size = cap2 ∧ cells.toList.take l = (cur.toList.take l) ∧ l + n ≤ cap2 ∧ cap2 ≤ maxLen ∧ Below w2.heap.size w2 w3) := ⟨fun w2 hb2 => by
    refine (growRow g l cap n cur w2 ((hb2.block g (blk_lt' hg)).trans hg) hcs hlc (by omega) hlim (by omega) h1c).mono ?_
    rintro e w3 ⟨cap2, cells, h1, h2, h3, h4⟩
    exact ⟨cap2, cells, h1, h2, h3, h4⟩⟩
  have HL := Aside0.mk (lenC b (some ⟨g, 0, none⟩) l cap lr w h (by omega))
  have HX : Aside0 (l ≤ cap ∧ cap ≤ maxLen ∧ cap - l < n) := ⟨hlc, by simp only [maxLen]; omega, hnl⟩
  have HN : Aside0 (l + n ≤ 140737488355328) := ⟨by omega⟩
  have H := Aside0.mk h
  obtain ⟨m, hm⟩ : ∃ m, l + n = m := ⟨_, rfl⟩
  have HM := Aside0.mk hm
  have HS : Aside0 (wrap64 ((l : Int) + (n : Int)) = (m : Int)) := ⟨by unfold wrap64; omega⟩
  have hm0 : 0 < m := by omega
  have hl0 : ¬ (l : Int) = 0 := by omega
  have hq1 : ¬ (n : Int) ≤ wrap64 (wrap64 ((cap : Int) / 2) - (l : Int)) := by unfold wrap64; omega
  have hq2 : ¬ wrap64 (wrap64 (9223372036854775807 - (cap : Int)) - (n : Int)) < (cap : Int) := by unfold wrap64; omega
  have h7 : ∀ w : World, (binOp .eql 28 (.slice (some ⟨g, 0, none⟩) l cap) (.slice none 0 0)).run Tryd.prog w = .ok (.bool false) w := fun w => Lib.run_eql_slice_some_nil w _ _ _ Tryd.underlying28
  clear h hlc hnl hn hlim hm hg hcs h1c hl
  go_enter Tryd.func65, Tryd.ntmps65
  go_upto_region 2 with (go_at_call 66; (with_reducible refine (HL.out).mono ?_); rintro e w1 ⟨rfl, hb1, h1⟩; have H1 := Aside0.mk h1; have HB1 := Aside0.mk hb1; clear hb1 h1)
  have c0 := H1.out.c0
  have c1 := H1.out.c1
  go_upto_region 5 with (go_at_call 64; (with_reducible refine (tryNone b (some ⟨g, 0, none⟩) l cap n lr w1 H1.out HX.out.1 HX.out.2.1 HX.out.2.2).mono ?_); rintro e w2 ⟨rfl, rfl⟩)
  go_upto_region 15 with fail
  refine start_ (n := 20) (S := fun w' => w'.cell? ⟨b, 0, none⟩ = some (.slice (some ⟨g, 0, none⟩) l cap) ∧ w'.cell? ⟨b, 1, none⟩ = some (.int .i64 0) ∧ BfC w' b (.slice (some ⟨g, 0, none⟩) l cap) lr) (ds := [19]) #[false, false, false, false, false, false, false, false, false, false, false, false, false, false, false, false, false, false, false, false] (by kernel_rfl) rfl rfl ⟨H1.out.c0, H1.out.c1, H1.out⟩ (fun hHeld => ?_)
  refine pure_ (i := 0) (N := some 76) (v := ?_) (a' := ?_) #[true, false, false, false, false, false, false, false, false, false, false, false, false, false, false, false, false, false, false, false] rfl rfl (by kernel_rfl) (fun _ _ _ h => h) (Or.inl ⟨by rfl, ?_⟩) ?_ ?_
  rotate_left
  · intro w'
    go_simp
    with_reducible rfl
  rotate_left
  · simp only [Act.put, List.setIfInBounds_toArray, List.set_cons_zero, List.set_cons_succ, i64_w, i32_w]
    rfl
  refine pure_ (i := 1) (N := some 77) (v := ?_) (a' := ?_) #[true, true, false, false, false, false, false, false, false, false, false, false, false, false, false, false, false, false, false, false] rfl rfl (by kernel_rfl) (fun _ _ _ h => h) (Or.inl ⟨by rfl, ?_⟩) ?_ ?_
  rotate_left
  · intro w'
    go_simp
    with_reducible rfl
  rotate_left
  · simp only [Act.put, List.setIfInBounds_toArray, List.set_cons_zero, List.set_cons_succ, i64_w, i32_w]
    rfl
  refine pure_ (i := 2) (N := some 78) (v := ?_) (a' := ?_) #[true, true, true, false, false, false, false, false, false, false, false, false, false, false, false, false, false, false, false, false] rfl rfl (by kernel_rfl) (fun _ _ _ h => h) (Or.inl ⟨by rfl, ?_⟩) ?_ ?_
  rotate_left
  · intro w'
    go_simp
    with_reducible rfl
  rotate_left
  · simp only [Act.put, List.setIfInBounds_toArray, List.set_cons_zero, List.set_cons_succ, i64_w, i32_w]
    rfl
  refine pure_ (i := 3) (N := some 79) (v := ?_) (a' := ?_) #[true, true, true, true, false, false, false, false, false, false, false, false, false, false, false, false, false, false, false, false] rfl rfl (by kernel_rfl) (fun _ _ _ h => h) (Or.inl ⟨by rfl, ?_⟩) ?_ ?_
  rotate_left
  · intro w'
    go_simp
    with_reducible rfl
  rotate_left
  · simp only [Act.put, List.setIfInBounds_toArray, List.set_cons_zero, List.set_cons_succ, i64_w, i32_w]
    rfl
  refine take_ (i := 4) (N := some 80) (v := ?_) (a' := ?_) #[true, true, true, true, true, false, false, false, false, false, false, false, false, false, false, false, false, false, false, false] rfl rfl (by kernel_rfl) (fun _ _ _ h => h) (Or.inl ⟨by rfl, ?_⟩) hHeld ?_ ?_
  rotate_left
  · rintro w' ⟨s0, s1, s2⟩
    go_simp
    with_reducible rfl
  rotate_left
  · simp only [Act.put, List.setIfInBounds_toArray, List.set_cons_zero, List.set_cons_succ, i64_w, i32_w]
    rfl
  refine pure_ (i := 5) (N := some 81) (v := ?_) (a' := ?_) #[true, true, true, true, true, true, false, false, false, false, false, false, false, false, false, false, false, false, false, false] rfl rfl (by kernel_rfl) (fun _ _ _ h => h) (Or.inl ⟨by rfl, ?_⟩) ?_ ?_
  rotate_left
  · intro w'
    go_simp
    with_reducible rfl
  rotate_left
  · simp only [Act.put, List.setIfInBounds_toArray, List.set_cons_zero, List.set_cons_succ, i64_w, i32_w]
    rfl
  refine pure_ (i := 6) (N := some 82) (v := ?_) (a' := ?_) #[true, true, true, true, true, true, true, false, false, false, false, false, false, false, false, false, false, false, false, false] rfl rfl (by kernel_rfl) (fun _ _ _ h => h) (Or.inl ⟨by rfl, ?_⟩) ?_ ?_
  rotate_left
  · intro w'
    go_simp
    with_reducible rfl
  rotate_left
  · simp only [Act.put, List.setIfInBounds_toArray, List.set_cons_zero, List.set_cons_succ, i64_w, i32_w]
    rfl
  refine pure_ (i := 7) (N := some 83) (v := ?_) (a' := ?_) #[true, true, true, true, true, true, true, true, false, false, false, false, false, false, false, false, false, false, false, false] rfl rfl (by kernel_rfl) (fun _ _ _ h => h) (Or.inl ⟨by rfl, ?_⟩) ?_ ?_
  rotate_left
  · intro w'
    go_simp
    with_reducible rfl
  rotate_left
  · simp only [Act.put, List.setIfInBounds_toArray, List.set_cons_zero, List.set_cons_succ, i64_w, i32_w]
    rfl
  refine take_ (i := 8) (N := some 84) (v := ?_) (a' := ?_) #[true, true, true, true, true, true, true, true, true, false, false, false, false, false, false, false, false, false, false, false] rfl rfl (by kernel_rfl) (fun _ _ _ h => h) (Or.inl ⟨by rfl, ?_⟩) hHeld ?_ ?_
  rotate_left
  · rintro w' ⟨s0, s1, s2⟩
    go_simp
    with_reducible rfl
  rotate_left
  · simp only [Act.put, List.setIfInBounds_toArray, List.set_cons_zero, List.set_cons_succ, i64_w, i32_w]
    rfl
  refine pure_ (i := 9) (N := some 85) (v := ?_) (a' := ?_) #[true, true, true, true, true, true, true, true, true, true, false, false, false, false, false, false, false, false, false, false] rfl rfl (by kernel_rfl) (fun _ _ _ h => h) (Or.inl ⟨by rfl, ?_⟩) ?_ ?_
  rotate_left
  · intro w'
    go_simp
    with_reducible rfl
  rotate_left
  · simp only [Act.put, List.setIfInBounds_toArray, List.set_cons_zero, List.set_cons_succ, i64_w, i32_w]
    rfl
  refine pure_ (i := 10) (N := some 86) (v := ?_) (a' := ?_) #[true, true, true, true, true, true, true, true, true, true, true, false, false, false, false, false, false, false, false, false] rfl rfl (by kernel_rfl) (fun _ _ _ h => h) (Or.inl ⟨by rfl, ?_⟩) ?_ ?_
  rotate_left
  · intro w'
    go_simp
    with_reducible rfl
  rotate_left
  · simp only [Act.put, List.setIfInBounds_toArray, List.set_cons_zero, List.set_cons_succ, i64_w, i32_w]
    rfl
  refine pure_ (i := 11) (N := some 87) (v := ?_) (a' := ?_) #[true, true, true, true, true, true, true, true, true, true, true, true, false, false, false, false, false, false, false, false] rfl rfl (by kernel_rfl) (fun _ _ _ h => h) (Or.inl ⟨by rfl, ?_⟩) ?_ ?_
  rotate_left
  · intro w'
    go_simp
    with_reducible rfl
  rotate_left
  · simp only [Act.put, List.setIfInBounds_toArray, List.set_cons_zero, List.set_cons_succ, i64_w, i32_w]
    rfl
  refine pure_ (i := 12) (N := some 88) (v := ?_) (a' := ?_) #[true, true, true, true, true, true, true, true, true, true, true, true, true, false, false, false, false, false, false, false] rfl rfl (by kernel_rfl) (fun _ _ _ h => h) (Or.inl ⟨by rfl, ?_⟩) ?_ ?_
  rotate_left
  · intro w'
    go_simp
    with_reducible rfl
  rotate_left
  · simp only [Act.put, List.setIfInBounds_toArray, List.set_cons_zero, List.set_cons_succ, i64_w, i32_w]
    rfl
  refine take_ (i := 13) (N := some 89) (v := ?_) (a' := ?_) #[true, true, true, true, true, true, true, true, true, true, true, true, true, true, false, false, false, false, false, false] rfl rfl (by kernel_rfl) (fun _ _ _ h => h) (Or.inl ⟨by rfl, ?_⟩) hHeld ?_ ?_
  rotate_left
  · rintro w' ⟨s0, s1, s2⟩
    go_simp
    with_reducible rfl
  rotate_left
  · simp only [Act.put, List.setIfInBounds_toArray, List.set_cons_zero, List.set_cons_succ, i64_w, i32_w]
    rfl
  refine pure_ (i := 14) (N := some 90) (v := ?_) (a' := ?_) #[true, true, true, true, true, true, true, true, true, true, true, true, true, true, true, false, false, false, false, false] rfl rfl (by kernel_rfl) (fun _ _ _ h => h) (Or.inl ⟨by rfl, ?_⟩) ?_ ?_
  rotate_left
  · intro w'
    go_simp
    with_reducible rfl
  rotate_left
  · simp only [Act.put, List.setIfInBounds_toArray, List.set_cons_zero, List.set_cons_succ, i64_w, i32_w]
    rfl
  refine pure_ (i := 15) (N := some 91) (v := ?_) (a' := ?_) #[true, true, true, true, true, true, true, true, true, true, true, true, true, true, true, true, false, false, false, false] rfl rfl (by kernel_rfl) (fun _ _ _ h => h) (Or.inl ⟨by rfl, ?_⟩) ?_ ?_
  rotate_left
  · intro w'
    go_simp
    rw [HW.out]
  rotate_left
  · simp only [Act.put, List.setIfInBounds_toArray, List.set_cons_zero, List.set_cons_succ, i64_w, i32_w]
    rfl
  refine one_ (i := 16) (N := some 92) #[true, true, true, true, true, true, true, true, true, true, true, true, true, true, true, true, true, false, false, false] rfl rfl (by kernel_rfl) (by decide) (fun K hK => ?_)
  refine goes_ Tryd.func67 (by kernel_rfl) rfl #[.slice (some ⟨g, 0, none⟩) l cap, .int .i64 n] (by rfl) rfl rfl (by (try simp only [List.map_toArray, List.map_cons, List.map_nil]); first | done | rfl | (simp only [List.length_drop, List.length_take]; rfl)) ?_
  with_reducible refine (HGS.out w2.drew (below_drew HB1.out)).mono ?_
  rintro e w3 ⟨cap2, cells, rfl, k1, k2, k3, k4, k5, k6⟩
  refine ⟨_, rfl, ?_⟩
  refine hK.out _ _ (let q := hHeld.2.2.below k6; ⟨q.c0, q.c1, q⟩) (fun hHeld => ?_)
  clear hK K
  refine norm_ (a' := ?_) ?_ ?_
  rotate_left
  · show Act.put _ (some 92) _ = _
    simp only [Act.put, List.setIfInBounds_toArray, List.set_cons_zero, List.set_cons_succ, i64_w, i32_w]
    rfl
  refine pure_ (i := 17) (N := some 93) (v := ?_) (a' := ?_) #[true, true, true, true, true, true, true, true, true, true, true, true, true, true, true, true, true, true, false, false] rfl rfl (by kernel_rfl) (fun _ _ _ h => h) (Or.inl ⟨by rfl, ?_⟩) ?_ ?_
  rotate_left
  · intro w'
    go_simp
    with_reducible rfl
  rotate_left
  · simp only [Act.put, List.setIfInBounds_toArray, List.set_cons_zero, List.set_cons_succ, i64_w, i32_w]
    rfl
  refine pure_ (i := 18) (N := some 94) (v := ?_) (a' := ?_) #[true, true, true, true, true, true, true, true, true, true, true, true, true, true, true, true, true, true, true, false] rfl rfl (by kernel_rfl) (fun _ _ _ h => h) (Or.inl ⟨by rfl, ?_⟩) ?_ ?_
  rotate_left
  · intro w'
    go_simp
    with_reducible rfl
  rotate_left
  · simp only [Act.put, List.setIfInBounds_toArray, List.set_cons_zero, List.set_cons_succ, i64_w, i32_w]
    rfl
  refine last_ (i := 19) (N := none) #[true, true, true, true, true, true, true, true, true, true, true, true, true, true, true, true, true, true, true, true] rfl rfl (by kernel_rfl) (by decide) (fun K hK => ?_)
  obtain ⟨s0, s1, s2⟩ := hHeld
  have fA := s2.f 0
  refine skip_ (w1 := ?_) (by rfl) rfl ?_ ?_
  rotate_left
  · go_simp
    rfl
  refine hK.out _ _ ?_
  clear hK K
  refine norm_ (a' := ?_) ?_ ?_
  rotate_left
  · rfl
  refine done_ (by kernel_rfl) ?_
  have K1 := Aside0.mk k1
  have K2 := Aside0.mk k2
  have K3 := Aside0.mk k3
  have K4 : Aside0 (m ≤ cap2) := ⟨by have := HM.out; omega⟩
  have K5 := Aside0.mk k5
  have K6 : Aside0 (Below w2.heap.size w2 w3) := ⟨below_then (below_drew (Below.refl _ w2)) (Nat.le_refl _) k6⟩
  have hm2 : (m : Int) ≤ cap2 := by have := HM.out; omega
  have hm3 : m ≤ cap2 := by have := HM.out; omega
  have hm4 : ¬ cap2 = 0 := by omega
  clear k1 k2 k3 k4 k5 k6 s0 s1 fA c0 c1 hq2
  generalize hw4 : World.setCell _ _ _ = w4
  have H4 : Aside0 (BfC w4 b (.slice (some ⟨w2.heap.size, 0, none⟩) l cap2) lr) := ⟨by rw [← hw4]; exact s2.set0 _⟩
  have O4 : Aside0 (Only b w3 w4) := ⟨by rw [← hw4]; exact (Only.refl _ _).set _ _⟩
  clear hw4 s2
  have f1 := H4.out.f 1
  have cc1 := H4.out.c1
  go_upto_region 17 with fail
  generalize hw5 : World.setCell _ _ _ = w5
  have H5 : Aside0 (BfC w5 b (.slice (some ⟨w2.heap.size, 0, none⟩) l cap2) lr) := ⟨by rw [← hw5]; exact H4.out.set1⟩
  have O5 : Aside0 (Only b w3 w5) := ⟨by rw [← hw5]; exact O4.out.set _ _⟩
  clear hw5 f1 cc1
  have f0 := H5.out.f 0
  have c50 := H5.out.c0
  have hs := HS.out
  go_wp2_with fail
  go_ret
  have hm := HM.out
  subst hm
  exact ⟨rfl, grown_of (blk_lt' H.out) HB1.out.size K1.out (Only.of_below (below_then HB1.out HB1.out.size K6.out)) (O5.out.set _ _) (H5.out.set0 _) K2.out K3.out K4.out K5.out⟩
end Go.Proofs.YtpogfbompljkkaaDoor.Snk
/- bytes.Buffer: bytes are written. -/
namespace Go.Proofs.YtpogfbompljkkaaDoor.Snk
open Go.RowKit Go.Proofs.YtpogfbompljkkaaDoorW.PrintWords Go.Proofs.YtpogfbompljkkaaDoorW.PrintLast Go.Proofs.YtpogfbompljkkaaDoorW.PrintMore
set_option linter.unusedVariables false
set_option linter.unusedSimpArgs false
/-- Room was made behind l cells: the row r. -/
def Room (b l n : Nat) (old : List Value) (lr : Int) (own : Nat → Prop) (w w' : World) : Prop := ∃ r cap cells, BfC w' b (.slice (some ⟨r, 0, none⟩) (l + n) cap) lr ∧ r ≠ b ∧ own r ∧ w'.heap[r]? = some (.cells cells 5 (0, 0)) ∧ cells.size = cap ∧ cells.toList.take l = old ∧ l + n ≤ cap ∧ cap ≤ maxLen ∧ Only b w w'
theorem Grown.room {b l n : Nat} {old : List Value} {lr : Int} {w w' : World} (hb : b < w.heap.size) (h : Grown b l n old lr w w') : Room b l n old lr (fun k => w.heap.size ≤ k) w w' := by
  obtain ⟨r, cap, cells, h1, h2, h3, h4, h5, h6, h7, h8⟩ := h
  exact ⟨r, cap, cells, h2, by omega, h1, h3, h4, h5, h6, h7, h8⟩
theorem grow0 (b n : Nat) (lr : Int) (w : World) (h : BfC w b (.slice none 0 0) lr) (hn : 1 ≤ n) (hlim : n ≤ 140737488355328) : Calls Tryd.prog 65 #[.pointer (some ⟨b, 0, none⟩), .int .i64 n] w fun e w' => e = .returned (.int .i64 (0 : Nat)) ∧ Grown b 0 n [] lr w w' := by
  by_cases h64 : n ≤ 64
  · exact growN b n lr w h hn h64
  · exact growB b n lr w h (by omega) hlim
theorem growR (b n : Nat) (lr : Int) (w : World) (g l cap : Nat) (cur : Array Value) (h : BfC w b (.slice (some ⟨g, 0, none⟩) l cap) lr) (hg : w.heap[g]? = some (.cells cur 5 (0, 0))) (hcs : cur.size = cap) (hlc : l ≤ cap) (hn : cap - l < n) (hlim : l + n ≤ 140737488355328) (h1c : ∀ v ∈ cur.toList.take l, v.oneCell' = true) : Calls Tryd.prog 65 #[.pointer (some ⟨b, 0, none⟩), .int .i64 n] w fun e w' => e = .returned (.int .i64 (l : Nat)) ∧ Grown b l n (cur.toList.take l) lr w w' := by
  by_cases hl : 0 < l
  · exact growD b n lr w g l cap cur h hg hcs hl hlc hn hlim h1c
  · obtain rfl : l = 0 := by omega
    exact growE b n lr w g cap cur h hg hcs hn hlim h1c
/-- A copy of bytes into a row. -/
theorem copyB {W : World} {ρ : Operand → Value} {o : Oper} (d s : Operand) (ho : o.op = .call { callee := .builtin .copy, args := #[d, s], argTypes := #[28, 28] }) {r off n dc c : Nat} {A : Option Addr} {p : List Int} {cells : Array Value} (hg : W.heap[r]? = some (.cells cells 5 (0, 0))) (hn : 0 < n) (hfit : off + n ≤ cells.size)
    (hd : ρ d = .slice (some ⟨r, off, none⟩) n dc) (hs : ρ s = .slice A n c) (hp : ReadsInt W .u8 A n p) :
    (execOp ρ o).run Tryd.prog W = .ok (.value (.int .i64 (n : Int))) (W.setRow r (cells.toList.take off ++ (byteC p ++ cells.toList.drop (off + n))).toArray) := by
  have hsz : (Tryd.prog.info? 5).map (·.size) = some 1 := by kernel_rfl
  obtain ⟨hl, _, hc⟩ := hp
  obtain ⟨ad, rfl, hcc⟩ := hc hn
  have hb : (byteC p).length = n := by rw [byteC_len, hl]
  have hrun := run_copy_row (P := Tryd.prog) W 28 28 o.type 5 r off n dc ad n c cells 5 (byteC p) Tryd.underlying28 hsz hg (by rw [hb]; exact (Nat.min_self n).symm) (fun j v hj => ?_) (by rw [hb]; exact hfit) (fun v hv => ?_)
  · rw [hb] at hrun
    simp [execOp, ho, resolve, invoke, builtin, hd, hs, hrun, Result.andThen]
    rfl
  · have hjl : j < p.length := by rw [← byteC_len]; exact (List.getElem?_eq_some_iff.1 hj).1
    rw [byteC_at hjl] at hj
    obtain rfl := Option.some.inj hj
    exact hcc j (by omega)
  · unfold byteC at hv
    obtain ⟨x, _, rfl⟩ := List.mem_map.1 hv
    rfl
/-- What a buffer's writer may turn: its three cells and one row. -/
structure Turned (b r : Nat) (w w' : World) : Prop where
  os : w'.os = w.os
  tape : w'.tape = w.tape
  output : w'.output = w.output
  size : w.heap.size ≤ w'.heap.size
  block : ∀ k, k < w.heap.size → k ≠ b → k ≠ r → w'.heap[k]? = w.heap[k]?
theorem Turned.row {b r : Nat} {w w1 : World} (h : Only b w w1) (cs : Array Value) : Turned b r w (w1.setRow r cs) :=
  ⟨h.os, h.tape, h.output, by rw [setRow_size]; exact h.size, fun k hk hkb hkr => (setRow_other w1 r k cs hkr).trans (h.block k hk hkb)⟩
theorem BfC.row {w : World} {b r : Nat} {v : Value} {lr : Int} (h : BfC w b v lr) (hr : r ≠ b) (cs : Array Value) : BfC (w.setRow r cs) b v lr := (setRow_other w r b cs (Ne.symm hr)).trans h
theorem take_laid (L P : List Value) (off n : Nat) (h : off + n ≤ L.length) (hP : P.length = n) : (L.take off ++ (P ++ L.drop (off + n))).take (off + n) = L.take off ++ P := by
  rw [← List.append_assoc, List.take_left' (by rw [List.length_append, List.length_take]; omega)]
theorem size_laid (L P : List Value) (off n : Nat) (h : off + n ≤ L.length) (hP : P.length = n) : (L.take off ++ (P ++ L.drop (off + n))).toArray.size = L.length := by
  simp only [List.size_toArray, List.length_append, List.length_take, List.length_drop]; omega
/-- n bytes more lie in the row r. -/
def Laid (b l n : Nat) (row : List Value) (own : Nat → Prop) (w w' : World) : Prop := ∃ r cap cells, BfC w' b (.slice (some ⟨r, 0, none⟩) (l + n) cap) 0 ∧ r ≠ b ∧ own r ∧ w'.heap[r]? = some (.cells cells 5 (0, 0)) ∧ cells.size = cap ∧ cells.toList.take (l + n) = row ∧ l + n ≤ cap ∧ cap ≤ maxLen ∧ Turned b r w w'
set_option maxRecDepth 100000 in
set_option maxHeartbeats 4000000 in
theorem writeT (b n l : Nat) (v : Value) (lr : Int) (own : Nat → Prop) (old : List Value) (A : Option Addr) (c : Nat) (p : List Int) (w : World) (h : BfC w b v lr) (hn : 0 < n) (hc : n ≤ c) (hr : ∀ W, Only b w W → ReadsInt W .u8 A n p) (hl : l + n ≤ 140737488355328) (ht : ∀ w1, BfC w1 b v 0 → Only b w w1 → Calls Tryd.prog 64 #[.pointer (some ⟨b, 0, none⟩), .int .i64 n] w1 (fun e w' => e = .returned (.tuple #[.int .i64 l, .bool true]) ∧ Room b l n old 0 own w w')) :
    Calls Tryd.prog 62 #[.pointer (some ⟨b, 0, none⟩), .slice A n c] w fun e w' => e = .returned (.tuple #[.int .i64 n, .nilIface]) ∧ Laid b l n (old ++ byteC p) own w w' := by
  have HN := Aside0.mk hn
  have HC := Aside0.mk hc
  have HR := Aside0.mk hr
  have HT := Aside0.mk ht
  have HL := Aside0.mk hl
  have HP : Aside0 (p.length = n) := ⟨(hr w (Only.refl _ _)).1⟩
  obtain ⟨m, hm⟩ : ∃ m, l + n = m := ⟨_, rfl⟩
  have HM := Aside0.mk hm
  have hlm : l ≤ m := by omega
  have hlm2 : (l : Int) ≤ (m : Int) := by omega
  have hml : Aside0 (m - l = n) := ⟨by omega⟩
  have c2 := h.c2
  have f2 := h.f 2
  have H := Aside0.mk h
  clear h hn hc hr ht hl hm
  go_enter Tryd.func62, Tryd.ntmps62
  go_upto_region 2 with fail
  generalize hw1 : World.setCell _ _ _ = w1
  have H1 : Aside0 (BfC w1 b v 0) := ⟨by rw [← hw1]; exact H.out.set2 0⟩
  have O1 : Aside0 (Only b w w1) := ⟨by rw [← hw1]; exact (Only.refl _ _).set _ _⟩
  clear hw1 c2 f2
  go_upto_region 5 with (go_at_call 64; (with_reducible refine (HT.out w1 H1.out O1.out).mono ?_); rintro e w2 ⟨rfl, r, cap, cells, k1, k2, k3, k4, k5, k6, k7, k8, k9⟩; have K1 := Aside0.mk k1; have K2 := Aside0.mk k2; have K3 := Aside0.mk k3; have K4 := Aside0.mk k4; have K5 := Aside0.mk k5; have K6 := Aside0.mk k6; have K7 := Aside0.mk k7; have K8 := Aside0.mk k8; have K9 := Aside0.mk k9; clear k1 k2 k3 k4 k5 k6 k7 k8 k9)
  have hc0 : w2.cell? ⟨b, 0, none⟩ = some (.slice (some ⟨r, 0, none⟩) m cap) := by rw [← HM.out]; exact K1.out.c0
  have hcl : ¬ cap = l := by have h1 := K7.out; have h2 := HN.out; omega
  have hmc : m ≤ cap := by have h1 := K7.out; have h2 := HM.out; omega
  have HFIT : Aside0 (l + n ≤ cells.toList.length) := ⟨by rw [Array.length_toList, K5.out]; exact K7.out⟩
  have HRUN : Aside0 (∀ (ρ : Operand → Value) (o : Oper) (dc : Nat), o.op = .call { callee := .builtin .copy, args := #[.tmp 29, .tmp 30], argTypes := #[28, 28] } → ρ (.tmp 29) = .slice (some ⟨r, l, none⟩) (m - l) dc → ρ (.tmp 30) = .slice A n c → (execOp ρ o).run Tryd.prog w2 = .ok (.value (.int .i64 (n : Int))) (w2.setRow r (cells.toList.take l ++ (byteC p ++ cells.toList.drop (l + n))).toArray)) := ⟨fun ρ o dc h1 h2 h3 => copyB (.tmp 29) (.tmp 30) h1 K4.out HN.out (by rw [← Array.length_toList]; exact HFIT.out) (by rw [h2, hml.out]) h3 (HR.out w2 K9.out)⟩
  obtain ⟨w9, hw9⟩ : ∃ w9, w2.setRow r (cells.toList.take l ++ (byteC p ++ cells.toList.drop (l + n))).toArray = w9 := ⟨_, rfl⟩
  have HW9 := Aside0.mk hw9
  rw [hw9] at HRUN
  clear hw9
  go_wp2_with ((with_reducible refine at_dst (N := 31) rfl ?_); refine wpList_run rfl _ (HRUN.out _ _ _ rfl rfl rfl) ?_)
  go_ret2
  have hw9 := HW9.out
  subst hw9
  exact ⟨rfl, r, cap, _, K1.out.row K2.out _, K2.out, K3.out, setRow_heap _ _ _ _ _ _ K4.out, (size_laid _ _ _ _ HFIT.out (by rw [byteC_len]; exact HP.out)).trans (by rw [Array.length_toList, K5.out]), (take_laid _ _ _ _ HFIT.out (by rw [byteC_len]; exact HP.out)).trans (by rw [K6.out]), K7.out, K8.out, .row K9.out _⟩
set_option maxRecDepth 100000 in
set_option maxHeartbeats 4000000 in
theorem writeF (b n l : Nat) (v : Value) (lr : Int) (own : Nat → Prop) (old : List Value) (A : Option Addr) (c : Nat) (p : List Int) (w : World) (h : BfC w b v lr) (hn : 0 < n) (hc : n ≤ c) (hr : ∀ W, Only b w W → ReadsInt W .u8 A n p) (hl : l + n ≤ 140737488355328) (ht : ∀ w1, BfC w1 b v 0 → Only b w w1 → Calls Tryd.prog 64 #[.pointer (some ⟨b, 0, none⟩), .int .i64 n] w1 (fun e w' => e = .returned (.tuple #[.int .i64 0, .bool false]) ∧ w' = w1)) (hg : ∀ w1, BfC w1 b v 0 → Only b w w1 → Calls Tryd.prog 65 #[.pointer (some ⟨b, 0, none⟩), .int .i64 n] w1 (fun e w' => e = .returned (.int .i64 l) ∧ Room b l n old 0 own w w')) :
    Calls Tryd.prog 62 #[.pointer (some ⟨b, 0, none⟩), .slice A n c] w fun e w' => e = .returned (.tuple #[.int .i64 n, .nilIface]) ∧ Laid b l n (old ++ byteC p) own w w' := by
  have HN := Aside0.mk hn
  have HC := Aside0.mk hc
  have HR := Aside0.mk hr
  have HT := Aside0.mk ht
  have HL := Aside0.mk hl
  have HP : Aside0 (p.length = n) := ⟨(hr w (Only.refl _ _)).1⟩
  have HGR := Aside0.mk hg
  obtain ⟨m, hm⟩ : ∃ m, l + n = m := ⟨_, rfl⟩
  have HM := Aside0.mk hm
  have hlm : l ≤ m := by omega
  have hlm2 : (l : Int) ≤ (m : Int) := by omega
  have hml : Aside0 (m - l = n) := ⟨by omega⟩
  have c2 := h.c2
  have f2 := h.f 2
  have H := Aside0.mk h
  clear h hn hc hr ht hl hg hm
  go_enter Tryd.func62, Tryd.ntmps62
  go_upto_region 2 with fail
  generalize hw1 : World.setCell _ _ _ = w1
  have H1 : Aside0 (BfC w1 b v 0) := ⟨by rw [← hw1]; exact H.out.set2 0⟩
  have O1 : Aside0 (Only b w w1) := ⟨by rw [← hw1]; exact (Only.refl _ _).set _ _⟩
  clear hw1 c2 f2
  go_upto_region 3 with (go_at_call 64; (with_reducible refine (HT.out w1 H1.out O1.out).mono ?_); rintro e w2 ⟨rfl, rfl⟩)
  go_upto_region 5 with (go_at_call 65; (with_reducible refine (HGR.out w2 H1.out O1.out).mono ?_); rintro e w3 ⟨rfl, r, cap, cells, k1, k2, k3, k4, k5, k6, k7, k8, k9⟩; have K1 := Aside0.mk k1; have K2 := Aside0.mk k2; have K3 := Aside0.mk k3; have K4 := Aside0.mk k4; have K5 := Aside0.mk k5; have K6 := Aside0.mk k6; have K7 := Aside0.mk k7; have K8 := Aside0.mk k8; have K9 := Aside0.mk k9; clear k1 k2 k3 k4 k5 k6 k7 k8 k9)
  have hc0 : w3.cell? ⟨b, 0, none⟩ = some (.slice (some ⟨r, 0, none⟩) m cap) := by rw [← HM.out]; exact K1.out.c0
  have hcl : ¬ cap = l := by have h1 := K7.out; have h2 := HN.out; omega
  have hmc : m ≤ cap := by have h1 := K7.out; have h2 := HM.out; omega
  have HFIT : Aside0 (l + n ≤ cells.toList.length) := ⟨by rw [Array.length_toList, K5.out]; exact K7.out⟩
  have HRUN : Aside0 (∀ (ρ : Operand → Value) (o : Oper) (dc : Nat), o.op = .call { callee := .builtin .copy, args := #[.tmp 29, .tmp 30], argTypes := #[28, 28] } → ρ (.tmp 29) = .slice (some ⟨r, l, none⟩) (m - l) dc → ρ (.tmp 30) = .slice A n c → (execOp ρ o).run Tryd.prog w3 = .ok (.value (.int .i64 (n : Int))) (w3.setRow r (cells.toList.take l ++ (byteC p ++ cells.toList.drop (l + n))).toArray)) := ⟨fun ρ o dc h1 h2 h3 => copyB (.tmp 29) (.tmp 30) h1 K4.out HN.out (by rw [← Array.length_toList]; exact HFIT.out) (by rw [h2, hml.out]) h3 (HR.out w3 K9.out)⟩
  obtain ⟨w9, hw9⟩ : ∃ w9, w3.setRow r (cells.toList.take l ++ (byteC p ++ cells.toList.drop (l + n))).toArray = w9 := ⟨_, rfl⟩
  have HW9 := Aside0.mk hw9
  rw [hw9] at HRUN
  clear hw9
  go_wp2_with ((with_reducible refine at_dst (N := 31) rfl ?_); refine wpList_run rfl _ (HRUN.out _ _ _ rfl rfl rfl) ?_)
  go_ret2
  have hw9 := HW9.out
  subst hw9
  exact ⟨rfl, r, cap, _, K1.out.row K2.out _, K2.out, K3.out, setRow_heap _ _ _ _ _ _ K4.out, (size_laid _ _ _ _ HFIT.out (by rw [byteC_len]; exact HP.out)).trans (by rw [Array.length_toList, K5.out]), (take_laid _ _ _ _ HFIT.out (by rw [byteC_len]; exact HP.out)).trans (by rw [K6.out]), K7.out, K8.out, .row K9.out _⟩
end Go.Proofs.YtpogfbompljkkaaDoor.Snk
/- bytes.Buffer: one byte; nothing; what it holds. -/
namespace Go.Proofs.YtpogfbompljkkaaDoor.Snk
open Go.RowKit Go.Proofs.YtpogfbompljkkaaDoorW.PrintWords Go.Proofs.YtpogfbompljkkaaDoorW.PrintLast Go.Proofs.YtpogfbompljkkaaDoorW.PrintMore
set_option linter.unusedVariables false
set_option linter.unusedSimpArgs false
theorem Turned.only {b r : Nat} {w w1 w2 : World} (h : Only b w w1) (k : Only r w1 w2) : Turned b r w w2 :=
  ⟨k.os.trans h.os, k.tape.trans h.tape, k.output.trans h.output, Nat.le_trans h.size k.size, fun i hi hb hr => (k.block i (Nat.lt_of_lt_of_le hi h.size) hr).trans (h.block i hi hb)⟩
theorem take_set_end (L : List Value) (l : Nat) (old : List Value) (x : Value) (h : L.take l = old) (hl : l + 1 ≤ L.length) : (L.set l x).take (l + 1) = old ++ [x] := by
  subst h
  rw [List.take_add_one, List.take_set_of_le (Nat.le_refl _), List.getElem?_set_self (by omega)]
  rfl
theorem BfC.trans' {w : World} {b r : Nat} {v u : Value} {lr : Int} {j : Nat} {cells : Array Value} (h : BfC w b v lr) (hr : r ≠ b) (hc : w.heap[r]? = some (.cells cells 5 (0, 0))) : BfC (w.setCell ⟨r, j, none⟩ u) b v lr := (Below.heap_setCell w ⟨r, j, none⟩ u b (Ne.symm hr)).trans h
set_option maxRecDepth 100000 in
set_option maxHeartbeats 4000000 in
theorem zeroN (b : Nat) (lr : Int) (A : Option Addr) (c : Nat) (w : World) (h : BfC w b (.slice none 0 0) lr) :
    Calls Tryd.prog 62 #[.pointer (some ⟨b, 0, none⟩), .slice A 0 c] w fun e w' => e = .returned (.tuple #[.int .i64 (0 : Nat), .nilIface]) ∧ BfC w' b (.slice none 0 0) 0 ∧ Only b w w' := by
  have hlc : 0 ≤ 0 := Nat.le_refl _
  have hcm : 0 ≤ maxLen := by simp [maxLen]
  have HT : Aside0 (∀ w1, BfC w1 b (.slice none 0 0) 0 → Calls Tryd.prog 64 #[.pointer (some ⟨b, 0, none⟩), .int .i64 0] w1 fun e w' => e = .returned (.tuple #[.int .i64 (0 : Nat), .bool true]) ∧ w' = w1.setCell ⟨b, 0, none⟩ (.slice none (0 + 0) 0)) := ⟨fun w1 h1 => tryRoom b none 0 0 0 0 w1 h1 hlc hcm (Nat.zero_le _)⟩
  have HLC := Aside0.mk hlc
  have c2 := h.c2
  have f2 := h.f 2
  have H := Aside0.mk h
  clear h hcm
  go_enter Tryd.func62, Tryd.ntmps62
  go_upto_region 2 with fail
  generalize hw1 : World.setCell _ _ _ = w1
  have H1 : Aside0 (BfC w1 b (.slice none 0 0) 0) := ⟨by rw [← hw1]; exact H.out.set2 0⟩
  have O1 : Aside0 (Only b w w1) := ⟨by rw [← hw1]; exact (Only.refl _ _).set _ _⟩
  clear hw1 c2 f2
  go_upto_region 5 with (go_at_call 64; (with_reducible refine (HT.out w1 H1.out).mono ?_); rintro e w2 ⟨rfl, hw2⟩; have H2 : Aside0 (BfC w2 b (.slice none 0 0) 0) := ⟨by rw [hw2]; exact H1.out.set0 _⟩; have O2 : Aside0 (Only b w w2) := ⟨by rw [hw2]; exact O1.out.set _ _⟩; clear hw2)
  have hc0 := H2.out.c0
  have hsz : Aside0 ((Tryd.prog.info? 5).map (·.size) = some 1) := ⟨by kernel_rfl⟩
  have hu : Aside0 (Tryd.prog.underlying 28 = some (.slice 5)) := ⟨Tryd.underlying28⟩
  go_wp2_with ((with_reducible refine at_dst (N := 31) rfl ?_); refine wpList_copy_nothing rfl (.tmp 29) (.tmp 30) 28 28 rfl 5 hu.out hsz.out _ _ _ _ _ _ rfl rfl (by first | rfl | (rw [Nat.sub_self]; rfl)) ?_)
  all_goals
    go_ret2
    first
      | exact ⟨rfl, H2.out, O2.out⟩
      | (have hx : cap = l := by assumption
         subst hx
         exact ⟨rfl, H2.out, O2.out⟩)
      | (have hx : l = cap := by assumption
         subst hx
         exact ⟨rfl, H2.out, O2.out⟩)
set_option maxRecDepth 100000 in
set_option maxHeartbeats 4000000 in
theorem zeroR (b g l cap : Nat) (lr : Int) (A : Option Addr) (c : Nat) (w : World) (h : BfC w b (.slice (some ⟨g, 0, none⟩) l cap) lr) (hlc : l ≤ cap) (hcm : cap ≤ maxLen) :
    Calls Tryd.prog 62 #[.pointer (some ⟨b, 0, none⟩), .slice A 0 c] w fun e w' => e = .returned (.tuple #[.int .i64 (0 : Nat), .nilIface]) ∧ BfC w' b (.slice (some ⟨g, 0, none⟩) l cap) 0 ∧ Only b w w' := by
  have hlm : ¬ (cap : Int) < (l : Int) := by omega
  have HT : Aside0 (∀ w1, BfC w1 b (.slice (some ⟨g, 0, none⟩) l cap) 0 → Calls Tryd.prog 64 #[.pointer (some ⟨b, 0, none⟩), .int .i64 0] w1 fun e w' => e = .returned (.tuple #[.int .i64 l, .bool true]) ∧ w' = w1.setCell ⟨b, 0, none⟩ (.slice (some ⟨g, 0, none⟩) (l + 0) cap)) := ⟨fun w1 h1 => tryRoom b (some ⟨g, 0, none⟩) l cap 0 0 w1 h1 hlc hcm (Nat.zero_le _)⟩
  have HLC := Aside0.mk hlc
  have c2 := h.c2
  have f2 := h.f 2
  have H := Aside0.mk h
  clear h hcm
  go_enter Tryd.func62, Tryd.ntmps62
  go_upto_region 2 with fail
  generalize hw1 : World.setCell _ _ _ = w1
  have H1 : Aside0 (BfC w1 b (.slice (some ⟨g, 0, none⟩) l cap) 0) := ⟨by rw [← hw1]; exact H.out.set2 0⟩
  have O1 : Aside0 (Only b w w1) := ⟨by rw [← hw1]; exact (Only.refl _ _).set _ _⟩
  clear hw1 c2 f2
  go_upto_region 5 with (go_at_call 64; (with_reducible refine (HT.out w1 H1.out).mono ?_); rintro e w2 ⟨rfl, hw2⟩; have H2 : Aside0 (BfC w2 b (.slice (some ⟨g, 0, none⟩) l cap) 0) := ⟨by rw [hw2]; exact H1.out.set0 _⟩; have O2 : Aside0 (Only b w w2) := ⟨by rw [hw2]; exact O1.out.set _ _⟩; clear hw2)
  have hc0 := H2.out.c0
  have hsz : Aside0 ((Tryd.prog.info? 5).map (·.size) = some 1) := ⟨by kernel_rfl⟩
  have hu : Aside0 (Tryd.prog.underlying 28 = some (.slice 5)) := ⟨Tryd.underlying28⟩
  go_wp2_with ((with_reducible refine at_dst (N := 31) rfl ?_); refine wpList_copy_nothing rfl (.tmp 29) (.tmp 30) 28 28 rfl 5 hu.out hsz.out _ _ _ _ _ _ rfl rfl (by first | rfl | (rw [Nat.sub_self]; rfl)) ?_)
  all_goals
    go_ret2
    first
      | exact ⟨rfl, H2.out, O2.out⟩
      | (have hx : cap = l := by assumption
         subst hx
         exact ⟨rfl, H2.out, O2.out⟩)
      | (have hx : l = cap := by assumption
         subst hx
         exact ⟨rfl, H2.out, O2.out⟩)
set_option maxRecDepth 100000 in
set_option maxHeartbeats 4000000 in
theorem bytesN (b : Nat) (lr : Int) (w : World) (h : BfC w b (.slice none 0 0) lr) :
    Calls Tryd.prog 15 #[.pointer (some ⟨b, 0, none⟩)] w fun e w' => e = .returned (.slice none 0 0) ∧ Below w.heap.size w w' ∧ BfC w' b (.slice none 0 0) lr := by
  have H := Aside0.mk h
  clear h
  go_enter Tryd.func15, Tryd.ntmps15
  go_upto_region 1 with fail
  refine start_ (n := 10) (S := fun w' => w'.cell? ⟨b, 0, none⟩ = some (.slice none 0 0) ∧ w'.cell? ⟨b, 1, none⟩ = some (.int .i64 0)) (ds := []) #[false, false, false, false, false, false, false, false, false, false] (by kernel_rfl) rfl rfl ⟨H.out.c0, H.out.c1⟩ (fun hHeld => ?_)
  refine pure_ (i := 0) (N := some 3) (v := ?_) (a' := ?_) #[true, false, false, false, false, false, false, false, false, false] rfl rfl (by kernel_rfl) (fun _ _ _ h => h) (Or.inl ⟨by rfl, ?_⟩) ?_ ?_
  rotate_left
  · intro w'
    go_simp
    with_reducible rfl
  rotate_left
  · simp only [Act.put, List.setIfInBounds_toArray, List.set_cons_zero, List.set_cons_succ, i64_w, i32_w]
    rfl
  refine pure_ (i := 1) (N := some 4) (v := ?_) (a' := ?_) #[true, true, false, false, false, false, false, false, false, false] rfl rfl (by kernel_rfl) (fun _ _ _ h => h) (Or.inl ⟨by rfl, ?_⟩) ?_ ?_
  rotate_left
  · intro w'
    go_simp
    with_reducible rfl
  rotate_left
  · simp only [Act.put, List.setIfInBounds_toArray, List.set_cons_zero, List.set_cons_succ, i64_w, i32_w]
    rfl
  refine pure_ (i := 2) (N := some 5) (v := ?_) (a' := ?_) #[true, true, true, false, false, false, false, false, false, false] rfl rfl (by kernel_rfl) (fun _ _ _ h => h) (Or.inl ⟨by rfl, ?_⟩) ?_ ?_
  rotate_left
  · intro w'
    go_simp
    with_reducible rfl
  rotate_left
  · simp only [Act.put, List.setIfInBounds_toArray, List.set_cons_zero, List.set_cons_succ, i64_w, i32_w]
    rfl
  refine take_ (i := 3) (N := some 6) (v := ?_) (a' := ?_) #[true, true, true, true, false, false, false, false, false, false] rfl rfl (by kernel_rfl) (fun _ _ _ h => h) (Or.inl ⟨by rfl, ?_⟩) hHeld ?_ ?_
  rotate_left
  · rintro w' ⟨s0, s1⟩
    go_simp
    with_reducible rfl
  rotate_left
  · simp only [Act.put, List.setIfInBounds_toArray, List.set_cons_zero, List.set_cons_succ, i64_w, i32_w]
    rfl
  refine pure_ (i := 4) (N := some 7) (v := ?_) (a' := ?_) #[true, true, true, true, true, false, false, false, false, false] rfl rfl (by kernel_rfl) (fun _ _ _ h => h) (Or.inl ⟨by rfl, ?_⟩) ?_ ?_
  rotate_left
  · intro w'
    go_simp
    with_reducible rfl
  rotate_left
  · simp only [Act.put, List.setIfInBounds_toArray, List.set_cons_zero, List.set_cons_succ, i64_w, i32_w]
    rfl
  refine pure_ (i := 5) (N := some 8) (v := ?_) (a' := ?_) #[true, true, true, true, true, true, false, false, false, false] rfl rfl (by kernel_rfl) (fun _ _ _ h => h) (Or.inl ⟨by rfl, ?_⟩) ?_ ?_
  rotate_left
  · intro w'
    go_simp
    with_reducible rfl
  rotate_left
  · simp only [Act.put, List.setIfInBounds_toArray, List.set_cons_zero, List.set_cons_succ, i64_w, i32_w]
    rfl
  refine pure_ (i := 6) (N := some 9) (v := ?_) (a' := ?_) #[true, true, true, true, true, true, true, false, false, false] rfl rfl (by kernel_rfl) (fun _ _ _ h => h) (Or.inl ⟨by rfl, ?_⟩) ?_ ?_
  rotate_left
  · intro w'
    go_simp
    with_reducible rfl
  rotate_left
  · simp only [Act.put, List.setIfInBounds_toArray, List.set_cons_zero, List.set_cons_succ, i64_w, i32_w]
    rfl
  refine take_ (i := 7) (N := some 10) (v := ?_) (a' := ?_) #[true, true, true, true, true, true, true, true, false, false] rfl rfl (by kernel_rfl) (fun _ _ _ h => h) (Or.inl ⟨by rfl, ?_⟩) hHeld ?_ ?_
  rotate_left
  · rintro w' ⟨s0, s1⟩
    go_simp
    with_reducible rfl
  rotate_left
  · simp only [Act.put, List.setIfInBounds_toArray, List.set_cons_zero, List.set_cons_succ, i64_w, i32_w]
    rfl
  refine pure_ (i := 8) (N := some 11) (v := ?_) (a' := ?_) #[true, true, true, true, true, true, true, true, true, false] rfl rfl (by kernel_rfl) (fun _ _ _ h => h) (Or.inl ⟨by rfl, ?_⟩) ?_ ?_
  rotate_left
  · intro w'
    go_simp
    with_reducible rfl
  rotate_left
  · simp only [Act.put, List.setIfInBounds_toArray, List.set_cons_zero, List.set_cons_succ, i64_w, i32_w]
    rfl
  refine pure_ (i := 9) (N := some 2) (v := ?_) (a' := ?_) #[true, true, true, true, true, true, true, true, true, true] rfl rfl (by kernel_rfl) (fun _ _ _ h => h) (Or.inl ⟨by rfl, ?_⟩) ?_ ?_
  rotate_left
  · intro w'
    go_simp
    with_reducible rfl
  rotate_left
  · simp only [Act.put, List.setIfInBounds_toArray, List.set_cons_zero, List.set_cons_succ, i64_w, i32_w]
    rfl
  refine done_ (by kernel_rfl) ?_
  go_wp2_with fail
  go_ret
  exact ⟨rfl, below_drew (Below.refl _ _), H.out⟩
set_option maxRecDepth 100000 in
set_option maxHeartbeats 4000000 in
theorem bytesR (b g l cap : Nat) (lr : Int) (w : World) (h : BfC w b (.slice (some ⟨g, 0, none⟩) l cap) lr) (hlc : l ≤ cap) (hcm : cap ≤ maxLen) :
    Calls Tryd.prog 15 #[.pointer (some ⟨b, 0, none⟩)] w fun e w' => e = .returned (.slice (some ⟨g, 0, none⟩) l cap) ∧ Below w.heap.size w w' ∧ BfC w' b (.slice (some ⟨g, 0, none⟩) l cap) lr := by
  have H := Aside0.mk h
  clear h hcm
  go_enter Tryd.func15, Tryd.ntmps15
  go_upto_region 1 with fail
  refine start_ (n := 10) (S := fun w' => w'.cell? ⟨b, 0, none⟩ = some (.slice (some ⟨g, 0, none⟩) l cap) ∧ w'.cell? ⟨b, 1, none⟩ = some (.int .i64 0)) (ds := []) #[false, false, false, false, false, false, false, false, false, false] (by kernel_rfl) rfl rfl ⟨H.out.c0, H.out.c1⟩ (fun hHeld => ?_)
  refine pure_ (i := 0) (N := some 3) (v := ?_) (a' := ?_) #[true, false, false, false, false, false, false, false, false, false] rfl rfl (by kernel_rfl) (fun _ _ _ h => h) (Or.inl ⟨by rfl, ?_⟩) ?_ ?_
  rotate_left
  · intro w'
    go_simp
    with_reducible rfl
  rotate_left
  · simp only [Act.put, List.setIfInBounds_toArray, List.set_cons_zero, List.set_cons_succ, i64_w, i32_w]
    rfl
  refine pure_ (i := 1) (N := some 4) (v := ?_) (a' := ?_) #[true, true, false, false, false, false, false, false, false, false] rfl rfl (by kernel_rfl) (fun _ _ _ h => h) (Or.inl ⟨by rfl, ?_⟩) ?_ ?_
  rotate_left
  · intro w'
    go_simp
    with_reducible rfl
  rotate_left
  · simp only [Act.put, List.setIfInBounds_toArray, List.set_cons_zero, List.set_cons_succ, i64_w, i32_w]
    rfl
  refine pure_ (i := 2) (N := some 5) (v := ?_) (a' := ?_) #[true, true, true, false, false, false, false, false, false, false] rfl rfl (by kernel_rfl) (fun _ _ _ h => h) (Or.inl ⟨by rfl, ?_⟩) ?_ ?_
  rotate_left
  · intro w'
    go_simp
    with_reducible rfl
  rotate_left
  · simp only [Act.put, List.setIfInBounds_toArray, List.set_cons_zero, List.set_cons_succ, i64_w, i32_w]
    rfl
  refine take_ (i := 3) (N := some 6) (v := ?_) (a' := ?_) #[true, true, true, true, false, false, false, false, false, false] rfl rfl (by kernel_rfl) (fun _ _ _ h => h) (Or.inl ⟨by rfl, ?_⟩) hHeld ?_ ?_
  rotate_left
  · rintro w' ⟨s0, s1⟩
    go_simp
    with_reducible rfl
  rotate_left
  · simp only [Act.put, List.setIfInBounds_toArray, List.set_cons_zero, List.set_cons_succ, i64_w, i32_w]
    rfl
  refine pure_ (i := 4) (N := some 7) (v := ?_) (a' := ?_) #[true, true, true, true, true, false, false, false, false, false] rfl rfl (by kernel_rfl) (fun _ _ _ h => h) (Or.inl ⟨by rfl, ?_⟩) ?_ ?_
  rotate_left
  · intro w'
    go_simp
    with_reducible rfl
  rotate_left
  · simp only [Act.put, List.setIfInBounds_toArray, List.set_cons_zero, List.set_cons_succ, i64_w, i32_w]
    rfl
  refine pure_ (i := 5) (N := some 8) (v := ?_) (a' := ?_) #[true, true, true, true, true, true, false, false, false, false] rfl rfl (by kernel_rfl) (fun _ _ _ h => h) (Or.inl ⟨by rfl, ?_⟩) ?_ ?_
  rotate_left
  · intro w'
    go_simp
    with_reducible rfl
  rotate_left
  · simp only [Act.put, List.setIfInBounds_toArray, List.set_cons_zero, List.set_cons_succ, i64_w, i32_w]
    rfl
  refine pure_ (i := 6) (N := some 9) (v := ?_) (a' := ?_) #[true, true, true, true, true, true, true, false, false, false] rfl rfl (by kernel_rfl) (fun _ _ _ h => h) (Or.inl ⟨by rfl, ?_⟩) ?_ ?_
  rotate_left
  · intro w'
    go_simp
    with_reducible rfl
  rotate_left
  · simp only [Act.put, List.setIfInBounds_toArray, List.set_cons_zero, List.set_cons_succ, i64_w, i32_w]
    rfl
  refine take_ (i := 7) (N := some 10) (v := ?_) (a' := ?_) #[true, true, true, true, true, true, true, true, false, false] rfl rfl (by kernel_rfl) (fun _ _ _ h => h) (Or.inl ⟨by rfl, ?_⟩) hHeld ?_ ?_
  rotate_left
  · rintro w' ⟨s0, s1⟩
    go_simp
    with_reducible rfl
  rotate_left
  · simp only [Act.put, List.setIfInBounds_toArray, List.set_cons_zero, List.set_cons_succ, i64_w, i32_w]
    rfl
  refine pure_ (i := 8) (N := some 11) (v := ?_) (a' := ?_) #[true, true, true, true, true, true, true, true, true, false] rfl rfl (by kernel_rfl) (fun _ _ _ h => h) (Or.inl ⟨by rfl, ?_⟩) ?_ ?_
  rotate_left
  · intro w'
    go_simp
    with_reducible rfl
  rotate_left
  · simp only [Act.put, List.setIfInBounds_toArray, List.set_cons_zero, List.set_cons_succ, i64_w, i32_w]
    rfl
  refine pure_ (i := 9) (N := some 2) (v := ?_) (a' := ?_) #[true, true, true, true, true, true, true, true, true, true] rfl rfl (by kernel_rfl) (fun _ _ _ h => h) (Or.inl ⟨by rfl, ?_⟩) ?_ ?_
  rotate_left
  · intro w'
    go_simp
    with_reducible rfl
  rotate_left
  · simp only [Act.put, List.setIfInBounds_toArray, List.set_cons_zero, List.set_cons_succ, i64_w, i32_w]
    rfl
  refine done_ (by kernel_rfl) ?_
  go_wp2_with fail
  go_ret
  exact ⟨rfl, below_drew (Below.refl _ _), H.out⟩
end Go.Proofs.YtpogfbompljkkaaDoor.Snk
/- What bytes are written to, behind an interface. -/
namespace Go.Proofs.YtpogfbompljkkaaDoor.Snk
open Go.RowKit Go.Proofs.YtpogfbompljkkaaDoorW.PrintWords Go.Proofs.YtpogfbompljkkaaDoorW.PrintLast
set_option linter.unusedVariables false
/-- A method value's test for nil. -/
def NilNot (P : Program) (t : TypeId) (v : Value) (name : String) : Prop := ∀ n w, (nilAhead (n + 1) t v name).run P w = .ok (some false) w
theorem nil_run {P : Program} {t : TypeId} {v : Value} {name : String} (h : NilNot P t v name) (w : World) {ρ : Operand → Value} {o : Oper} (x : Operand) (ho : o.op = .nilCheck x) (hx : ρ x = .func (.method name) #[.iface t v] #[]) : (execOp ρ o).run P w = .ok (.value (.func (.method name) #[.iface t v] #[])) w := by
  have h0 : 0 < P.types.size + Made.depth := Nat.lt_of_lt_of_le (show 0 < Made.depth by decide) (Nat.le_add_left _ _)
  obtain ⟨n, hn⟩ : ∃ n, P.types.size + Made.depth = n + 1 := ⟨P.types.size + Made.depth - 1, by omega⟩
  have h1 := h n w
  rw [← hn] at h1
  unfold execOp
  rw [ho]
  show Sem.run _ (match ρ x with | .pointer none | .nilIface | .nilFunc => _ | .func (.method name) first captured => _ | x => _) w = _
  rw [hx]
  simp [h1, Result.andThen]
/-- Things to which bytes can be written: T its type, v the value, f the type's Write. w0: the world ahead of them all. M: how much they take. -/
structure Sink (P : Program) (w0 : World) (T : TypeId) (v : Value) (f : FuncId) (M : Nat) where
  St : World → List Int → Prop
  own : World → Nat → Prop
  meth : Meth P T v "Write" f v
  nil : NilNot P T v "Write"
  below : ∀ {w bs}, St w bs → Below w0.heap.size w0 w
  fresh : ∀ {w bs k}, St w bs → own w k → w0.heap.size ≤ k ∧ k < w.heap.size
  stay : ∀ {w bs w'}, St w bs → Below w0.heap.size w0 w' → (∀ k, own w k → w'.heap[k]? = w.heap[k]?) → St w' bs ∧ ∀ k, own w' k → own w k
  write : ∀ {w bs} {p : List Int} {A : Option Addr} {c n : Nat}, St w bs → p.length = n → bs.length + n ≤ M → n ≤ c → ReadsInt w .u8 A n p → (0 < n → ∀ a, A = some a → ¬ own w a.block) →
    Calls P f #[v, .slice A n c] w fun e w' => e = .returned (.tuple #[.int .i64 (n : Int), .nilIface]) ∧ St w' (bs ++ p) ∧ (w'.os = w.os ∧ w'.tape = w.tape ∧ w'.output = w.output ∧ w.heap.size ≤ w'.heap.size ∧ (∀ k, k < w.heap.size → ¬ own w k → w'.heap[k]? = w.heap[k]?) ∧ ∀ k, own w' k → own w k ∨ w.heap.size ≤ k)
section
variable {P : Program} {w0 : World} {T : TypeId} {v : Value} {f : FuncId} {M : Nat} (S : Sink P w0 T v f M)
/-- What a writer may turn: the sink's own blocks, and what is new. -/
structure Step (w w' : World) : Prop where
  os : w'.os = w.os
  tape : w'.tape = w.tape
  output : w'.output = w.output
  size : w.heap.size ≤ w'.heap.size
  block : ∀ k, k < w.heap.size → ¬ S.own w k → w'.heap[k]? = w.heap[k]?
  grow : ∀ k, S.own w' k → S.own w k ∨ w.heap.size ≤ k
variable {S}
theorem Step.refl (w : World) : Step S w w := ⟨rfl, rfl, rfl, Nat.le_refl _, fun _ _ _ => rfl, fun _ h => .inl h⟩
theorem Step.trans {w w1 w2 : World} (h : Step S w w1) (k : Step S w1 w2) : Step S w w2 :=
  ⟨k.os.trans h.os, k.tape.trans h.tape, k.output.trans h.output, Nat.le_trans h.size k.size, fun i hi ho => (k.block i (Nat.lt_of_lt_of_le hi h.size) (fun hh => (h.grow i hh).elim ho (fun h1 => Nat.not_le.2 hi h1))).trans (h.block i hi ho), fun i hi => by
    rcases k.grow i hi with h1 | h1
    · exact h.grow i h1
    · exact .inr (Nat.le_trans h.size h1)⟩
theorem below_step {w w1 : World} {bs : List Int} (hs : S.St w bs) (hb : Below w.heap.size w w1) : S.St w1 bs ∧ Step S w w1 := by
  have h := S.stay hs ((S.below hs).trans ⟨hb.os, hb.tape, hb.output, hb.size, fun k hk => hb.block k (Nat.lt_of_lt_of_le hk (S.below hs).size)⟩) (fun k hk => hb.block k (S.fresh hs hk).2)
  exact ⟨h.1, hb.os, hb.tape, hb.output, hb.size, fun k hk _ => hb.block k hk, fun k hk => .inl (h.2 k hk)⟩
theorem below_own {w w1 : World} {bs : List Int} (hs : S.St w bs) (hb : Below w.heap.size w w1) (k : Nat) (h : S.own w1 k) : S.own w k :=
  (S.stay hs ((S.below hs).trans ⟨hb.os, hb.tape, hb.output, hb.size, fun k hk => hb.block k (Nat.lt_of_lt_of_le hk (S.below hs).size)⟩) (fun k hk => hb.block k (S.fresh hs hk).2)).2 k h
/-- A block of one's own, made behind wE, turns. -/
theorem only_step {wE w w1 : World} {bs : List Int} {g : Nat} (hs : S.St w bs) (hE : Step S wE w) (hg : wE.heap.size ≤ g) (hg0 : w0.heap.size ≤ g) (hn : ¬ S.own w g) (ho : Only g w w1) : S.St w1 bs ∧ Step S wE w1 ∧ ¬ S.own w1 g := by
  have h := S.stay hs ((S.below hs).trans ⟨ho.os, ho.tape, ho.output, ho.size, fun k hk => ho.block k (Nat.lt_of_lt_of_le hk (S.below hs).size) (by omega)⟩) (fun k hk => ho.block k (S.fresh hs hk).2 (fun e => hn (e ▸ hk)))
  exact ⟨h.1, ⟨ho.os.trans hE.os, ho.tape.trans hE.tape, ho.output.trans hE.output, Nat.le_trans hE.size ho.size, fun k hk hk2 => (ho.block k (Nat.lt_of_lt_of_le hk hE.size) (by omega)).trans (hE.block k hk hk2), fun k hk => hE.grow k (h.2 k hk)⟩, fun hh => hn (h.2 g hh)⟩
/-- A block that is not the sink's stays. -/
theorem Step.kept {w w1 : World} {g : Nat} {x : Obj} (h : Step S w w1) (hn : ¬ S.own w g) (hx : w.heap[g]? = some x) : w1.heap[g]? = some x ∧ ¬ S.own w1 g :=
  ⟨(h.block g (blk_lt' hx) hn).trans hx, fun hh => (h.grow g hh).elim hn (fun h1 => Nat.not_le.2 (blk_lt' hx) h1)⟩
theorem Sink.writeC (S : Sink P w0 T v f M) {w : World} {bs p : List Int} {A : Option Addr} {c n : Nat} (hs : S.St w bs) (hp : p.length = n) (hM : bs.length + n ≤ M) (hc : n ≤ c) (hr : ReadsInt w .u8 A n p) (ho : 0 < n → ∀ a, A = some a → ¬ S.own w a.block) :
    Calls P f #[v, .slice A n c] w fun e w' => e = .returned (.tuple #[.int .i64 (n : Int), .nilIface]) ∧ S.St w' (bs ++ p) ∧ Step S w w' :=
  (S.write hs hp hM hc hr ho).mono fun e w' ⟨h1, h2, h3, h4, h5, h6, h7, h8⟩ => ⟨h1, h2, h3, h4, h5, h6, h7, h8⟩
end
end Go.Proofs.YtpogfbompljkkaaDoor.Snk
/- bytes.Buffer: what it holds; a thing to which bytes are written. -/
namespace Go.Proofs.YtpogfbompljkkaaDoor.Snk
open Go.RowKit Go.Proofs.YtpogfbompljkkaaDoorW.PrintWords Go.Proofs.YtpogfbompljkkaaDoorW.PrintLast Go.Proofs.YtpogfbompljkkaaDoorW.PrintMore
set_option linter.unusedVariables false
set_option linter.unusedSimpArgs false
/-- A buffer that holds the bytes bs. -/
def BufS (w : World) (b : Nat) (bs : List Int) : Prop := ∃ lr, (bs = [] ∧ BfC w b (.slice none 0 0) lr) ∨ ∃ g cap cur, BfC w b (.slice (some ⟨g, 0, none⟩) bs.length cap) lr ∧ g ≠ b ∧ w.heap[g]? = some (.cells cur 5 (0, 0)) ∧ cur.size = cap ∧ cur.toList.take bs.length = byteC bs ∧ bs.length ≤ cap ∧ cap ≤ maxLen
/-- A buffer's blocks. -/
def Own (b : Nat) (w : World) (k : Nat) : Prop := k = b ∨ ∃ l cap lr, BfC w b (.slice (some ⟨k, 0, none⟩) l cap) lr
structure Frame (b : Nat) (w w' : World) : Prop where
  os : w'.os = w.os
  tape : w'.tape = w.tape
  output : w'.output = w.output
  size : w.heap.size ≤ w'.heap.size
  block : ∀ k, k < w.heap.size → ¬ Own b w k → w'.heap[k]? = w.heap[k]?
  grow : ∀ k, Own b w' k → Own b w k ∨ w.heap.size ≤ k
theorem BfC.inj {w : World} {b : Nat} {v u : Value} {lr lr2 : Int} (h : BfC w b v lr) (k : BfC w b u lr2) : v = u := by
  have e := Option.some.inj (h.symm.trans k)
  simp only [Obj.cells.injEq, Array.mk.injEq, List.cons.injEq, and_true] at e
  exact e.1
theorem BfC.own {w : World} {b g l cap k : Nat} {lr : Int} (h : BfC w b (.slice (some ⟨g, 0, none⟩) l cap) lr) (hk : Own b w k) : k = b ∨ k = g := by
  rcases hk with h1 | ⟨l2, c2, lr2, h1⟩
  · exact .inl h1
  · have e := h1.inj h
    simp only [Value.slice.injEq, Option.some.injEq, Addr.mk.injEq] at e
    exact .inr e.1.1
theorem BfC.ownNil {w : World} {b k : Nat} {lr : Int} (h : BfC w b (.slice none 0 0) lr) (hk : Own b w k) : k = b := by
  rcases hk with h1 | ⟨l2, c2, lr2, h1⟩
  · exact h1
  · have e := h1.inj h
    simp at e
theorem BufS.blk {w : World} {b : Nat} {bs : List Int} (h : BufS w b bs) : b < w.heap.size := by
  obtain ⟨lr, ⟨_, h⟩ | ⟨g, cap, cur, h, _⟩⟩ := h
  · exact blk_lt' h
  · exact blk_lt' h
theorem BufS.lt {w : World} {b : Nat} {bs : List Int} (h : BufS w b bs) {k : Nat} (hk : Own b w k) : k < w.heap.size := by
  have hb := h.blk
  obtain ⟨lr, ⟨_, h⟩ | ⟨g, cap, cur, h, _, hg, _⟩⟩ := h
  · rw [h.ownNil hk]; exact hb
  · rcases h.own hk with rfl | rfl
    · exact hb
    · exact blk_lt' hg
theorem Laid.frame {b l n : Nat} {row : List Value} {own : Nat → Prop} {w w' : World} (h : Laid b l n row own w w') (ho : ∀ r, own r → Own b w r ∨ w.heap.size ≤ r) : Frame b w w' := by
  obtain ⟨r, cap, cells, h1, h2, h3, h4, h5, h6, h7, h8, h9⟩ := h
  refine ⟨h9.os, h9.tape, h9.output, h9.size, fun k hk hn => h9.block k hk (fun e => hn (.inl e)) (fun e => ?_), fun k hk => ?_⟩
  · subst e
    rcases ho _ h3 with h | h
    · exact hn h
    · omega
  · rcases h1.own hk with e | e
    · exact .inl (.inl e)
    · subst e; exact ho _ h3
theorem Laid.buf {b n : Nat} {bs p : List Int} {own : Nat → Prop} {w w' : World} (hp : p.length = n) (h : Laid b bs.length n (byteC bs ++ byteC p) own w w') : BufS w' b (bs ++ p) := by
  obtain ⟨r, cap, cells, h1, h2, h3, h4, h5, h6, h7, h8, h9⟩ := h
  subst hp
  exact ⟨0, .inr ⟨r, cap, cells, by rw [List.length_append]; exact h1, h2, h4, h5, by rw [List.length_append, h6]; unfold byteC; rw [List.map_append], by rw [List.length_append]; exact h7, h8⟩⟩
theorem one_byteC (l : List Int) (n : Nat) (L : List Value) (h : L.take n = byteC l) : ∀ v ∈ L.take n, v.oneCell' = true := by
  intro v hv
  rw [h] at hv
  unfold byteC at hv
  obtain ⟨x, _, rfl⟩ := List.mem_map.1 hv
  rfl
theorem bufWrite (b : Nat) (bs p : List Int) (A : Option Addr) (c n : Nat) (w : World) (h : BufS w b bs) (hp : p.length = n) (hM : bs.length + n ≤ 140737488355328) (hc : n ≤ c) (hr : ReadsInt w .u8 A n p) (ho : 0 < n → ∀ a, A = some a → ¬ Own b w a.block) :
    Calls Tryd.prog 62 #[.pointer (some ⟨b, 0, none⟩), .slice A n c] w fun e w' => e = .returned (.tuple #[.int .i64 (n : Int), .nilIface]) ∧ BufS w' b (bs ++ p) ∧ Frame b w w' := by
  have hb := h.blk
  have hR : ∀ W, Only b w W → ReadsInt W .u8 A n p := fun W hW => hr.keep hW.keep (fun ad e h0 hh => ho h0 ad e (.inl hh))
  obtain ⟨lr, ⟨rfl, h⟩ | ⟨g, cap, cur, h, h2, h3, h4, h5, h6, h7⟩⟩ := h
  · by_cases hn : 0 < n
    · refine (writeF b n 0 _ lr (fun k => w.heap.size ≤ k) [] A c p w h hn hc hR (by simp only [List.length_nil] at hM; omega) (fun w1 h1 _ => tryNone b none 0 0 n 0 w1 h1 (Nat.le_refl _) (Nat.zero_le _) (by omega)) (fun w1 h1 o1 => (grow0 b n 0 w1 h1 hn (by simp only [List.length_nil] at hM; omega)).mono fun e w2 ⟨he, h9⟩ => ⟨he, ?_⟩)).mono fun e w' ⟨he, h9⟩ => ⟨he, Laid.buf (bs := []) hp h9, h9.frame fun r hr => .inr hr⟩
      obtain ⟨r, cap, cells, k1, k2, k3, k4, k5, k6, k7, k8⟩ := h9
      have hs := o1.size
      exact ⟨r, cap, cells, k2, by omega, Nat.le_trans hs k1, k3, k4, k5, k6, k7, o1.trans k8⟩
    · obtain rfl : n = 0 := by omega
      obtain rfl : p = [] := List.eq_nil_of_length_eq_zero hp
      exact (zeroN b lr A c w h).mono fun e w' ⟨he, h1, h2⟩ => ⟨he, ⟨0, .inl ⟨rfl, h1⟩⟩, h2.os, h2.tape, h2.output, h2.size, fun k hk hn => h2.block k hk (fun e => hn (.inl e)), fun k hk => .inl (.inl (h1.ownNil hk))⟩
  · by_cases hn : 0 < n
    · by_cases hroom : n ≤ cap - bs.length
      · refine (writeT b n bs.length _ lr (fun k => k = g) (byteC bs) A c p w h hn hc hR hM (fun w1 h1 o1 => (tryRoom b _ bs.length cap n 0 w1 h1 h6 h7 hroom).mono fun e w2 ⟨he, h9⟩ => ⟨he, ?_⟩)).mono fun e w' ⟨he, h9⟩ => ⟨he, Laid.buf hp h9, h9.frame fun r hr => .inl (.inr ⟨_, _, _, hr ▸ h⟩)⟩
        subst h9
        exact ⟨g, cap, cur, h1.set0 _, h2, rfl, ((Only.refl b w1).set 0 _).block g (Nat.lt_of_lt_of_le (blk_lt' h3) o1.size) h2 |>.trans ((o1.block g (blk_lt' h3) h2).trans h3), h4, h5, by omega, h7, o1.set _ _⟩
      · refine (writeF b n bs.length _ lr (fun k => w.heap.size ≤ k) (byteC bs) A c p w h hn hc hR hM (fun w1 h1 _ => tryNone b _ bs.length cap n 0 w1 h1 h6 h7 (by omega)) (fun w1 h1 o1 => (growR b n 0 w1 g bs.length cap cur h1 ((o1.block g (blk_lt' h3) h2).trans h3) h4 h6 (by omega) hM (one_byteC bs _ _ h5)).mono fun e w2 ⟨he, h9⟩ => ⟨he, ?_⟩)).mono fun e w' ⟨he, h9⟩ => ⟨he, Laid.buf hp h9, h9.frame fun r hr => .inr hr⟩
        obtain ⟨r, cap, cells, k1, k2, k3, k4, k5, k6, k7, k8⟩ := h9
        have hs := o1.size
        exact ⟨r, cap, cells, k2, by omega, Nat.le_trans hs k1, k3, k4, k5.trans h5, k6, k7, o1.trans k8⟩
    · obtain rfl : n = 0 := by omega
      obtain rfl : p = [] := List.eq_nil_of_length_eq_zero hp
      refine (zeroR b g bs.length cap lr A c w h h6 h7).mono fun e w' ⟨he, k1, k2⟩ => ⟨he, ⟨0, .inr ⟨g, cap, cur, by rw [List.append_nil]; exact k1, h2, (k2.block g (blk_lt' h3) h2).trans h3, h4, by rw [List.append_nil]; exact h5, by rw [List.append_nil]; exact h6, h7⟩⟩, k2.os, k2.tape, k2.output, k2.size, fun k hk hn => k2.block k hk (fun e => hn (.inl e)), fun k hk => ?_⟩
      rcases k1.own hk with e | e
      · exact .inl (.inl e)
      · exact .inl (.inr ⟨_, _, _, e ▸ h⟩)
/-- What a buffer holds, read. -/
theorem bufBytes (b : Nat) (bs : List Int) (w : World) (h : BufS w b bs) :
    Calls Tryd.prog 15 #[.pointer (some ⟨b, 0, none⟩)] w fun e w' => ∃ A c, e = .returned (.slice A bs.length c) ∧ ReadsInt w' .u8 A bs.length bs ∧ bs.length ≤ c ∧ (∀ a, A = some a → Own b w a.block) ∧ (A = none → c = 0) ∧ Below w.heap.size w w' := by
  obtain ⟨lr, ⟨rfl, h⟩ | ⟨g, cap, cur, h, h2, h3, h4, h5, h6, h7⟩⟩ := h
  · exact (bytesN b lr w h).mono fun e w' ⟨he, h1, _⟩ => ⟨none, 0, he, ⟨rfl, Nat.zero_le _, fun h => absurd h (Nat.lt_irrefl _)⟩, Nat.le_refl _, (fun a e => by cases e), (fun _ => rfl), h1⟩
  · refine (bytesR b g bs.length cap lr w h h6 h7).mono fun e w' ⟨he, h1, _⟩ => ⟨some ⟨g, 0, none⟩, cap, he, ⟨rfl, by simp only [maxLen] at h7; omega, fun _ => ⟨_, rfl, fun j hj => ?_⟩⟩, h6, fun a e => ?_, (fun e => by cases e), h1⟩
    · rw [show (⟨g, 0, none⟩ : Addr).add j = ⟨g, j, none⟩ from by unfold Addr.add; split <;> simp_all]
      refine cell_of ((h1.block g (blk_lt' h3)).trans h3) ?_
      rw [← Array.getElem?_toList, ← List.getElem?_take_of_lt hj, h5]
      exact byteC_at hj
    · obtain rfl := Option.some.inj e
      exact .inr ⟨_, _, _, h⟩
set_option maxRecDepth 100000 in
theorem mWriteB (a : Addr) : Meth Tryd.prog 46 (.pointer (some a)) "Write" 62 (.pointer (some a)) := fun n w => by kernel_rfl
set_option maxRecDepth 100000 in
theorem nWriteB (a : Addr) : NilNot Tryd.prog 46 (.pointer (some a)) "Write" := fun n w => by kernel_rfl
theorem BufS.same {w w' : World} {b : Nat} {bs : List Int} (h : BufS w b bs) (hk : ∀ k, Own b w k → w'.heap[k]? = w.heap[k]?) : BufS w' b bs ∧ ∀ k, Own b w' k → Own b w k := by
  have hbb := hk b (.inl rfl)
  have hbf : ∀ {v lr}, BfC w' b v lr → BfC w b v lr := fun h => hbb.symm.trans h
  refine ⟨?_, fun k h1 => h1.imp id fun ⟨l, cap, lr, h⟩ => ⟨l, cap, lr, hbf h⟩⟩
  obtain ⟨lr, ⟨rfl, h⟩ | ⟨g, cap, cur, h, h2, h3, h4, h5, h6, h7⟩⟩ := h
  · exact ⟨lr, .inl ⟨rfl, hbb.trans h⟩⟩
  · exact ⟨lr, .inr ⟨g, cap, cur, hbb.trans h, h2, (hk g (.inr ⟨_, _, _, h⟩)).trans h3, h4, h5, h6, h7⟩⟩
/-- A buffer that was made behind w0. -/
def bufSink (w0 : World) (b : Nat) : Sink Tryd.prog w0 46 (.pointer (some ⟨b, 0, none⟩)) 62 140737488355328 where
  St w bs := Below w0.heap.size w0 w ∧ BufS w b bs ∧ ∀ k, Own b w k → w0.heap.size ≤ k
  own w k := Own b w k
  meth := mWriteB _
  nil := nWriteB _
  below h := h.1
  fresh h hk := ⟨h.2.2 _ hk, h.2.1.lt hk⟩
  stay h hb hk := ⟨⟨hb, (h.2.1.same hk).1, fun k h1 => h.2.2 k ((h.2.1.same hk).2 k h1)⟩, (h.2.1.same hk).2⟩
  write {w bs p A c n} h hp hM hc hr ho := (bufWrite b bs p A c n w h.2.1 hp hM hc hr ho).mono fun e w' ⟨he, h5, h6⟩ => ⟨he, ⟨⟨h6.os.trans h.1.os, h6.tape.trans h.1.tape, h6.output.trans h.1.output, Nat.le_trans h.1.size h6.size, fun k hk => (h6.block k (Nat.lt_of_lt_of_le hk h.1.size) (fun hn => Nat.not_le.2 hk (h.2.2 k hn))).trans (h.1.block k hk)⟩, h5, fun k hk => by
    rcases h6.grow k hk with h1 | h1
    · exact h.2.2 k h1
    · exact Nat.le_trans h.1.size h1⟩, h6.os, h6.tape, h6.output, h6.size, h6.block, h6.grow⟩
end Go.Proofs.YtpogfbompljkkaaDoor.Snk
/- A struct, or an array, read, laid, built as a whole. -/
namespace Go.Proofs.YtpogfbompljkkaaDoorW.PrintWords
open Go.RowKit
set_option linter.unusedVariables false
section
variable {P : Program} {ops : Array Oper} {rest : List Oper} {o : Oper} {a : Act} {w : World} {Q : Exit → Act → World → Prop}
/-- A struct, or an array, read as a whole, wherever it lies. -/
theorem run_loadVar_at (w : World) (p : Addr) (ty : TypeId) (cs : List Value) (d : TypeDesc) (hc : ∀ j v, cs[j]? = some v → w.cell? (p.add j) = some v)
    (hu : P.underlying ty = some d) (hd : (match d with | .struct _ | .array _ _ => true | _ => false) = true) (hi : (P.info? ty).map (·.size) = some cs.length) : (loadVar ty p).run P w = .ok (.agg cs.toArray) w := by
  have hl : (loadCells p cs.length).run P w = .ok cs.toArray w := run_loadCells_list (P := P) w p cs (fun j v hv => hc j v (by simpa using hv))
  cases hq : P.info? ty with
  | none => simp [hq] at hi
  | some i =>
    have hs : i.size = cs.length := by simpa [hq] using hi
    have hagg : (isAgg ty).run P w = .ok true w := by
      unfold isAgg
      rw [Sem.run_bind, run_underlying hu w]
      cases d <;> simp_all
    simp [loadVar, Sem.run_bind, hagg, sizeOf, typeInfo, hq, hs, hl]
theorem run_load_at {ρ : Operand → Value} (ty : TypeId) (x : Operand) (ho : o.op = .load ty x) (p : Addr) (hx : ρ x = .pointer (some p)) (cs : List Value) (d : TypeDesc) (hc : ∀ j v, cs[j]? = some v → w.cell? (p.add j) = some v)
    (hu : P.underlying ty = some d) (hd : (match d with | .struct _ | .array _ _ => true | _ => false) = true) (hi : (P.info? ty).map (·.size) = some cs.length) : (execOp ρ o).run P w = .ok (.value (.agg cs.toArray)) w := by
  unfold execOp
  simp only [ho, hx, Instr.loadAt, Instr.sureAddr, Sem.run_bind, Sem.run_pure, Result.andThen_ok, run_loadVar_at w p ty cs d hc hu hd hi]
theorem wpList_load_at (hgd : o.guard = none) (ty : TypeId) (x : Operand) (ho : o.op = .load ty x) (p : Addr) (hx : a.eval x = .pointer (some p)) (cs : List Value) (d : TypeDesc) (hc : ∀ j v, cs[j]? = some v → w.cell? (p.add j) = some v)
    (hu : P.underlying ty = some d) (hd : (match d with | .struct _ | .array _ _ => true | _ => false) = true) (hi : (P.info? ty).map (·.size) = some cs.length) (h : wpList P ops Q rest (a.put o.dst (.agg cs.toArray)) w) : wpList P ops Q (o :: rest) a w :=
  wpList_run hgd _ (run_load_at ty x ho p hx cs d hc hu hd hi) h
theorem at_none {P : Program} {ops : Array Oper} {rest : List Oper} {o : Oper} {a : Act} {w : World} {Q : Exit → Act → World → Prop} (_h : o.dst = none) (h : wpList P ops Q (o :: rest) a w) : wpList P ops Q (o :: rest) a w := h
/-- A store of a whole struct into a block that is told. -/
theorem wpList_store_whole (hgd : o.guard = none) (ty : TypeId) (x y : Operand) (ho : o.op = .store ty x y) (g : Nat) (cells : Array Value) (hx : a.eval x = .pointer (some ⟨g, 0, none⟩)) (hy : a.eval y = .agg cells)
    (t : TypeId) (old : Array Value) (hg : w.heap[g]? = some (.cells old t (0, 0))) (hi : (P.info? ty).map (·.size) = some cells.size) (hold : old.size = cells.size) (h1 : cells.all (·.oneCell') = true) {w0 : World} {B : Nat} (hB : Below B w0 w) (hg0 : B ≤ g)
    (h : ∀ W, W.heap[g]? = some (.cells cells t (0, 0)) → Below B w0 W → (∀ k, k ≠ g → W.heap[k]? = w.heap[k]?) → W.heap.size = w.heap.size → wpList P ops Q rest (a.put o.dst undef) W) : wpList P ops Q (o :: rest) a w := by
  refine wpList_store_row hgd ty x y ho g cells hx hy t old hg hi hold h1 ?_
  have hlt := blk_lt' hg
  have hs : (w.setRow g cells).heap.size = w.heap.size := by simp [World.setRow]
  have hk : ∀ k, k ≠ g → (w.setRow g cells).heap[k]? = w.heap[k]? := fun k hk => by simp [World.setRow, Array.getElem?_modify, Ne.symm hk]
  refine h _ (by simp [World.setRow, Array.getElem?_modify, hg]) ⟨hB.os, hB.tape, hB.output, by rw [hs]; exact hB.size, fun k hk2 => (hk k (by omega)).trans (hB.block k hk2)⟩ hk hs
end
theorem run_built {P : Program} {o : Oper} {w : World} {ρ : Operand → Value} (t : TypeId) (parts : Array (Nat × Operand)) (ho : o.op = .build t parts) (l : List (Nat × Value)) (hp : (parts.map fun (i, x) => (i, ρ x)).toList = l) (cells : Array Value) (h : P.built t l = some cells) : (execOp ρ o).run P w = .ok (.value (.agg cells)) w := by
  subst hp
  unfold execOp
  simp only [ho, Sem.run_bind, run_build w t _ cells h, Result.andThen_ok]
  rfl
theorem uncons_ {n : Nat} (h : List Value) (hl : h.length = n + 1) : ∃ a t, h = a :: t ∧ t.length = n := by
  cases h with
  | nil => simp at hl
  | cons a t => exact ⟨a, t, rfl, by simpa using hl⟩
theorem list32 (t0 : List Value) (l0 : t0.length = 32) : ∃ a0 a1 a2 a3 a4 a5 a6 a7 a8 a9 a10 a11 a12 a13 a14 a15 a16 a17 a18 a19 a20 a21 a22 a23 a24 a25 a26 a27 a28 a29 a30 a31 : Value, t0 = [a0, a1, a2, a3, a4, a5, a6, a7, a8, a9, a10, a11, a12, a13, a14, a15, a16, a17, a18, a19, a20, a21, a22, a23, a24, a25, a26, a27, a28, a29, a30, a31] := by
  obtain ⟨a0, t1, e0, l1⟩ := uncons_ (n := 31) t0 l0
  obtain ⟨a1, t2, e1, l2⟩ := uncons_ (n := 30) t1 l1
  obtain ⟨a2, t3, e2, l3⟩ := uncons_ (n := 29) t2 l2
  obtain ⟨a3, t4, e3, l4⟩ := uncons_ (n := 28) t3 l3
  obtain ⟨a4, t5, e4, l5⟩ := uncons_ (n := 27) t4 l4
  obtain ⟨a5, t6, e5, l6⟩ := uncons_ (n := 26) t5 l5
  obtain ⟨a6, t7, e6, l7⟩ := uncons_ (n := 25) t6 l6
  obtain ⟨a7, t8, e7, l8⟩ := uncons_ (n := 24) t7 l7
  obtain ⟨a8, t9, e8, l9⟩ := uncons_ (n := 23) t8 l8
  obtain ⟨a9, t10, e9, l10⟩ := uncons_ (n := 22) t9 l9
  obtain ⟨a10, t11, e10, l11⟩ := uncons_ (n := 21) t10 l10
  obtain ⟨a11, t12, e11, l12⟩ := uncons_ (n := 20) t11 l11
  obtain ⟨a12, t13, e12, l13⟩ := uncons_ (n := 19) t12 l12
  obtain ⟨a13, t14, e13, l14⟩ := uncons_ (n := 18) t13 l13
  obtain ⟨a14, t15, e14, l15⟩ := uncons_ (n := 17) t14 l14
  obtain ⟨a15, t16, e15, l16⟩ := uncons_ (n := 16) t15 l15
  obtain ⟨a16, t17, e16, l17⟩ := uncons_ (n := 15) t16 l16
  obtain ⟨a17, t18, e17, l18⟩ := uncons_ (n := 14) t17 l17
  obtain ⟨a18, t19, e18, l19⟩ := uncons_ (n := 13) t18 l18
  obtain ⟨a19, t20, e19, l20⟩ := uncons_ (n := 12) t19 l19
  obtain ⟨a20, t21, e20, l21⟩ := uncons_ (n := 11) t20 l20
  obtain ⟨a21, t22, e21, l22⟩ := uncons_ (n := 10) t21 l21
  obtain ⟨a22, t23, e22, l23⟩ := uncons_ (n := 9) t22 l22
  obtain ⟨a23, t24, e23, l24⟩ := uncons_ (n := 8) t23 l23
  obtain ⟨a24, t25, e24, l25⟩ := uncons_ (n := 7) t24 l24
  obtain ⟨a25, t26, e25, l26⟩ := uncons_ (n := 6) t25 l25
  obtain ⟨a26, t27, e26, l27⟩ := uncons_ (n := 5) t26 l26
  obtain ⟨a27, t28, e27, l28⟩ := uncons_ (n := 4) t27 l27
  obtain ⟨a28, t29, e28, l29⟩ := uncons_ (n := 3) t28 l28
  obtain ⟨a29, t30, e29, l30⟩ := uncons_ (n := 2) t29 l29
  obtain ⟨a30, t31, e30, l31⟩ := uncons_ (n := 1) t30 l30
  obtain ⟨a31, t32, e31, l32⟩ := uncons_ (n := 0) t31 l31
  have e := List.length_eq_zero_iff.1 l32
  exact ⟨_, _, _, _, _, _, _, _, _, _, _, _, _, _, _, _, _, _, _, _, _, _, _, _, _, _, _, _, _, _, _, _, by rw [e0, e1, e2, e3, e4, e5, e6, e7, e8, e9, e10, e11, e12, e13, e14, e15, e16, e17, e18, e19, e20, e21, e22, e23, e24, e25, e26, e27, e28, e29, e30, e31, e]⟩
theorem run_boxed {P : Program} {o : Oper} {w : World} {ρ : Operand → Value} (t : TypeId) (x : Operand) (ho : o.op = .box t x) (cs : Array Value) (hx : ρ x = .agg cs) : (execOp ρ o).run P w = .ok (.value (.pointer (some ⟨w.heap.size, 0, none⟩))) (w.alloc (.cells cs t)) := by
  unfold execOp
  simp [ho, hx, Instr.box, newVar, Value.cells, newRow]
end Go.Proofs.YtpogfbompljkkaaDoorW.PrintWords
namespace Go.Proofs.YtpogfbompljkkaaDoorW.PrintLast
open Go.RowKit Go.Proofs.YtpogfbompljkkaaDoorW.PrintWords
/-- An operation of a drawn region that yields a value and turns the world. -/
theorem yval_ {P : Program} {ops : Array Oper} {Q : Exit → Act → World → Prop} {oi : Oper} {N : Option Tmp} {a : Act} {w w1 : World} {K : Act → World → Prop} (v : Value) (hw : Region.wanted oi (yielded ops a.tmps) = true) (hN : oi.dst = N) (hrun : (execOp a.eval oi).run P w = .ok (.value v) w1)
    (h : K (a.put N v) w1) : if Region.wanted oi (yielded ops a.tmps) = true then Oper.wp P oi a w K Q else K (a.put N undef) w := by
  rw [if_pos hw]
  unfold Oper.wp
  rw [hrun]
  subst hN
  exact h
end Go.Proofs.YtpogfbompljkkaaDoorW.PrintLast
/- bytes.Reader: bytes are read. -/
namespace Go.Proofs.YtpogfbompljkkaaDoor.Snk
open Go.RowKit Go.Proofs.YtpogfbompljkkaaDoorW.PrintWords Go.Proofs.YtpogfbompljkkaaDoorW.PrintLast Go.Proofs.YtpogfbompljkkaaDoorW.PrintMore
set_option linter.unusedVariables false
set_option linter.unusedSimpArgs false
/-- A reader's three cells. -/
def RdC (w : World) (b : Nat) (v : Value) (i lr : Int) : Prop := w.heap[b]? = some (.cells #[v, .int .i64 i, .int .i64 lr] 69 (0, 0))
theorem RdC.c0 {w : World} {b : Nat} {v : Value} {i lr : Int} (h : RdC w b v i lr) : w.cell? ⟨b, 0, none⟩ = some v := cell_of h rfl
theorem RdC.c1 {w : World} {b : Nat} {v : Value} {i lr : Int} (h : RdC w b v i lr) : w.cell? ⟨b, 1, none⟩ = some (.int .i64 i) := cell_of h rfl
theorem RdC.c2 {w : World} {b : Nat} {v : Value} {i lr : Int} (h : RdC w b v i lr) : w.cell? ⟨b, 2, none⟩ = some (.int .i64 lr) := cell_of h rfl
theorem RdC.f {w : World} {b : Nat} {v : Value} {i lr : Int} (h : RdC w b v i lr) (j : Nat) : w.frozen? ⟨b, j, none⟩ = false := frozen_of h j
theorem RdC.set1 {w : World} {b : Nat} {v : Value} {i lr : Int} (h : RdC w b v i lr) (x : Int) : RdC (w.setCell ⟨b, 1, none⟩ (.int .i64 x)) b v x lr := heap_set_same h (j := 1) _
theorem RdC.set2 {w : World} {b : Nat} {v : Value} {i lr : Int} (h : RdC w b v i lr) (x : Int) : RdC (w.setCell ⟨b, 2, none⟩ (.int .i64 x)) b v i x := heap_set_same h (j := 2) _
theorem RdC.below {w w1 : World} {b : Nat} {v : Value} {i lr : Int} (h : RdC w b v i lr) (hb : Below w.heap.size w w1) : RdC w1 b v i lr := (hb.block b (blk_lt' h)).trans h
theorem RdC.row {w : World} {b r : Nat} {v : Value} {i lr : Int} (h : RdC w b v i lr) (hr : r ≠ b) (cs : Array Value) : RdC (w.setRow r cs) b v i lr := (setRow_other w r b cs (Ne.symm hr)).trans h
set_option maxRecDepth 100000 in
theorem newReaderC (A : Option Addr) (n c : Nat) (w : World) : Calls Tryd.prog 27 #[.slice A n c] w fun e w' => e = .returned (.pointer (some ⟨w.heap.size, 0, none⟩)) ∧ RdC w' w.heap.size (.slice A n c) 0 (-1) ∧ Below w.heap.size w w' := by
  go_enter Tryd.func27, Tryd.ntmps27
  go_wp2_with fail
  go_ret
  exact ⟨rfl, heap_alloc_new w _, below_alloc (Below.refl _ _) _⟩
set_option maxRecDepth 100000 in
theorem implReaderC (A : Option Addr) (n c : Nat) (w : World) : Calls Tryd.prog 17 #[.slice A n c] w fun e w' => e = .returned (.pointer (some ⟨w.heap.size, 0, none⟩)) ∧ RdC w' w.heap.size (.slice A n c) 0 (-1) ∧ Below w.heap.size w w' := by
  have HC := Aside0.mk (newReaderC A n c w)
  go_enter Tryd.func17, Tryd.ntmps17
  go_wp2_with (go_at_call 27; (with_reducible refine HC.out.mono ?_); rintro e w2 ⟨rfl, k1, k2⟩; have H1 := Aside0.mk k1; have H2 := Aside0.mk k2; clear k1 k2)
  go_ret
  exact ⟨rfl, H1.out, H2.out⟩
/-- A copy of the first of some bytes into a block's places. -/
theorem copyS {W : World} {ρ : Operand → Value} {o : Oper} (d s : Operand) (ho : o.op = .call { callee := .builtin .copy, args := #[d, s], argTypes := #[28, 28] }) {r off n sl dc c : Nat} {A : Option Addr} {q : List Int} {T : TypeId} {cells : Array Value} (hg : W.heap[r]? = some (.cells cells T (0, 0))) (hn : 0 < n) (hsl : n ≤ sl) (hfit : off + n ≤ cells.size)
    (hd : ρ d = .slice (some ⟨r, off, none⟩) n dc) (hs : ρ s = .slice A sl c) (hp : ReadsInt W .u8 A sl q) :
    (execOp ρ o).run Tryd.prog W = .ok (.value (.int .i64 (n : Int))) (W.setRow r (cells.toList.take off ++ (byteC (q.take n) ++ cells.toList.drop (off + n))).toArray) := by
  have hsz : (Tryd.prog.info? 5).map (·.size) = some 1 := by kernel_rfl
  obtain ⟨hl, _, hc⟩ := hp
  obtain ⟨ad, rfl, hcc⟩ := hc (by omega)
  have hb : (byteC (q.take n)).length = n := by rw [byteC_len, List.length_take, hl]; omega
  have hrun := run_copy_row (P := Tryd.prog) W 28 28 o.type 5 r off n dc ad sl c cells T (byteC (q.take n)) Tryd.underlying28 hsz hg (by rw [hb]; exact (Nat.min_eq_right hsl).symm) (fun j v hj => ?_) (by rw [hb]; exact hfit) (fun v hv => ?_)
  · rw [hb] at hrun
    simp [execOp, ho, resolve, invoke, builtin, hd, hs, hrun, Result.andThen]
    rfl
  · have hjl : j < (q.take n).length := by rw [← byteC_len]; exact (List.getElem?_eq_some_iff.1 hj).1
    rw [byteC_at hjl] at hj
    obtain rfl := Option.some.inj hj
    rw [List.length_take] at hjl
    rw [hcc j (by omega), List.getD_eq_getElem?_getD, List.getD_eq_getElem?_getD, List.getElem?_take_of_lt (by omega)]
  · unfold byteC at hv
    obtain ⟨x, _, rfl⟩ := List.mem_map.1 hv
    rfl
theorem add_twoR (a : Addr) (x y : Nat) : (a.add x).add y = a.add (x + y) := by
  unfold Addr.add
  by_cases hx : x = 0
  · subst hx; simp
  · by_cases hy : y = 0
    · subst hy; simp [hx]
    · simp [hx, hy, Nat.add_assoc]
theorem reads_dropR {w : World} {ad : Addr} {n i : Nat} {bs : List Int} (h : ReadsInt w .u8 (some ad) n bs) (hi : i ≤ n) : ReadsInt w .u8 (some (ad.add i)) (n - i) (bs.drop i) := by
  obtain ⟨hl, h63, hc⟩ := h
  refine ⟨by rw [List.length_drop, hl], by omega, fun hp => ⟨_, rfl, fun j hj => ?_⟩⟩
  obtain ⟨ad2, e, hcc⟩ := hc (by omega)
  obtain rfl := Option.some.inj e
  rw [add_twoR, hcc (i + j) (by omega), List.getD_eq_getElem?_getD, List.getD_eq_getElem?_getD, List.getElem?_drop]
theorem Turned.trans {b r : Nat} {w w1 w2 : World} (h : Turned b r w w1) (k : Turned b r w1 w2) : Turned b r w w2 :=
  ⟨k.os.trans h.os, k.tape.trans h.tape, k.output.trans h.output, Nat.le_trans h.size k.size, fun i hi h1 h2 => (k.block i (Nat.lt_of_lt_of_le hi h.size) h1 h2).trans (h.block i hi h1 h2)⟩
theorem Turned.of_below {b r : Nat} {w w1 : World} (h : Below w.heap.size w w1) : Turned b r w w1 := ⟨h.os, h.tape, h.output, h.size, fun k hk _ _ => h.block k hk⟩
theorem Turned.below0 {b r : Nat} {w0 w w1 : World} (h : Below w0.heap.size w0 w) (k : Turned b r w w1) (hb : w0.heap.size ≤ b) (hr : w0.heap.size ≤ r) : Below w0.heap.size w0 w1 :=
  ⟨k.os.trans h.os, k.tape.trans h.tape, k.output.trans h.output, Nat.le_trans h.size k.size, fun i hi => (k.block i (Nat.lt_of_lt_of_le hi h.size) (by omega) (by omega)).trans (h.block i hi)⟩
theorem Turned.of_only {b r : Nat} {w w1 : World} (h : Only b w w1) : Turned b r w w1 := ⟨h.os, h.tape, h.output, h.size, fun k hk h1 _ => h.block k hk h1⟩
theorem Turned.of_only2 {b r : Nat} {w w1 : World} (h : Only r w w1) : Turned b r w w1 := ⟨h.os, h.tape, h.output, h.size, fun k hk _ h2 => h.block k hk h2⟩
set_option maxRecDepth 100000 in
set_option maxHeartbeats 4000000 in
/-- Some bytes are read that are there. -/
theorem readC (w0 : World) (rb gd off m dc i n c : Nat) (lr : Int) (A : Option Addr) (bs : List Int) (cur : Array Value) (T : TypeId) (w : World) (h0 : Below w0.heap.size w0 w) (hrb : w0.heap.size ≤ rb) (hgd : w0.heap.size ≤ gd) (hne : gd ≠ rb) (hr : ReadsInt w0 .u8 A n bs) (hc : n ≤ c) (hn : n ≤ 1000000000)
    (h : RdC w rb (.slice A n c) i lr) (hm : 0 < m) (him : i + m ≤ n) (hg : w.heap[gd]? = some (.cells cur T (0, 0))) (hfit : off + m ≤ cur.size) :
    Calls Tryd.prog 69 #[.pointer (some ⟨rb, 0, none⟩), .slice (some ⟨gd, off, none⟩) m dc] w fun e w' => e = .returned (.tuple #[.int .i64 (m : Int), .nilIface]) ∧ RdC w' rb (.slice A n c) ((i + m : Nat) : Int) (-1) ∧ w'.heap[gd]? = some (.cells (cur.toList.take off ++ (byteC ((bs.drop i).take m) ++ cur.toList.drop (off + m))).toArray T (0, 0)) ∧ Turned rb gd w w' := by
  obtain ⟨ad, hAd, _⟩ := hr.2.2 (by omega)
  subst hAd
  have HR0 := Aside0.mk hr
  have HB0 := Aside0.mk h0
  have HG := Aside0.mk hg
  have HFIT := Aside0.mk hfit
  have HRB := Aside0.mk hrb
  have HGD := Aside0.mk hgd
  have HNE := Aside0.mk hne
  have HM := Aside0.mk hm
  have H := Aside0.mk h
  have HIM := Aside0.mk him
  have hni : ¬ (n : Int) ≤ (i : Int) := by omega
  have hni2 : ¬ n ≤ i := by omega
  have hi0 : (0 : Int) ≤ (i : Int) := by omega
  have hin : (i : Int) ≤ (n : Int) := by omega
  have hin2 : i ≤ n := by omega
  have hnc : (n : Int) ≤ (c : Int) := by omega
  have hic : (i : Int) ≤ (c : Int) := by omega
  have hci : ¬ c = i := by omega
  have hw : wrap64 ((i : Int) + (m : Int)) = ((i + m : Nat) : Int) := by unfold wrap64; omega
  have HW := Aside0.mk hw
  clear hr h0 hg hfit hrb hgd hne hm h hw
  go_enter Tryd.func69, Tryd.ntmps69
  go_upto_region 1 with fail
  refine start_ (n := 10) (S := fun w' => w'.cell? ⟨rb, 0, none⟩ = some (.slice (some ad) n c) ∧ w'.cell? ⟨rb, 1, none⟩ = some (.int .i64 (i : Int))) (ds := []) #[false, false, false, false, false, false, false, false, false, false] (by kernel_rfl) rfl rfl ⟨H.out.c0, H.out.c1⟩ (fun hHeld => ?_)
  refine pure_ (i := 0) (N := some 6) (v := ?_) (a' := ?_) #[true, false, false, false, false, false, false, false, false, false] rfl rfl (by kernel_rfl) (fun _ _ _ h => h) (Or.inl ⟨by rfl, ?_⟩) ?_ ?_
  rotate_left
  · intro w'
    go_simp
    with_reducible rfl
  rotate_left
  · simp only [Act.put, List.setIfInBounds_toArray, List.set_cons_zero, List.set_cons_succ, i64_w, i32_w]
    rfl
  refine pure_ (i := 1) (N := some 7) (v := ?_) (a' := ?_) #[true, true, false, false, false, false, false, false, false, false] rfl rfl (by kernel_rfl) (fun _ _ _ h => h) (Or.inl ⟨by rfl, ?_⟩) ?_ ?_
  rotate_left
  · intro w'
    go_simp
    with_reducible rfl
  rotate_left
  · simp only [Act.put, List.setIfInBounds_toArray, List.set_cons_zero, List.set_cons_succ, i64_w, i32_w]
    rfl
  refine pure_ (i := 2) (N := some 8) (v := ?_) (a' := ?_) #[true, true, true, false, false, false, false, false, false, false] rfl rfl (by kernel_rfl) (fun _ _ _ h => h) (Or.inl ⟨by rfl, ?_⟩) ?_ ?_
  rotate_left
  · intro w'
    go_simp
    with_reducible rfl
  rotate_left
  · simp only [Act.put, List.setIfInBounds_toArray, List.set_cons_zero, List.set_cons_succ, i64_w, i32_w]
    rfl
  refine take_ (i := 3) (N := some 9) (v := ?_) (a' := ?_) #[true, true, true, true, false, false, false, false, false, false] rfl rfl (by kernel_rfl) (fun _ _ _ h => h) (Or.inl ⟨by rfl, ?_⟩) hHeld ?_ ?_
  rotate_left
  · rintro w' ⟨s0, s1⟩
    go_simp
    with_reducible rfl
  rotate_left
  · simp only [Act.put, List.setIfInBounds_toArray, List.set_cons_zero, List.set_cons_succ, i64_w, i32_w]
    rfl
  refine pure_ (i := 4) (N := some 10) (v := ?_) (a' := ?_) #[true, true, true, true, true, false, false, false, false, false] rfl rfl (by kernel_rfl) (fun _ _ _ h => h) (Or.inl ⟨by rfl, ?_⟩) ?_ ?_
  rotate_left
  · intro w'
    go_simp
    with_reducible rfl
  rotate_left
  · simp only [Act.put, List.setIfInBounds_toArray, List.set_cons_zero, List.set_cons_succ, i64_w, i32_w]
    rfl
  refine pure_ (i := 5) (N := some 11) (v := ?_) (a' := ?_) #[true, true, true, true, true, true, false, false, false, false] rfl rfl (by kernel_rfl) (fun _ _ _ h => h) (Or.inl ⟨by rfl, ?_⟩) ?_ ?_
  rotate_left
  · intro w'
    go_simp
    with_reducible rfl
  rotate_left
  · simp only [Act.put, List.setIfInBounds_toArray, List.set_cons_zero, List.set_cons_succ, i64_w, i32_w]
    rfl
  refine pure_ (i := 6) (N := some 12) (v := ?_) (a' := ?_) #[true, true, true, true, true, true, true, false, false, false] rfl rfl (by kernel_rfl) (fun _ _ _ h => h) (Or.inl ⟨by rfl, ?_⟩) ?_ ?_
  rotate_left
  · intro w'
    go_simp
    with_reducible rfl
  rotate_left
  · simp only [Act.put, List.setIfInBounds_toArray, List.set_cons_zero, List.set_cons_succ, i64_w, i32_w]
    rfl
  refine take_ (i := 7) (N := some 13) (v := ?_) (a' := ?_) #[true, true, true, true, true, true, true, true, false, false] rfl rfl (by kernel_rfl) (fun _ _ _ h => h) (Or.inl ⟨by rfl, ?_⟩) hHeld ?_ ?_
  rotate_left
  · rintro w' ⟨s0, s1⟩
    go_simp
    with_reducible rfl
  rotate_left
  · simp only [Act.put, List.setIfInBounds_toArray, List.set_cons_zero, List.set_cons_succ, i64_w, i32_w]
    rfl
  refine pure_ (i := 8) (N := some 14) (v := ?_) (a' := ?_) #[true, true, true, true, true, true, true, true, true, false] rfl rfl (by kernel_rfl) (fun _ _ _ h => h) (Or.inl ⟨by rfl, ?_⟩) ?_ ?_
  rotate_left
  · intro w'
    go_simp
    with_reducible rfl
  rotate_left
  · simp only [Act.put, List.setIfInBounds_toArray, List.set_cons_zero, List.set_cons_succ, i64_w, i32_w]
    rfl
  refine pure_ (i := 9) (N := some 15) (v := ?_) (a' := ?_) #[true, true, true, true, true, true, true, true, true, true] rfl rfl (by kernel_rfl) (fun _ _ _ h => h) (Or.inl ⟨by rfl, ?_⟩) ?_ ?_
  rotate_left
  · intro w'
    go_simp
    with_reducible rfl
  rotate_left
  · simp only [Act.put, List.setIfInBounds_toArray, List.set_cons_zero, List.set_cons_succ, i64_w, i32_w]
    rfl
  refine done_ (by kernel_rfl) ?_
  obtain ⟨u1, hu1⟩ : ∃ x, x = World.drew w := ⟨_, rfl⟩
  rw [← hu1]
  have U1 : Aside0 (RdC u1 rb (.slice (some ad) n c) i lr) := ⟨by rw [hu1]; exact H.out⟩
  have G1 : Aside0 (u1.heap[gd]? = some (.cells cur T (0, 0))) := ⟨by rw [hu1]; exact HG.out⟩
  have B1 : Aside0 (Below w.heap.size w u1) := ⟨by rw [hu1]; exact below_drew (Below.refl _ _)⟩
  clear hu1
  have c2 := U1.out.c2
  have f2 := U1.out.f 2
  go_upto_region 4 with fail
  generalize hw2 : World.setCell _ _ _ = u2
  have U2 : Aside0 (RdC u2 rb (.slice (some ad) n c) i (-1)) := ⟨by rw [← hw2]; exact U1.out.set2 _⟩
  have O2 : Aside0 (Only rb u1 u2) := ⟨by rw [← hw2]; exact (Only.refl _ _).set _ _⟩
  have G2 : Aside0 (u2.heap[gd]? = some (.cells cur T (0, 0))) := ⟨(O2.out.block gd (blk_lt' G1.out) HNE.out).trans G1.out⟩
  clear hw2 c2 f2
  have T2 : Aside0 (Turned rb gd w u2) := ⟨(Turned.of_below B1.out).trans (.of_only O2.out)⟩
  have R2 : Aside0 (ReadsInt u2 .u8 (some (ad.add i)) (n - i) (bs.drop i)) := ⟨reads_dropR (HR0.out.below (Turned.below0 HB0.out T2.out HRB.out HGD.out)) (by have := HIM.out; omega)⟩
  refine start_ (n := 12) (S := fun w' => w'.cell? ⟨rb, 0, none⟩ = some (.slice (some ad) n c) ∧ w'.cell? ⟨rb, 1, none⟩ = some (.int .i64 (i : Int))) (ds := [10]) #[false, false, false, false, false, false, false, false, false, false, false, false] (by kernel_rfl) rfl rfl ⟨U2.out.c0, U2.out.c1⟩ (fun hHeld => ?_)
  generalize hu3 : World.drew u2 = u3 at hHeld ⊢
  have U3 : Aside0 (RdC u3 rb (.slice (some ad) n c) i (-1)) := ⟨by rw [← hu3]; exact U2.out⟩
  have G3 : Aside0 (u3.heap[gd]? = some (.cells cur T (0, 0))) := ⟨by rw [← hu3]; exact G2.out⟩
  have R3 : Aside0 (ReadsInt u3 .u8 (some (ad.add i)) (n - i) (bs.drop i)) := ⟨by rw [← hu3]; exact R2.out⟩
  have T3 : Aside0 (Turned rb gd w u3) := ⟨by rw [← hu3]; exact T2.out.trans (.of_below (below_drew (Below.refl _ _)))⟩
  clear hu3
  refine pure_ (i := 0) (N := some 20) (v := ?_) (a' := ?_) #[true, false, false, false, false, false, false, false, false, false, false, false] rfl rfl (by kernel_rfl) (fun _ _ _ h => h) (Or.inl ⟨by rfl, ?_⟩) ?_ ?_
  rotate_left
  · intro w'
    go_simp
    with_reducible rfl
  rotate_left
  · simp only [Act.put, List.setIfInBounds_toArray, List.set_cons_zero, List.set_cons_succ, i64_w, i32_w]
    rfl
  refine pure_ (i := 1) (N := some 21) (v := ?_) (a' := ?_) #[true, true, false, false, false, false, false, false, false, false, false, false] rfl rfl (by kernel_rfl) (fun _ _ _ h => h) (Or.inl ⟨by rfl, ?_⟩) ?_ ?_
  rotate_left
  · intro w'
    go_simp
    with_reducible rfl
  rotate_left
  · simp only [Act.put, List.setIfInBounds_toArray, List.set_cons_zero, List.set_cons_succ, i64_w, i32_w]
    rfl
  refine pure_ (i := 2) (N := some 22) (v := ?_) (a' := ?_) #[true, true, true, false, false, false, false, false, false, false, false, false] rfl rfl (by kernel_rfl) (fun _ _ _ h => h) (Or.inl ⟨by rfl, ?_⟩) ?_ ?_
  rotate_left
  · intro w'
    go_simp
    with_reducible rfl
  rotate_left
  · simp only [Act.put, List.setIfInBounds_toArray, List.set_cons_zero, List.set_cons_succ, i64_w, i32_w]
    rfl
  refine pure_ (i := 3) (N := some 23) (v := ?_) (a' := ?_) #[true, true, true, true, false, false, false, false, false, false, false, false] rfl rfl (by kernel_rfl) (fun _ _ _ h => h) (Or.inl ⟨by rfl, ?_⟩) ?_ ?_
  rotate_left
  · intro w'
    go_simp
    with_reducible rfl
  rotate_left
  · simp only [Act.put, List.setIfInBounds_toArray, List.set_cons_zero, List.set_cons_succ, i64_w, i32_w]
    rfl
  refine take_ (i := 4) (N := some 24) (v := ?_) (a' := ?_) #[true, true, true, true, true, false, false, false, false, false, false, false] rfl rfl (by kernel_rfl) (fun _ _ _ h => h) (Or.inl ⟨by rfl, ?_⟩) hHeld ?_ ?_
  rotate_left
  · rintro w' ⟨s0, s1⟩
    go_simp
    with_reducible rfl
  rotate_left
  · simp only [Act.put, List.setIfInBounds_toArray, List.set_cons_zero, List.set_cons_succ, i64_w, i32_w]
    rfl
  refine pure_ (i := 5) (N := some 25) (v := ?_) (a' := ?_) #[true, true, true, true, true, true, false, false, false, false, false, false] rfl rfl (by kernel_rfl) (fun _ _ _ h => h) (Or.inl ⟨by rfl, ?_⟩) ?_ ?_
  rotate_left
  · intro w'
    go_simp
    with_reducible rfl
  rotate_left
  · simp only [Act.put, List.setIfInBounds_toArray, List.set_cons_zero, List.set_cons_succ, i64_w, i32_w]
    rfl
  refine pure_ (i := 6) (N := some 26) (v := ?_) (a' := ?_) #[true, true, true, true, true, true, true, false, false, false, false, false] rfl rfl (by kernel_rfl) (fun _ _ _ h => h) (Or.inl ⟨by rfl, ?_⟩) ?_ ?_
  rotate_left
  · intro w'
    go_simp
    with_reducible rfl
  rotate_left
  · simp only [Act.put, List.setIfInBounds_toArray, List.set_cons_zero, List.set_cons_succ, i64_w, i32_w]
    rfl
  refine pure_ (i := 7) (N := some 27) (v := ?_) (a' := ?_) #[true, true, true, true, true, true, true, true, false, false, false, false] rfl rfl (by kernel_rfl) (fun _ _ _ h => h) (Or.inl ⟨by rfl, ?_⟩) ?_ ?_
  rotate_left
  · intro w'
    go_simp
    with_reducible rfl
  rotate_left
  · simp only [Act.put, List.setIfInBounds_toArray, List.set_cons_zero, List.set_cons_succ, i64_w, i32_w]
    rfl
  refine take_ (i := 8) (N := some 28) (v := ?_) (a' := ?_) #[true, true, true, true, true, true, true, true, true, false, false, false] rfl rfl (by kernel_rfl) (fun _ _ _ h => h) (Or.inl ⟨by rfl, ?_⟩) hHeld ?_ ?_
  rotate_left
  · rintro w' ⟨s0, s1⟩
    go_simp
    with_reducible rfl
  rotate_left
  · simp only [Act.put, List.setIfInBounds_toArray, List.set_cons_zero, List.set_cons_succ, i64_w, i32_w]
    rfl
  refine pure_ (i := 9) (N := some 29) (v := ?_) (a' := ?_) #[true, true, true, true, true, true, true, true, true, true, false, false] rfl rfl (by kernel_rfl) (fun _ _ _ h => h) (Or.inl ⟨by rfl, ?_⟩) ?_ ?_
  rotate_left
  · intro w'
    go_simp
    with_reducible rfl
  rotate_left
  · simp only [Act.put, List.setIfInBounds_toArray, List.set_cons_zero, List.set_cons_succ, i64_w, i32_w]
    rfl
  refine last_ (i := 10) (N := some 30) #[true, true, true, true, true, true, true, true, true, true, true, false] rfl rfl (by kernel_rfl) (by decide) (fun K hK => ?_)
  refine yval_ _ (by rfl) rfl (copyS (W := u3) (.tmp 20) (.tmp 29) rfl G3.out HM.out (by have := HIM.out; omega) HFIT.out (by rfl) (by rfl) R3.out) ?_
  refine hK.out _ _ ?_
  clear hK K
  refine norm_ (a' := ?_) ?_ ?_
  rotate_left
  · show Act.put _ (some 30) _ = _
    simp only [Act.put, List.setIfInBounds_toArray, List.set_cons_zero, List.set_cons_succ, i64_w, i32_w]
    rfl
  refine pure_ (i := 11) (N := some 4) (v := ?_) (a' := ?_) #[true, true, true, true, true, true, true, true, true, true, true, true] rfl rfl (by kernel_rfl) (fun _ _ _ h => h) (Or.inl ⟨by rfl, ?_⟩) ?_ ?_
  rotate_left
  · intro w'
    go_simp
    with_reducible rfl
  rotate_left
  · simp only [Act.put, List.setIfInBounds_toArray, List.set_cons_zero, List.set_cons_succ, i64_w, i32_w]
    rfl
  refine done_ (by kernel_rfl) ?_
  generalize hw4 : World.setRow _ _ _ = u4
  have U4 : Aside0 (RdC u4 rb (.slice (some ad) n c) i (-1)) := ⟨by rw [← hw4]; exact U3.out.row HNE.out _⟩
  have G4 : Aside0 (u4.heap[gd]? = some (.cells (cur.toList.take off ++ (byteC ((bs.drop i).take m) ++ cur.toList.drop (off + m))).toArray T (0, 0))) := ⟨by rw [← hw4]; exact setRow_heap _ _ _ _ _ _ G3.out⟩
  have T4 : Aside0 (Turned rb gd w u4) := ⟨by rw [← hw4]; exact T3.out.trans (.row (Only.refl _ _) _)⟩
  clear hw4
  have c1 := U4.out.c1
  have f1 := U4.out.f 1
  go_wp2_with fail
  go_ret2
  refine ⟨rfl, ?_, ?_, ?_⟩
  · exact U4.out.set1 _
  · exact (((Only.refl rb u4).set _ _).block gd (blk_lt' G4.out) HNE.out).trans G4.out
  · exact T4.out.trans (.of_only ((Only.refl _ _).set _ _))
end Go.Proofs.YtpogfbompljkkaaDoor.Snk
/- io.ReadFull, where there is enough. -/
namespace Go.Proofs.YtpogfbompljkkaaDoor.Snk
open Go.RowKit Go.Proofs.YtpogfbompljkkaaDoorW.PrintWords Go.Proofs.YtpogfbompljkkaaDoorW.PrintLast Go.Proofs.YtpogfbompljkkaaDoorW.PrintMore
set_option linter.unusedVariables false
set_option linter.unusedSimpArgs false
theorem wr64 (x : Int) (h0 : 0 ≤ x) (h1 : x ≤ 9223372036854775807) : wrap64 x = x := by unfold wrap64; omega
set_option maxRecDepth 100000 in
theorem mReadR (a : Addr) : Meth Tryd.prog 51 (.pointer (some a)) "Read" 69 (.pointer (some a)) := fun n w => by kernel_rfl
set_option maxRecDepth 100000 in
theorem nReadR (a : Addr) : NilNot Tryd.prog 51 (.pointer (some a)) "Read" := fun n w => by kernel_rfl
set_option maxRecDepth 100000 in
set_option maxHeartbeats 4000000 in
theorem readAtLeastC (w0 : World) (rb gd off m dc i n c : Nat) (lr : Int) (A : Option Addr) (bs : List Int) (cur : Array Value) (T : TypeId) (w : World) (h0 : Below w0.heap.size w0 w) (hrb : w0.heap.size ≤ rb) (hgd : w0.heap.size ≤ gd) (hne : gd ≠ rb) (hr : ReadsInt w0 .u8 A n bs) (hc : n ≤ c) (hn : n ≤ 1000000000)
    (h : RdC w rb (.slice A n c) i lr) (hm : 0 < m) (hdc : m ≤ dc) (him : i + m ≤ n) (hg : w.heap[gd]? = some (.cells cur T (0, 0))) (hfit : off + m ≤ cur.size) :
    Calls Tryd.prog 42 #[.iface 51 (.pointer (some ⟨rb, 0, none⟩)), .slice (some ⟨gd, off, none⟩) m dc, .int .i64 (m : Int)] w fun e w' => e = .returned (.tuple #[.int .i64 (m : Int), .nilIface]) ∧ RdC w' rb (.slice A n c) ((i + m : Nat) : Int) (-1) ∧ w'.heap[gd]? = some (.cells (cur.toList.take off ++ (byteC ((bs.drop i).take m) ++ cur.toList.drop (off + m))).toArray T (0, 0)) ∧ Turned rb gd w w' := by
  have HC : Aside0 (∀ w1, RdC w1 rb (.slice A n c) i lr → w1.heap[gd]? = some (.cells cur T (0, 0)) → Turned rb gd w w1 → Calls Tryd.prog 69 #[.pointer (some ⟨rb, 0, none⟩), .slice (some ⟨gd, off, none⟩) m dc] w1 fun e w' => e = .returned (.tuple #[.int .i64 (m : Int), .nilIface]) ∧ RdC w' rb (.slice A n c) ((i + m : Nat) : Int) (-1) ∧ w'.heap[gd]? = some (.cells (cur.toList.take off ++ (byteC ((bs.drop i).take m) ++ cur.toList.drop (off + m))).toArray T (0, 0)) ∧ Turned rb gd w w') := ⟨fun w1 k1 k2 k3 =>
    (readC w0 rb gd off m dc i n c lr A bs cur T w1 (Turned.below0 h0 k3 hrb hgd) hrb hgd hne hr hc hn k1 hm him k2 hfit).mono fun e w' ⟨q1, q2, q3, q4⟩ => ⟨q1, q2, q3, k3.trans q4⟩⟩
  have H := Aside0.mk h
  have HG := Aside0.mk hg
  obtain ⟨cur2, hcur2⟩ : ∃ x, (cur.toList.take off ++ (byteC ((bs.drop i).take m) ++ cur.toList.drop (off + m))).toArray = x := ⟨_, rfl⟩
  rw [hcur2] at HC ⊢
  have hm0 : (0 : Int) < (m : Int) := by omega
  have hm1 : 0 < m := hm
  have hmm : ¬ (m : Int) < (m : Int) := by omega
  have hmm2 : (m : Int) ≤ (m : Int) := by omega
  have hmb : (m : Int) ≤ 1000000000 := by omega
  have hdc0 : ¬ dc = 0 := by omega
  have hmdc : (m : Int) ≤ (dc : Int) := by omega
  have hw : wrap64 (0 + (m : Int)) = (m : Int) := by rw [Int.zero_add]; exact wr64 _ (by omega) (by omega)
  have HW := Aside0.mk hw
  clear hw
  have hw2 : wrap64 (m : Int) = (m : Int) := wr64 _ (by omega) (by omega)
  have HW2 := Aside0.mk hw2
  have HMP := Aside0.mk hm
  clear h0 hrb hgd hne hr hc hn h hm him hg hfit hcur2 hdc hw2
  go_enter Tryd.func42, Tryd.ntmps42
  go_upto_region 3 with fail
  go_loopw [6, 7] (fun v6 v7 wr => (v6 = .int .i64 0 ∧ v7 = .nilIface ∧ Aside0 (RdC wr rb (.slice A n c) i lr) ∧ Aside0 (wr.heap[gd]? = some (.cells cur T (0, 0))) ∧ Aside0 (Turned rb gd w wr)) ∨ (v6 = .int .i64 (m : Int) ∧ v7 = .nilIface ∧ Aside0 (RdC wr rb (.slice A n c) ((i + m : Nat) : Int) (-1)) ∧ Aside0 (wr.heap[gd]? = some (.cells cur2 T (0, 0))) ∧ Aside0 (Turned rb gd w wr))) (fun v6 v7 _ => m - (intOf v6).toNat)
  case atStart => exact .inl ⟨rfl, rfl, H, HG, ⟨.of_below (Below.refl _ _)⟩⟩
  case round =>
    rcases hrel with ⟨rfl, rfl, K1, K2, K3⟩ | ⟨rfl, rfl, K1, K2, K3⟩
    · go_upto_region 5 with fail
      refine start_ (n := 13) (S := fun w' => True) (ds := []) #[false, false, false, false, false, false, false, false, false, false, false, false, false] (by kernel_rfl) rfl rfl trivial (fun hHeld => ?_)
      have D1 : Aside0 (RdC (World.drew wr) rb (.slice A n c) i lr) := ⟨K1.out⟩
      have D2 : Aside0 ((World.drew wr).heap[gd]? = some (.cells cur T (0, 0))) := ⟨K2.out⟩
      have D3 : Aside0 (Turned rb gd w (World.drew wr)) := ⟨K3.out.trans (.of_below (below_drew (Below.refl _ _)))⟩
      refine pure_ (i := 0) (N := some 22) (v := ?_) (a' := ?_) #[true, false, false, false, false, false, false, false, false, false, false, false, false] rfl rfl (by kernel_rfl) (fun _ _ _ h => h) (Or.inl ⟨by rfl, ?_⟩) ?_ ?_
      rotate_left
      · intro w'
        go_simp
        with_reducible rfl
      rotate_left
      · simp only [Act.put, List.setIfInBounds_toArray, List.set_cons_zero, List.set_cons_succ, i64_w, i32_w]
        rfl
      refine pure_ (i := 1) (N := some 23) (v := ?_) (a' := ?_) #[true, true, false, false, false, false, false, false, false, false, false, false, false] rfl rfl (by kernel_rfl) (fun _ _ _ h => h) (Or.inl ⟨by rfl, ?_⟩) ?_ ?_
      rotate_left
      · intro w'
        go_simp
        with_reducible rfl
      rotate_left
      · simp only [Act.put, List.setIfInBounds_toArray, List.set_cons_zero, List.set_cons_succ, i64_w, i32_w]
        rfl
      refine pure_ (i := 2) (N := some 24) (v := ?_) (a' := ?_) #[true, true, true, false, false, false, false, false, false, false, false, false, false] rfl rfl (by kernel_rfl) (fun _ _ _ h => h) (Or.inl ⟨by rfl, ?_⟩) ?_ ?_
      rotate_left
      · intro w'
        go_simp
        with_reducible rfl
      rotate_left
      · simp only [Act.put, List.setIfInBounds_toArray, List.set_cons_zero, List.set_cons_succ, i64_w, i32_w]
        rfl
      refine pure_ (i := 3) (N := some 25) (v := ?_) (a' := ?_) #[true, true, true, true, false, false, false, false, false, false, false, false, false] rfl rfl (by kernel_rfl) (fun _ _ _ h => h) (Or.inl ⟨by rfl, ?_⟩) ?_ ?_
      rotate_left
      · intro w'
        go_simp
        with_reducible rfl
      rotate_left
      · simp only [Act.put, List.setIfInBounds_toArray, List.set_cons_zero, List.set_cons_succ, i64_w, i32_w]
        rfl
      refine pure_ (i := 4) (N := some 26) (v := ?_) (a' := ?_) #[true, true, true, true, true, false, false, false, false, false, false, false, false] rfl rfl (by kernel_rfl) (fun _ _ _ h => h) (Or.inl ⟨by rfl, ?_⟩) ?_ ?_
      rotate_left
      · intro w'
        go_simp
        with_reducible rfl
      rotate_left
      · simp only [Act.put, List.setIfInBounds_toArray, List.set_cons_zero, List.set_cons_succ, i64_w, i32_w]
        rfl
      refine pure_ (i := 5) (N := some 27) (v := ?_) (a' := ?_) #[true, true, true, true, true, true, false, false, false, false, false, false, false] rfl rfl (by kernel_rfl) (fun _ _ _ h => h) (Or.inl ⟨by rfl, ?_⟩) ?_ ?_
      rotate_left
      · intro w'
        refine nil_run (nReadR ⟨rb, 0, none⟩) _ (.tmp 26) ?_ ?_ <;> rfl
      rotate_left
      · simp only [Act.put, List.setIfInBounds_toArray, List.set_cons_zero, List.set_cons_succ, i64_w, i32_w]
        rfl
      refine pure_ (i := 6) (N := some 28) (v := ?_) (a' := ?_) #[true, true, true, true, true, true, true, false, false, false, false, false, false] rfl rfl (by kernel_rfl) (fun _ _ _ h => h) (Or.inl ⟨by rfl, ?_⟩) ?_ ?_
      rotate_left
      · intro w'
        go_simp
        with_reducible rfl
      rotate_left
      · simp only [Act.put, List.setIfInBounds_toArray, List.set_cons_zero, List.set_cons_succ, i64_w, i32_w]
        rfl
      refine one_ (i := 7) (N := some 29) #[true, true, true, true, true, true, true, true, false, false, false, false, false] rfl rfl (by kernel_rfl) (by decide) (fun K hK => ?_)
      refine goesI_ (by rfl) rfl (.tmp 28) "Read" rfl 51 (.pointer (some ⟨rb, 0, none⟩)) rfl 69 (mReadR ⟨rb, 0, none⟩) Tryd.func69 (by kernel_rfl) rfl #[.pointer (some ⟨rb, 0, none⟩), .slice (some ⟨gd, off, none⟩) m dc] (by (try simp only [List.map_toArray, List.map_cons, List.map_nil]); first | done | rfl | (simp only [List.length_drop, List.length_take]; rfl)) ?_
      with_reducible refine (HC.out _ D1.out D2.out D3.out).mono ?_
      rintro e w2 ⟨rfl, k1, k2, k3⟩
      refine ⟨_, rfl, ?_⟩
      have L1 := Aside0.mk k1
      have L2 := Aside0.mk k2
      have L3 := Aside0.mk k3
      clear k1 k2 k3
      refine hK.out _ _ trivial (fun hHeld => ?_)
      clear hK K
      refine norm_ (a' := ?_) ?_ ?_
      rotate_left
      · show Act.put _ (some 29) _ = _
        simp only [Act.put, List.setIfInBounds_toArray, List.set_cons_zero, List.set_cons_succ, i64_w, i32_w]
        rfl
      refine pure_ (i := 8) (N := some 21) (v := ?_) (a' := ?_) #[true, true, true, true, true, true, true, true, true, false, false, false, false] rfl rfl (by kernel_rfl) (fun _ _ _ h => h) (Or.inl ⟨by rfl, ?_⟩) ?_ ?_
      rotate_left
      · intro w'
        go_simp
        with_reducible rfl
      rotate_left
      · simp only [Act.put, List.setIfInBounds_toArray, List.set_cons_zero, List.set_cons_succ, i64_w, i32_w]
        rfl
      refine pure_ (i := 9) (N := some 30) (v := ?_) (a' := ?_) #[true, true, true, true, true, true, true, true, true, true, false, false, false] rfl rfl (by kernel_rfl) (fun _ _ _ h => h) (Or.inl ⟨by rfl, ?_⟩) ?_ ?_
      rotate_left
      · intro w'
        go_simp
        with_reducible rfl
      rotate_left
      · simp only [Act.put, List.setIfInBounds_toArray, List.set_cons_zero, List.set_cons_succ, i64_w, i32_w]
        rfl
      refine pure_ (i := 10) (N := some 31) (v := ?_) (a' := ?_) #[true, true, true, true, true, true, true, true, true, true, true, false, false] rfl rfl (by kernel_rfl) (fun _ _ _ h => h) (Or.inl ⟨by rfl, ?_⟩) ?_ ?_
      rotate_left
      · intro w'
        go_simp
        with_reducible rfl
      rotate_left
      · simp only [Act.put, List.setIfInBounds_toArray, List.set_cons_zero, List.set_cons_succ, i64_w, i32_w]
        rfl
      refine pure_ (i := 11) (N := some 8) (v := ?_) (a' := ?_) #[true, true, true, true, true, true, true, true, true, true, true, true, false] rfl rfl (by kernel_rfl) (fun _ _ _ h => h) (Or.inl ⟨by rfl, ?_⟩) ?_ ?_
      rotate_left
      · intro w'
        go_simp
        with_reducible rfl
      rotate_left
      · simp only [Act.put, List.setIfInBounds_toArray, List.set_cons_zero, List.set_cons_succ, i64_w, i32_w]
        rfl
      refine pure_ (i := 12) (N := some 7) (v := ?_) (a' := ?_) #[true, true, true, true, true, true, true, true, true, true, true, true, true] rfl rfl (by kernel_rfl) (fun _ _ _ h => h) (Or.inl ⟨by rfl, ?_⟩) ?_ ?_
      rotate_left
      · intro w'
        go_simp
        with_reducible rfl
      rotate_left
      · simp only [Act.put, List.setIfInBounds_toArray, List.set_cons_zero, List.set_cons_succ, i64_w, i32_w]
        rfl
      refine done_ (by kernel_rfl) ?_
      have hw := HW.out
      have hw2 := HW2.out
      go_wp2_with fail
      clear hw hw2
      go_roundw
      case rel => exact .inr ⟨by go_num, rfl, L1, L2, L3⟩
      case measure => simp [intOf]; have := HMP.out; omega
    · go_wp2_with fail
      go_ret2
      exact ⟨rfl, K1.out, K2.out, K3.out⟩
set_option maxRecDepth 100000 in
set_option maxHeartbeats 4000000 in
theorem readFullC (w0 : World) (rb gd off m dc i n c : Nat) (lr : Int) (A : Option Addr) (bs : List Int) (cur : Array Value) (T : TypeId) (w : World) (h0 : Below w0.heap.size w0 w) (hrb : w0.heap.size ≤ rb) (hgd : w0.heap.size ≤ gd) (hne : gd ≠ rb) (hr : ReadsInt w0 .u8 A n bs) (hc : n ≤ c) (hn : n ≤ 1000000000)
    (h : RdC w rb (.slice A n c) i lr) (hm : 0 < m) (hdc : m ≤ dc) (him : i + m ≤ n) (hg : w.heap[gd]? = some (.cells cur T (0, 0))) (hfit : off + m ≤ cur.size) :
    Calls Tryd.prog 33 #[.iface 51 (.pointer (some ⟨rb, 0, none⟩)), .slice (some ⟨gd, off, none⟩) m dc] w fun e w' => e = .returned (.tuple #[.int .i64 (m : Int), .nilIface]) ∧ RdC w' rb (.slice A n c) ((i + m : Nat) : Int) (-1) ∧ w'.heap[gd]? = some (.cells (cur.toList.take off ++ (byteC ((bs.drop i).take m) ++ cur.toList.drop (off + m))).toArray T (0, 0)) ∧ Turned rb gd w w' := by
  have HC := Aside0.mk (readAtLeastC w0 rb gd off m dc i n c lr A bs cur T w h0 hrb hgd hne hr hc hn h hm hdc him hg hfit)
  clear h0 hrb hgd hne hr hc hn h hm him hg hfit hdc
  go_enter Tryd.func33, Tryd.ntmps33
  go_wp2_with (go_at_call 42; (with_reducible refine HC.out.mono ?_); rintro e w2 ⟨rfl, k1, k2, k3⟩; have K1 := Aside0.mk k1; have K2 := Aside0.mk k2; have K3 := Aside0.mk k3; clear k1 k2 k3)
  go_ret2
  exact ⟨rfl, K1.out, K2.out, K3.out⟩
end Go.Proofs.YtpogfbompljkkaaDoor.Snk

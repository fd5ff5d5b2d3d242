/- bytes.Buffer: room is made. -/
import Derived.Deep.QuietTactic
import Derived.BigQuiet
import Derived.Lib.BufferMore
import Derived.Laws.CopyOwn
import Derived.ChangeKeysEq
import Derived.Laws.StructEq
import Derived.Test.YtigpdgfhngknhaaDoorH0
import Derived.Test.YtigpdgfhngknhaaDoorH3
import Derived.Test.YtigpdgfhngknhaaDoorH4
namespace Go.Proofs.YtigpdgfhngknhaaDoor.Snk
open Go.RowKit Go.Proofs.YtigpdgfhngknhaaDoorW.PrintWords Go.Proofs.YtigpdgfhngknhaaDoorW.PrintLast Go.Proofs.YtigpdgfhngknhaaDoorW.PrintMore
set_option linter.unusedVariables false
set_option linter.unusedSimpArgs false
/-- A buffer's three cells. -/
def BfC (w : World) (b : Nat) (v : Value) (lr : Int) : Prop := w.heap[b]? = some (.cells #[v, .int .i64 0, .int .i8 lr] 41 (0, 0))
theorem BfC.c0 {w : World} {b : Nat} {v : Value} {lr : Int} (h : BfC w b v lr) : w.cell? ⟨b, 0, none⟩ = some v := cell_of h rfl
theorem BfC.c1 {w : World} {b : Nat} {v : Value} {lr : Int} (h : BfC w b v lr) : w.cell? ⟨b, 1, none⟩ = some (.int .i64 0) := cell_of h rfl
theorem BfC.c2 {w : World} {b : Nat} {v : Value} {lr : Int} (h : BfC w b v lr) : w.cell? ⟨b, 2, none⟩ = some (.int .i8 lr) := cell_of h rfl
theorem BfC.f {w : World} {b : Nat} {v : Value} {lr : Int} (h : BfC w b v lr) (j : Nat) : w.frozen? ⟨b, j, none⟩ = false := frozen_of h j
theorem BfC.set0 {w : World} {b : Nat} {v : Value} {lr : Int} (h : BfC w b v lr) (u : Value) : BfC (w.setCell ⟨b, 0, none⟩ u) b u lr := heap_set_same h (j := 0) u
theorem BfC.set1 {w : World} {b : Nat} {v : Value} {lr : Int} (h : BfC w b v lr) : BfC (w.setCell ⟨b, 1, none⟩ (.int .i64 0)) b v lr := heap_set_same h (j := 1) _
theorem BfC.set2 {w : World} {b : Nat} {v : Value} {lr : Int} (h : BfC w b v lr) (x : Int) : BfC (w.setCell ⟨b, 2, none⟩ (.int .i8 x)) b v x := heap_set_same h (j := 2) _
theorem BfC.below {w w1 : World} {b : Nat} {v : Value} {lr : Int} (h : BfC w b v lr) (hb : Below w.heap.size w w1) : BfC w1 b v lr := (hb.block b (blk_lt' h)).trans h
theorem tryRoom (b : Nat) (ao : Option Addr) (l cap n : Nat) (lr : Int) (w : World) (h : BfC w b (.slice ao l cap) lr) (hlc : l ≤ cap) (hcap : cap ≤ maxLen) (hn : n ≤ cap - l) :
    Calls Tryd.prog 58 #[.pointer (some ⟨b, 0, none⟩), .int .i64 n] w fun e w' => e = .returned (.tuple #[.int .i64 l, .bool true]) ∧ w' = w.setCell ⟨b, 0, none⟩ (.slice ao (l + n) cap) :=
  Any.Buffer_tryGrow_room { Tryd.laysM252 with } b ao l cap n w h.c0 (h.f 0) hlc hcap hn
theorem tryNone (b : Nat) (ao : Option Addr) (l cap n : Nat) (lr : Int) (w : World) (h : BfC w b (.slice ao l cap) lr) (hlc : l ≤ cap) (hcap : cap ≤ maxLen) (hn : cap - l < n) :
    Calls Tryd.prog 58 #[.pointer (some ⟨b, 0, none⟩), .int .i64 n] w fun e w' => e = .returned (.tuple #[.int .i64 0, .bool false]) ∧ w' = w :=
  Any.Buffer_tryGrow_none { Tryd.laysM252 with } b ao l cap n w h.c0 hlc hcap hn
theorem growRow (g l c n : Nat) (cur : Array Value) (w : World) (hg : w.heap[g]? = some (.cells cur 5 (0, 0))) (hcs : cur.size = c) (hlc : l ≤ c) (hn : 1 ≤ n) (hlim : l + n ≤ 140737488355328) (hc2 : c ≤ 140737488355328) (h1 : ∀ v ∈ cur.toList.take l, v.oneCell' = true) :
    Calls Tryd.prog 68 #[.slice (some ⟨g, 0, none⟩) l c, .int .i64 n] w fun e w' => ∃ cap2 cells, e = .returned (.slice (some ⟨w.heap.size, 0, none⟩) l cap2) ∧ w'.heap[w.heap.size]? = some (.cells cells 5 (0, 0)) ∧ cells.size = cap2 ∧ cells.toList.take l = cur.toList.take l ∧ l + n ≤ cap2 ∧ cap2 ≤ maxLen ∧ Below w.heap.size w w' :=
  Any.bytes_growSlice_row { Tryd.laysM252 with } g l c n cur w hg hcs hlc hn hlim hc2 h1
theorem growNil (n : Nat) (w : World) (hn : 1 ≤ n) (hlim : n ≤ 140737488355328) :
    Calls Tryd.prog 68 #[.slice none 0 0, .int .i64 n] w fun e w' => ∃ cap2 cells, e = .returned (.slice (some ⟨w.heap.size, 0, none⟩) 0 cap2) ∧ w'.heap[w.heap.size]? = some (.cells cells 5 (0, 0)) ∧ cells.size = cap2 ∧ n ≤ cap2 ∧ cap2 ≤ maxLen ∧ Below w.heap.size w w' :=
  Any.bytes_growSlice_nil { Tryd.laysM252 with } n w hn hlim
set_option maxRecDepth 100000 in
theorem lenC (b : Nat) (ao : Option Addr) (l cap : Nat) (lr : Int) (w : World) (h : BfC w b (.slice ao l cap) lr) (hl : l ≤ 9223372036854775807) : Calls Tryd.prog 66 #[.pointer (some ⟨b, 0, none⟩)] w fun e w' => e = .returned (.int .i64 l) ∧ Below w.heap.size w w' ∧ BfC w' b (.slice ao l cap) lr := by
  have H := Aside0.mk h
  have hw : wrap64 (l : Int) = l := by unfold wrap64; omega
  have HW := Aside0.mk hw
  have z0 := h.c0
  have z1 := h.c1
  have hl2 : (l : Int) ≤ 9223372036854775807 := by omega
  clear h hl hw
  go_enter Tryd.func66, Tryd.ntmps66
  go_upto_region 1 with fail
  refine start_ (n := 11) (S := fun w' => w'.cell? ⟨b, 0, none⟩ = some (.slice ao l cap) ∧ w'.cell? ⟨b, 1, none⟩ = some (.int .i64 0)) (ds := []) #[false, false, false, false, false, false, false, false, false, false, false] (by kernel_rfl) rfl rfl ⟨H.out.c0, H.out.c1⟩ (fun hHeld => ?_)
  refine pure_ (i := 0) (N := some 3) (v := ?_) (a' := ?_) #[true, false, false, false, false, false, false, false, false, false, false] rfl rfl (by kernel_rfl) (fun _ _ _ h => h) (Or.inl ⟨by rfl, ?_⟩) ?_ ?_
  rotate_left
  · intro w'
    go_simp
    with_reducible rfl
  rotate_left
  · simp only [Act.put, List.setIfInBounds_toArray, List.set_cons_zero, List.set_cons_succ, i64_w, i32_w]
    rfl
  refine pure_ (i := 1) (N := some 4) (v := ?_) (a' := ?_) #[true, true, false, false, false, false, false, false, false, false, false] rfl rfl (by kernel_rfl) (fun _ _ _ h => h) (Or.inl ⟨by rfl, ?_⟩) ?_ ?_
  rotate_left
  · intro w'
    go_simp
    with_reducible rfl
  rotate_left
  · simp only [Act.put, List.setIfInBounds_toArray, List.set_cons_zero, List.set_cons_succ, i64_w, i32_w]
    rfl
  refine pure_ (i := 2) (N := some 5) (v := ?_) (a' := ?_) #[true, true, true, false, false, false, false, false, false, false, false] rfl rfl (by kernel_rfl) (fun _ _ _ h => h) (Or.inl ⟨by rfl, ?_⟩) ?_ ?_
  rotate_left
  · intro w'
    go_simp
    with_reducible rfl
  rotate_left
  · simp only [Act.put, List.setIfInBounds_toArray, List.set_cons_zero, List.set_cons_succ, i64_w, i32_w]
    rfl
  refine take_ (i := 3) (N := some 6) (v := ?_) (a' := ?_) #[true, true, true, true, false, false, false, false, false, false, false] rfl rfl (by kernel_rfl) (fun _ _ _ h => h) (Or.inl ⟨by rfl, ?_⟩) hHeld ?_ ?_
  rotate_left
  · rintro w' ⟨s0, s1⟩
    go_simp
    with_reducible rfl
  rotate_left
  · simp only [Act.put, List.setIfInBounds_toArray, List.set_cons_zero, List.set_cons_succ, i64_w, i32_w]
    rfl
  refine pure_ (i := 4) (N := some 7) (v := ?_) (a' := ?_) #[true, true, true, true, true, false, false, false, false, false, false] rfl rfl (by kernel_rfl) (fun _ _ _ h => h) (Or.inl ⟨by rfl, ?_⟩) ?_ ?_
  rotate_left
  · intro w'
    go_simp
    with_reducible rfl
  rotate_left
  · simp only [Act.put, List.setIfInBounds_toArray, List.set_cons_zero, List.set_cons_succ, i64_w, i32_w]
    rfl
  refine pure_ (i := 5) (N := some 8) (v := ?_) (a' := ?_) #[true, true, true, true, true, true, false, false, false, false, false] rfl rfl (by kernel_rfl) (fun _ _ _ h => h) (Or.inl ⟨by rfl, ?_⟩) ?_ ?_
  rotate_left
  · intro w'
    go_simp
    with_reducible rfl
  rotate_left
  · simp only [Act.put, List.setIfInBounds_toArray, List.set_cons_zero, List.set_cons_succ, i64_w, i32_w]
    rfl
  refine pure_ (i := 6) (N := some 9) (v := ?_) (a' := ?_) #[true, true, true, true, true, true, true, false, false, false, false] rfl rfl (by kernel_rfl) (fun _ _ _ h => h) (Or.inl ⟨by rfl, ?_⟩) ?_ ?_
  rotate_left
  · intro w'
    go_simp
    with_reducible rfl
  rotate_left
  · simp only [Act.put, List.setIfInBounds_toArray, List.set_cons_zero, List.set_cons_succ, i64_w, i32_w]
    rfl
  refine pure_ (i := 7) (N := some 10) (v := ?_) (a' := ?_) #[true, true, true, true, true, true, true, true, false, false, false] rfl rfl (by kernel_rfl) (fun _ _ _ h => h) (Or.inl ⟨by rfl, ?_⟩) ?_ ?_
  rotate_left
  · intro w'
    go_simp
    with_reducible rfl
  rotate_left
  · simp only [Act.put, List.setIfInBounds_toArray, List.set_cons_zero, List.set_cons_succ, i64_w, i32_w]
    rfl
  refine take_ (i := 8) (N := some 11) (v := ?_) (a' := ?_) #[true, true, true, true, true, true, true, true, true, false, false] rfl rfl (by kernel_rfl) (fun _ _ _ h => h) (Or.inl ⟨by rfl, ?_⟩) hHeld ?_ ?_
  rotate_left
  · rintro w' ⟨s0, s1⟩
    go_simp
    with_reducible rfl
  rotate_left
  · simp only [Act.put, List.setIfInBounds_toArray, List.set_cons_zero, List.set_cons_succ, i64_w, i32_w]
    rfl
  refine pure_ (i := 9) (N := some 12) (v := ?_) (a' := ?_) #[true, true, true, true, true, true, true, true, true, true, false] rfl rfl (by kernel_rfl) (fun _ _ _ h => h) (Or.inl ⟨by rfl, ?_⟩) ?_ ?_
  rotate_left
  · intro w'
    go_simp
    with_reducible rfl
  rotate_left
  · simp only [Act.put, List.setIfInBounds_toArray, List.set_cons_zero, List.set_cons_succ, i64_w, i32_w]
    rfl
  refine pure_ (i := 10) (N := some 2) (v := ?_) (a' := ?_) #[true, true, true, true, true, true, true, true, true, true, true] rfl rfl (by kernel_rfl) (fun _ _ _ h => h) (Or.inl ⟨by rfl, ?_⟩) ?_ ?_
  rotate_left
  · intro w'
    go_simp
    with_reducible rfl
  rotate_left
  · simp only [Act.put, List.setIfInBounds_toArray, List.set_cons_zero, List.set_cons_succ, i64_w, i32_w]
    rfl
  refine done_ (by kernel_rfl) ?_
  go_wp2_with fail
  go_ret
  exact ⟨congrArg (fun x => Ending.returned (Value.int .i64 x)) HW.out, ⟨rfl, rfl, rfl, Nat.le_refl _, fun _ _ => rfl⟩, H.out⟩
theorem mk_bytes (n c : Nat) (hn : n ≤ c) (hc : c ≤ 1000000) (w : World) : (Instr.makeSlice 26 (.int .i64 (n : Int)) (.int .i64 (c : Int))).run Tryd.prog w = .ok (.slice (some ⟨w.heap.size, 0, none⟩) n c) (w.alloc (.cells (madeCells #[.int .u8 0] c) 5)) := by
  obtain ⟨i, z, hi, hi1, hi2, hi3, hi4⟩ : ∃ i z, Tryd.prog.info? 5 = some i ∧ i.size = 1 ∧ i.zero = some z ∧ i.bytes = 1 ∧ z.cells = #[.int .u8 0] := by
    have h : (match Tryd.prog.info? 5 with | some i => i.size == 1 && (i.bytes == 1 && (match i.zero with | some (.int .u8 0) => true | _ => false)) | none => false) = true := by kernel_rfl
    split at h
    · rename_i i hi
      simp only [Bool.and_eq_true, beq_iff_eq] at h
      obtain ⟨h1, h2, h3⟩ := h
      split at h3
      · rename_i hz
        exact ⟨i, _, hi, h1, hz, h2, rfl⟩
      · cases h3
    · cases h
  have h := run_make (P := Tryd.prog) w 26 5 i _ Tryd.underlying26 hi hi2 .i64 .i64 (n : Int) (c : Int) (by omega) (by omega) (by rw [hi3]; omega) (by omega)
  rw [hi1, hi4] at h
  simpa only [Int.toNat_natCast, Nat.mul_one] using h
/-- The buffer has grown: its row is a new one. -/
def Grown (b l n : Nat) (old : List Value) (lr : Int) (w w' : World) : Prop := ∃ r cap cells, w.heap.size ≤ r ∧ BfC w' b (.slice (some ⟨r, 0, none⟩) (l + n) cap) lr ∧ w'.heap[r]? = some (.cells cells 5 (0, 0)) ∧ cells.size = cap ∧ cells.toList.take l = old ∧ l + n ≤ cap ∧ cap ≤ maxLen ∧ Only b w w'
theorem grown_of {b l n r cap : Nat} {cells : Array Value} {old : List Value} {lr : Int} {w w3 w' : World} (hb : b < w.heap.size) (hr : w.heap.size ≤ r) (hrow : w3.heap[r]? = some (.cells cells 5 (0, 0))) (hO : Only b w w3) (hO2 : Only b w3 w') (hB : BfC w' b (.slice (some ⟨r, 0, none⟩) (l + n) cap) lr) (hs : cells.size = cap) (ho : cells.toList.take l = old) (h1 : l + n ≤ cap) (h2 : cap ≤ maxLen) : Grown b l n old lr w w' :=
  ⟨r, cap, cells, hr, hB, (hO2.block r (blk_lt' hrow) (by omega)).trans hrow, hs, ho, h1, h2, hO.trans hO2⟩
set_option maxRecDepth 100000 in
set_option maxHeartbeats 4000000 in
theorem growN (b n : Nat) (lr : Int) (w : World) (h : BfC w b (.slice none 0 0) lr) (hn : 1 ≤ n) (hn2 : n ≤ 64) :
    Calls Tryd.prog 59 #[.pointer (some ⟨b, 0, none⟩), .int .i64 n] w fun e w' => e = .returned (.int .i64 (0 : Nat)) ∧ Grown b 0 n [] lr w w' := by
  have HL := Aside0.mk (lenC b none 0 0 lr w h (by omega))
  have HX : Aside0 (0 ≤ 0 ∧ 0 ≤ maxLen ∧ 0 - 0 < n) := ⟨by omega, by simp [maxLen], by omega⟩
  have HN := Aside0.mk hn
  have HN2 := Aside0.mk hn2
  have H := Aside0.mk h
  have hi64 : (n : Int) ≤ 64 := by omega
  have h8 : ∀ w, (Instr.makeSlice 26 (.int .i64 (n : Int)) (.int .i64 64)).run Tryd.prog w = .ok (.slice (some ⟨w.heap.size, 0, none⟩) n 64) (w.alloc (.cells (madeCells #[.int .u8 0] 64) 5)) := fun w => mk_bytes n 64 (by omega) (by omega) w
  have h7 : ∀ w : World, (binOp .eql 26 (.slice none 0 0) (.slice none 0 0)).run Tryd.prog w = .ok (.bool true) w := fun w => Lib.run_eql_slice_nil_nil w 0 0 Tryd.underlying26
  clear h hn hn2
  go_enter Tryd.func59, Tryd.ntmps59
  go_upto_region 2 with (go_at_call 66; (with_reducible refine (HL.out).mono ?_); rintro e w1 ⟨rfl, hb1, h1⟩; have H1 := Aside0.mk h1; have HB1 := Aside0.mk hb1; clear hb1 h1)
  have c0 := H1.out.c0
  have c1 := H1.out.c1
  go_upto_region 5 with (go_at_call 58; (with_reducible refine (tryNone b none 0 0 n lr w1 H1.out HX.out.1 HX.out.2.1 HX.out.2.2).mono ?_); rintro e w2 ⟨rfl, rfl⟩)
  go_upto_region 8 with fail
  have HA : BfC (w2.alloc (.cells (madeCells #[.int .u8 0] 64) 5)) b (.slice none 0 0) lr := H1.out.below (below_alloc (Below.refl _ _) _)
  have cA := HA.c0
  have fA := HA.f 0
  go_wp2_with fail
  go_ret
  exact ⟨rfl, grown_of (blk_lt' H.out) (HB1.out.size) (heap_alloc_new w2 _) (Only.of_below (below_alloc HB1.out _)) ((Only.refl _ _).set _ _) (by rw [Nat.zero_add]; exact HA.set0 _) (size_madeCells _ _) rfl (by omega) (by simp [maxLen])⟩
set_option maxRecDepth 100000 in
set_option maxHeartbeats 8000000 in
theorem growB (b n : Nat) (lr : Int) (w : World) (h : BfC w b (.slice none 0 0) lr) (hn : 64 < n) (hlim : n ≤ 140737488355328) :
    Calls Tryd.prog 59 #[.pointer (some ⟨b, 0, none⟩), .int .i64 n] w fun e w' => e = .returned (.int .i64 (0 : Nat)) ∧ Grown b 0 n [] lr w w' := by
  have hlc : 0 ≤ 0 := Nat.zero_le _
  have hnl : 0 - 0 < n := by omega
  have HW : Aside0 (IntKind.i64.wrap (n : Int) = n) := ⟨by rw [i64_w]; unfold wrap64; omega⟩
  have HGS : Aside0 (∀ w2 : World, Below w.heap.size w w2 → Calls Tryd.prog 68 #[.slice none 0 0, .int .i64 n] w2 fun e w3 => ∃ cap2 cells, e = .returned (.slice (some ⟨w2.heap.size, 0, none⟩) 0 cap2) ∧ w3.heap[w2.heap.size]? = some (.cells cells 5 (0, 0)) ∧ cells.size = cap2 ∧ cells.toList.take 0 = [] ∧ 0 + n ≤ cap2 ∧ cap2 ≤ maxLen ∧ Below w2.heap.size w2 w3) := ⟨fun w2 hb2 => by
    refine (growNil n w2 (by omega) (by omega)).mono ?_
    rintro e w3 ⟨cap2, cells, h1, h2, h3, h4⟩
    exact ⟨cap2, cells, h1, h2, h3, rfl, by rw [Nat.zero_add]; exact h4.1, h4.2.1, h4.2.2⟩⟩
  have HL := Aside0.mk (lenC b none 0 0 lr w h (by omega))
  have HX : Aside0 (0 ≤ 0 ∧ 0 ≤ maxLen ∧ 0 - 0 < n) := ⟨hlc, by simp only [maxLen]; omega, hnl⟩
  have HN : Aside0 (0 + n ≤ 140737488355328) := ⟨by omega⟩
  have H := Aside0.mk h
  obtain ⟨m, hm⟩ : ∃ m, 0 + n = m := ⟨_, rfl⟩
  have HM := Aside0.mk hm
  have HS : Aside0 (wrap64 ((n : Int)) = (m : Int)) := ⟨by unfold wrap64; omega⟩
  have hm0 : 0 < m := by omega
  have h7 : ∀ w : World, (binOp .eql 26 (.slice none 0 0) (.slice none 0 0)).run Tryd.prog w = .ok (.bool true) w := fun w => Lib.run_eql_slice_nil_nil w 0 0 Tryd.underlying26
  have hn64 : ¬ (n : Int) ≤ 64 := by omega
  have hq2 : ¬ wrap64 (9223372036854775807 - (n : Int)) < 0 := by unfold wrap64; omega
  clear h hlc hnl hn hlim hm
  go_enter Tryd.func59, Tryd.ntmps59
  go_upto_region 2 with (go_at_call 66; (with_reducible refine (HL.out).mono ?_); rintro e w1 ⟨rfl, hb1, h1⟩; have H1 := Aside0.mk h1; have HB1 := Aside0.mk hb1; clear hb1 h1)
  have c0 := H1.out.c0
  have c1 := H1.out.c1
  go_upto_region 5 with (go_at_call 58; (with_reducible refine (tryNone b none 0 0 n lr w1 H1.out HX.out.1 HX.out.2.1 HX.out.2.2).mono ?_); rintro e w2 ⟨rfl, rfl⟩)
  go_upto_region 15 with fail
  refine start_ (n := 20) (S := fun w' => w'.cell? ⟨b, 0, none⟩ = some (.slice none 0 0) ∧ w'.cell? ⟨b, 1, none⟩ = some (.int .i64 0) ∧ BfC w' b (.slice none 0 0) lr) (ds := [19]) #[false, false, false, false, false, false, false, false, false, false, false, false, false, false, false, false, false, false, false, false] (by kernel_rfl) rfl rfl ⟨H1.out.c0, H1.out.c1, H1.out⟩ (fun hHeld => ?_)
  refine pure_ (i := 0) (N := some 76) (v := ?_) (a' := ?_) #[true, false, false, false, false, false, false, false, false, false, false, false, false, false, false, false, false, false, false, false] rfl rfl (by kernel_rfl) (fun _ _ _ h => h) (Or.inl ⟨by rfl, ?_⟩) ?_ ?_
  rotate_left
  · intro w'
    go_simp
    with_reducible rfl
  rotate_left
  · simp only [Act.put, List.setIfInBounds_toArray, List.set_cons_zero, List.set_cons_succ, i64_w, i32_w]
    rfl
  refine pure_ (i := 1) (N := some 77) (v := ?_) (a' := ?_) #[true, true, false, false, false, false, false, false, false, false, false, false, false, false, false, false, false, false, false, false] rfl rfl (by kernel_rfl) (fun _ _ _ h => h) (Or.inl ⟨by rfl, ?_⟩) ?_ ?_
  rotate_left
  · intro w'
    go_simp
    with_reducible rfl
  rotate_left
  · simp only [Act.put, List.setIfInBounds_toArray, List.set_cons_zero, List.set_cons_succ, i64_w, i32_w]
    rfl
  refine pure_ (i := 2) (N := some 78) (v := ?_) (a' := ?_) #[true, true, true, false, false, false, false, false, false, false, false, false, false, false, false, false, false, false, false, false] rfl rfl (by kernel_rfl) (fun _ _ _ h => h) (Or.inl ⟨by rfl, ?_⟩) ?_ ?_
  rotate_left
  · intro w'
    go_simp
    with_reducible rfl
  rotate_left
  · simp only [Act.put, List.setIfInBounds_toArray, List.set_cons_zero, List.set_cons_succ, i64_w, i32_w]
    rfl
  refine pure_ (i := 3) (N := some 79) (v := ?_) (a' := ?_) #[true, true, true, true, false, false, false, false, false, false, false, false, false, false, false, false, false, false, false, false] rfl rfl (by kernel_rfl) (fun _ _ _ h => h) (Or.inl ⟨by rfl, ?_⟩) ?_ ?_
  rotate_left
  · intro w'
    go_simp
    with_reducible rfl
  rotate_left
  · simp only [Act.put, List.setIfInBounds_toArray, List.set_cons_zero, List.set_cons_succ, i64_w, i32_w]
    rfl
  refine take_ (i := 4) (N := some 80) (v := ?_) (a' := ?_) #[true, true, true, true, true, false, false, false, false, false, false, false, false, false, false, false, false, false, false, false] rfl rfl (by kernel_rfl) (fun _ _ _ h => h) (Or.inl ⟨by rfl, ?_⟩) hHeld ?_ ?_
  rotate_left
  · rintro w' ⟨s0, s1, s2⟩
    go_simp
    with_reducible rfl
  rotate_left
  · simp only [Act.put, List.setIfInBounds_toArray, List.set_cons_zero, List.set_cons_succ, i64_w, i32_w]
    rfl
  refine pure_ (i := 5) (N := some 81) (v := ?_) (a' := ?_) #[true, true, true, true, true, true, false, false, false, false, false, false, false, false, false, false, false, false, false, false] rfl rfl (by kernel_rfl) (fun _ _ _ h => h) (Or.inl ⟨by rfl, ?_⟩) ?_ ?_
  rotate_left
  · intro w'
    go_simp
    with_reducible rfl
  rotate_left
  · simp only [Act.put, List.setIfInBounds_toArray, List.set_cons_zero, List.set_cons_succ, i64_w, i32_w]
    rfl
  refine pure_ (i := 6) (N := some 82) (v := ?_) (a' := ?_) #[true, true, true, true, true, true, true, false, false, false, false, false, false, false, false, false, false, false, false, false] rfl rfl (by kernel_rfl) (fun _ _ _ h => h) (Or.inl ⟨by rfl, ?_⟩) ?_ ?_
  rotate_left
  · intro w'
    go_simp
    with_reducible rfl
  rotate_left
  · simp only [Act.put, List.setIfInBounds_toArray, List.set_cons_zero, List.set_cons_succ, i64_w, i32_w]
    rfl
  refine pure_ (i := 7) (N := some 83) (v := ?_) (a' := ?_) #[true, true, true, true, true, true, true, true, false, false, false, false, false, false, false, false, false, false, false, false] rfl rfl (by kernel_rfl) (fun _ _ _ h => h) (Or.inl ⟨by rfl, ?_⟩) ?_ ?_
  rotate_left
  · intro w'
    go_simp
    with_reducible rfl
  rotate_left
  · simp only [Act.put, List.setIfInBounds_toArray, List.set_cons_zero, List.set_cons_succ, i64_w, i32_w]
    rfl
  refine take_ (i := 8) (N := some 84) (v := ?_) (a' := ?_) #[true, true, true, true, true, true, true, true, true, false, false, false, false, false, false, false, false, false, false, false] rfl rfl (by kernel_rfl) (fun _ _ _ h => h) (Or.inl ⟨by rfl, ?_⟩) hHeld ?_ ?_
  rotate_left
  · rintro w' ⟨s0, s1, s2⟩
    go_simp
    with_reducible rfl
  rotate_left
  · simp only [Act.put, List.setIfInBounds_toArray, List.set_cons_zero, List.set_cons_succ, i64_w, i32_w]
    rfl
  refine pure_ (i := 9) (N := some 85) (v := ?_) (a' := ?_) #[true, true, true, true, true, true, true, true, true, true, false, false, false, false, false, false, false, false, false, false] rfl rfl (by kernel_rfl) (fun _ _ _ h => h) (Or.inl ⟨by rfl, ?_⟩) ?_ ?_
  rotate_left
  · intro w'
    go_simp
    with_reducible rfl
  rotate_left
  · simp only [Act.put, List.setIfInBounds_toArray, List.set_cons_zero, List.set_cons_succ, i64_w, i32_w]
    rfl
  refine pure_ (i := 10) (N := some 86) (v := ?_) (a' := ?_) #[true, true, true, true, true, true, true, true, true, true, true, false, false, false, false, false, false, false, false, false] rfl rfl (by kernel_rfl) (fun _ _ _ h => h) (Or.inl ⟨by rfl, ?_⟩) ?_ ?_
  rotate_left
  · intro w'
    go_simp
    with_reducible rfl
  rotate_left
  · simp only [Act.put, List.setIfInBounds_toArray, List.set_cons_zero, List.set_cons_succ, i64_w, i32_w]
    rfl
  refine pure_ (i := 11) (N := some 87) (v := ?_) (a' := ?_) #[true, true, true, true, true, true, true, true, true, true, true, true, false, false, false, false, false, false, false, false] rfl rfl (by kernel_rfl) (fun _ _ _ h => h) (Or.inl ⟨by rfl, ?_⟩) ?_ ?_
  rotate_left
  · intro w'
    go_simp
    with_reducible rfl
  rotate_left
  · simp only [Act.put, List.setIfInBounds_toArray, List.set_cons_zero, List.set_cons_succ, i64_w, i32_w]
    rfl
  refine pure_ (i := 12) (N := some 88) (v := ?_) (a' := ?_) #[true, true, true, true, true, true, true, true, true, true, true, true, true, false, false, false, false, false, false, false] rfl rfl (by kernel_rfl) (fun _ _ _ h => h) (Or.inl ⟨by rfl, ?_⟩) ?_ ?_
  rotate_left
  · intro w'
    go_simp
    with_reducible rfl
  rotate_left
  · simp only [Act.put, List.setIfInBounds_toArray, List.set_cons_zero, List.set_cons_succ, i64_w, i32_w]
    rfl
  refine take_ (i := 13) (N := some 89) (v := ?_) (a' := ?_) #[true, true, true, true, true, true, true, true, true, true, true, true, true, true, false, false, false, false, false, false] rfl rfl (by kernel_rfl) (fun _ _ _ h => h) (Or.inl ⟨by rfl, ?_⟩) hHeld ?_ ?_
  rotate_left
  · rintro w' ⟨s0, s1, s2⟩
    go_simp
    with_reducible rfl
  rotate_left
  · simp only [Act.put, List.setIfInBounds_toArray, List.set_cons_zero, List.set_cons_succ, i64_w, i32_w]
    rfl
  refine pure_ (i := 14) (N := some 90) (v := ?_) (a' := ?_) #[true, true, true, true, true, true, true, true, true, true, true, true, true, true, true, false, false, false, false, false] rfl rfl (by kernel_rfl) (fun _ _ _ h => h) (Or.inl ⟨by rfl, ?_⟩) ?_ ?_
  rotate_left
  · intro w'
    go_simp
    with_reducible rfl
  rotate_left
  · simp only [Act.put, List.setIfInBounds_toArray, List.set_cons_zero, List.set_cons_succ, i64_w, i32_w]
    rfl
  refine pure_ (i := 15) (N := some 91) (v := ?_) (a' := ?_) #[true, true, true, true, true, true, true, true, true, true, true, true, true, true, true, true, false, false, false, false] rfl rfl (by kernel_rfl) (fun _ _ _ h => h) (Or.inl ⟨by rfl, ?_⟩) ?_ ?_
  rotate_left
  · intro w'
    go_simp
    rw [HW.out]
  rotate_left
  · simp only [Act.put, List.setIfInBounds_toArray, List.set_cons_zero, List.set_cons_succ, i64_w, i32_w]
    rfl
  refine one_ (i := 16) (N := some 92) #[true, true, true, true, true, true, true, true, true, true, true, true, true, true, true, true, true, false, false, false] rfl rfl (by kernel_rfl) (by decide) (fun K hK => ?_)
  refine goes_ Tryd.func68 (by kernel_rfl) rfl #[.slice none 0 0, .int .i64 n] (by rfl) rfl rfl (by (try simp only [List.map_toArray, List.map_cons, List.map_nil]); first | done | rfl | (simp only [List.length_drop, List.length_take]; rfl)) ?_
  with_reducible refine (HGS.out w2.drew (below_drew HB1.out)).mono ?_
  rintro e w3 ⟨cap2, cells, rfl, k1, k2, k3, k4, k5, k6⟩
  refine ⟨_, rfl, ?_⟩
  refine hK.out _ _ (let q := hHeld.2.2.below k6; ⟨q.c0, q.c1, q⟩) (fun hHeld => ?_)
  clear hK K
  refine norm_ (a' := ?_) ?_ ?_
  rotate_left
  · show Act.put _ (some 92) _ = _
    simp only [Act.put, List.setIfInBounds_toArray, List.set_cons_zero, List.set_cons_succ, i64_w, i32_w]
    rfl
  refine pure_ (i := 17) (N := some 93) (v := ?_) (a' := ?_) #[true, true, true, true, true, true, true, true, true, true, true, true, true, true, true, true, true, true, false, false] rfl rfl (by kernel_rfl) (fun _ _ _ h => h) (Or.inl ⟨by rfl, ?_⟩) ?_ ?_
  rotate_left
  · intro w'
    go_simp
    with_reducible rfl
  rotate_left
  · simp only [Act.put, List.setIfInBounds_toArray, List.set_cons_zero, List.set_cons_succ, i64_w, i32_w]
    rfl
  refine pure_ (i := 18) (N := some 94) (v := ?_) (a' := ?_) #[true, true, true, true, true, true, true, true, true, true, true, true, true, true, true, true, true, true, true, false] rfl rfl (by kernel_rfl) (fun _ _ _ h => h) (Or.inl ⟨by rfl, ?_⟩) ?_ ?_
  rotate_left
  · intro w'
    go_simp
    with_reducible rfl
  rotate_left
  · simp only [Act.put, List.setIfInBounds_toArray, List.set_cons_zero, List.set_cons_succ, i64_w, i32_w]
    rfl
  refine last_ (i := 19) (N := none) #[true, true, true, true, true, true, true, true, true, true, true, true, true, true, true, true, true, true, true, true] rfl rfl (by kernel_rfl) (by decide) (fun K hK => ?_)
  obtain ⟨s0, s1, s2⟩ := hHeld
  have fA := s2.f 0
  refine skip_ (w1 := ?_) (by rfl) rfl ?_ ?_
  rotate_left
  · go_simp
    rfl
  refine hK.out _ _ ?_
  clear hK K
  refine norm_ (a' := ?_) ?_ ?_
  rotate_left
  · rfl
  refine done_ (by kernel_rfl) ?_
  have K1 := Aside0.mk k1
  have K2 := Aside0.mk k2
  have K3 := Aside0.mk k3
  have K4 : Aside0 (m ≤ cap2) := ⟨by have := HM.out; omega⟩
  have K5 := Aside0.mk k5
  have K6 : Aside0 (Below w2.heap.size w2 w3) := ⟨below_then (below_drew (Below.refl _ w2)) (Nat.le_refl _) k6⟩
  have hm2 : (m : Int) ≤ cap2 := by have := HM.out; omega
  have hm3 : m ≤ cap2 := by have := HM.out; omega
  have hm4 : ¬ cap2 = 0 := by omega
  clear k1 k2 k3 k4 k5 k6 s0 s1 fA c0 c1 hq2
  generalize hw4 : World.setCell _ _ _ = w4
  have H4 : Aside0 (BfC w4 b (.slice (some ⟨w2.heap.size, 0, none⟩) 0 cap2) lr) := ⟨by rw [← hw4]; exact s2.set0 _⟩
  have O4 : Aside0 (Only b w3 w4) := ⟨by rw [← hw4]; exact (Only.refl _ _).set _ _⟩
  clear hw4 s2
  have f1 := H4.out.f 1
  have cc1 := H4.out.c1
  go_upto_region 17 with fail
  generalize hw5 : World.setCell _ _ _ = w5
  have H5 : Aside0 (BfC w5 b (.slice (some ⟨w2.heap.size, 0, none⟩) 0 cap2) lr) := ⟨by rw [← hw5]; exact H4.out.set1⟩
  have O5 : Aside0 (Only b w3 w5) := ⟨by rw [← hw5]; exact O4.out.set _ _⟩
  clear hw5 f1 cc1
  have f0 := H5.out.f 0
  have c50 := H5.out.c0
  have hs := HS.out
  go_wp2_with fail
  go_ret
  have hm := HM.out
  subst hm
  exact ⟨rfl, grown_of (blk_lt' H.out) HB1.out.size K1.out (Only.of_below (below_then HB1.out HB1.out.size K6.out)) (O5.out.set _ _) (H5.out.set0 _) K2.out K3.out K4.out K5.out⟩
set_option maxRecDepth 100000 in
set_option maxHeartbeats 8000000 in
theorem growE (b n : Nat) (lr : Int) (w : World) (g cap : Nat) (cur : Array Value) (h : BfC w b (.slice (some ⟨g, 0, none⟩) 0 cap) lr) (hg : w.heap[g]? = some (.cells cur 5 (0, 0))) (hcs : cur.size = cap) (hn : cap - 0 < n) (hlim : 0 + n ≤ 140737488355328) (h1c : ∀ v ∈ cur.toList.take 0, v.oneCell' = true) :
    Calls Tryd.prog 59 #[.pointer (some ⟨b, 0, none⟩), .int .i64 n] w fun e w' => e = .returned (.int .i64 (0 : Nat)) ∧ Grown b 0 n (cur.toList.take 0) lr w w' := by
  have hlc : 0 ≤ cap := Nat.zero_le _
  have hnl : cap - 0 < n := by omega
  have HW : Aside0 (IntKind.i64.wrap (n : Int) = n) := ⟨by rw [i64_w]; unfold wrap64; omega⟩
  have HGS : Aside0 (∀ w2 : World, Below w.heap.size w w2 → Calls Tryd.prog 68 #[.slice (some ⟨g, 0, none⟩) 0 cap, .int .i64 n] w2 fun e w3 => ∃ cap2 cells, e = .returned (.slice (some ⟨w2.heap.size, 0, none⟩) 0 cap2) ∧ w3.heap[w2.heap.size]? = some (.cells cells 5 (0, 0)) ∧ cells.size = cap2 ∧ cells.toList.take 0 = (cur.toList.take 0) ∧ 0 + n ≤ cap2 ∧ cap2 ≤ maxLen ∧ Below w2.heap.size w2 w3) := ⟨fun w2 hb2 => by
    refine (growRow g 0 cap n cur w2 ((hb2.block g (blk_lt' hg)).trans hg) hcs hlc (by omega) hlim (by omega) h1c).mono ?_
    rintro e w3 ⟨cap2, cells, h1, h2, h3, h4⟩
    exact ⟨cap2, cells, h1, h2, h3, h4⟩⟩
  have HL := Aside0.mk (lenC b (some ⟨g, 0, none⟩) 0 cap lr w h (by omega))
  have HX : Aside0 (0 ≤ cap ∧ cap ≤ maxLen ∧ cap - 0 < n) := ⟨hlc, by simp only [maxLen]; omega, hnl⟩
  have HN : Aside0 (0 + n ≤ 140737488355328) := ⟨by omega⟩
  have H := Aside0.mk h
  obtain ⟨m, hm⟩ : ∃ m, 0 + n = m := ⟨_, rfl⟩
  have HM := Aside0.mk hm
  have HS : Aside0 (wrap64 ((n : Int)) = (m : Int)) := ⟨by unfold wrap64; omega⟩
  have hm0 : 0 < m := by omega
  have hq1 : ¬ (n : Int) ≤ wrap64 (wrap64 ((cap : Int) / 2)) := by unfold wrap64; omega
  have hq2 : ¬ wrap64 (wrap64 (9223372036854775807 - (cap : Int)) - (n : Int)) < (cap : Int) := by unfold wrap64; omega
  have h7 : ∀ w : World, (binOp .eql 26 (.slice (some ⟨g, 0, none⟩) 0 cap) (.slice none 0 0)).run Tryd.prog w = .ok (.bool false) w := fun w => Lib.run_eql_slice_some_nil w _ _ _ Tryd.underlying26
  clear h hlc hnl hn hlim hm hg hcs h1c
  go_enter Tryd.func59, Tryd.ntmps59
  go_upto_region 2 with (go_at_call 66; (with_reducible refine (HL.out).mono ?_); rintro e w1 ⟨rfl, hb1, h1⟩; have H1 := Aside0.mk h1; have HB1 := Aside0.mk hb1; clear hb1 h1)
  have c0 := H1.out.c0
  have c1 := H1.out.c1
  go_upto_region 5 with (go_at_call 58; (with_reducible refine (tryNone b (some ⟨g, 0, none⟩) 0 cap n lr w1 H1.out HX.out.1 HX.out.2.1 HX.out.2.2).mono ?_); rintro e w2 ⟨rfl, rfl⟩)
  go_upto_region 15 with fail
  refine start_ (n := 20) (S := fun w' => w'.cell? ⟨b, 0, none⟩ = some (.slice (some ⟨g, 0, none⟩) 0 cap) ∧ w'.cell? ⟨b, 1, none⟩ = some (.int .i64 0) ∧ BfC w' b (.slice (some ⟨g, 0, none⟩) 0 cap) lr) (ds := [19]) #[false, false, false, false, false, false, false, false, false, false, false, false, false, false, false, false, false, false, false, false] (by kernel_rfl) rfl rfl ⟨H1.out.c0, H1.out.c1, H1.out⟩ (fun hHeld => ?_)
  refine pure_ (i := 0) (N := some 76) (v := ?_) (a' := ?_) #[true, false, false, false, false, false, false, false, false, false, false, false, false, false, false, false, false, false, false, false] rfl rfl (by kernel_rfl) (fun _ _ _ h => h) (Or.inl ⟨by rfl, ?_⟩) ?_ ?_
  rotate_left
  · intro w'
    go_simp
    with_reducible rfl
  rotate_left
  · simp only [Act.put, List.setIfInBounds_toArray, List.set_cons_zero, List.set_cons_succ, i64_w, i32_w]
    rfl
  refine pure_ (i := 1) (N := some 77) (v := ?_) (a' := ?_) #[true, true, false, false, false, false, false, false, false, false, false, false, false, false, false, false, false, false, false, false] rfl rfl (by kernel_rfl) (fun _ _ _ h => h) (Or.inl ⟨by rfl, ?_⟩) ?_ ?_
  rotate_left
  · intro w'
    go_simp
    with_reducible rfl
  rotate_left
  · simp only [Act.put, List.setIfInBounds_toArray, List.set_cons_zero, List.set_cons_succ, i64_w, i32_w]
    rfl
  refine pure_ (i := 2) (N := some 78) (v := ?_) (a' := ?_) #[true, true, true, false, false, false, false, false, false, false, false, false, false, false, false, false, false, false, false, false] rfl rfl (by kernel_rfl) (fun _ _ _ h => h) (Or.inl ⟨by rfl, ?_⟩) ?_ ?_
  rotate_left
  · intro w'
    go_simp
    with_reducible rfl
  rotate_left
  · simp only [Act.put, List.setIfInBounds_toArray, List.set_cons_zero, List.set_cons_succ, i64_w, i32_w]
    rfl
  refine pure_ (i := 3) (N := some 79) (v := ?_) (a' := ?_) #[true, true, true, true, false, false, false, false, false, false, false, false, false, false, false, false, false, false, false, false] rfl rfl (by kernel_rfl) (fun _ _ _ h => h) (Or.inl ⟨by rfl, ?_⟩) ?_ ?_
  rotate_left
  · intro w'
    go_simp
    with_reducible rfl
  rotate_left
  · simp only [Act.put, List.setIfInBounds_toArray, List.set_cons_zero, List.set_cons_succ, i64_w, i32_w]
    rfl
  refine take_ (i := 4) (N := some 80) (v := ?_) (a' := ?_) #[true, true, true, true, true, false, false, false, false, false, false, false, false, false, false, false, false, false, false, false] rfl rfl (by kernel_rfl) (fun _ _ _ h => h) (Or.inl ⟨by rfl, ?_⟩) hHeld ?_ ?_
  rotate_left
  · rintro w' ⟨s0, s1, s2⟩
    go_simp
    with_reducible rfl
  rotate_left
  · simp only [Act.put, List.setIfInBounds_toArray, List.set_cons_zero, List.set_cons_succ, i64_w, i32_w]
    rfl
  refine pure_ (i := 5) (N := some 81) (v := ?_) (a' := ?_) #[true, true, true, true, true, true, false, false, false, false, false, false, false, false, false, false, false, false, false, false] rfl rfl (by kernel_rfl) (fun _ _ _ h => h) (Or.inl ⟨by rfl, ?_⟩) ?_ ?_
  rotate_left
  · intro w'
    go_simp
    with_reducible rfl
  rotate_left
  · simp only [Act.put, List.setIfInBounds_toArray, List.set_cons_zero, List.set_cons_succ, i64_w, i32_w]
    rfl
  refine pure_ (i := 6) (N := some 82) (v := ?_) (a' := ?_) #[true, true, true, true, true, true, true, false, false, false, false, false, false, false, false, false, false, false, false, false] rfl rfl (by kernel_rfl) (fun _ _ _ h => h) (Or.inl ⟨by rfl, ?_⟩) ?_ ?_
  rotate_left
  · intro w'
    go_simp
    with_reducible rfl
  rotate_left
  · simp only [Act.put, List.setIfInBounds_toArray, List.set_cons_zero, List.set_cons_succ, i64_w, i32_w]
    rfl
  refine pure_ (i := 7) (N := some 83) (v := ?_) (a' := ?_) #[true, true, true, true, true, true, true, true, false, false, false, false, false, false, false, false, false, false, false, false] rfl rfl (by kernel_rfl) (fun _ _ _ h => h) (Or.inl ⟨by rfl, ?_⟩) ?_ ?_
  rotate_left
  · intro w'
    go_simp
    with_reducible rfl
  rotate_left
  · simp only [Act.put, List.setIfInBounds_toArray, List.set_cons_zero, List.set_cons_succ, i64_w, i32_w]
    rfl
  refine take_ (i := 8) (N := some 84) (v := ?_) (a' := ?_) #[true, true, true, true, true, true, true, true, true, false, false, false, false, false, false, false, false, false, false, false] rfl rfl (by kernel_rfl) (fun _ _ _ h => h) (Or.inl ⟨by rfl, ?_⟩) hHeld ?_ ?_
  rotate_left
  · rintro w' ⟨s0, s1, s2⟩
    go_simp
    with_reducible rfl
  rotate_left
  · simp only [Act.put, List.setIfInBounds_toArray, List.set_cons_zero, List.set_cons_succ, i64_w, i32_w]
    rfl
  refine pure_ (i := 9) (N := some 85) (v := ?_) (a' := ?_) #[true, true, true, true, true, true, true, true, true, true, false, false, false, false, false, false, false, false, false, false] rfl rfl (by kernel_rfl) (fun _ _ _ h => h) (Or.inl ⟨by rfl, ?_⟩) ?_ ?_
  rotate_left
  · intro w'
    go_simp
    with_reducible rfl
  rotate_left
  · simp only [Act.put, List.setIfInBounds_toArray, List.set_cons_zero, List.set_cons_succ, i64_w, i32_w]
    rfl
  refine pure_ (i := 10) (N := some 86) (v := ?_) (a' := ?_) #[true, true, true, true, true, true, true, true, true, true, true, false, false, false, false, false, false, false, false, false] rfl rfl (by kernel_rfl) (fun _ _ _ h => h) (Or.inl ⟨by rfl, ?_⟩) ?_ ?_
  rotate_left
  · intro w'
    go_simp
    with_reducible rfl
  rotate_left
  · simp only [Act.put, List.setIfInBounds_toArray, List.set_cons_zero, List.set_cons_succ, i64_w, i32_w]
    rfl
  refine pure_ (i := 11) (N := some 87) (v := ?_) (a' := ?_) #[true, true, true, true, true, true, true, true, true, true, true, true, false, false, false, false, false, false, false, false] rfl rfl (by kernel_rfl) (fun _ _ _ h => h) (Or.inl ⟨by rfl, ?_⟩) ?_ ?_
  rotate_left
  · intro w'
    go_simp
    with_reducible rfl
  rotate_left
  · simp only [Act.put, List.setIfInBounds_toArray, List.set_cons_zero, List.set_cons_succ, i64_w, i32_w]
    rfl
  refine pure_ (i := 12) (N := some 88) (v := ?_) (a' := ?_) #[true, true, true, true, true, true, true, true, true, true, true, true, true, false, false, false, false, false, false, false] rfl rfl (by kernel_rfl) (fun _ _ _ h => h) (Or.inl ⟨by rfl, ?_⟩) ?_ ?_
  rotate_left
  · intro w'
    go_simp
    with_reducible rfl
  rotate_left
  · simp only [Act.put, List.setIfInBounds_toArray, List.set_cons_zero, List.set_cons_succ, i64_w, i32_w]
    rfl
  refine take_ (i := 13) (N := some 89) (v := ?_) (a' := ?_) #[true, true, true, true, true, true, true, true, true, true, true, true, true, true, false, false, false, false, false, false] rfl rfl (by kernel_rfl) (fun _ _ _ h => h) (Or.inl ⟨by rfl, ?_⟩) hHeld ?_ ?_
  rotate_left
  · rintro w' ⟨s0, s1, s2⟩
    go_simp
    with_reducible rfl
  rotate_left
  · simp only [Act.put, List.setIfInBounds_toArray, List.set_cons_zero, List.set_cons_succ, i64_w, i32_w]
    rfl
  refine pure_ (i := 14) (N := some 90) (v := ?_) (a' := ?_) #[true, true, true, true, true, true, true, true, true, true, true, true, true, true, true, false, false, false, false, false] rfl rfl (by kernel_rfl) (fun _ _ _ h => h) (Or.inl ⟨by rfl, ?_⟩) ?_ ?_
  rotate_left
  · intro w'
    go_simp
    with_reducible rfl
  rotate_left
  · simp only [Act.put, List.setIfInBounds_toArray, List.set_cons_zero, List.set_cons_succ, i64_w, i32_w]
    rfl
  refine pure_ (i := 15) (N := some 91) (v := ?_) (a' := ?_) #[true, true, true, true, true, true, true, true, true, true, true, true, true, true, true, true, false, false, false, false] rfl rfl (by kernel_rfl) (fun _ _ _ h => h) (Or.inl ⟨by rfl, ?_⟩) ?_ ?_
  rotate_left
  · intro w'
    go_simp
    rw [HW.out]
  rotate_left
  · simp only [Act.put, List.setIfInBounds_toArray, List.set_cons_zero, List.set_cons_succ, i64_w, i32_w]
    rfl
  refine one_ (i := 16) (N := some 92) #[true, true, true, true, true, true, true, true, true, true, true, true, true, true, true, true, true, false, false, false] rfl rfl (by kernel_rfl) (by decide) (fun K hK => ?_)
  refine goes_ Tryd.func68 (by kernel_rfl) rfl #[.slice (some ⟨g, 0, none⟩) 0 cap, .int .i64 n] (by rfl) rfl rfl (by (try simp only [List.map_toArray, List.map_cons, List.map_nil]); first | done | rfl | (simp only [List.length_drop, List.length_take]; rfl)) ?_
  with_reducible refine (HGS.out w2.drew (below_drew HB1.out)).mono ?_
  rintro e w3 ⟨cap2, cells, rfl, k1, k2, k3, k4, k5, k6⟩
  refine ⟨_, rfl, ?_⟩
  refine hK.out _ _ (let q := hHeld.2.2.below k6; ⟨q.c0, q.c1, q⟩) (fun hHeld => ?_)
  clear hK K
  refine norm_ (a' := ?_) ?_ ?_
  rotate_left
  · show Act.put _ (some 92) _ = _
    simp only [Act.put, List.setIfInBounds_toArray, List.set_cons_zero, List.set_cons_succ, i64_w, i32_w]
    rfl
  refine pure_ (i := 17) (N := some 93) (v := ?_) (a' := ?_) #[true, true, true, true, true, true, true, true, true, true, true, true, true, true, true, true, true, true, false, false] rfl rfl (by kernel_rfl) (fun _ _ _ h => h) (Or.inl ⟨by rfl, ?_⟩) ?_ ?_
  rotate_left
  · intro w'
    go_simp
    with_reducible rfl
  rotate_left
  · simp only [Act.put, List.setIfInBounds_toArray, List.set_cons_zero, List.set_cons_succ, i64_w, i32_w]
    rfl
  refine pure_ (i := 18) (N := some 94) (v := ?_) (a' := ?_) #[true, true, true, true, true, true, true, true, true, true, true, true, true, true, true, true, true, true, true, false] rfl rfl (by kernel_rfl) (fun _ _ _ h => h) (Or.inl ⟨by rfl, ?_⟩) ?_ ?_
  rotate_left
  · intro w'
    go_simp
    with_reducible rfl
  rotate_left
  · simp only [Act.put, List.setIfInBounds_toArray, List.set_cons_zero, List.set_cons_succ, i64_w, i32_w]
    rfl
  refine last_ (i := 19) (N := none) #[true, true, true, true, true, true, true, true, true, true, true, true, true, true, true, true, true, true, true, true] rfl rfl (by kernel_rfl) (by decide) (fun K hK => ?_)
  obtain ⟨s0, s1, s2⟩ := hHeld
  have fA := s2.f 0
  refine skip_ (w1 := ?_) (by rfl) rfl ?_ ?_
  rotate_left
  · go_simp
    rfl
  refine hK.out _ _ ?_
  clear hK K
  refine norm_ (a' := ?_) ?_ ?_
  rotate_left
  · rfl
  refine done_ (by kernel_rfl) ?_
  have K1 := Aside0.mk k1
  have K2 := Aside0.mk k2
  have K3 := Aside0.mk k3
  have K4 : Aside0 (m ≤ cap2) := ⟨by have := HM.out; omega⟩
  have K5 := Aside0.mk k5
  have K6 : Aside0 (Below w2.heap.size w2 w3) := ⟨below_then (below_drew (Below.refl _ w2)) (Nat.le_refl _) k6⟩
  have hm2 : (m : Int) ≤ cap2 := by have := HM.out; omega
  have hm3 : m ≤ cap2 := by have := HM.out; omega
  have hm4 : ¬ cap2 = 0 := by omega
  clear k1 k2 k3 k4 k5 k6 s0 s1 fA c0 c1 hq2
  generalize hw4 : World.setCell _ _ _ = w4
  have H4 : Aside0 (BfC w4 b (.slice (some ⟨w2.heap.size, 0, none⟩) 0 cap2) lr) := ⟨by rw [← hw4]; exact s2.set0 _⟩
  have O4 : Aside0 (Only b w3 w4) := ⟨by rw [← hw4]; exact (Only.refl _ _).set _ _⟩
  clear hw4 s2
  have f1 := H4.out.f 1
  have cc1 := H4.out.c1
  go_upto_region 17 with fail
  generalize hw5 : World.setCell _ _ _ = w5
  have H5 : Aside0 (BfC w5 b (.slice (some ⟨w2.heap.size, 0, none⟩) 0 cap2) lr) := ⟨by rw [← hw5]; exact H4.out.set1⟩
  have O5 : Aside0 (Only b w3 w5) := ⟨by rw [← hw5]; exact O4.out.set _ _⟩
  clear hw5 f1 cc1
  have f0 := H5.out.f 0
  have c50 := H5.out.c0
  have hs := HS.out
  go_wp2_with fail
  go_ret
  have hm := HM.out
  subst hm
  exact ⟨rfl, grown_of (blk_lt' H.out) HB1.out.size K1.out (Only.of_below (below_then HB1.out HB1.out.size K6.out)) (O5.out.set _ _) (H5.out.set0 _) K2.out K3.out K4.out K5.out⟩
set_option maxRecDepth 100000 in
set_option maxHeartbeats 8000000 in
theorem growD (b n : Nat) (lr : Int) (w : World) (g l cap : Nat) (cur : Array Value) (h : BfC w b (.slice (some ⟨g, 0, none⟩) l cap) lr) (hg : w.heap[g]? = some (.cells cur 5 (0, 0))) (hcs : cur.size = cap) (hl : 0 < l) (hlc : l ≤ cap) (hn : cap - l < n) (hlim : l + n ≤ 140737488355328) (h1c : ∀ v ∈ cur.toList.take l, v.oneCell' = true) :
    Calls Tryd.prog 59 #[.pointer (some ⟨b, 0, none⟩), .int .i64 n] w fun e w' => e = .returned (.int .i64 (l : Nat)) ∧ Grown b l n (cur.toList.take l) lr w w' := by
  have hnl : cap - l < n := by omega
  have HW : Aside0 (IntKind.i64.wrap (n : Int) = n) := ⟨by rw [i64_w]; unfold wrap64; omega⟩
  have HGS : Aside0 (∀ w2 : World, Below w.heap.size w w2 → Calls Tryd.prog 68 #[.slice (some ⟨g, 0, none⟩) l cap, .int .i64 n] w2 fun e w3 => ∃ cap2 cells, e = .returned (.slice (some ⟨w2.heap.size, 0, none⟩) l cap2) ∧ w3.heap[w2.heap.size]? = some (.cells cells 5 (0, 0)) ∧ cells.size = cap2 ∧ cells.toList.take l = (cur.toList.take l) ∧ l + n ≤ cap2 ∧ cap2 ≤ maxLen ∧ Below w2.heap.size w2 w3) := ⟨fun w2 hb2 => by
    refine (growRow g l cap n cur w2 ((hb2.block g (blk_lt' hg)).trans hg) hcs hlc (by omega) hlim (by omega) h1c).mono ?_
    rintro e w3 ⟨cap2, cells, h1, h2, h3, h4⟩
    exact ⟨cap2, cells, h1, h2, h3, h4⟩⟩
  have HL := Aside0.mk (lenC b (some ⟨g, 0, none⟩) l cap lr w h (by omega))
  have HX : Aside0 (l ≤ cap ∧ cap ≤ maxLen ∧ cap - l < n) := ⟨hlc, by simp only [maxLen]; omega, hnl⟩
  have HN : Aside0 (l + n ≤ 140737488355328) := ⟨by omega⟩
  have H := Aside0.mk h
  obtain ⟨m, hm⟩ : ∃ m, l + n = m := ⟨_, rfl⟩
  have HM := Aside0.mk hm
  have HS : Aside0 (wrap64 ((l : Int) + (n : Int)) = (m : Int)) := ⟨by unfold wrap64; omega⟩
  have hm0 : 0 < m := by omega
  have hl0 : ¬ (l : Int) = 0 := by omega
  have hq1 : ¬ (n : Int) ≤ wrap64 (wrap64 ((cap : Int) / 2) - (l : Int)) := by unfold wrap64; omega
  have hq2 : ¬ wrap64 (wrap64 (9223372036854775807 - (cap : Int)) - (n : Int)) < (cap : Int) := by unfold wrap64; omega
  have h7 : ∀ w : World, (binOp .eql 26 (.slice (some ⟨g, 0, none⟩) l cap) (.slice none 0 0)).run Tryd.prog w = .ok (.bool false) w := fun w => Lib.run_eql_slice_some_nil w _ _ _ Tryd.underlying26
  clear h hlc hnl hn hlim hm hg hcs h1c hl
  go_enter Tryd.func59, Tryd.ntmps59
  go_upto_region 2 with (go_at_call 66; (with_reducible refine (HL.out).mono ?_); rintro e w1 ⟨rfl, hb1, h1⟩; have H1 := Aside0.mk h1; have HB1 := Aside0.mk hb1; clear hb1 h1)
  have c0 := H1.out.c0
  have c1 := H1.out.c1
  go_upto_region 5 with (go_at_call 58; (with_reducible refine (tryNone b (some ⟨g, 0, none⟩) l cap n lr w1 H1.out HX.out.1 HX.out.2.1 HX.out.2.2).mono ?_); rintro e w2 ⟨rfl, rfl⟩)
  go_upto_region 15 with fail
  refine start_ (n := 20) (S := fun w' => w'.cell? ⟨b, 0, none⟩ = some (.slice (some ⟨g, 0, none⟩) l cap) ∧ w'.cell? ⟨b, 1, none⟩ = some (.int .i64 0) ∧ BfC w' b (.slice (some ⟨g, 0, none⟩) l cap) lr) (ds := [19]) #[false, false, false, false, false, false, false, false, false, false, false, false, false, false, false, false, false, false, false, false] (by kernel_rfl) rfl rfl ⟨H1.out.c0, H1.out.c1, H1.out⟩ (fun hHeld => ?_)
  refine pure_ (i := 0) (N := some 76) (v := ?_) (a' := ?_) #[true, false, false, false, false, false, false, false, false, false, false, false, false, false, false, false, false, false, false, false] rfl rfl (by kernel_rfl) (fun _ _ _ h => h) (Or.inl ⟨by rfl, ?_⟩) ?_ ?_
  rotate_left
  · intro w'
    go_simp
    with_reducible rfl
  rotate_left
  · simp only [Act.put, List.setIfInBounds_toArray, List.set_cons_zero, List.set_cons_succ, i64_w, i32_w]
    rfl
  refine pure_ (i := 1) (N := some 77) (v := ?_) (a' := ?_) #[true, true, false, false, false, false, false, false, false, false, false, false, false, false, false, false, false, false, false, false] rfl rfl (by kernel_rfl) (fun _ _ _ h => h) (Or.inl ⟨by rfl, ?_⟩) ?_ ?_
  rotate_left
  · intro w'
    go_simp
    with_reducible rfl
  rotate_left
  · simp only [Act.put, List.setIfInBounds_toArray, List.set_cons_zero, List.set_cons_succ, i64_w, i32_w]
    rfl
  refine pure_ (i := 2) (N := some 78) (v := ?_) (a' := ?_) #[true, true, true, false, false, false, false, false, false, false, false, false, false, false, false, false, false, false, false, false] rfl rfl (by kernel_rfl) (fun _ _ _ h => h) (Or.inl ⟨by rfl, ?_⟩) ?_ ?_
  rotate_left
  · intro w'
    go_simp
    with_reducible rfl
  rotate_left
  · simp only [Act.put, List.setIfInBounds_toArray, List.set_cons_zero, List.set_cons_succ, i64_w, i32_w]
    rfl
  refine pure_ (i := 3) (N := some 79) (v := ?_) (a' := ?_) #[true, true, true, true, false, false, false, false, false, false, false, false, false, false, false, false, false, false, false, false] rfl rfl (by kernel_rfl) (fun _ _ _ h => h) (Or.inl ⟨by rfl, ?_⟩) ?_ ?_
  rotate_left
  · intro w'
    go_simp
    with_reducible rfl
  rotate_left
  · simp only [Act.put, List.setIfInBounds_toArray, List.set_cons_zero, List.set_cons_succ, i64_w, i32_w]
    rfl
  refine take_ (i := 4) (N := some 80) (v := ?_) (a' := ?_) #[true, true, true, true, true, false, false, false, false, false, false, false, false, false, false, false, false, false, false, false] rfl rfl (by kernel_rfl) (fun _ _ _ h => h) (Or.inl ⟨by rfl, ?_⟩) hHeld ?_ ?_
  rotate_left
  · rintro w' ⟨s0, s1, s2⟩
    go_simp
    with_reducible rfl
  rotate_left
  · simp only [Act.put, List.setIfInBounds_toArray, List.set_cons_zero, List.set_cons_succ, i64_w, i32_w]
    rfl
  refine pure_ (i := 5) (N := some 81) (v := ?_) (a' := ?_) #[true, true, true, true, true, true, false, false, false, false, false, false, false, false, false, false, false, false, false, false] rfl rfl (by kernel_rfl) (fun _ _ _ h => h) (Or.inl ⟨by rfl, ?_⟩) ?_ ?_
  rotate_left
  · intro w'
    go_simp
    with_reducible rfl
  rotate_left
  · simp only [Act.put, List.setIfInBounds_toArray, List.set_cons_zero, List.set_cons_succ, i64_w, i32_w]
    rfl
  refine pure_ (i := 6) (N := some 82) (v := ?_) (a' := ?_) #[true, true, true, true, true, true, true, false, false, false, false, false, false, false, false, false, false, false, false, false] rfl rfl (by kernel_rfl) (fun _ _ _ h => h) (Or.inl ⟨by rfl, ?_⟩) ?_ ?_
  rotate_left
  · intro w'
    go_simp
    with_reducible rfl
  rotate_left
  · simp only [Act.put, List.setIfInBounds_toArray, List.set_cons_zero, List.set_cons_succ, i64_w, i32_w]
    rfl
  refine pure_ (i := 7) (N := some 83) (v := ?_) (a' := ?_) #[true, true, true, true, true, true, true, true, false, false, false, false, false, false, false, false, false, false, false, false] rfl rfl (by kernel_rfl) (fun _ _ _ h => h) (Or.inl ⟨by rfl, ?_⟩) ?_ ?_
  rotate_left
  · intro w'
    go_simp
    with_reducible rfl
  rotate_left
  · simp only [Act.put, List.setIfInBounds_toArray, List.set_cons_zero, List.set_cons_succ, i64_w, i32_w]
    rfl
  refine take_ (i := 8) (N := some 84) (v := ?_) (a' := ?_) #[true, true, true, true, true, true, true, true, true, false, false, false, false, false, false, false, false, false, false, false] rfl rfl (by kernel_rfl) (fun _ _ _ h => h) (Or.inl ⟨by rfl, ?_⟩) hHeld ?_ ?_
  rotate_left
  · rintro w' ⟨s0, s1, s2⟩
    go_simp
    with_reducible rfl
  rotate_left
  · simp only [Act.put, List.setIfInBounds_toArray, List.set_cons_zero, List.set_cons_succ, i64_w, i32_w]
    rfl
  refine pure_ (i := 9) (N := some 85) (v := ?_) (a' := ?_) #[true, true, true, true, true, true, true, true, true, true, false, false, false, false, false, false, false, false, false, false] rfl rfl (by kernel_rfl) (fun _ _ _ h => h) (Or.inl ⟨by rfl, ?_⟩) ?_ ?_
  rotate_left
  · intro w'
    go_simp
    with_reducible rfl
  rotate_left
  · simp only [Act.put, List.setIfInBounds_toArray, List.set_cons_zero, List.set_cons_succ, i64_w, i32_w]
    rfl
  refine pure_ (i := 10) (N := some 86) (v := ?_) (a' := ?_) #[true, true, true, true, true, true, true, true, true, true, true, false, false, false, false, false, false, false, false, false] rfl rfl (by kernel_rfl) (fun _ _ _ h => h) (Or.inl ⟨by rfl, ?_⟩) ?_ ?_
  rotate_left
  · intro w'
    go_simp
    with_reducible rfl
  rotate_left
  · simp only [Act.put, List.setIfInBounds_toArray, List.set_cons_zero, List.set_cons_succ, i64_w, i32_w]
    rfl
  refine pure_ (i := 11) (N := some 87) (v := ?_) (a' := ?_) #[true, true, true, true, true, true, true, true, true, true, true, true, false, false, false, false, false, false, false, false] rfl rfl (by kernel_rfl) (fun _ _ _ h => h) (Or.inl ⟨by rfl, ?_⟩) ?_ ?_
  rotate_left
  · intro w'
    go_simp
    with_reducible rfl
  rotate_left
  · simp only [Act.put, List.setIfInBounds_toArray, List.set_cons_zero, List.set_cons_succ, i64_w, i32_w]
    rfl
  refine pure_ (i := 12) (N := some 88) (v := ?_) (a' := ?_) #[true, true, true, true, true, true, true, true, true, true, true, true, true, false, false, false, false, false, false, false] rfl rfl (by kernel_rfl) (fun _ _ _ h => h) (Or.inl ⟨by rfl, ?_⟩) ?_ ?_
  rotate_left
  · intro w'
    go_simp
    with_reducible rfl
  rotate_left
  · simp only [Act.put, List.setIfInBounds_toArray, List.set_cons_zero, List.set_cons_succ, i64_w, i32_w]
    rfl
  refine take_ (i := 13) (N := some 89) (v := ?_) (a' := ?_) #[true, true, true, true, true, true, true, true, true, true, true, true, true, true, false, false, false, false, false, false] rfl rfl (by kernel_rfl) (fun _ _ _ h => h) (Or.inl ⟨by rfl, ?_⟩) hHeld ?_ ?_
  rotate_left
  · rintro w' ⟨s0, s1, s2⟩
    go_simp
    with_reducible rfl
  rotate_left
  · simp only [Act.put, List.setIfInBounds_toArray, List.set_cons_zero, List.set_cons_succ, i64_w, i32_w]
    rfl
  refine pure_ (i := 14) (N := some 90) (v := ?_) (a' := ?_) #[true, true, true, true, true, true, true, true, true, true, true, true, true, true, true, false, false, false, false, false] rfl rfl (by kernel_rfl) (fun _ _ _ h => h) (Or.inl ⟨by rfl, ?_⟩) ?_ ?_
  rotate_left
  · intro w'
    go_simp
    with_reducible rfl
  rotate_left
  · simp only [Act.put, List.setIfInBounds_toArray, List.set_cons_zero, List.set_cons_succ, i64_w, i32_w]
    rfl
  refine pure_ (i := 15) (N := some 91) (v := ?_) (a' := ?_) #[true, true, true, true, true, true, true, true, true, true, true, true, true, true, true, true, false, false, false, false] rfl rfl (by kernel_rfl) (fun _ _ _ h => h) (Or.inl ⟨by rfl, ?_⟩) ?_ ?_
  rotate_left
  · intro w'
    go_simp
    rw [HW.out]
  rotate_left
  · simp only [Act.put, List.setIfInBounds_toArray, List.set_cons_zero, List.set_cons_succ, i64_w, i32_w]
    rfl
  refine one_ (i := 16) (N := some 92) #[true, true, true, true, true, true, true, true, true, true, true, true, true, true, true, true, true, false, false, false] rfl rfl (by kernel_rfl) (by decide) (fun K hK => ?_)
  refine goes_ Tryd.func68 (by kernel_rfl) rfl #[.slice (some ⟨g, 0, none⟩) l cap, .int .i64 n] (by rfl) rfl rfl (by (try simp only [List.map_toArray, List.map_cons, List.map_nil]); first | done | rfl | (simp only [List.length_drop, List.length_take]; rfl)) ?_
  with_reducible refine (HGS.out w2.drew (below_drew HB1.out)).mono ?_
  rintro e w3 ⟨cap2, cells, rfl, k1, k2, k3, k4, k5, k6⟩
  refine ⟨_, rfl, ?_⟩
  refine hK.out _ _ (let q := hHeld.2.2.below k6; ⟨q.c0, q.c1, q⟩) (fun hHeld => ?_)
  clear hK K
  refine norm_ (a' := ?_) ?_ ?_
  rotate_left
  · show Act.put _ (some 92) _ = _
    simp only [Act.put, List.setIfInBounds_toArray, List.set_cons_zero, List.set_cons_succ, i64_w, i32_w]
    rfl
  refine pure_ (i := 17) (N := some 93) (v := ?_) (a' := ?_) #[true, true, true, true, true, true, true, true, true, true, true, true, true, true, true, true, true, true, false, false] rfl rfl (by kernel_rfl) (fun _ _ _ h => h) (Or.inl ⟨by rfl, ?_⟩) ?_ ?_
  rotate_left
  · intro w'
    go_simp
    with_reducible rfl
  rotate_left
  · simp only [Act.put, List.setIfInBounds_toArray, List.set_cons_zero, List.set_cons_succ, i64_w, i32_w]
    rfl
  refine pure_ (i := 18) (N := some 94) (v := ?_) (a' := ?_) #[true, true, true, true, true, true, true, true, true, true, true, true, true, true, true, true, true, true, true, false] rfl rfl (by kernel_rfl) (fun _ _ _ h => h) (Or.inl ⟨by rfl, ?_⟩) ?_ ?_
  rotate_left
  · intro w'
    go_simp
    with_reducible rfl
  rotate_left
  · simp only [Act.put, List.setIfInBounds_toArray, List.set_cons_zero, List.set_cons_succ, i64_w, i32_w]
    rfl
  refine last_ (i := 19) (N := none) #[true, true, true, true, true, true, true, true, true, true, true, true, true, true, true, true, true, true, true, true] rfl rfl (by kernel_rfl) (by decide) (fun K hK => ?_)
  obtain ⟨s0, s1, s2⟩ := hHeld
  have fA := s2.f 0
  refine skip_ (w1 := ?_) (by rfl) rfl ?_ ?_
  rotate_left
  · go_simp
    rfl
  refine hK.out _ _ ?_
  clear hK K
  refine norm_ (a' := ?_) ?_ ?_
  rotate_left
  · rfl
  refine done_ (by kernel_rfl) ?_
  have K1 := Aside0.mk k1
  have K2 := Aside0.mk k2
  have K3 := Aside0.mk k3
  have K4 : Aside0 (m ≤ cap2) := ⟨by have := HM.out; omega⟩
  have K5 := Aside0.mk k5
  have K6 : Aside0 (Below w2.heap.size w2 w3) := ⟨below_then (below_drew (Below.refl _ w2)) (Nat.le_refl _) k6⟩
  have hm2 : (m : Int) ≤ cap2 := by have := HM.out; omega
  have hm3 : m ≤ cap2 := by have := HM.out; omega
  have hm4 : ¬ cap2 = 0 := by omega
  clear k1 k2 k3 k4 k5 k6 s0 s1 fA c0 c1 hq2
  generalize hw4 : World.setCell _ _ _ = w4
  have H4 : Aside0 (BfC w4 b (.slice (some ⟨w2.heap.size, 0, none⟩) l cap2) lr) := ⟨by rw [← hw4]; exact s2.set0 _⟩
  have O4 : Aside0 (Only b w3 w4) := ⟨by rw [← hw4]; exact (Only.refl _ _).set _ _⟩
  clear hw4 s2
  have f1 := H4.out.f 1
  have cc1 := H4.out.c1
  go_upto_region 17 with fail
  generalize hw5 : World.setCell _ _ _ = w5
  have H5 : Aside0 (BfC w5 b (.slice (some ⟨w2.heap.size, 0, none⟩) l cap2) lr) := ⟨by rw [← hw5]; exact H4.out.set1⟩
  have O5 : Aside0 (Only b w3 w5) := ⟨by rw [← hw5]; exact O4.out.set _ _⟩
  clear hw5 f1 cc1
  have f0 := H5.out.f 0
  have c50 := H5.out.c0
  have hs := HS.out
  go_wp2_with fail
  go_ret
  have hm := HM.out
  subst hm
  exact ⟨rfl, grown_of (blk_lt' H.out) HB1.out.size K1.out (Only.of_below (below_then HB1.out HB1.out.size K6.out)) (O5.out.set _ _) (H5.out.set0 _) K2.out K3.out K4.out K5.out⟩
end Go.Proofs.YtigpdgfhngknhaaDoor.Snk
/- bytes.Buffer: bytes are written. -/
namespace Go.Proofs.YtigpdgfhngknhaaDoor.Snk
open Go.RowKit Go.Proofs.YtigpdgfhngknhaaDoorW.PrintWords Go.Proofs.YtigpdgfhngknhaaDoorW.PrintLast Go.Proofs.YtigpdgfhngknhaaDoorW.PrintMore
set_option linter.unusedVariables false
set_option linter.unusedSimpArgs false
/-- Room was made behind l cells: the row r. -/
def Room (b l n : Nat) (old : List Value) (lr : Int) (own : Nat → Prop) (w w' : World) : Prop := ∃ r cap cells, BfC w' b (.slice (some ⟨r, 0, none⟩) (l + n) cap) lr ∧ r ≠ b ∧ own r ∧ w'.heap[r]? = some (.cells cells 5 (0, 0)) ∧ cells.size = cap ∧ cells.toList.take l = old ∧ l + n ≤ cap ∧ cap ≤ maxLen ∧ Only b w w'
theorem Grown.room {b l n : Nat} {old : List Value} {lr : Int} {w w' : World} (hb : b < w.heap.size) (h : Grown b l n old lr w w') : Room b l n old lr (fun k => w.heap.size ≤ k) w w' := by
  obtain ⟨r, cap, cells, h1, h2, h3, h4, h5, h6, h7, h8⟩ := h
  exact ⟨r, cap, cells, h2, by omega, h1, h3, h4, h5, h6, h7, h8⟩
theorem grow0 (b n : Nat) (lr : Int) (w : World) (h : BfC w b (.slice none 0 0) lr) (hn : 1 ≤ n) (hlim : n ≤ 140737488355328) : Calls Tryd.prog 59 #[.pointer (some ⟨b, 0, none⟩), .int .i64 n] w fun e w' => e = .returned (.int .i64 (0 : Nat)) ∧ Grown b 0 n [] lr w w' := by
  by_cases h64 : n ≤ 64
  · exact growN b n lr w h hn h64
  · exact growB b n lr w h (by omega) hlim
theorem growR (b n : Nat) (lr : Int) (w : World) (g l cap : Nat) (cur : Array Value) (h : BfC w b (.slice (some ⟨g, 0, none⟩) l cap) lr) (hg : w.heap[g]? = some (.cells cur 5 (0, 0))) (hcs : cur.size = cap) (hlc : l ≤ cap) (hn : cap - l < n) (hlim : l + n ≤ 140737488355328) (h1c : ∀ v ∈ cur.toList.take l, v.oneCell' = true) : Calls Tryd.prog 59 #[.pointer (some ⟨b, 0, none⟩), .int .i64 n] w fun e w' => e = .returned (.int .i64 (l : Nat)) ∧ Grown b l n (cur.toList.take l) lr w w' := by
  by_cases hl : 0 < l
  · exact growD b n lr w g l cap cur h hg hcs hl hlc hn hlim h1c
  · obtain rfl : l = 0 := by omega
    exact growE b n lr w g cap cur h hg hcs hn hlim h1c
/-- A copy of bytes into a row. -/
theorem copyB {W : World} {ρ : Operand → Value} {o : Oper} (d s : Operand) (ho : o.op = .call { callee := .builtin .copy, args := #[d, s], argTypes := #[26, 26] }) {r off n dc c : Nat} {A : Option Addr} {p : List Int} {cells : Array Value} (hg : W.heap[r]? = some (.cells cells 5 (0, 0))) (hn : 0 < n) (hfit : off + n ≤ cells.size)
    (hd : ρ d = .slice (some ⟨r, off, none⟩) n dc) (hs : ρ s = .slice A n c) (hp : ReadsInt W .u8 A n p) :
    (execOp ρ o).run Tryd.prog W = .ok (.value (.int .i64 (n : Int))) (W.setRow r (cells.toList.take off ++ (byteC p ++ cells.toList.drop (off + n))).toArray) := by
  have hsz : (Tryd.prog.info? 5).map (·.size) = some 1 := by kernel_rfl
  obtain ⟨hl, _, hc⟩ := hp
  obtain ⟨ad, rfl, hcc⟩ := hc hn
  have hb : (byteC p).length = n := by rw [byteC_len, hl]
  have hrun := run_copy_row (P := Tryd.prog) W 26 26 o.type 5 r off n dc ad n c cells 5 (byteC p) Tryd.underlying26 hsz hg (by rw [hb]; exact (Nat.min_self n).symm) (fun j v hj => ?_) (by rw [hb]; exact hfit) (fun v hv => ?_)
  · rw [hb] at hrun
    simp [execOp, ho, resolve, invoke, builtin, hd, hs, hrun, Result.andThen]
    rfl
  · have hjl : j < p.length := by rw [← byteC_len]; exact (List.getElem?_eq_some_iff.1 hj).1
    rw [byteC_at hjl] at hj
    obtain rfl := Option.some.inj hj
    exact hcc j (by omega)
  · unfold byteC at hv
    obtain ⟨x, _, rfl⟩ := List.mem_map.1 hv
    rfl
/-- What a buffer's writer may turn: its three cells and one row. -/
structure Turned (b r : Nat) (w w' : World) : Prop where
  os : w'.os = w.os
  tape : w'.tape = w.tape
  output : w'.output = w.output
  size : w.heap.size ≤ w'.heap.size
  block : ∀ k, k < w.heap.size → k ≠ b → k ≠ r → w'.heap[k]? = w.heap[k]?
theorem Turned.row {b r : Nat} {w w1 : World} (h : Only b w w1) (cs : Array Value) : Turned b r w (w1.setRow r cs) :=
  ⟨h.os, h.tape, h.output, by rw [setRow_size]; exact h.size, fun k hk hkb hkr => (setRow_other w1 r k cs hkr).trans (h.block k hk hkb)⟩
theorem BfC.row {w : World} {b r : Nat} {v : Value} {lr : Int} (h : BfC w b v lr) (hr : r ≠ b) (cs : Array Value) : BfC (w.setRow r cs) b v lr := (setRow_other w r b cs (Ne.symm hr)).trans h
theorem take_laid (L P : List Value) (off n : Nat) (h : off + n ≤ L.length) (hP : P.length = n) : (L.take off ++ (P ++ L.drop (off + n))).take (off + n) = L.take off ++ P := by
  rw [← List.append_assoc, List.take_left' (by rw [List.length_append, List.length_take]; omega)]
theorem size_laid (L P : List Value) (off n : Nat) (h : off + n ≤ L.length) (hP : P.length = n) : (L.take off ++ (P ++ L.drop (off + n))).toArray.size = L.length := by
  simp only [List.size_toArray, List.length_append, List.length_take, List.length_drop]; omega
/-- n bytes more lie in the row r. -/
def Laid (b l n : Nat) (row : List Value) (own : Nat → Prop) (w w' : World) : Prop := ∃ r cap cells, BfC w' b (.slice (some ⟨r, 0, none⟩) (l + n) cap) 0 ∧ r ≠ b ∧ own r ∧ w'.heap[r]? = some (.cells cells 5 (0, 0)) ∧ cells.size = cap ∧ cells.toList.take (l + n) = row ∧ l + n ≤ cap ∧ cap ≤ maxLen ∧ Turned b r w w'
set_option maxRecDepth 100000 in
set_option maxHeartbeats 4000000 in
theorem writeT (b n l : Nat) (v : Value) (lr : Int) (own : Nat → Prop) (old : List Value) (A : Option Addr) (c : Nat) (p : List Int) (w : World) (h : BfC w b v lr) (hn : 0 < n) (hc : n ≤ c) (hr : ∀ W, Only b w W → ReadsInt W .u8 A n p) (hl : l + n ≤ 140737488355328) (ht : ∀ w1, BfC w1 b v 0 → Only b w w1 → Calls Tryd.prog 58 #[.pointer (some ⟨b, 0, none⟩), .int .i64 n] w1 (fun e w' => e = .returned (.tuple #[.int .i64 l, .bool true]) ∧ Room b l n old 0 own w w')) :
    Calls Tryd.prog 92 #[.pointer (some ⟨b, 0, none⟩), .slice A n c] w fun e w' => e = .returned (.tuple #[.int .i64 n, .nilIface]) ∧ Laid b l n (old ++ byteC p) own w w' := by
  have HN := Aside0.mk hn
  have HC := Aside0.mk hc
  have HR := Aside0.mk hr
  have HT := Aside0.mk ht
  have HL := Aside0.mk hl
  have HP : Aside0 (p.length = n) := ⟨(hr w (Only.refl _ _)).1⟩
  obtain ⟨m, hm⟩ : ∃ m, l + n = m := ⟨_, rfl⟩
  have HM := Aside0.mk hm
  have hlm : l ≤ m := by omega
  have hlm2 : (l : Int) ≤ (m : Int) := by omega
  have hml : Aside0 (m - l = n) := ⟨by omega⟩
  have c2 := h.c2
  have f2 := h.f 2
  have H := Aside0.mk h
  clear h hn hc hr ht hl hm
  go_enter Tryd.func92, Tryd.ntmps92
  go_upto_region 2 with fail
  generalize hw1 : World.setCell _ _ _ = w1
  have H1 : Aside0 (BfC w1 b v 0) := ⟨by rw [← hw1]; exact H.out.set2 0⟩
  have O1 : Aside0 (Only b w w1) := ⟨by rw [← hw1]; exact (Only.refl _ _).set _ _⟩
  clear hw1 c2 f2
  go_upto_region 5 with (go_at_call 58; (with_reducible refine (HT.out w1 H1.out O1.out).mono ?_); rintro e w2 ⟨rfl, r, cap, cells, k1, k2, k3, k4, k5, k6, k7, k8, k9⟩; have K1 := Aside0.mk k1; have K2 := Aside0.mk k2; have K3 := Aside0.mk k3; have K4 := Aside0.mk k4; have K5 := Aside0.mk k5; have K6 := Aside0.mk k6; have K7 := Aside0.mk k7; have K8 := Aside0.mk k8; have K9 := Aside0.mk k9; clear k1 k2 k3 k4 k5 k6 k7 k8 k9)
  have hc0 : w2.cell? ⟨b, 0, none⟩ = some (.slice (some ⟨r, 0, none⟩) m cap) := by rw [← HM.out]; exact K1.out.c0
  have hcl : ¬ cap = l := by have h1 := K7.out; have h2 := HN.out; omega
  have hmc : m ≤ cap := by have h1 := K7.out; have h2 := HM.out; omega
  have HFIT : Aside0 (l + n ≤ cells.toList.length) := ⟨by rw [Array.length_toList, K5.out]; exact K7.out⟩
  have HRUN : Aside0 (∀ (ρ : Operand → Value) (o : Oper) (dc : Nat), o.op = .call { callee := .builtin .copy, args := #[.tmp 29, .tmp 30], argTypes := #[26, 26] } → ρ (.tmp 29) = .slice (some ⟨r, l, none⟩) (m - l) dc → ρ (.tmp 30) = .slice A n c → (execOp ρ o).run Tryd.prog w2 = .ok (.value (.int .i64 (n : Int))) (w2.setRow r (cells.toList.take l ++ (byteC p ++ cells.toList.drop (l + n))).toArray)) := ⟨fun ρ o dc h1 h2 h3 => copyB (.tmp 29) (.tmp 30) h1 K4.out HN.out (by rw [← Array.length_toList]; exact HFIT.out) (by rw [h2, hml.out]) h3 (HR.out w2 K9.out)⟩
  obtain ⟨w9, hw9⟩ : ∃ w9, w2.setRow r (cells.toList.take l ++ (byteC p ++ cells.toList.drop (l + n))).toArray = w9 := ⟨_, rfl⟩
  have HW9 := Aside0.mk hw9
  rw [hw9] at HRUN
  clear hw9
  go_wp2_with ((with_reducible refine at_dst (N := 31) rfl ?_); refine wpList_run rfl _ (HRUN.out _ _ _ rfl rfl rfl) ?_)
  go_ret2
  have hw9 := HW9.out
  subst hw9
  exact ⟨rfl, r, cap, _, K1.out.row K2.out _, K2.out, K3.out, setRow_heap _ _ _ _ _ _ K4.out, (size_laid _ _ _ _ HFIT.out (by rw [byteC_len]; exact HP.out)).trans (by rw [Array.length_toList, K5.out]), (take_laid _ _ _ _ HFIT.out (by rw [byteC_len]; exact HP.out)).trans (by rw [K6.out]), K7.out, K8.out, .row K9.out _⟩
set_option maxRecDepth 100000 in
set_option maxHeartbeats 4000000 in
theorem writeF (b n l : Nat) (v : Value) (lr : Int) (own : Nat → Prop) (old : List Value) (A : Option Addr) (c : Nat) (p : List Int) (w : World) (h : BfC w b v lr) (hn : 0 < n) (hc : n ≤ c) (hr : ∀ W, Only b w W → ReadsInt W .u8 A n p) (hl : l + n ≤ 140737488355328) (ht : ∀ w1, BfC w1 b v 0 → Only b w w1 → Calls Tryd.prog 58 #[.pointer (some ⟨b, 0, none⟩), .int .i64 n] w1 (fun e w' => e = .returned (.tuple #[.int .i64 0, .bool false]) ∧ w' = w1)) (hg : ∀ w1, BfC w1 b v 0 → Only b w w1 → Calls Tryd.prog 59 #[.pointer (some ⟨b, 0, none⟩), .int .i64 n] w1 (fun e w' => e = .returned (.int .i64 l) ∧ Room b l n old 0 own w w')) :
    Calls Tryd.prog 92 #[.pointer (some ⟨b, 0, none⟩), .slice A n c] w fun e w' => e = .returned (.tuple #[.int .i64 n, .nilIface]) ∧ Laid b l n (old ++ byteC p) own w w' := by
  have HN := Aside0.mk hn
  have HC := Aside0.mk hc
  have HR := Aside0.mk hr
  have HT := Aside0.mk ht
  have HL := Aside0.mk hl
  have HP : Aside0 (p.length = n) := ⟨(hr w (Only.refl _ _)).1⟩
  have HGR := Aside0.mk hg
  obtain ⟨m, hm⟩ : ∃ m, l + n = m := ⟨_, rfl⟩
  have HM := Aside0.mk hm
  have hlm : l ≤ m := by omega
  have hlm2 : (l : Int) ≤ (m : Int) := by omega
  have hml : Aside0 (m - l = n) := ⟨by omega⟩
  have c2 := h.c2
  have f2 := h.f 2
  have H := Aside0.mk h
  clear h hn hc hr ht hl hg hm
  go_enter Tryd.func92, Tryd.ntmps92
  go_upto_region 2 with fail
  generalize hw1 : World.setCell _ _ _ = w1
  have H1 : Aside0 (BfC w1 b v 0) := ⟨by rw [← hw1]; exact H.out.set2 0⟩
  have O1 : Aside0 (Only b w w1) := ⟨by rw [← hw1]; exact (Only.refl _ _).set _ _⟩
  clear hw1 c2 f2
  go_upto_region 3 with (go_at_call 58; (with_reducible refine (HT.out w1 H1.out O1.out).mono ?_); rintro e w2 ⟨rfl, rfl⟩)
  go_upto_region 5 with (go_at_call 59; (with_reducible refine (HGR.out w2 H1.out O1.out).mono ?_); rintro e w3 ⟨rfl, r, cap, cells, k1, k2, k3, k4, k5, k6, k7, k8, k9⟩; have K1 := Aside0.mk k1; have K2 := Aside0.mk k2; have K3 := Aside0.mk k3; have K4 := Aside0.mk k4; have K5 := Aside0.mk k5; have K6 := Aside0.mk k6; have K7 := Aside0.mk k7; have K8 := Aside0.mk k8; have K9 := Aside0.mk k9; clear k1 k2 k3 k4 k5 k6 k7 k8 k9)
  have hc0 : w3.cell? ⟨b, 0, none⟩ = some (.slice (some ⟨r, 0, none⟩) m cap) := by rw [← HM.out]; exact K1.out.c0
  have hcl : ¬ cap = l := by have h1 := K7.out; have h2 := HN.out; omega
  have hmc : m ≤ cap := by have h1 := K7.out; have h2 := HM.out; omega
  have HFIT : Aside0 (l + n ≤ cells.toList.length) := ⟨by rw [Array.length_toList, K5.out]; exact K7.out⟩
  have HRUN : Aside0 (∀ (ρ : Operand → Value) (o : Oper) (dc : Nat), o.op = .call { callee := .builtin .copy, args := #[.tmp 29, .tmp 30], argTypes := #[26, 26] } → ρ (.tmp 29) = .slice (some ⟨r, l, none⟩) (m - l) dc → ρ (.tmp 30) = .slice A n c → (execOp ρ o).run Tryd.prog w3 = .ok (.value (.int .i64 (n : Int))) (w3.setRow r (cells.toList.take l ++ (byteC p ++ cells.toList.drop (l + n))).toArray)) := ⟨fun ρ o dc h1 h2 h3 => copyB (.tmp 29) (.tmp 30) h1 K4.out HN.out (by rw [← Array.length_toList]; exact HFIT.out) (by rw [h2, hml.out]) h3 (HR.out w3 K9.out)⟩
  obtain ⟨w9, hw9⟩ : ∃ w9, w3.setRow r (cells.toList.take l ++ (byteC p ++ cells.toList.drop (l + n))).toArray = w9 := ⟨_, rfl⟩
  have HW9 := Aside0.mk hw9
  rw [hw9] at HRUN
  clear hw9
  go_wp2_with ((with_reducible refine at_dst (N := 31) rfl ?_); refine wpList_run rfl _ (HRUN.out _ _ _ rfl rfl rfl) ?_)
  go_ret2
  have hw9 := HW9.out
  subst hw9
  exact ⟨rfl, r, cap, _, K1.out.row K2.out _, K2.out, K3.out, setRow_heap _ _ _ _ _ _ K4.out, (size_laid _ _ _ _ HFIT.out (by rw [byteC_len]; exact HP.out)).trans (by rw [Array.length_toList, K5.out]), (take_laid _ _ _ _ HFIT.out (by rw [byteC_len]; exact HP.out)).trans (by rw [K6.out]), K7.out, K8.out, .row K9.out _⟩
end Go.Proofs.YtigpdgfhngknhaaDoor.Snk
/- bytes.Buffer: one byte; nothing; what it holds. -/
namespace Go.Proofs.YtigpdgfhngknhaaDoor.Snk
open Go.RowKit Go.Proofs.YtigpdgfhngknhaaDoorW.PrintWords Go.Proofs.YtigpdgfhngknhaaDoorW.PrintLast Go.Proofs.YtigpdgfhngknhaaDoorW.PrintMore
set_option linter.unusedVariables false
set_option linter.unusedSimpArgs false
theorem Turned.only {b r : Nat} {w w1 w2 : World} (h : Only b w w1) (k : Only r w1 w2) : Turned b r w w2 :=
  ⟨k.os.trans h.os, k.tape.trans h.tape, k.output.trans h.output, Nat.le_trans h.size k.size, fun i hi hb hr => (k.block i (Nat.lt_of_lt_of_le hi h.size) hr).trans (h.block i hi hb)⟩
theorem take_set_end (L : List Value) (l : Nat) (old : List Value) (x : Value) (h : L.take l = old) (hl : l + 1 ≤ L.length) : (L.set l x).take (l + 1) = old ++ [x] := by
  subst h
  rw [List.take_add_one, List.take_set_of_le (Nat.le_refl _), List.getElem?_set_self (by omega)]
  rfl
theorem BfC.trans' {w : World} {b r : Nat} {v u : Value} {lr : Int} {j : Nat} {cells : Array Value} (h : BfC w b v lr) (hr : r ≠ b) (hc : w.heap[r]? = some (.cells cells 5 (0, 0))) : BfC (w.setCell ⟨r, j, none⟩ u) b v lr := (Below.heap_setCell w ⟨r, j, none⟩ u b (Ne.symm hr)).trans h
set_option maxRecDepth 100000 in
set_option maxHeartbeats 4000000 in
theorem byteT (b l : Nat) (v : Value) (lr : Int) (own : Nat → Prop) (old : List Value) (x : Int) (w : World) (h : BfC w b v lr) (hl : l + 1 ≤ 140737488355328) (ht : ∀ w1, BfC w1 b v 0 → Only b w w1 → Calls Tryd.prog 58 #[.pointer (some ⟨b, 0, none⟩), .int .i64 1] w1 (fun e w' => e = .returned (.tuple #[.int .i64 l, .bool true]) ∧ Room b l 1 old 0 own w w')) :
    Calls Tryd.prog 49 #[.pointer (some ⟨b, 0, none⟩), .int .u8 x] w fun e w' => e = .returned (.nilIface) ∧ Laid b l 1 (old ++ [.int .u8 x]) own w w' := by
  have HT := Aside0.mk ht
  have HL := Aside0.mk hl
  obtain ⟨m, hm⟩ : ∃ m, l + 1 = m := ⟨_, rfl⟩
  have HM := Aside0.mk hm
  have hlm : l < m := by omega
  have hlm2 : (l : Int) < (m : Int) := by omega
  have c2 := h.c2
  have f2 := h.f 2
  have H := Aside0.mk h
  clear h ht hl hm
  go_enter Tryd.func49, Tryd.ntmps49
  go_upto_region 2 with fail
  generalize hw1 : World.setCell _ _ _ = w1
  have H1 : Aside0 (BfC w1 b v 0) := ⟨by rw [← hw1]; exact H.out.set2 0⟩
  have O1 : Aside0 (Only b w w1) := ⟨by rw [← hw1]; exact (Only.refl _ _).set _ _⟩
  clear hw1 c2 f2
  go_upto_region 5 with (go_at_call 58; (with_reducible refine (HT.out w1 H1.out O1.out).mono ?_); rintro e w2 ⟨rfl, r, cap, cells, k1, k2, k3, k4, k5, k6, k7, k8, k9⟩; have K1 := Aside0.mk k1; have K2 := Aside0.mk k2; have K3 := Aside0.mk k3; have K4 := Aside0.mk k4; have K5 := Aside0.mk k5; have K6 := Aside0.mk k6; have K7 := Aside0.mk k7; have K8 := Aside0.mk k8; have K9 := Aside0.mk k9; clear k1 k2 k3 k4 k5 k6 k7 k8 k9)
  have hc0 : w2.cell? ⟨b, 0, none⟩ = some (.slice (some ⟨r, 0, none⟩) m cap) := by rw [← HM.out]; exact K1.out.c0
  have hfz : w2.frozen? ⟨r, l, none⟩ = false := frozen_of K4.out l
  have hcl : l < cells.size := by rw [K5.out]; have h1 := K7.out; omega
  obtain ⟨y, hy⟩ : ∃ y, cells[l]? = some y := ⟨_, Array.getElem?_eq_getElem hcl⟩
  have hcy : w2.cell? ⟨r, l, none⟩ = some y := cell_of K4.out hy
  clear hcl hy
  go_wp2_with fail
  go_ret
  exact ⟨rfl, r, cap, _, K1.out.trans' K2.out K4.out, K2.out, K3.out, heap_set_same K4.out (j := l) _, (by rw [Array.size_setIfInBounds]; exact K5.out), (by rw [Array.toList_setIfInBounds]; exact take_set_end _ _ _ _ K6.out (by rw [Array.length_toList, K5.out]; exact K7.out)), K7.out, K8.out, .only K9.out ((Only.refl _ _).set _ _)⟩
set_option maxRecDepth 100000 in
set_option maxHeartbeats 4000000 in
theorem byteF (b l : Nat) (v : Value) (lr : Int) (own : Nat → Prop) (old : List Value) (x : Int) (w : World) (h : BfC w b v lr) (hl : l + 1 ≤ 140737488355328) (ht : ∀ w1, BfC w1 b v 0 → Only b w w1 → Calls Tryd.prog 58 #[.pointer (some ⟨b, 0, none⟩), .int .i64 1] w1 (fun e w' => e = .returned (.tuple #[.int .i64 0, .bool false]) ∧ w' = w1)) (hg : ∀ w1, BfC w1 b v 0 → Only b w w1 → Calls Tryd.prog 59 #[.pointer (some ⟨b, 0, none⟩), .int .i64 1] w1 (fun e w' => e = .returned (.int .i64 l) ∧ Room b l 1 old 0 own w w')) :
    Calls Tryd.prog 49 #[.pointer (some ⟨b, 0, none⟩), .int .u8 x] w fun e w' => e = .returned (.nilIface) ∧ Laid b l 1 (old ++ [.int .u8 x]) own w w' := by
  have HT := Aside0.mk ht
  have HL := Aside0.mk hl
  have HGR := Aside0.mk hg
  obtain ⟨m, hm⟩ : ∃ m, l + 1 = m := ⟨_, rfl⟩
  have HM := Aside0.mk hm
  have hlm : l < m := by omega
  have hlm2 : (l : Int) < (m : Int) := by omega
  have c2 := h.c2
  have f2 := h.f 2
  have H := Aside0.mk h
  clear h ht hl hg hm
  go_enter Tryd.func49, Tryd.ntmps49
  go_upto_region 2 with fail
  generalize hw1 : World.setCell _ _ _ = w1
  have H1 : Aside0 (BfC w1 b v 0) := ⟨by rw [← hw1]; exact H.out.set2 0⟩
  have O1 : Aside0 (Only b w w1) := ⟨by rw [← hw1]; exact (Only.refl _ _).set _ _⟩
  clear hw1 c2 f2
  go_upto_region 3 with (go_at_call 58; (with_reducible refine (HT.out w1 H1.out O1.out).mono ?_); rintro e w2 ⟨rfl, rfl⟩)
  go_upto_region 5 with (go_at_call 59; (with_reducible refine (HGR.out w2 H1.out O1.out).mono ?_); rintro e w3 ⟨rfl, r, cap, cells, k1, k2, k3, k4, k5, k6, k7, k8, k9⟩; have K1 := Aside0.mk k1; have K2 := Aside0.mk k2; have K3 := Aside0.mk k3; have K4 := Aside0.mk k4; have K5 := Aside0.mk k5; have K6 := Aside0.mk k6; have K7 := Aside0.mk k7; have K8 := Aside0.mk k8; have K9 := Aside0.mk k9; clear k1 k2 k3 k4 k5 k6 k7 k8 k9)
  have hc0 : w3.cell? ⟨b, 0, none⟩ = some (.slice (some ⟨r, 0, none⟩) m cap) := by rw [← HM.out]; exact K1.out.c0
  have hfz : w3.frozen? ⟨r, l, none⟩ = false := frozen_of K4.out l
  have hcl : l < cells.size := by rw [K5.out]; have h1 := K7.out; omega
  obtain ⟨y, hy⟩ : ∃ y, cells[l]? = some y := ⟨_, Array.getElem?_eq_getElem hcl⟩
  have hcy : w3.cell? ⟨r, l, none⟩ = some y := cell_of K4.out hy
  clear hcl hy
  go_wp2_with fail
  go_ret
  exact ⟨rfl, r, cap, _, K1.out.trans' K2.out K4.out, K2.out, K3.out, heap_set_same K4.out (j := l) _, (by rw [Array.size_setIfInBounds]; exact K5.out), (by rw [Array.toList_setIfInBounds]; exact take_set_end _ _ _ _ K6.out (by rw [Array.length_toList, K5.out]; exact K7.out)), K7.out, K8.out, .only K9.out ((Only.refl _ _).set _ _)⟩
set_option maxRecDepth 100000 in
set_option maxHeartbeats 4000000 in
theorem zeroN (b : Nat) (lr : Int) (A : Option Addr) (c : Nat) (w : World) (h : BfC w b (.slice none 0 0) lr) :
    Calls Tryd.prog 92 #[.pointer (some ⟨b, 0, none⟩), .slice A 0 c] w fun e w' => e = .returned (.tuple #[.int .i64 (0 : Nat), .nilIface]) ∧ BfC w' b (.slice none 0 0) 0 ∧ Only b w w' := by
  have hlc : 0 ≤ 0 := Nat.le_refl _
  have hcm : 0 ≤ maxLen := by simp [maxLen]
  have HT : Aside0 (∀ w1, BfC w1 b (.slice none 0 0) 0 → Calls Tryd.prog 58 #[.pointer (some ⟨b, 0, none⟩), .int .i64 0] w1 fun e w' => e = .returned (.tuple #[.int .i64 (0 : Nat), .bool true]) ∧ w' = w1.setCell ⟨b, 0, none⟩ (.slice none (0 + 0) 0)) := ⟨fun w1 h1 => tryRoom b none 0 0 0 0 w1 h1 hlc hcm (Nat.zero_le _)⟩
  have HLC := Aside0.mk hlc
  have c2 := h.c2
  have f2 := h.f 2
  have H := Aside0.mk h
  clear h hcm
  go_enter Tryd.func92, Tryd.ntmps92
  go_upto_region 2 with fail
  generalize hw1 : World.setCell _ _ _ = w1
  have H1 : Aside0 (BfC w1 b (.slice none 0 0) 0) := ⟨by rw [← hw1]; exact H.out.set2 0⟩
  have O1 : Aside0 (Only b w w1) := ⟨by rw [← hw1]; exact (Only.refl _ _).set _ _⟩
  clear hw1 c2 f2
  go_upto_region 5 with (go_at_call 58; (with_reducible refine (HT.out w1 H1.out).mono ?_); rintro e w2 ⟨rfl, hw2⟩; have H2 : Aside0 (BfC w2 b (.slice none 0 0) 0) := ⟨by rw [hw2]; exact H1.out.set0 _⟩; have O2 : Aside0 (Only b w w2) := ⟨by rw [hw2]; exact O1.out.set _ _⟩; clear hw2)
  have hc0 := H2.out.c0
  have hsz : Aside0 ((Tryd.prog.info? 5).map (·.size) = some 1) := ⟨by kernel_rfl⟩
  have hu : Aside0 (Tryd.prog.underlying 26 = some (.slice 5)) := ⟨Tryd.underlying26⟩
  go_wp2_with ((with_reducible refine at_dst (N := 31) rfl ?_); refine wpList_copy_nothing rfl (.tmp 29) (.tmp 30) 26 26 rfl 5 hu.out hsz.out _ _ _ _ _ _ rfl rfl (by first | rfl | (rw [Nat.sub_self]; rfl)) ?_)
  all_goals
    go_ret2
    first
      | exact ⟨rfl, H2.out, O2.out⟩
      | (have hx : cap = l := by assumption
         subst hx
         exact ⟨rfl, H2.out, O2.out⟩)
      | (have hx : l = cap := by assumption
         subst hx
         exact ⟨rfl, H2.out, O2.out⟩)
set_option maxRecDepth 100000 in
set_option maxHeartbeats 4000000 in
theorem zeroR (b g l cap : Nat) (lr : Int) (A : Option Addr) (c : Nat) (w : World) (h : BfC w b (.slice (some ⟨g, 0, none⟩) l cap) lr) (hlc : l ≤ cap) (hcm : cap ≤ maxLen) :
    Calls Tryd.prog 92 #[.pointer (some ⟨b, 0, none⟩), .slice A 0 c] w fun e w' => e = .returned (.tuple #[.int .i64 (0 : Nat), .nilIface]) ∧ BfC w' b (.slice (some ⟨g, 0, none⟩) l cap) 0 ∧ Only b w w' := by
  have hlm : ¬ (cap : Int) < (l : Int) := by omega
  have HT : Aside0 (∀ w1, BfC w1 b (.slice (some ⟨g, 0, none⟩) l cap) 0 → Calls Tryd.prog 58 #[.pointer (some ⟨b, 0, none⟩), .int .i64 0] w1 fun e w' => e = .returned (.tuple #[.int .i64 l, .bool true]) ∧ w' = w1.setCell ⟨b, 0, none⟩ (.slice (some ⟨g, 0, none⟩) (l + 0) cap)) := ⟨fun w1 h1 => tryRoom b (some ⟨g, 0, none⟩) l cap 0 0 w1 h1 hlc hcm (Nat.zero_le _)⟩
  have HLC := Aside0.mk hlc
  have c2 := h.c2
  have f2 := h.f 2
  have H := Aside0.mk h
  clear h hcm
  go_enter Tryd.func92, Tryd.ntmps92
  go_upto_region 2 with fail
  generalize hw1 : World.setCell _ _ _ = w1
  have H1 : Aside0 (BfC w1 b (.slice (some ⟨g, 0, none⟩) l cap) 0) := ⟨by rw [← hw1]; exact H.out.set2 0⟩
  have O1 : Aside0 (Only b w w1) := ⟨by rw [← hw1]; exact (Only.refl _ _).set _ _⟩
  clear hw1 c2 f2
  go_upto_region 5 with (go_at_call 58; (with_reducible refine (HT.out w1 H1.out).mono ?_); rintro e w2 ⟨rfl, hw2⟩; have H2 : Aside0 (BfC w2 b (.slice (some ⟨g, 0, none⟩) l cap) 0) := ⟨by rw [hw2]; exact H1.out.set0 _⟩; have O2 : Aside0 (Only b w w2) := ⟨by rw [hw2]; exact O1.out.set _ _⟩; clear hw2)
  have hc0 := H2.out.c0
  have hsz : Aside0 ((Tryd.prog.info? 5).map (·.size) = some 1) := ⟨by kernel_rfl⟩
  have hu : Aside0 (Tryd.prog.underlying 26 = some (.slice 5)) := ⟨Tryd.underlying26⟩
  go_wp2_with ((with_reducible refine at_dst (N := 31) rfl ?_); refine wpList_copy_nothing rfl (.tmp 29) (.tmp 30) 26 26 rfl 5 hu.out hsz.out _ _ _ _ _ _ rfl rfl (by first | rfl | (rw [Nat.sub_self]; rfl)) ?_)
  all_goals
    go_ret2
    first
      | exact ⟨rfl, H2.out, O2.out⟩
      | (have hx : cap = l := by assumption
         subst hx
         exact ⟨rfl, H2.out, O2.out⟩)
      | (have hx : l = cap := by assumption
         subst hx
         exact ⟨rfl, H2.out, O2.out⟩)
set_option maxRecDepth 100000 in
set_option maxHeartbeats 4000000 in
theorem bytesN (b : Nat) (lr : Int) (w : World) (h : BfC w b (.slice none 0 0) lr) :
    Calls Tryd.prog 17 #[.pointer (some ⟨b, 0, none⟩)] w fun e w' => e = .returned (.slice none 0 0) ∧ Below w.heap.size w w' ∧ BfC w' b (.slice none 0 0) lr := by
  have H := Aside0.mk h
  clear h
  go_enter Tryd.func17, Tryd.ntmps17
  go_upto_region 1 with fail
  refine start_ (n := 10) (S := fun w' => w'.cell? ⟨b, 0, none⟩ = some (.slice none 0 0) ∧ w'.cell? ⟨b, 1, none⟩ = some (.int .i64 0)) (ds := []) #[false, false, false, false, false, false, false, false, false, false] (by kernel_rfl) rfl rfl ⟨H.out.c0, H.out.c1⟩ (fun hHeld => ?_)
  refine pure_ (i := 0) (N := some 3) (v := ?_) (a' := ?_) #[true, false, false, false, false, false, false, false, false, false] rfl rfl (by kernel_rfl) (fun _ _ _ h => h) (Or.inl ⟨by rfl, ?_⟩) ?_ ?_
  rotate_left
  · intro w'
    go_simp
    with_reducible rfl
  rotate_left
  · simp only [Act.put, List.setIfInBounds_toArray, List.set_cons_zero, List.set_cons_succ, i64_w, i32_w]
    rfl
  refine pure_ (i := 1) (N := some 4) (v := ?_) (a' := ?_) #[true, true, false, false, false, false, false, false, false, false] rfl rfl (by kernel_rfl) (fun _ _ _ h => h) (Or.inl ⟨by rfl, ?_⟩) ?_ ?_
  rotate_left
  · intro w'
    go_simp
    with_reducible rfl
  rotate_left
  · simp only [Act.put, List.setIfInBounds_toArray, List.set_cons_zero, List.set_cons_succ, i64_w, i32_w]
    rfl
  refine pure_ (i := 2) (N := some 5) (v := ?_) (a' := ?_) #[true, true, true, false, false, false, false, false, false, false] rfl rfl (by kernel_rfl) (fun _ _ _ h => h) (Or.inl ⟨by rfl, ?_⟩) ?_ ?_
  rotate_left
  · intro w'
    go_simp
    with_reducible rfl
  rotate_left
  · simp only [Act.put, List.setIfInBounds_toArray, List.set_cons_zero, List.set_cons_succ, i64_w, i32_w]
    rfl
  refine take_ (i := 3) (N := some 6) (v := ?_) (a' := ?_) #[true, true, true, true, false, false, false, false, false, false] rfl rfl (by kernel_rfl) (fun _ _ _ h => h) (Or.inl ⟨by rfl, ?_⟩) hHeld ?_ ?_
  rotate_left
  · rintro w' ⟨s0, s1⟩
    go_simp
    with_reducible rfl
  rotate_left
  · simp only [Act.put, List.setIfInBounds_toArray, List.set_cons_zero, List.set_cons_succ, i64_w, i32_w]
    rfl
  refine pure_ (i := 4) (N := some 7) (v := ?_) (a' := ?_) #[true, true, true, true, true, false, false, false, false, false] rfl rfl (by kernel_rfl) (fun _ _ _ h => h) (Or.inl ⟨by rfl, ?_⟩) ?_ ?_
  rotate_left
  · intro w'
    go_simp
    with_reducible rfl
  rotate_left
  · simp only [Act.put, List.setIfInBounds_toArray, List.set_cons_zero, List.set_cons_succ, i64_w, i32_w]
    rfl
  refine pure_ (i := 5) (N := some 8) (v := ?_) (a' := ?_) #[true, true, true, true, true, true, false, false, false, false] rfl rfl (by kernel_rfl) (fun _ _ _ h => h) (Or.inl ⟨by rfl, ?_⟩) ?_ ?_
  rotate_left
  · intro w'
    go_simp
    with_reducible rfl
  rotate_left
  · simp only [Act.put, List.setIfInBounds_toArray, List.set_cons_zero, List.set_cons_succ, i64_w, i32_w]
    rfl
  refine pure_ (i := 6) (N := some 9) (v := ?_) (a' := ?_) #[true, true, true, true, true, true, true, false, false, false] rfl rfl (by kernel_rfl) (fun _ _ _ h => h) (Or.inl ⟨by rfl, ?_⟩) ?_ ?_
  rotate_left
  · intro w'
    go_simp
    with_reducible rfl
  rotate_left
  · simp only [Act.put, List.setIfInBounds_toArray, List.set_cons_zero, List.set_cons_succ, i64_w, i32_w]
    rfl
  refine take_ (i := 7) (N := some 10) (v := ?_) (a' := ?_) #[true, true, true, true, true, true, true, true, false, false] rfl rfl (by kernel_rfl) (fun _ _ _ h => h) (Or.inl ⟨by rfl, ?_⟩) hHeld ?_ ?_
  rotate_left
  · rintro w' ⟨s0, s1⟩
    go_simp
    with_reducible rfl
  rotate_left
  · simp only [Act.put, List.setIfInBounds_toArray, List.set_cons_zero, List.set_cons_succ, i64_w, i32_w]
    rfl
  refine pure_ (i := 8) (N := some 11) (v := ?_) (a' := ?_) #[true, true, true, true, true, true, true, true, true, false] rfl rfl (by kernel_rfl) (fun _ _ _ h => h) (Or.inl ⟨by rfl, ?_⟩) ?_ ?_
  rotate_left
  · intro w'
    go_simp
    with_reducible rfl
  rotate_left
  · simp only [Act.put, List.setIfInBounds_toArray, List.set_cons_zero, List.set_cons_succ, i64_w, i32_w]
    rfl
  refine pure_ (i := 9) (N := some 2) (v := ?_) (a' := ?_) #[true, true, true, true, true, true, true, true, true, true] rfl rfl (by kernel_rfl) (fun _ _ _ h => h) (Or.inl ⟨by rfl, ?_⟩) ?_ ?_
  rotate_left
  · intro w'
    go_simp
    with_reducible rfl
  rotate_left
  · simp only [Act.put, List.setIfInBounds_toArray, List.set_cons_zero, List.set_cons_succ, i64_w, i32_w]
    rfl
  refine done_ (by kernel_rfl) ?_
  go_wp2_with fail
  go_ret
  exact ⟨rfl, below_drew (Below.refl _ _), H.out⟩
set_option maxRecDepth 100000 in
set_option maxHeartbeats 4000000 in
theorem bytesR (b g l cap : Nat) (lr : Int) (w : World) (h : BfC w b (.slice (some ⟨g, 0, none⟩) l cap) lr) (hlc : l ≤ cap) (hcm : cap ≤ maxLen) :
    Calls Tryd.prog 17 #[.pointer (some ⟨b, 0, none⟩)] w fun e w' => e = .returned (.slice (some ⟨g, 0, none⟩) l cap) ∧ Below w.heap.size w w' ∧ BfC w' b (.slice (some ⟨g, 0, none⟩) l cap) lr := by
  have H := Aside0.mk h
  clear h hcm
  go_enter Tryd.func17, Tryd.ntmps17
  go_upto_region 1 with fail
  refine start_ (n := 10) (S := fun w' => w'.cell? ⟨b, 0, none⟩ = some (.slice (some ⟨g, 0, none⟩) l cap) ∧ w'.cell? ⟨b, 1, none⟩ = some (.int .i64 0)) (ds := []) #[false, false, false, false, false, false, false, false, false, false] (by kernel_rfl) rfl rfl ⟨H.out.c0, H.out.c1⟩ (fun hHeld => ?_)
  refine pure_ (i := 0) (N := some 3) (v := ?_) (a' := ?_) #[true, false, false, false, false, false, false, false, false, false] rfl rfl (by kernel_rfl) (fun _ _ _ h => h) (Or.inl ⟨by rfl, ?_⟩) ?_ ?_
  rotate_left
  · intro w'
    go_simp
    with_reducible rfl
  rotate_left
  · simp only [Act.put, List.setIfInBounds_toArray, List.set_cons_zero, List.set_cons_succ, i64_w, i32_w]
    rfl
  refine pure_ (i := 1) (N := some 4) (v := ?_) (a' := ?_) #[true, true, false, false, false, false, false, false, false, false] rfl rfl (by kernel_rfl) (fun _ _ _ h => h) (Or.inl ⟨by rfl, ?_⟩) ?_ ?_
  rotate_left
  · intro w'
    go_simp
    with_reducible rfl
  rotate_left
  · simp only [Act.put, List.setIfInBounds_toArray, List.set_cons_zero, List.set_cons_succ, i64_w, i32_w]
    rfl
  refine pure_ (i := 2) (N := some 5) (v := ?_) (a' := ?_) #[true, true, true, false, false, false, false, false, false, false] rfl rfl (by kernel_rfl) (fun _ _ _ h => h) (Or.inl ⟨by rfl, ?_⟩) ?_ ?_
  rotate_left
  · intro w'
    go_simp
    with_reducible rfl
  rotate_left
  · simp only [Act.put, List.setIfInBounds_toArray, List.set_cons_zero, List.set_cons_succ, i64_w, i32_w]
    rfl
  refine take_ (i := 3) (N := some 6) (v := ?_) (a' := ?_) #[true, true, true, true, false, false, false, false, false, false] rfl rfl (by kernel_rfl) (fun _ _ _ h => h) (Or.inl ⟨by rfl, ?_⟩) hHeld ?_ ?_
  rotate_left
  · rintro w' ⟨s0, s1⟩
    go_simp
    with_reducible rfl
  rotate_left
  · simp only [Act.put, List.setIfInBounds_toArray, List.set_cons_zero, List.set_cons_succ, i64_w, i32_w]
    rfl
  refine pure_ (i := 4) (N := some 7) (v := ?_) (a' := ?_) #[true, true, true, true, true, false, false, false, false, false] rfl rfl (by kernel_rfl) (fun _ _ _ h => h) (Or.inl ⟨by rfl, ?_⟩) ?_ ?_
  rotate_left
  · intro w'
    go_simp
    with_reducible rfl
  rotate_left
  · simp only [Act.put, List.setIfInBounds_toArray, List.set_cons_zero, List.set_cons_succ, i64_w, i32_w]
    rfl
  refine pure_ (i := 5) (N := some 8) (v := ?_) (a' := ?_) #[true, true, true, true, true, true, false, false, false, false] rfl rfl (by kernel_rfl) (fun _ _ _ h => h) (Or.inl ⟨by rfl, ?_⟩) ?_ ?_
  rotate_left
  · intro w'
    go_simp
    with_reducible rfl
  rotate_left
  · simp only [Act.put, List.setIfInBounds_toArray, List.set_cons_zero, List.set_cons_succ, i64_w, i32_w]
    rfl
  refine pure_ (i := 6) (N := some 9) (v := ?_) (a' := ?_) #[true, true, true, true, true, true, true, false, false, false] rfl rfl (by kernel_rfl) (fun _ _ _ h => h) (Or.inl ⟨by rfl, ?_⟩) ?_ ?_
  rotate_left
  · intro w'
    go_simp
    with_reducible rfl
  rotate_left
  · simp only [Act.put, List.setIfInBounds_toArray, List.set_cons_zero, List.set_cons_succ, i64_w, i32_w]
    rfl
  refine take_ (i := 7) (N := some 10) (v := ?_) (a' := ?_) #[true, true, true, true, true, true, true, true, false, false] rfl rfl (by kernel_rfl) (fun _ _ _ h => h) (Or.inl ⟨by rfl, ?_⟩) hHeld ?_ ?_
  rotate_left
  · rintro w' ⟨s0, s1⟩
    go_simp
    with_reducible rfl
  rotate_left
  · simp only [Act.put, List.setIfInBounds_toArray, List.set_cons_zero, List.set_cons_succ, i64_w, i32_w]
    rfl
  refine pure_ (i := 8) (N := some 11) (v := ?_) (a' := ?_) #[true, true, true, true, true, true, true, true, true, false] rfl rfl (by kernel_rfl) (fun _ _ _ h => h) (Or.inl ⟨by rfl, ?_⟩) ?_ ?_
  rotate_left
  · intro w'
    go_simp
    with_reducible rfl
  rotate_left
  · simp only [Act.put, List.setIfInBounds_toArray, List.set_cons_zero, List.set_cons_succ, i64_w, i32_w]
    rfl
  refine pure_ (i := 9) (N := some 2) (v := ?_) (a' := ?_) #[true, true, true, true, true, true, true, true, true, true] rfl rfl (by kernel_rfl) (fun _ _ _ h => h) (Or.inl ⟨by rfl, ?_⟩) ?_ ?_
  rotate_left
  · intro w'
    go_simp
    with_reducible rfl
  rotate_left
  · simp only [Act.put, List.setIfInBounds_toArray, List.set_cons_zero, List.set_cons_succ, i64_w, i32_w]
    rfl
  refine done_ (by kernel_rfl) ?_
  go_wp2_with fail
  go_ret
  exact ⟨rfl, below_drew (Below.refl _ _), H.out⟩
end Go.Proofs.YtigpdgfhngknhaaDoor.Snk
/- bytes.Buffer: what it holds; a thing to which bytes are written. -/
namespace Go.Proofs.YtigpdgfhngknhaaDoor.Snk
open Go.RowKit Go.Proofs.YtigpdgfhngknhaaDoorW.PrintWords Go.Proofs.YtigpdgfhngknhaaDoorW.PrintLast Go.Proofs.YtigpdgfhngknhaaDoorW.PrintMore
set_option linter.unusedVariables false
set_option linter.unusedSimpArgs false
/-- A buffer that holds the bytes bs. -/
def BufS (w : World) (b : Nat) (bs : List Int) : Prop := ∃ lr, (bs = [] ∧ BfC w b (.slice none 0 0) lr) ∨ ∃ g cap cur, BfC w b (.slice (some ⟨g, 0, none⟩) bs.length cap) lr ∧ g ≠ b ∧ w.heap[g]? = some (.cells cur 5 (0, 0)) ∧ cur.size = cap ∧ cur.toList.take bs.length = byteC bs ∧ bs.length ≤ cap ∧ cap ≤ maxLen
/-- A buffer's blocks. -/
def Own (b : Nat) (w : World) (k : Nat) : Prop := k = b ∨ ∃ l cap lr, BfC w b (.slice (some ⟨k, 0, none⟩) l cap) lr
structure Frame (b : Nat) (w w' : World) : Prop where
  os : w'.os = w.os
  tape : w'.tape = w.tape
  output : w'.output = w.output
  size : w.heap.size ≤ w'.heap.size
  block : ∀ k, k < w.heap.size → ¬ Own b w k → w'.heap[k]? = w.heap[k]?
  grow : ∀ k, Own b w' k → Own b w k ∨ w.heap.size ≤ k
theorem BfC.inj {w : World} {b : Nat} {v u : Value} {lr lr2 : Int} (h : BfC w b v lr) (k : BfC w b u lr2) : v = u := by
  have e := Option.some.inj (h.symm.trans k)
  simp only [Obj.cells.injEq, Array.mk.injEq, List.cons.injEq, and_true] at e
  exact e.1
theorem BfC.own {w : World} {b g l cap k : Nat} {lr : Int} (h : BfC w b (.slice (some ⟨g, 0, none⟩) l cap) lr) (hk : Own b w k) : k = b ∨ k = g := by
  rcases hk with h1 | ⟨l2, c2, lr2, h1⟩
  · exact .inl h1
  · have e := h1.inj h
    simp only [Value.slice.injEq, Option.some.injEq, Addr.mk.injEq] at e
    exact .inr e.1.1
theorem BfC.ownNil {w : World} {b k : Nat} {lr : Int} (h : BfC w b (.slice none 0 0) lr) (hk : Own b w k) : k = b := by
  rcases hk with h1 | ⟨l2, c2, lr2, h1⟩
  · exact h1
  · have e := h1.inj h
    simp at e
theorem BufS.blk {w : World} {b : Nat} {bs : List Int} (h : BufS w b bs) : b < w.heap.size := by
  obtain ⟨lr, ⟨_, h⟩ | ⟨g, cap, cur, h, _⟩⟩ := h
  · exact blk_lt' h
  · exact blk_lt' h
theorem BufS.lt {w : World} {b : Nat} {bs : List Int} (h : BufS w b bs) {k : Nat} (hk : Own b w k) : k < w.heap.size := by
  have hb := h.blk
  obtain ⟨lr, ⟨_, h⟩ | ⟨g, cap, cur, h, _, hg, _⟩⟩ := h
  · rw [h.ownNil hk]; exact hb
  · rcases h.own hk with rfl | rfl
    · exact hb
    · exact blk_lt' hg
theorem Laid.frame {b l n : Nat} {row : List Value} {own : Nat → Prop} {w w' : World} (h : Laid b l n row own w w') (ho : ∀ r, own r → Own b w r ∨ w.heap.size ≤ r) : Frame b w w' := by
  obtain ⟨r, cap, cells, h1, h2, h3, h4, h5, h6, h7, h8, h9⟩ := h
  refine ⟨h9.os, h9.tape, h9.output, h9.size, fun k hk hn => h9.block k hk (fun e => hn (.inl e)) (fun e => ?_), fun k hk => ?_⟩
  · subst e
    rcases ho _ h3 with h | h
    · exact hn h
    · omega
  · rcases h1.own hk with e | e
    · exact .inl (.inl e)
    · subst e; exact ho _ h3
theorem Laid.buf {b n : Nat} {bs p : List Int} {own : Nat → Prop} {w w' : World} (hp : p.length = n) (h : Laid b bs.length n (byteC bs ++ byteC p) own w w') : BufS w' b (bs ++ p) := by
  obtain ⟨r, cap, cells, h1, h2, h3, h4, h5, h6, h7, h8, h9⟩ := h
  subst hp
  exact ⟨0, .inr ⟨r, cap, cells, by rw [List.length_append]; exact h1, h2, h4, h5, by rw [List.length_append, h6]; unfold byteC; rw [List.map_append], by rw [List.length_append]; exact h7, h8⟩⟩
theorem one_byteC (l : List Int) (n : Nat) (L : List Value) (h : L.take n = byteC l) : ∀ v ∈ L.take n, v.oneCell' = true := by
  intro v hv
  rw [h] at hv
  unfold byteC at hv
  obtain ⟨x, _, rfl⟩ := List.mem_map.1 hv
  rfl
theorem bufWrite (b : Nat) (bs p : List Int) (A : Option Addr) (c n : Nat) (w : World) (h : BufS w b bs) (hp : p.length = n) (hM : bs.length + n ≤ 140737488355328) (hc : n ≤ c) (hr : ReadsInt w .u8 A n p) (ho : 0 < n → ∀ a, A = some a → ¬ Own b w a.block) :
    Calls Tryd.prog 92 #[.pointer (some ⟨b, 0, none⟩), .slice A n c] w fun e w' => e = .returned (.tuple #[.int .i64 (n : Int), .nilIface]) ∧ BufS w' b (bs ++ p) ∧ Frame b w w' := by
  have hb := h.blk
  have hR : ∀ W, Only b w W → ReadsInt W .u8 A n p := fun W hW => hr.keep hW.keep (fun ad e h0 hh => ho h0 ad e (.inl hh))
  obtain ⟨lr, ⟨rfl, h⟩ | ⟨g, cap, cur, h, h2, h3, h4, h5, h6, h7⟩⟩ := h
  · by_cases hn : 0 < n
    · refine (writeF b n 0 _ lr (fun k => w.heap.size ≤ k) [] A c p w h hn hc hR (by simp only [List.length_nil] at hM; omega) (fun w1 h1 _ => tryNone b none 0 0 n 0 w1 h1 (Nat.le_refl _) (Nat.zero_le _) (by omega)) (fun w1 h1 o1 => (grow0 b n 0 w1 h1 hn (by simp only [List.length_nil] at hM; omega)).mono fun e w2 ⟨he, h9⟩ => ⟨he, ?_⟩)).mono fun e w' ⟨he, h9⟩ => ⟨he, Laid.buf (bs := []) hp h9, h9.frame fun r hr => .inr hr⟩
      obtain ⟨r, cap, cells, k1, k2, k3, k4, k5, k6, k7, k8⟩ := h9
      have hs := o1.size
      exact ⟨r, cap, cells, k2, by omega, Nat.le_trans hs k1, k3, k4, k5, k6, k7, o1.trans k8⟩
    · obtain rfl : n = 0 := by omega
      obtain rfl : p = [] := List.eq_nil_of_length_eq_zero hp
      exact (zeroN b lr A c w h).mono fun e w' ⟨he, h1, h2⟩ => ⟨he, ⟨0, .inl ⟨rfl, h1⟩⟩, h2.os, h2.tape, h2.output, h2.size, fun k hk hn => h2.block k hk (fun e => hn (.inl e)), fun k hk => .inl (.inl (h1.ownNil hk))⟩
  · by_cases hn : 0 < n
    · by_cases hroom : n ≤ cap - bs.length
      · refine (writeT b n bs.length _ lr (fun k => k = g) (byteC bs) A c p w h hn hc hR hM (fun w1 h1 o1 => (tryRoom b _ bs.length cap n 0 w1 h1 h6 h7 hroom).mono fun e w2 ⟨he, h9⟩ => ⟨he, ?_⟩)).mono fun e w' ⟨he, h9⟩ => ⟨he, Laid.buf hp h9, h9.frame fun r hr => .inl (.inr ⟨_, _, _, hr ▸ h⟩)⟩
        subst h9
        exact ⟨g, cap, cur, h1.set0 _, h2, rfl, ((Only.refl b w1).set 0 _).block g (Nat.lt_of_lt_of_le (blk_lt' h3) o1.size) h2 |>.trans ((o1.block g (blk_lt' h3) h2).trans h3), h4, h5, by omega, h7, o1.set _ _⟩
      · refine (writeF b n bs.length _ lr (fun k => w.heap.size ≤ k) (byteC bs) A c p w h hn hc hR hM (fun w1 h1 _ => tryNone b _ bs.length cap n 0 w1 h1 h6 h7 (by omega)) (fun w1 h1 o1 => (growR b n 0 w1 g bs.length cap cur h1 ((o1.block g (blk_lt' h3) h2).trans h3) h4 h6 (by omega) hM (one_byteC bs _ _ h5)).mono fun e w2 ⟨he, h9⟩ => ⟨he, ?_⟩)).mono fun e w' ⟨he, h9⟩ => ⟨he, Laid.buf hp h9, h9.frame fun r hr => .inr hr⟩
        obtain ⟨r, cap, cells, k1, k2, k3, k4, k5, k6, k7, k8⟩ := h9
        have hs := o1.size
        exact ⟨r, cap, cells, k2, by omega, Nat.le_trans hs k1, k3, k4, k5.trans h5, k6, k7, o1.trans k8⟩
    · obtain rfl : n = 0 := by omega
      obtain rfl : p = [] := List.eq_nil_of_length_eq_zero hp
      refine (zeroR b g bs.length cap lr A c w h h6 h7).mono fun e w' ⟨he, k1, k2⟩ => ⟨he, ⟨0, .inr ⟨g, cap, cur, by rw [List.append_nil]; exact k1, h2, (k2.block g (blk_lt' h3) h2).trans h3, h4, by rw [List.append_nil]; exact h5, by rw [List.append_nil]; exact h6, h7⟩⟩, k2.os, k2.tape, k2.output, k2.size, fun k hk hn => k2.block k hk (fun e => hn (.inl e)), fun k hk => ?_⟩
      rcases k1.own hk with e | e
      · exact .inl (.inl e)
      · exact .inl (.inr ⟨_, _, _, e ▸ h⟩)
theorem bufByte (b : Nat) (bs : List Int) (x : Int) (w : World) (h : BufS w b bs) (hM : bs.length + 1 ≤ 140737488355328) :
    Calls Tryd.prog 49 #[.pointer (some ⟨b, 0, none⟩), .int .u8 x] w fun e w' => e = .returned .nilIface ∧ BufS w' b (bs ++ [x]) ∧ Frame b w w' := by
  have hb := h.blk
  obtain ⟨lr, ⟨rfl, h⟩ | ⟨g, cap, cur, h, h2, h3, h4, h5, h6, h7⟩⟩ := h
  · refine (byteF b 0 _ lr (fun k => w.heap.size ≤ k) [] x w h (by decide) (fun w1 h1 _ => tryNone b none 0 0 1 0 w1 h1 (Nat.le_refl _) (Nat.zero_le _) (by omega)) (fun w1 h1 o1 => (grow0 b 1 0 w1 h1 (Nat.le_refl _) (by decide)).mono fun e w2 ⟨he, h9⟩ => ⟨he, ?_⟩)).mono fun e w' ⟨he, h9⟩ => ⟨he, Laid.buf (bs := []) (p := [x]) rfl h9, h9.frame fun r hr => .inr hr⟩
    obtain ⟨r, cap, cells, k1, k2, k3, k4, k5, k6, k7, k8⟩ := h9
    have hs := o1.size
    exact ⟨r, cap, cells, k2, by omega, Nat.le_trans hs k1, k3, k4, k5, k6, k7, o1.trans k8⟩
  · by_cases hroom : 1 ≤ cap - bs.length
    · refine (byteT b bs.length _ lr (fun k => k = g) (byteC bs) x w h hM (fun w1 h1 o1 => (tryRoom b _ bs.length cap 1 0 w1 h1 h6 h7 hroom).mono fun e w2 ⟨he, h9⟩ => ⟨he, ?_⟩)).mono fun e w' ⟨he, h9⟩ => ⟨he, Laid.buf (p := [x]) rfl h9, h9.frame fun r hr => .inl (.inr ⟨_, _, _, hr ▸ h⟩)⟩
      subst h9
      exact ⟨g, cap, cur, h1.set0 _, h2, rfl, ((Only.refl b w1).set 0 _).block g (Nat.lt_of_lt_of_le (blk_lt' h3) o1.size) h2 |>.trans ((o1.block g (blk_lt' h3) h2).trans h3), h4, h5, by omega, h7, o1.set _ _⟩
    · refine (byteF b bs.length _ lr (fun k => w.heap.size ≤ k) (byteC bs) x w h hM (fun w1 h1 _ => tryNone b _ bs.length cap 1 0 w1 h1 h6 h7 (by omega)) (fun w1 h1 o1 => (growR b 1 0 w1 g bs.length cap cur h1 ((o1.block g (blk_lt' h3) h2).trans h3) h4 h6 (by omega) hM (one_byteC bs _ _ h5)).mono fun e w2 ⟨he, h9⟩ => ⟨he, ?_⟩)).mono fun e w' ⟨he, h9⟩ => ⟨he, Laid.buf (p := [x]) rfl h9, h9.frame fun r hr => .inr hr⟩
      obtain ⟨r, cap, cells, k1, k2, k3, k4, k5, k6, k7, k8⟩ := h9
      have hs := o1.size
      exact ⟨r, cap, cells, k2, by omega, Nat.le_trans hs k1, k3, k4, k5.trans h5, k6, k7, o1.trans k8⟩
/-- What a buffer holds, read. -/
theorem bufBytes (b : Nat) (bs : List Int) (w : World) (h : BufS w b bs) :
    Calls Tryd.prog 17 #[.pointer (some ⟨b, 0, none⟩)] w fun e w' => ∃ A c, e = .returned (.slice A bs.length c) ∧ ReadsInt w' .u8 A bs.length bs ∧ bs.length ≤ c ∧ (∀ a, A = some a → Own b w a.block) ∧ (A = none → c = 0) ∧ Below w.heap.size w w' := by
  obtain ⟨lr, ⟨rfl, h⟩ | ⟨g, cap, cur, h, h2, h3, h4, h5, h6, h7⟩⟩ := h
  · exact (bytesN b lr w h).mono fun e w' ⟨he, h1, _⟩ => ⟨none, 0, he, ⟨rfl, Nat.zero_le _, fun h => absurd h (Nat.lt_irrefl _)⟩, Nat.le_refl _, (fun a e => by cases e), (fun _ => rfl), h1⟩
  · refine (bytesR b g bs.length cap lr w h h6 h7).mono fun e w' ⟨he, h1, _⟩ => ⟨some ⟨g, 0, none⟩, cap, he, ⟨rfl, by simp only [maxLen] at h7; omega, fun _ => ⟨_, rfl, fun j hj => ?_⟩⟩, h6, fun a e => ?_, (fun e => by cases e), h1⟩
    · rw [show (⟨g, 0, none⟩ : Addr).add j = ⟨g, j, none⟩ from by unfold Addr.add; split <;> simp_all]
      refine cell_of ((h1.block g (blk_lt' h3)).trans h3) ?_
      rw [← Array.getElem?_toList, ← List.getElem?_take_of_lt hj, h5]
      exact byteC_at hj
    · obtain rfl := Option.some.inj e
      exact .inr ⟨_, _, _, h⟩
set_option maxRecDepth 100000 in
theorem mWriteB (a : Addr) : Meth Tryd.prog 47 (.pointer (some a)) "Write" 92 (.pointer (some a)) := fun n w => by kernel_rfl
set_option maxRecDepth 100000 in
theorem nWriteB (a : Addr) : NilNot Tryd.prog 47 (.pointer (some a)) "Write" := fun n w => by kernel_rfl
theorem BufS.same {w w' : World} {b : Nat} {bs : List Int} (h : BufS w b bs) (hk : ∀ k, Own b w k → w'.heap[k]? = w.heap[k]?) : BufS w' b bs ∧ ∀ k, Own b w' k → Own b w k := by
  have hbb := hk b (.inl rfl)
  have hbf : ∀ {v lr}, BfC w' b v lr → BfC w b v lr := fun h => hbb.symm.trans h
  refine ⟨?_, fun k h1 => h1.imp id fun ⟨l, cap, lr, h⟩ => ⟨l, cap, lr, hbf h⟩⟩
  obtain ⟨lr, ⟨rfl, h⟩ | ⟨g, cap, cur, h, h2, h3, h4, h5, h6, h7⟩⟩ := h
  · exact ⟨lr, .inl ⟨rfl, hbb.trans h⟩⟩
  · exact ⟨lr, .inr ⟨g, cap, cur, hbb.trans h, h2, (hk g (.inr ⟨_, _, _, h⟩)).trans h3, h4, h5, h6, h7⟩⟩
/-- A buffer that was made behind w0. -/
def bufSink (w0 : World) (b : Nat) : Sink Tryd.prog w0 47 (.pointer (some ⟨b, 0, none⟩)) 92 140737488355328 where
  St w bs := Below w0.heap.size w0 w ∧ BufS w b bs ∧ ∀ k, Own b w k → w0.heap.size ≤ k
  own w k := Own b w k
  meth := mWriteB _
  nil := nWriteB _
  below h := h.1
  fresh h hk := ⟨h.2.2 _ hk, h.2.1.lt hk⟩
  stay h hb hk := ⟨⟨hb, (h.2.1.same hk).1, fun k h1 => h.2.2 k ((h.2.1.same hk).2 k h1)⟩, (h.2.1.same hk).2⟩
  write {w bs p A c n} h hp hM hc hr ho := (bufWrite b bs p A c n w h.2.1 hp hM hc hr ho).mono fun e w' ⟨he, h5, h6⟩ => ⟨he, ⟨⟨h6.os.trans h.1.os, h6.tape.trans h.1.tape, h6.output.trans h.1.output, Nat.le_trans h.1.size h6.size, fun k hk => (h6.block k (Nat.lt_of_lt_of_le hk h.1.size) (fun hn => Nat.not_le.2 hk (h.2.2 k hn))).trans (h.1.block k hk)⟩, h5, fun k hk => by
    rcases h6.grow k hk with h1 | h1
    · exact h.2.2 k h1
    · exact Nat.le_trans h.1.size h1⟩, h6.os, h6.tape, h6.output, h6.size, h6.block, h6.grow⟩
end Go.Proofs.YtigpdgfhngknhaaDoor.Snk
/- A header's bytes: impl.HeaderBytes. -/
namespace Go.Proofs.YtigpdgfhngknhaaDoor.Snk
open Go.RowKit Go.Proofs.YtigpdgfhngknhaaDoorW.PrintWords Go.Proofs.YtigpdgfhngknhaaDoorW.PrintLast Go.Proofs.YtigpdgfhngknhaaDoorW.PrintMore
set_option linter.unusedVariables false
set_option linter.unusedSimpArgs false
theorem bufNew0 (w : World) : BufS (w.alloc (.cells #[.slice none 0 0, .int .i64 0, .int .i8 0] 41)) w.heap.size [] ∧ ∀ k, Own w.heap.size (w.alloc (.cells #[.slice none 0 0, .int .i64 0, .int .i8 0] 41)) k → w.heap.size ≤ k := by
  have h : BfC (w.alloc (.cells #[.slice none 0 0, .int .i64 0, .int .i8 0] 41)) w.heap.size (.slice none 0 0) 0 := heap_alloc_new w _
  exact ⟨⟨0, .inl ⟨rfl, h⟩⟩, fun k hk => by rw [h.ownNil hk]; exact Nat.le_refl _⟩
set_option maxRecDepth 100000 in
set_option maxHeartbeats 4000000 in
theorem implHeaderBytesC (h : HdV) (ho : h.ok) (w : World) : Calls Tryd.prog 5 #[.agg (hdC .u32 h).toArray] w fun e w' => ∃ A c, e = .returned (.slice A 80 c) ∧ ReadsInt w' .u8 A 80 h.bytes ∧ 80 ≤ c ∧ Below w.heap.size w w' := by
  have HO := Aside0.mk ho
  have HI68 : Aside0 ((Tryd.prog.info? 25).map (·.size) = some (hdC .u32 h).length) := ⟨by rw [hdC_len _ ho]; exact size_in⟩
  have HLB := Aside0.mk (HdV.bytes_len ho)
  obtain ⟨cs, hcs⟩ : ∃ c, hdC .u32 h = c := ⟨_, rfl⟩
  rw [hcs] at HI68
  have HCS := Aside0.mk hcs
  rw [hcs]
  clear ho hcs
  go_enter Tryd.func5, Tryd.ntmps5
  go_upto_region 1 with fail
  obtain ⟨g, hg⟩ : ∃ g, w.heap.size = g := ⟨_, rfl⟩
  have HR1 := Aside0.mk (heap_alloc_new w (.cells cs.toArray 25))
  rw [hg] at HR1 ⊢
  have HG := Aside0.mk hg
  generalize hw1 : World.alloc _ _ = w1
  have HB1 : Aside0 (Below w.heap.size w w1) := ⟨by rw [← hw1]; exact below_alloc (Below.refl _ _) _⟩
  rw [hw1] at HR1
  clear hw1 hg
  go_upto_region 2 with fail
  have HBN := Aside0.mk (bufNew0 w1)
  obtain ⟨b, hb⟩ : ∃ b, w1.heap.size = b := ⟨_, rfl⟩
  have HBB := Aside0.mk hb
  rw [hb] at HBN ⊢
  generalize hw2 : World.alloc _ _ = w2
  have HB2 : Aside0 (Below w1.heap.size w1 w2) := ⟨by rw [← hw2]; exact below_alloc (Below.refl _ _) _⟩
  rw [hw2] at HBN
  clear hw2 hb
  have HS2 : Aside0 ((bufSink w1 b).St w2 []) := ⟨HB2.out, HBN.out.1, fun k hk => by rw [HBB.out]; exact HBN.out.2 k hk⟩
  have HR2 := Aside0.mk ((HB2.out.block g (blk_lt' HR1.out)).trans HR1.out)
  have HHO : Aside0 (Calls Tryd.prog 15 #[.agg cs.toArray] w2 fun e w' => ∃ gh, e = .returned (.pointer (some ⟨gh, 0, none⟩)) ∧ w'.heap[gh]? = some (.cells (hdC .i64 h).toArray 53 (0, 0)) ∧ w2.heap.size ≤ gh ∧ Below w2.heap.size w2 w') := ⟨by
    rw [← HCS.out]
    exact headerOfC h HO.out w2⟩
  have HSR : Aside0 (∀ gh w3, w3.heap[gh]? = some (.cells (hdC .i64 h).toArray 53 (0, 0)) → w2.heap.size ≤ gh → Below w2.heap.size w2 w3 → Calls Tryd.prog 16 #[.pointer (some ⟨gh, 0, none⟩), .iface 47 (.pointer (some ⟨b, 0, none⟩))] w3 fun e w' => e = .returned .nilIface ∧ (bufSink w1 b).St w' ([] ++ h.bytes) ∧ Step (bufSink w1 b) w3 w') := ⟨fun gh w3 h1 h2 h3 =>
    serializeC (bufSink w1 b) Tryd.func92 rfl rfl gh h HO.out w3 (hdAt_of HO.out (r := []) (by rw [List.append_nil]; exact h1)) (fun hh => absurd ((bufSink w1 b).fresh HS2.out (below_own HS2.out h3 gh hh)).2 (Nat.not_lt.2 h2)) [] (below_step HS2.out h3).1 (by decide)⟩
  go_upto_region 3 with (first
    | ((with_reducible refine at_dst (N := 4) rfl ?_); refine wpList_load_at rfl 25 (.tmp 1) rfl ⟨g, 0, none⟩ rfl cs _ (cells_row (o := 0) HR2.out (fun j hj => by rw [Nat.zero_add])) Tryd.underlying25 rfl HI68.out ?_)
    | (go_at_call 15; (with_reducible refine HHO.out.mono ?_); rintro e w3 ⟨gh, rfl, k1, k2, k3⟩; have HC3 := Aside0.mk (HSR.out gh w3 k1 k2 k3); clear k1 k2 k3)
    | (go_at_call 16; (with_reducible refine HC3.out.mono ?_); rintro e w4 ⟨rfl, k1, k2⟩; have HS4 := Aside0.mk k1; clear k1 k2))
  have HYB := Aside0.mk (bufBytes b _ w4 HS4.out.2.1)
  have HBQ := Aside0.mk ((bufSink w1 b).below HS4.out)
  rw [List.nil_append, HLB.out] at HYB
  go_wp2_with (go_at_call 17; (with_reducible refine HYB.out.mono ?_); rintro e w6 ⟨A6, c6, rfl, k1, k2, k3, k4, k5⟩; have HR6 := Aside0.mk k1; have HC6 := Aside0.mk k2; have HB6 := Aside0.mk k5; clear k1 k2 k3 k4 k5)
  go_ret
  exact ⟨A6, c6, rfl, HR6.out, HC6.out, below_then HB1.out HB1.out.size (below_then HBQ.out HBQ.out.size HB6.out)⟩
end Go.Proofs.YtigpdgfhngknhaaDoor.Snk
/- The bytes of numbers, the lowest first. -/
namespace Go.Proofs.YtigpdgfhngknhaaDoor.QFnTapRoot
open Go.RowKit Go.Proofs.YtigpdgfhngknhaaDoorW.PrintWords Go.Proofs.YtigpdgfhngknhaaDoorW.PrintLast Go.Proofs.YtigpdgfhngknhaaDoorW.PrintMore
set_option linter.unusedVariables false
set_option linter.unusedSimpArgs false
/-- The k lowest bytes of a number, the lowest first. -/
def leB : Nat → Int → List Int
  | 0, _ => []
  | k + 1, n => n % 256 :: leB k (n / 256)
theorem leB_succ (k : Nat) (n : Int) : leB (k + 1) n = n % 256 :: leB k (n / 256) := rfl
theorem leB_zero (n : Int) : leB 0 n = [] := rfl
theorem leB_len : ∀ k n, (leB k n).length = k
  | 0, _ => rfl
  | k + 1, n => by show (leB k (n / 256)).length + 1 = _; rw [leB_len k]
theorem u64wr {x : Int} (h0 : 0 ≤ x) (h1 : x < 18446744073709551616) : IntKind.u64.wrap x = x := by
  simp [IntKind.wrap, IntKind.signed, IntKind.bits]; omega
theorem leB_snoc : ∀ k n, leB k n ++ [n / 256 ^ k % 256] = leB (k + 1) n
  | 0, n => by simp [leB]
  | k + 1, n => by
    show n % 256 :: (leB k (n / 256) ++ [n / 256 ^ (k + 1) % 256]) = n % 256 :: leB (k + 1) (n / 256)
    rw [← leB_snoc k (n / 256), Int.pow_succ', Int.ediv_ediv_of_nonneg (by decide)]
theorem ev_little (n : Int) (m : Nat) (h0 : 0 ≤ n) (h1 : n < 18446744073709551616) (hm : m ≤ 100) : Ev (fun k => spec_little.f k n (m : Int)) (leB m n) := by
  have key : ∀ d (i : Nat) (x : Int) (acc : List Int), i + d = m → 0 ≤ x → x < 18446744073709551616 → acc.length ≤ i → Ev (fun k => spec_little.l0 k x acc (m : Int) (i : Int)) (acc ++ leB d x) := by
    intro d
    induction d with
    | zero =>
      intro i x acc hi x0 x1 ha
      rw [leB_zero, List.append_nil]
      refine Ev.step (f := fun _ => some acc) (fun k => ?_) (Ev.now _)
      rw [spec_little.l0, if_neg (by omega)]
    | succ d ih =>
      intro i x acc hi x0 x1 ha
      have c1 : (i : Int) < (m : Int) := by omega
      have c2 : acc.length < 140737488355328 := by omega
      have y0 : 0 ≤ x / 256 := by omega
      have y1 : x / 256 < 18446744073709551616 := by omega
      have ha2 : (acc ++ [x % 256]).length ≤ i + 1 := by rw [List.length_append]; simp; omega
      have hi2 : i + 1 + d = m := by omega
      have e1 : Int.tdiv x 256 = x / 256 := Int.tdiv_eq_ediv_of_nonneg x0
      have e2 : Int.tmod x 256 = x % 256 := Int.tmod_eq_emod_of_nonneg x0
      have e3 : x % 256 % 256 = x % 256 := Int.emod_emod_of_dvd _ (Int.dvd_refl _)
      have e4 : IntKind.u64.wrap (x / 256) = x / 256 := u64wr y0 y1
      have e5 : wrap64 ((i : Int) + 1) = ((i + 1 : Nat) : Int) := by unfold wrap64; omega
      have h := ih (i + 1) (x / 256) (acc ++ [x % 256]) hi2 y0 y1 ha2
      have e6 : acc ++ leB (d + 1) x = (acc ++ [x % 256]) ++ leB d (x / 256) := by rw [leB_succ, List.append_assoc, List.singleton_append]
      rw [e6]
      refine Ev.step (f := fun k => spec_little.l0 k (x / 256) (acc ++ [x % 256]) (m : Int) ((i + 1 : Nat) : Int)) (fun k => ?_) h
      rw [spec_little.l0, if_pos c1, if_pos c2, e1, e2, e3, e4, e5]
  have h := key m 0 n [] (by omega) h0 h1 (by simp)
  rw [List.nil_append] at h
  exact Ev.congr (fun k => by unfold spec_little.f; rfl) h
end Go.Proofs.YtigpdgfhngknhaaDoor.QFnTapRoot
/- The reference's bytes of a header, and its name. -/
namespace Go.Proofs.YtigpdgfhngknhaaDoor.Snk
open Go.RowKit Go.Proofs.YtigpdgfhngknhaaDoorW.PrintWords Go.Proofs.YtigpdgfhngknhaaDoorW.PrintLast Go.Proofs.YtigpdgfhngknhaaDoorW.PrintMore Go.Proofs.YtigpdgfhngknhaaDoor.QFnTapRoot
set_option linter.unusedVariables false
set_option linter.unusedSimpArgs false
theorem leB4 (v : Int) : leB 4 v = le4 v := by
  unfold le4 leB leB leB leB leB
  rw [Int.ediv_ediv_of_nonneg (by decide), Int.ediv_ediv_of_nonneg (by decide)]
  rfl
theorem little4 (v : Int) (h0 : 0 ≤ v) (h1 : v < 4294967296) : ∃ k, spec_little.f k v 4 = some (le4 v) := by
  have h := ev_little v 4 h0 (by omega) (by decide)
  rw [leB4] at h
  exact h.rounds
theorem infoB8 : (Tryd.prog.info? 5).map (fun i => (i.zero, i.size, i.bytes)) = some (some (.int .u8 0), 1, 1) := by kernel_rfl
theorem reads_C {w : World} {A : Option Addr} {n : Nat} {xs : List Int} (h : ReadsInt w .u8 A n xs) : Kd.C (Kd.int .u8) w A n xs := Kd.C_of_reads (readsInt_of.1 h)
theorem row_formS {e base : Nat} {w : World} {v : Value} {xs : List Int} (h : Kd.R (Kd.int .u8) e w base (fun _ => True) v xs) : ∃ A c, v = .slice A xs.length c := by
  obtain ⟨A, c, e⟩ := Kd.R_slice h
  exact ⟨A, c, e⟩
theorem below_trS {w w1 w2 : World} (h : Below w.heap.size w w1) (k : Below w1.heap.size w1 w2) : Below w.heap.size w w2 :=
  h.trans ⟨k.os, k.tape, k.output, k.size, fun i hi => k.block i (Nat.lt_of_lt_of_le hi h.size)⟩
set_option maxRecDepth 100000 in
set_option maxHeartbeats 8000000 in
theorem headerBytesC (h : HdV) (ho : h.ok) (w : World) : Calls Tryd.prog 8 #[.agg (hdC .u32 h).toArray] w fun e w' => ∃ v, e = .returned v ∧ Kd.R (Kd.int .u8) 5 w' w.heap.size (fun _ => True) v h.bytes ∧ Below w.heap.size w w' := by
  have HO := Aside0.mk ho
  obtain ⟨cs, hcs⟩ : ∃ c, hdC .u32 h = c := ⟨_, rfl⟩
  have HCS := Aside0.mk hcs
  rw [hcs]
  obtain ⟨k1, hk1⟩ := little4 (h.v % 4294967296) (by omega) (by omega)
  obtain ⟨k2, hk2⟩ := little4 h.t ho.t0 ho.t1
  obtain ⟨k3, hk3⟩ := little4 h.b ho.b0 ho.b1
  obtain ⟨k4, hk4⟩ := little4 h.n ho.n0 ho.n1
  have HK1 := Aside0.mk hk1
  have HK2 := Aside0.mk hk2
  have HK3 := Aside0.mk hk3
  have HK4 := Aside0.mk hk4
  have hu1 : IntKind.u64.wrap (IntKind.u32.wrap h.v) = h.v % 4294967296 := by simp [IntKind.wrap, IntKind.signed, IntKind.bits]; omega
  have hu2 : IntKind.u64.wrap h.t = h.t := by have h1 := ho.t0; have h2 := ho.t1; simp [IntKind.wrap, IntKind.signed, IntKind.bits]; omega
  have hu3 : IntKind.u64.wrap h.b = h.b := by have h1 := ho.b0; have h2 := ho.b1; simp [IntKind.wrap, IntKind.signed, IntKind.bits]; omega
  have hu4 : IntKind.u64.wrap h.n = h.n := by have h1 := ho.n0; have h2 := ho.n1; simp [IntKind.wrap, IntKind.signed, IntKind.bits]; omega
  have U1 := Aside0.mk hu1
  have U2 := Aside0.mk hu2
  have U3 := Aside0.mk hu3
  have U4 := Aside0.mk hu4
  clear ho hcs hk1 hk2 hk3 hk4 hu1 hu2 hu3 hu4
  go_enter Tryd.func8, Tryd.ntmps8
  go_upto_region 1 with fail
  obtain ⟨g, hg⟩ : ∃ g, w.heap.size = g := ⟨_, rfl⟩
  have HG := Aside0.mk hg
  rw [hg]
  generalize hw1 : World.alloc _ _ = w1
  have HB1 : Aside0 (Below w.heap.size w w1) := ⟨by rw [← hw1]; exact below_alloc (Below.refl _ _) _⟩
  have HR1 : Aside0 (w1.heap[g]? = some (.cells (hdC .u32 h ++ []).toArray 25 (0, 0))) := ⟨by rw [← hw1, ← hg, List.append_nil, HCS.out]; exact heap_alloc_new w _⟩
  have HBk : Aside0 (∀ W, Below w1.heap.size w1 W → W.heap[g]? = some (.cells (hdC .u32 h ++ []).toArray 25 (0, 0))) := ⟨fun W hW => (hW.block g (blk_lt' HR1.out)).trans HR1.out⟩
  have HX0 := Aside0.mk (Below.refl w1.heap.size w1)
  clear hw1 hg
  have zc := (cell_of (HBk.out w1 HX0.out) (j := 0) (v := .int .i32 h.v) (by rw [List.getElem?_toArray]; exact rfl))
  go_upto_region 2 with (go_at_call 21; (try rw [U1.out]); (with_reducible refine (spec_little.calls k1 (h.v % 4294967296) 4 _ w1 HK1.out).mono ?_); rintro e v1 ⟨s1, rfl, q1, q2⟩; have HS1 := Aside0.mk q1; have HY1 := Aside0.mk q2; clear q1 q2)
  clear zc
  have HX1 := Aside0.mk HY1.out
  have HC2 : Aside0 (Kd.C (Kd.int .u8) v1 (some ⟨g, 1, none⟩) 32 h.p) := ⟨reads_C ⟨HO.out.p, by decide, fun _ => ⟨_, rfl, fun j hj => by rw [add_any]; exact cell_of (HBk.out v1 HX1.out) (by rw [List.getElem?_toArray]; exact hdC_p .u32 HO.out [] j hj)⟩⟩⟩
  go_upto_region 3 with ((with_reducible refine gate_builtin (b := .append) (xs := #[.tmp 9, .tmp 11]) rfl ?_); at_builtin; refine Kd.R_append_rows (Kd.int .u8) (w0 := w1) w1.heap.size rfl (.tmp 9) (.tmp 11) 26 5 (.int .u8 0) 1 rfl Tryd.underlying26 infoB8 rfl (by decide) (by decide) s1 (le4 (h.v % 4294967296)) (h.p) _ _ _ (fun _ => True) (fun _ => False) rfl rfl HS1.out (HC2.out) (fun _ _ h => h) (fun _ h => h.elim) (fun _ _ => trivial) HX1.out HX1.out.size (by have h1 := HO.out.p; have h2 := HO.out.r; (try simp only [List.length_append, le4_len]); omega) ?_; intro s2 v2 ho hb hg hat; have HS2 := Aside0.mk ho; have HX2 := Aside0.mk hb; clear ho hb hg hat)
  have HC3 : Aside0 (Kd.C (Kd.int .u8) v2 (some ⟨g, 33, none⟩) 32 h.r) := ⟨reads_C ⟨HO.out.r, by decide, fun _ => ⟨_, rfl, fun j hj => by rw [add_any]; exact cell_of (HBk.out v2 HX2.out) (by rw [List.getElem?_toArray]; exact hdC_r .u32 HO.out [] j hj)⟩⟩⟩
  go_upto_region 4 with ((with_reducible refine gate_builtin (b := .append) (xs := #[.tmp 13, .tmp 15]) rfl ?_); at_builtin; refine Kd.R_append_rows (Kd.int .u8) (w0 := w1) w1.heap.size rfl (.tmp 13) (.tmp 15) 26 5 (.int .u8 0) 1 rfl Tryd.underlying26 infoB8 rfl (by decide) (by decide) s2 ((le4 (h.v % 4294967296)) ++ h.p) (h.r) _ _ _ (fun _ => True) (fun _ => False) rfl rfl HS2.out (HC3.out) (fun _ _ h => h) (fun _ h => h.elim) (fun _ _ => trivial) HX2.out HX2.out.size (by have h1 := HO.out.p; have h2 := HO.out.r; (try simp only [List.length_append, le4_len]); omega) ?_; intro s3 v3 ho hb hg hat; have HS3 := Aside0.mk ho; have HX3 := Aside0.mk hb; clear ho hb hg hat)
  have zc := (cell_of (HBk.out v3 HX3.out) (j := 65) (v := .int .u32 h.t) (by rw [List.getElem?_toArray]; exact (hdC_tail .u32 HO.out [] 0)))
  go_upto_region 5 with (first
    | (go_at_call 21; (try rw [U2.out]); (with_reducible refine (spec_little.calls k2 h.t 4 _ v3 HK2.out).mono ?_); rintro e v4 ⟨s4, rfl, q1, q2⟩; have HQ4 := Aside0.mk q1; have HX4 := Aside0.mk (Below.trans HX3.out ⟨q2.os, q2.tape, q2.output, q2.size, fun k hk => q2.block k (Nat.lt_of_lt_of_le hk HX3.out.size)⟩); have HS4 := Aside0.mk (Kd.R_below HS3.out q2); (obtain ⟨A4, c4, e4⟩ := row_formS q1); subst e4; have HC4 := Aside0.mk (Kd.R_reads' q1).2.2; clear q1 q2)
    | ((with_reducible refine gate_builtin (b := .append) (xs := #[.tmp 17, .tmp 21]) rfl ?_); at_builtin; refine Kd.R_append_rows (Kd.int .u8) (w0 := w1) w1.heap.size rfl (.tmp 17) (.tmp 21) 26 5 (.int .u8 0) 1 rfl Tryd.underlying26 infoB8 rfl (by decide) (by decide) s3 (((le4 (h.v % 4294967296)) ++ h.p) ++ h.r) (le4 h.t) _ _ _ (fun _ => True) (fun _ => False) rfl rfl HS4.out (HC4.out) (fun _ _ h => h) (fun _ h => h.elim) (fun _ _ => trivial) HX4.out HX4.out.size (by have h1 := HO.out.p; have h2 := HO.out.r; (try simp only [List.length_append, le4_len]); omega) ?_; intro s5 v5 ho hb hg hat; have HS5 := Aside0.mk ho; have HX5 := Aside0.mk hb; clear ho hb hg hat))
  clear zc
  have zc := (cell_of (HBk.out v5 HX5.out) (j := 66) (v := .int .u32 h.b) (by rw [List.getElem?_toArray]; exact (hdC_tail .u32 HO.out [] 1)))
  go_upto_region 6 with (first
    | (go_at_call 21; (try rw [U3.out]); (with_reducible refine (spec_little.calls k3 h.b 4 _ v5 HK3.out).mono ?_); rintro e v6 ⟨s6, rfl, q1, q2⟩; have HQ6 := Aside0.mk q1; have HX6 := Aside0.mk (Below.trans HX5.out ⟨q2.os, q2.tape, q2.output, q2.size, fun k hk => q2.block k (Nat.lt_of_lt_of_le hk HX5.out.size)⟩); have HS6 := Aside0.mk (Kd.R_below HS5.out q2); (obtain ⟨A6, c6, e6⟩ := row_formS q1); subst e6; have HC6 := Aside0.mk (Kd.R_reads' q1).2.2; clear q1 q2)
    | ((with_reducible refine gate_builtin (b := .append) (xs := #[.tmp 23, .tmp 27]) rfl ?_); at_builtin; refine Kd.R_append_rows (Kd.int .u8) (w0 := w1) w1.heap.size rfl (.tmp 23) (.tmp 27) 26 5 (.int .u8 0) 1 rfl Tryd.underlying26 infoB8 rfl (by decide) (by decide) s5 ((((le4 (h.v % 4294967296)) ++ h.p) ++ h.r) ++ le4 h.t) (le4 h.b) _ _ _ (fun _ => True) (fun _ => False) rfl rfl HS6.out (HC6.out) (fun _ _ h => h) (fun _ h => h.elim) (fun _ _ => trivial) HX6.out HX6.out.size (by have h1 := HO.out.p; have h2 := HO.out.r; (try simp only [List.length_append, le4_len]); omega) ?_; intro s7 v7 ho hb hg hat; have HS7 := Aside0.mk ho; have HX7 := Aside0.mk hb; clear ho hb hg hat))
  clear zc
  have zc := (cell_of (HBk.out v7 HX7.out) (j := 67) (v := .int .u32 h.n) (by rw [List.getElem?_toArray]; exact (hdC_tail .u32 HO.out [] 2)))
  go_wp2_with (first
    | (go_at_call 21; (try rw [U4.out]); (with_reducible refine (spec_little.calls k4 h.n 4 _ v7 HK4.out).mono ?_); rintro e v8 ⟨s8, rfl, q1, q2⟩; have HQ8 := Aside0.mk q1; have HX8 := Aside0.mk (Below.trans HX7.out ⟨q2.os, q2.tape, q2.output, q2.size, fun k hk => q2.block k (Nat.lt_of_lt_of_le hk HX7.out.size)⟩); have HS8 := Aside0.mk (Kd.R_below HS7.out q2); (obtain ⟨A8, c8, e8⟩ := row_formS q1); subst e8; have HC8 := Aside0.mk (Kd.R_reads' q1).2.2; clear q1 q2)
    | ((with_reducible refine gate_builtin (b := .append) (xs := #[.tmp 29, .tmp 33]) rfl ?_); at_builtin; refine Kd.R_append_rows (Kd.int .u8) (w0 := w1) w1.heap.size rfl (.tmp 29) (.tmp 33) 26 5 (.int .u8 0) 1 rfl Tryd.underlying26 infoB8 rfl (by decide) (by decide) s7 (((((le4 (h.v % 4294967296)) ++ h.p) ++ h.r) ++ le4 h.t) ++ le4 h.b) (le4 h.n) _ _ _ (fun _ => True) (fun _ => False) rfl rfl HS8.out (HC8.out) (fun _ _ h => h) (fun _ h => h.elim) (fun _ _ => trivial) HX8.out HX8.out.size (by have h1 := HO.out.p; have h2 := HO.out.r; (try simp only [List.length_append, le4_len]); omega) ?_; intro s9 v9 ho hb hg hat; have HS9 := Aside0.mk ho; have HX9 := Aside0.mk hb; clear ho hb hg hat))
  clear zc
  go_ret
  refine ⟨_, rfl, ?_, below_trS HB1.out HX9.out⟩
  have hfin := HS9.out
  unfold HdV.bytes
  simp only [List.append_assoc] at hfin
  exact Kd.R_lower hfin HB1.out.size
end Go.Proofs.YtigpdgfhngknhaaDoor.Snk
/- The reference's name of a header. -/
namespace Go.Proofs.YtigpdgfhngknhaaDoor.Snk
open Go.RowKit Go.Proofs.YtigpdgfhngknhaaDoorW.PrintWords Go.Proofs.YtigpdgfhngknhaaDoorW.PrintLast Go.Proofs.YtigpdgfhngknhaaDoorW.PrintMore Go.Proofs.YtigpdgfhngknhaaDoor.QFnTapRoot
set_option linter.unusedVariables false
set_option linter.unusedSimpArgs false
/-- impl.Hash, as a function value. -/
def hashF : Value := .func (.func 11) #[] #[]
theorem reads_R {e base : Nat} {ok : Nat → Prop} {w : World} {A : Option Addr} {n c : Nat} {xs : List Int} (h : Kd.R (Kd.int .u8) e w base ok (.slice A n c) xs) : n = xs.length ∧ n ≤ c ∧ ReadsInt w .u8 A xs.length xs := by
  have h3 := Kd.R_reads' h
  exact ⟨h3.1, h3.2.1, readsInt_of.2 (Kd.reads_of_C (d := (0 : Int)) h3.2.2)⟩
set_option maxRecDepth 100000 in
set_option maxHeartbeats 4000000 in
theorem blockIDC (h : HdV) (ho : h.ok) (kl : List Int) (w : World) (hk : Sha.KRow w kl) : Calls Tryd.prog 10 #[hashF, .agg (hdC .u32 h).toArray] w fun e w' => e = .returned (.agg (byteC (Sha.shaD kl h.bytes)).toArray) ∧ Below w.heap.size w w' := by
  have HO := Aside0.mk ho
  have HK := Aside0.mk hk
  have HL := Aside0.mk (Sha.shaD_len kl h.bytes)
  have HN := Aside0.mk (HdV.bytes_len ho)
  have HH : Aside0 (∀ w1, Calls Tryd.prog 8 #[.agg (hdC .u32 h).toArray] w1 fun e w' => ∃ v, e = .returned v ∧ Kd.R (Kd.int .u8) 5 w' w1.heap.size (fun _ => True) v h.bytes ∧ Below w1.heap.size w1 w') := ⟨fun w1 => headerBytesC h ho w1⟩
  have HX : Aside0 (∀ (A : Option Addr) (c : Nat) w1, Below w.heap.size w w1 → ReadsInt w1 .u8 A h.bytes.length h.bytes → h.bytes.length ≤ c → Calls Tryd.prog 11 #[.slice A h.bytes.length c] w1 fun e w' => e = .returned (.agg (byteC (Sha.shaD kl h.bytes)).toArray) ∧ Below w1.heap.size w1 w') := ⟨fun A c w1 hb hr hc => Sha.hashC A c h.bytes kl w1 hr hc (by rw [HdV.bytes_len ho]; decide) (hk.below hb)⟩
  have hlen : (hdC .u32 h).length = 68 := hdC_len _ ho
  obtain ⟨hl, hhl⟩ : ∃ x, Sha.shaD kl h.bytes = x := ⟨_, rfl⟩
  obtain ⟨cs, hcs⟩ : ∃ c, hdC .u32 h = c := ⟨_, rfl⟩
  rw [hcs] at HH hlen ⊢
  rw [hhl] at HX HL ⊢
  have HLEN := Aside0.mk hlen
  obtain ⟨bs, hbs⟩ : ∃ b, h.bytes = b := ⟨_, rfl⟩
  rw [hbs] at HH HX HN
  clear ho hk hlen hhl hcs hbs
  unfold hashF
  go_enter Tryd.func10, Tryd.ntmps10
  go_upto_region 1 with fail
  generalize hw1 : World.alloc (World.alloc _ _) _ = w1
  have HB1 : Aside0 (Below w.heap.size w w1) := ⟨by rw [← hw1]; exact below_alloc (below_alloc (Below.refl _ _) _) _⟩
  have HI1 : Aside0 (w1.heap[w.heap.size]? = some (.cells cs.toArray 25 (0, 0))) := ⟨by rw [← hw1]; exact heap_alloc_lt (heap_alloc_new w _) _⟩
  have HR1 : Aside0 (w1.heap[w.heap.size + 1]? = some (.cells (byteC (List.replicate 32 0)).toArray 22 (0, 0))) := ⟨by
    rw [← hw1]
    have hh := heap_alloc_new (w.alloc (.cells cs.toArray 25)) (.cells (byteC (List.replicate 32 0)).toArray 22)
    rw [show (w.alloc (.cells cs.toArray 25)).heap.size = w.heap.size + 1 by simp] at hh
    exact hh⟩
  clear hw1
  go_wp2_with (first
    | ((with_reducible refine at_dst (N := 6) rfl ?_); refine wpList_load_at rfl 25 (.tmp 3) rfl ⟨w.heap.size, 0, none⟩ rfl cs _ (cells_row (o := 0) HI1.out (fun j hj => by rw [Nat.zero_add])) Tryd.underlying25 rfl (by rw [HLEN.out]; exact size_in) ?_)
    | (go_at_call 8; (with_reducible refine (HH.out w1).mono ?_); rintro e w2 ⟨v, rfl, k1, k2⟩; (obtain ⟨A, c, ev⟩ := row_formS k1); subst ev; have hr := reads_R k1; have HB2 := Aside0.mk k2; have HB12 := Aside0.mk (below_trS HB1.out k2); have HC3 := Aside0.mk (HX.out A c w2 HB12.out hr.2.2 hr.2.1); have HR2 := Aside0.mk ((k2.block _ (blk_lt' HR1.out)).trans HR1.out); clear k1 k2 hr)
    | (refine valL_ (some 8) rfl rfl (.tmp 5) rfl 11 #[] #[] rfl Tryd.func11 rfl rfl #[.slice A bs.length c] (by simp only [List.map_toArray, List.map_cons, List.map_nil]; rfl) ?_; (with_reducible refine HC3.out.mono ?_); rintro e w3 ⟨rfl, k1⟩; refine ⟨_, rfl, ?_⟩; have HB3 := Aside0.mk k1; have HR3 := Aside0.mk ((k1.block _ (blk_lt' HR2.out)).trans HR2.out); clear k1)
    | (go_at_call 11; (with_reducible refine HC3.out.mono ?_); rintro e w3 ⟨rfl, k1⟩; have HB3 := Aside0.mk k1; have HR3 := Aside0.mk ((k1.block _ (blk_lt' HR2.out)).trans HR2.out); clear k1)
    | (refine wpList_store_row rfl 22 (.tmp 4) (.tmp 8) rfl (w.heap.size + 1) (byteC hl).toArray rfl rfl 22 _ HR3.out (Sha.row32_info _ HL.out) (Sha.row_size _ HL.out) (Sha.byteC_one _) ?_))
  refine bodyPost_ret_by (results_cell_row rfl _ _ (w.heap.size + 1) 22 _ (0, 0) _ (by rfl) (setRow_heap _ _ _ _ _ _ HR3.out) Tryd.underlying22 rfl (Sha.row32_info _ HL.out)) rfl ⟨rfl, Sha.below_setRow _ (Sha.below_tr HB12.out HB3.out) (Nat.le_succ _)⟩
end Go.Proofs.YtigpdgfhngknhaaDoor.Snk
/- Headers and hashes compared; a header's name (impl.BlockID). -/
namespace Go.Proofs.YtigpdgfhngknhaaDoor.Snk
open Go.RowKit Go.Proofs.YtigpdgfhngknhaaDoorW.PrintWords Go.Proofs.YtigpdgfhngknhaaDoorW.PrintLast Go.Proofs.YtigpdgfhngknhaaDoorW.PrintMore
set_option linter.unusedVariables false
set_option linter.unusedSimpArgs false
section
variable {P : Program} {w : World}
theorem eqItems_self (d : Nat) {e : TypeId} (he : P.underlying e = some (.int .u8)) (hc : P.cellsOf e = 1) (l : List Int) : ∀ is : List Nat, (∀ i ∈ is, i < l.length) → (Op.eqItems (d + 1) e (P.cellsOf e) (byteC l).toArray (byteC l).toArray is).run P w = .ok true w
  | [], _ => by simp [Op.eqItems]
  | i :: is, h => by
    have hi := h i (by simp)
    have hp : (part e (byteC l).toArray (i * P.cellsOf e)).run P w = .ok (.int .u8 (l.getD i 0)) w := run_part_plain (P := P) w (by simp [Program.plainKey, he]) (by rw [hc, Nat.mul_one, List.getElem?_toArray]; exact byteC_at hi)
    have he : (Op.equalIn (d + 1) e (.int .u8 (l.getD i 0)) (.int .u8 (l.getD i 0))).run P w = .ok true w := by simp [Op.equalIn, Sem.run_bind, run_underlying he]
    simp only [Op.eqItems, Sem.run_bind, hp, he, Result.andThen_ok]
    simpa using eqItems_self d ‹_› hc l is (fun j hj => h j (by simp [hj]))
theorem eqArr_self (d : Nat) {t e : TypeId} {n : Nat} {i : TypeInfo} (hu : P.underlying t = some (.array n e)) (hi : P.info? e = some i) (he : P.underlying e = some (.int .u8)) (hc : P.cellsOf e = 1) (l : List Int) (hl : l.length = n) : (Op.equalIn (d + 2) t (.agg (byteC l).toArray) (.agg (byteC l).toArray)).run P w = .ok true w := by
  rw [show d + 2 = (d + 1) + 1 from rfl, run_equalIn_array (P := P) w (d + 1) _ _ hu hi]
  exact eqItems_self d he hc l _ (fun j hj => by rw [hl]; exact List.mem_range.1 hj)
theorem eqInt_self (d : Nat) {t : TypeId} {k : IntKind} (hu : P.underlying t = some (.int k)) (x : Int) : (Op.equalIn (d + 1) t (.int k x) (.int k x)).run P w = .ok true w := by simp [Op.equalIn, Sem.run_bind, run_underlying hu]
theorem part_arr {t e : TypeId} {n : Nat} {i : TypeInfo} {xs : Array Value} {off : Nat} (hu : P.underlying t = some (.array n e)) (hi : P.info? t = some i) : (part t xs off).run P w = .ok (.agg (xs.extract off (off + P.cellsOf t))) w := by
  simp [part, isAgg, Sem.run_bind, run_underlying hu, run_sizeOf (P := P) w hi]
theorem part_int {t : TypeId} {k : IntKind} {xs : Array Value} {off : Nat} {v : Value} (hu : P.underlying t = some (.int k)) (hx : xs[off]? = some v) : (part t xs off).run P w = .ok v w :=
  run_part_plain (P := P) w (by simp [Program.plainKey, hu]) hx
theorem exec_eq {ρ : Operand → Value} {o : Oper} (t u : TypeId) (x y : Operand) (xs : Array Value) (ho : o.op = .binOp .eql t x y u) (hx : ρ x = .agg xs) (hy : ρ y = .agg xs) (hm : P.eqGuardType P.depth t = false) (h : (Op.equalIn 10000 t (.agg xs) (.agg xs)).run P w = .ok true w) : (execOp ρ o).run P w = .ok (.value (.bool true)) w := by
  unfold execOp
  simp only [ho, hx, hy, Sem.run_bind, run_eqGuard_agg (P := P) w .eql t x y xs xs hm, run_eql_struct, h, Result.andThen_ok]
  rfl
end
theorem ext_p {h : HdV} (hp : h.p.length = 32) : (hdC .u32 h).toArray.extract 1 (1 + 32) = (byteC h.p).toArray := by
  rw [List.extract_toArray]
  congr 1
  unfold hdC
  rw [List.extract_eq_take_drop]
  show ((byteC h.p ++ _).drop 0).take 32 = _
  rw [List.drop_zero, List.take_left' (by rw [byteC_len, hp])]
theorem ext_r {h : HdV} (hp : h.p.length = 32) (hr : h.r.length = 32) : (hdC .u32 h).toArray.extract 33 (33 + 32) = (byteC h.r).toArray := by
  rw [List.extract_toArray]
  congr 1
  unfold hdC
  rw [List.extract_eq_take_drop]
  show ((byteC h.p ++ _).drop 32).take 32 = _
  rw [List.drop_left' (by rw [byteC_len, hp]), List.take_left' (by rw [byteC_len, hr])]
set_option maxRecDepth 100000 in
theorem eq22 (l : List Int) (hl : l.length = 32) (w : World) : (Op.equalIn 10000 22 (.agg (byteC l).toArray) (.agg (byteC l).toArray)).run Tryd.prog w = .ok true w := by
  obtain ⟨i, hi⟩ := info_of_underlying Tryd.underlying5
  exact eqArr_self 9998 Tryd.underlying22 hi Tryd.underlying5 (by kernel_rfl) l hl
set_option maxRecDepth 100000 in
theorem eq25 (h : HdV) (ho : h.ok) (w : World) : (Op.equalIn 10000 25 (.agg (hdC .u32 h).toArray) (.agg (hdC .u32 h).toArray)).run Tryd.prog w = .ok true w := by
  obtain ⟨i8, hi8⟩ := info_of_underlying Tryd.underlying5
  obtain ⟨ia, hia⟩ := info_of_underlying Tryd.underlying22
  have hca : Tryd.prog.cellsOf 22 = 32 := by kernel_rfl
  have hc8 : Tryd.prog.cellsOf 5 = 1 := by kernel_rfl
  have hat : ∀ (j : Nat) (v : Value), (hdC .u32 h)[j]? = some v → (hdC .u32 h).toArray[j]? = some v := fun j v hv => by rw [List.getElem?_toArray]; exact hv
  have tl : ∀ j, (hdC .u32 h)[65 + j]? = [Value.int .u32 h.t, .int .u32 h.b, .int .u32 h.n][j]? := fun j => by have e := hdC_tail .u32 ho [] j; rw [List.append_nil, List.append_nil] at e; exact e
  have ha : ∀ (l : List Int) (_ : l.length = 32) (xs : Array Value), xs = (byteC l).toArray → (Op.equalIn 9999 22 (.agg xs) (.agg xs)).run Tryd.prog w = .ok true w := fun l hl xs hx => by
    subst hx
    exact eqArr_self 9997 Tryd.underlying22 hi8 Tryd.underlying5 hc8 l hl
  refine eqA_of (d := 9999) Tryd.underlying25 (by kernel_rfl) ?_
  refine eqf_cons (s := true) (r := true) rfl (part_int Tryd.underlying21 (hat 0 _ rfl)) (part_int Tryd.underlying21 (hat 0 _ rfl)) (eqInt_self 9998 Tryd.underlying21 _) ?_
  refine eqf_cons (s := true) (r := true) rfl (part_arr Tryd.underlying22 hia) (part_arr Tryd.underlying22 hia) (ha h.p ho.p _ (by rw [hca]; exact ext_p ho.p)) ?_
  refine eqf_cons (s := true) (r := true) rfl (part_arr Tryd.underlying22 hia) (part_arr Tryd.underlying22 hia) (ha h.r ho.r _ (by rw [hca]; exact ext_r ho.p ho.r)) ?_
  refine eqf_cons (s := true) (r := true) rfl (part_int Tryd.underlying23 (hat 65 _ (tl 0))) (part_int Tryd.underlying23 (hat 65 _ (tl 0))) (eqInt_self 9998 Tryd.underlying23 _) ?_
  refine eqf_cons (s := true) (r := true) rfl (part_int Tryd.underlying23 (hat 66 _ (tl 1))) (part_int Tryd.underlying23 (hat 66 _ (tl 1))) (eqInt_self 9998 Tryd.underlying23 _) ?_
  exact eqf_last rfl (part_int Tryd.underlying23 (hat 67 _ (tl 2))) (part_int Tryd.underlying23 (hat 67 _ (tl 2))) (eqInt_self 9998 Tryd.underlying23 _)
set_option maxRecDepth 100000 in
set_option maxHeartbeats 4000000 in
theorem implBlockIDC (h : HdV) (ho : h.ok) (kl : List Int) (w : World) (hk : Sha.KRow w kl) : Calls Tryd.prog 9 #[.agg (hdC .u32 h).toArray] w fun e w' => e = .returned (.agg (byteC (Sha.shaD kl h.bytes)).toArray) ∧ Below w.heap.size w w' := by
  have HI68 : Aside0 ((Tryd.prog.info? 25).map (·.size) = some (hdC .u32 h).length) := ⟨by rw [hdC_len _ ho]; exact size_in⟩
  have HHO : Aside0 (∀ w2, Calls Tryd.prog 15 #[.agg (hdC .u32 h).toArray] w2 fun e w' => ∃ gh, e = .returned (.pointer (some ⟨gh, 0, none⟩)) ∧ w'.heap[gh]? = some (.cells (hdC .i64 h).toArray 53 (0, 0)) ∧ w2.heap.size ≤ gh ∧ Below w2.heap.size w2 w') := ⟨fun w2 => headerOfC h ho w2⟩
  have HBH : Aside0 (∀ gh w3, w3.heap[gh]? = some (.cells (hdC .i64 h).toArray 53 (0, 0)) → Below w.heap.size w w3 → Calls Tryd.prog 22 #[.pointer (some ⟨gh, 0, none⟩)] w3 fun e w' => e = .returned (.agg (byteC (Sha.shaD kl h.bytes)).toArray) ∧ Below w3.heap.size w3 w') := ⟨fun gh w3 h1 h2 => blockHashC gh h ho kl w3 (hdAt_of ho (r := []) (by rw [List.append_nil]; exact h1)) (hk.below h2)⟩
  have hl := Sha.shaD_len kl h.bytes
  obtain ⟨cs, hcs⟩ : ∃ c, hdC .u32 h = c := ⟨_, rfl⟩
  rw [hcs] at HI68 HHO
  rw [hcs]
  obtain ⟨hx, hhx⟩ : ∃ x, Sha.shaD kl h.bytes = x := ⟨_, rfl⟩
  rw [hhx] at HBH hl ⊢
  have HL := Aside0.mk hl
  clear ho hcs hk hl hhx
  go_enter Tryd.func9, Tryd.ntmps9
  go_upto_region 1 with fail
  obtain ⟨wa, hwa⟩ : ∃ x, x = w.alloc (.cells cs.toArray 25) := ⟨_, rfl⟩
  have hsa : wa.heap.size = w.heap.size + 1 := by rw [hwa]; simp
  have Q1 := heap_alloc_new w (.cells cs.toArray 25)
  rw [← hwa] at Q1 ⊢
  have Q2 := Sha.row_alloc wa 22
  rw [hsa] at Q2
  have Q1b := heap_alloc_lt Q1 (.cells (byteC (List.replicate 32 0)).toArray 22)
  obtain ⟨g, hg⟩ : ∃ g, w.heap.size = g := ⟨_, rfl⟩
  have HG := Aside0.mk hg
  rw [hg] at Q1b Q2 ⊢
  generalize hw1 : World.alloc _ _ = w1
  have HB1 : Aside0 (Below w.heap.size w w1) := ⟨by rw [← hw1, hwa]; exact below_alloc (below_alloc (Below.refl _ _) _) _⟩
  have HQ1 : Aside0 (w1.heap[g]? = some (.cells cs.toArray 25 (0, 0))) := ⟨by rw [← hw1]; exact Q1b⟩
  have HQ2 : Aside0 (w1.heap[g + 1]? = some (.cells (byteC (List.replicate 32 0)).toArray 22 (0, 0))) := ⟨by rw [← hw1]; exact Q2⟩
  clear hw1 hwa hsa Q1 Q1b Q2 hg
  go_wp2_with (first
    | ((with_reducible refine at_dst (N := 3) rfl ?_); refine wpList_load_at rfl 25 (.tmp 1) rfl ⟨g, 0, none⟩ rfl cs _ (cells_row (o := 0) HQ1.out (fun j hj => by rw [Nat.zero_add])) Tryd.underlying25 rfl HI68.out ?_)
    | (go_at_call 15; (with_reducible refine (HHO.out w1).mono ?_); rintro e w3 ⟨gh, rfl, k1, k2, k3⟩; have HB3 := Aside0.mk (Sha.below_tr HB1.out k3); have HC3 := Aside0.mk (HBH.out gh w3 k1 HB3.out); have HQ3 := Aside0.mk ((k3.block _ (blk_lt' HQ2.out)).trans HQ2.out); clear k1 k2 k3)
    | (go_at_call 22; (with_reducible refine HC3.out.mono ?_); rintro e w4 ⟨rfl, k1⟩; have HB4 := Aside0.mk (Sha.below_tr HB3.out k1); have HQ4 := Aside0.mk ((k1.block _ (blk_lt' HQ3.out)).trans HQ3.out); clear k1)
    | (refine wpList_store_row rfl 22 (.tmp 2) (.tmp 5) rfl (g + 1) (byteC hx).toArray rfl rfl 22 _ HQ4.out (Sha.row32_info _ HL.out) (Sha.row_size _ HL.out) (Sha.byteC_one _) ?_))
  refine bodyPost_ret_by (results_cell_row rfl _ _ (g + 1) 22 _ (0, 0) _ (by rfl) (setRow_heap _ _ _ _ _ _ HQ4.out) Tryd.underlying22 rfl (Sha.row32_info _ HL.out)) rfl ⟨rfl, Sha.below_setRow _ HB4.out (by have := HG.out; omega)⟩
end Go.Proofs.YtigpdgfhngknhaaDoor.Snk

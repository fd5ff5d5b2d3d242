/- Numbers are compared; a number out of bytes. -/
import Derived.LaidEqlPtr
import Derived.Deep.QuietTactic
import Derived.BigQuiet
import Derived.Test.YtigpdgfhngknhaaWArr
import Derived.Laws.Rows
import Derived.Deep.DeepCutAuto
import Derived.Test.YtigpdgfhngknhaaK0
import Derived.Test.YtigpdgfhngknhaaK1
import Derived.Test.YtigpdgfhngknhaaK2
namespace Go.Proofs.Ytigpdgfhngknhaa.Big
open Go.RowKit Go.Proofs.YtigpdgfhngknhaaW.PrintWords Go.Proofs.YtigpdgfhngknhaaW.PrintLast Go.Proofs.YtigpdgfhngknhaaW.PrintMore Go.Proofs.Ytigpdgfhngknhaa.QFnProofFault
set_option linter.unusedVariables false
set_option linter.unusedSimpArgs false
theorem infoInt : ∃ i, Try.prog.info? 73 = some i ∧ i.size = 2 := by
  have h : (match Try.prog.info? 73 with | some i => i.size == 2 | none => false) = true := by kernel_rfl
  split at h
  · rename_i i hi
    exact ⟨i, hi, by simpa using h⟩
  · cases h
set_option maxRecDepth 100000 in
set_option maxHeartbeats 4000000 in
theorem cmpC (gx gy : Nat) (okx oky : Nat → Prop) (lx ly : List Int) (k : Nat) (r : Int) (w : World) (hx : Is w gx okx false lx) (hy : Is w gy oky false ly) (hne : gx ≠ gy) (hr : smallbig_nat_cmp.f k lx ly = some r) :
    Calls Try.prog 29 #[.pointer (some ⟨gx, 0, none⟩), .pointer (some ⟨gy, 0, none⟩)] w fun e w' => e = .returned (.int .i64 r) ∧ Below w.heap.size w w' := by
  obtain ⟨vx, h1, h2⟩ := hx
  obtain ⟨vy, h3, h4⟩ := hy
  obtain ⟨Ax, cx, rfl, hcx, hrx⟩ := Kd.V_reads h2
  obtain ⟨Ay, cy, rfl, hcy, hry⟩ := Kd.V_reads h4
  have HP : Aside0 (∀ w1 : World, w1.heap = w.heap → (w1.cell? ⟨gx, 0, none⟩ = some (.bool false) ∧ w1.cell? ⟨gx, 1, none⟩ = some (.slice Ax lx.length cx) ∧ w1.cell? ⟨gy, 0, none⟩ = some (.bool false) ∧ w1.cell? ⟨gy, 1, none⟩ = some (.slice Ay ly.length cy))) := ⟨fun w1 e => ⟨cell_of (by rw [e]; exact h1) rfl, cell_of (by rw [e]; exact h1) rfl, cell_of (by rw [e]; exact h3) rfl, cell_of (by rw [e]; exact h3) rfl⟩⟩
  have HC : Aside0 (∀ w1 : World, Below w.heap.size w w1 → Calls Try.prog 38 #[.slice Ax lx.length cx, .slice Ay ly.length cy] w1 fun e w' => e = .returned (.int .i64 r) ∧ Below w1.heap.size w1 w') := ⟨fun w1 hb => (smallbig_nat_cmp.calls k Ax cx lx Ay cy ly r w1 (Kd.C_below hrx hb) hcx (Kd.C_below hry hb) hcy hr).mono fun e w' ⟨he, hd⟩ => ⟨he, hd.below⟩⟩
  obtain ⟨iT, hT, hT2⟩ := infoInt
  have heq : (binOp .eql 42 (.pointer (some ⟨gx, 0, none⟩)) (.pointer (some ⟨gy, 0, none⟩))).run Try.prog w = .ok (.bool false) w := run_eql_ptr_other w Try.underlying42 hT (by omega) (fun e => hne (congrArg Addr.block e)) h1 h3
  clear h1 h2 h3 h4 hcx hrx hcy hry hr
  go_enter Try.func29, Try.ntmps29
  go_upto_region 3 with fail
  refine start_ (n := 16) (S := fun w' => w'.cell? ⟨gx, 0, none⟩ = some (.bool false) ∧ w'.cell? ⟨gx, 1, none⟩ = some (.slice Ax lx.length cx) ∧ w'.cell? ⟨gy, 0, none⟩ = some (.bool false) ∧ w'.cell? ⟨gy, 1, none⟩ = some (.slice Ay ly.length cy)) (ds := []) #[false, false, false, false, false, false, false, false, false, false, false, false, false, false, false, false] (by kernel_rfl) rfl rfl (HP.out w.drew rfl) (fun hHeld => ?_)
  refine pure_ (i := 0) (N := some 10) (v := ?_) (a' := ?_) #[true, false, false, false, false, false, false, false, false, false, false, false, false, false, false, false] rfl rfl (by kernel_rfl) (fun _ _ _ h => h) (Or.inl ⟨by rfl, ?_⟩) ?_ ?_
  rotate_left
  · intro w'
    go_simp
    with_reducible rfl
  rotate_left
  · simp only [Act.put, List.setIfInBounds_toArray, List.set_cons_zero, List.set_cons_succ, i64_w, i32_w]
    rfl
  refine pure_ (i := 1) (N := some 11) (v := ?_) (a' := ?_) #[true, true, false, false, false, false, false, false, false, false, false, false, false, false, false, false] rfl rfl (by kernel_rfl) (fun _ _ _ h => h) (Or.inl ⟨by rfl, ?_⟩) ?_ ?_
  rotate_left
  · intro w'
    go_simp
    with_reducible rfl
  rotate_left
  · simp only [Act.put, List.setIfInBounds_toArray, List.set_cons_zero, List.set_cons_succ, i64_w, i32_w]
    rfl
  refine pure_ (i := 2) (N := some 12) (v := ?_) (a' := ?_) #[true, true, true, false, false, false, false, false, false, false, false, false, false, false, false, false] rfl rfl (by kernel_rfl) (fun _ _ _ h => h) (Or.inl ⟨by rfl, ?_⟩) ?_ ?_
  rotate_left
  · intro w'
    go_simp
    with_reducible rfl
  rotate_left
  · simp only [Act.put, List.setIfInBounds_toArray, List.set_cons_zero, List.set_cons_succ, i64_w, i32_w]
    rfl
  refine take_ (i := 3) (N := some 13) (v := ?_) (a' := ?_) #[true, true, true, true, false, false, false, false, false, false, false, false, false, false, false, false] rfl rfl (by kernel_rfl) (fun _ _ _ h => h) (Or.inl ⟨by rfl, ?_⟩) hHeld ?_ ?_
  rotate_left
  · rintro w' ⟨s0, s1, s2, s3⟩
    go_simp
    with_reducible rfl
  rotate_left
  · simp only [Act.put, List.setIfInBounds_toArray, List.set_cons_zero, List.set_cons_succ, i64_w, i32_w]
    rfl
  refine pure_ (i := 4) (N := some 14) (v := ?_) (a' := ?_) #[true, true, true, true, true, false, false, false, false, false, false, false, false, false, false, false] rfl rfl (by kernel_rfl) (fun _ _ _ h => h) (Or.inl ⟨by rfl, ?_⟩) ?_ ?_
  rotate_left
  · intro w'
    go_simp
    with_reducible rfl
  rotate_left
  · simp only [Act.put, List.setIfInBounds_toArray, List.set_cons_zero, List.set_cons_succ, i64_w, i32_w]
    rfl
  refine pure_ (i := 5) (N := some 15) (v := ?_) (a' := ?_) #[true, true, true, true, true, true, false, false, false, false, false, false, false, false, false, false] rfl rfl (by kernel_rfl) (fun _ _ _ h => h) (Or.inl ⟨by rfl, ?_⟩) ?_ ?_
  rotate_left
  · intro w'
    go_simp
    with_reducible rfl
  rotate_left
  · simp only [Act.put, List.setIfInBounds_toArray, List.set_cons_zero, List.set_cons_succ, i64_w, i32_w]
    rfl
  refine pure_ (i := 6) (N := some 16) (v := ?_) (a' := ?_) #[true, true, true, true, true, true, true, false, false, false, false, false, false, false, false, false] rfl rfl (by kernel_rfl) (fun _ _ _ h => h) (Or.inl ⟨by rfl, ?_⟩) ?_ ?_
  rotate_left
  · intro w'
    go_simp
    with_reducible rfl
  rotate_left
  · simp only [Act.put, List.setIfInBounds_toArray, List.set_cons_zero, List.set_cons_succ, i64_w, i32_w]
    rfl
  refine take_ (i := 7) (N := some 17) (v := ?_) (a' := ?_) #[true, true, true, true, true, true, true, true, false, false, false, false, false, false, false, false] rfl rfl (by kernel_rfl) (fun _ _ _ h => h) (Or.inl ⟨by rfl, ?_⟩) hHeld ?_ ?_
  rotate_left
  · rintro w' ⟨s0, s1, s2, s3⟩
    go_simp
    with_reducible rfl
  rotate_left
  · simp only [Act.put, List.setIfInBounds_toArray, List.set_cons_zero, List.set_cons_succ, i64_w, i32_w]
    rfl
  refine pure_ (i := 8) (N := some 18) (v := ?_) (a' := ?_) #[true, true, true, true, true, true, true, true, true, false, false, false, false, false, false, false] rfl rfl (by kernel_rfl) (fun _ _ _ h => h) (Or.inl ⟨by rfl, ?_⟩) ?_ ?_
  rotate_left
  · intro w'
    go_simp
    with_reducible rfl
  rotate_left
  · simp only [Act.put, List.setIfInBounds_toArray, List.set_cons_zero, List.set_cons_succ, i64_w, i32_w]
    rfl
  refine pure_ (i := 9) (N := some 19) (v := ?_) (a' := ?_) #[true, true, true, true, true, true, true, true, true, true, false, false, false, false, false, false] rfl rfl (by kernel_rfl) (fun _ _ _ h => h) (Or.inl ⟨by rfl, ?_⟩) ?_ ?_
  rotate_left
  · intro w'
    go_simp
    with_reducible rfl
  rotate_left
  · simp only [Act.put, List.setIfInBounds_toArray, List.set_cons_zero, List.set_cons_succ, i64_w, i32_w]
    rfl
  refine pure_ (i := 10) (N := some 20) (v := ?_) (a' := ?_) #[true, true, true, true, true, true, true, true, true, true, true, false, false, false, false, false] rfl rfl (by kernel_rfl) (fun _ _ _ h => h) (Or.inl ⟨by rfl, ?_⟩) ?_ ?_
  rotate_left
  · intro w'
    go_simp
    with_reducible rfl
  rotate_left
  · simp only [Act.put, List.setIfInBounds_toArray, List.set_cons_zero, List.set_cons_succ, i64_w, i32_w]
    rfl
  refine pure_ (i := 11) (N := some 21) (v := ?_) (a' := ?_) #[true, true, true, true, true, true, true, true, true, true, true, true, false, false, false, false] rfl rfl (by kernel_rfl) (fun _ _ _ h => h) (Or.inl ⟨by rfl, ?_⟩) ?_ ?_
  rotate_left
  · intro w'
    go_simp
    with_reducible rfl
  rotate_left
  · simp only [Act.put, List.setIfInBounds_toArray, List.set_cons_zero, List.set_cons_succ, i64_w, i32_w]
    rfl
  refine pure_ (i := 12) (N := some 22) (v := ?_) (a' := ?_) #[true, true, true, true, true, true, true, true, true, true, true, true, true, false, false, false] rfl rfl (by kernel_rfl) (fun _ _ _ h => h) (Or.inl ⟨by rfl, ?_⟩) ?_ ?_
  rotate_left
  · intro w'
    go_simp
    with_reducible rfl
  rotate_left
  · simp only [Act.put, List.setIfInBounds_toArray, List.set_cons_zero, List.set_cons_succ, i64_w, i32_w]
    rfl
  refine take_ (i := 13) (N := some 23) (v := ?_) (a' := ?_) #[true, true, true, true, true, true, true, true, true, true, true, true, true, true, false, false] rfl rfl (by kernel_rfl) (fun _ _ _ h => h) (Or.inl ⟨by rfl, ?_⟩) hHeld ?_ ?_
  rotate_left
  · rintro w' ⟨s0, s1, s2, s3⟩
    go_simp
    with_reducible rfl
  rotate_left
  · simp only [Act.put, List.setIfInBounds_toArray, List.set_cons_zero, List.set_cons_succ, i64_w, i32_w]
    rfl
  refine pure_ (i := 14) (N := some 24) (v := ?_) (a' := ?_) #[true, true, true, true, true, true, true, true, true, true, true, true, true, true, true, false] rfl rfl (by kernel_rfl) (fun _ _ _ h => h) (Or.inl ⟨by rfl, ?_⟩) ?_ ?_
  rotate_left
  · intro w'
    go_simp
    with_reducible rfl
  rotate_left
  · simp only [Act.put, List.setIfInBounds_toArray, List.set_cons_zero, List.set_cons_succ, i64_w, i32_w]
    rfl
  refine pure_ (i := 15) (N := some 9) (v := ?_) (a' := ?_) #[true, true, true, true, true, true, true, true, true, true, true, true, true, true, true, true] rfl rfl (by kernel_rfl) (fun _ _ _ h => h) (Or.inl ⟨by rfl, ?_⟩) ?_ ?_
  rotate_left
  · intro w'
    go_simp
    with_reducible rfl
  rotate_left
  · simp only [Act.put, List.setIfInBounds_toArray, List.set_cons_zero, List.set_cons_succ, i64_w, i32_w]
    rfl
  refine done_ (by kernel_rfl) ?_
  go_upto_region 5 with fail
  refine start_ (n := 10) (S := fun w' => w'.cell? ⟨gx, 0, none⟩ = some (.bool false) ∧ w'.cell? ⟨gx, 1, none⟩ = some (.slice Ax lx.length cx) ∧ w'.cell? ⟨gy, 0, none⟩ = some (.bool false) ∧ w'.cell? ⟨gy, 1, none⟩ = some (.slice Ay ly.length cy)) (ds := []) #[false, false, false, false, false, false, false, false, false, false] (by kernel_rfl) rfl rfl (HP.out w.drew.drew rfl) (fun hHeld => ?_)
  refine pure_ (i := 0) (N := some 36) (v := ?_) (a' := ?_) #[true, false, false, false, false, false, false, false, false, false] rfl rfl (by kernel_rfl) (fun _ _ _ h => h) (Or.inl ⟨by rfl, ?_⟩) ?_ ?_
  rotate_left
  · intro w'
    go_simp
    with_reducible rfl
  rotate_left
  · simp only [Act.put, List.setIfInBounds_toArray, List.set_cons_zero, List.set_cons_succ, i64_w, i32_w]
    rfl
  refine pure_ (i := 1) (N := some 37) (v := ?_) (a' := ?_) #[true, true, false, false, false, false, false, false, false, false] rfl rfl (by kernel_rfl) (fun _ _ _ h => h) (Or.inl ⟨by rfl, ?_⟩) ?_ ?_
  rotate_left
  · intro w'
    go_simp
    with_reducible rfl
  rotate_left
  · simp only [Act.put, List.setIfInBounds_toArray, List.set_cons_zero, List.set_cons_succ, i64_w, i32_w]
    rfl
  refine pure_ (i := 2) (N := some 38) (v := ?_) (a' := ?_) #[true, true, true, false, false, false, false, false, false, false] rfl rfl (by kernel_rfl) (fun _ _ _ h => h) (Or.inl ⟨by rfl, ?_⟩) ?_ ?_
  rotate_left
  · intro w'
    go_simp
    with_reducible rfl
  rotate_left
  · simp only [Act.put, List.setIfInBounds_toArray, List.set_cons_zero, List.set_cons_succ, i64_w, i32_w]
    rfl
  refine take_ (i := 3) (N := some 39) (v := ?_) (a' := ?_) #[true, true, true, true, false, false, false, false, false, false] rfl rfl (by kernel_rfl) (fun _ _ _ h => h) (Or.inl ⟨by rfl, ?_⟩) hHeld ?_ ?_
  rotate_left
  · rintro w' ⟨s0, s1, s2, s3⟩
    go_simp
    with_reducible rfl
  rotate_left
  · simp only [Act.put, List.setIfInBounds_toArray, List.set_cons_zero, List.set_cons_succ, i64_w, i32_w]
    rfl
  refine pure_ (i := 4) (N := some 40) (v := ?_) (a' := ?_) #[true, true, true, true, true, false, false, false, false, false] rfl rfl (by kernel_rfl) (fun _ _ _ h => h) (Or.inl ⟨by rfl, ?_⟩) ?_ ?_
  rotate_left
  · intro w'
    go_simp
    with_reducible rfl
  rotate_left
  · simp only [Act.put, List.setIfInBounds_toArray, List.set_cons_zero, List.set_cons_succ, i64_w, i32_w]
    rfl
  refine pure_ (i := 5) (N := some 41) (v := ?_) (a' := ?_) #[true, true, true, true, true, true, false, false, false, false] rfl rfl (by kernel_rfl) (fun _ _ _ h => h) (Or.inl ⟨by rfl, ?_⟩) ?_ ?_
  rotate_left
  · intro w'
    go_simp
    with_reducible rfl
  rotate_left
  · simp only [Act.put, List.setIfInBounds_toArray, List.set_cons_zero, List.set_cons_succ, i64_w, i32_w]
    rfl
  refine pure_ (i := 6) (N := some 42) (v := ?_) (a' := ?_) #[true, true, true, true, true, true, true, false, false, false] rfl rfl (by kernel_rfl) (fun _ _ _ h => h) (Or.inl ⟨by rfl, ?_⟩) ?_ ?_
  rotate_left
  · intro w'
    go_simp
    with_reducible rfl
  rotate_left
  · simp only [Act.put, List.setIfInBounds_toArray, List.set_cons_zero, List.set_cons_succ, i64_w, i32_w]
    rfl
  refine take_ (i := 7) (N := some 43) (v := ?_) (a' := ?_) #[true, true, true, true, true, true, true, true, false, false] rfl rfl (by kernel_rfl) (fun _ _ _ h => h) (Or.inl ⟨by rfl, ?_⟩) hHeld ?_ ?_
  rotate_left
  · rintro w' ⟨s0, s1, s2, s3⟩
    go_simp
    with_reducible rfl
  rotate_left
  · simp only [Act.put, List.setIfInBounds_toArray, List.set_cons_zero, List.set_cons_succ, i64_w, i32_w]
    rfl
  refine pure_ (i := 8) (N := some 44) (v := ?_) (a' := ?_) #[true, true, true, true, true, true, true, true, true, false] rfl rfl (by kernel_rfl) (fun _ _ _ h => h) (Or.inl ⟨by rfl, ?_⟩) ?_ ?_
  rotate_left
  · intro w'
    go_simp
    with_reducible rfl
  rotate_left
  · simp only [Act.put, List.setIfInBounds_toArray, List.set_cons_zero, List.set_cons_succ, i64_w, i32_w]
    rfl
  refine pure_ (i := 9) (N := some 35) (v := ?_) (a' := ?_) #[true, true, true, true, true, true, true, true, true, true] rfl rfl (by kernel_rfl) (fun _ _ _ h => h) (Or.inl ⟨by rfl, ?_⟩) ?_ ?_
  rotate_left
  · intro w'
    go_simp
    with_reducible rfl
  rotate_left
  · simp only [Act.put, List.setIfInBounds_toArray, List.set_cons_zero, List.set_cons_succ, i64_w, i32_w]
    rfl
  refine done_ (by kernel_rfl) ?_
  go_upto_region 6 with fail
  refine start_ (n := 10) (S := fun w' => w'.cell? ⟨gx, 0, none⟩ = some (.bool false) ∧ w'.cell? ⟨gx, 1, none⟩ = some (.slice Ax lx.length cx) ∧ w'.cell? ⟨gy, 0, none⟩ = some (.bool false) ∧ w'.cell? ⟨gy, 1, none⟩ = some (.slice Ay ly.length cy)) (ds := []) #[false, false, false, false, false, false, false, false, false, false] (by kernel_rfl) rfl rfl (HP.out w.drew.drew.drew rfl) (fun hHeld => ?_)
  refine pure_ (i := 0) (N := some 45) (v := ?_) (a' := ?_) #[true, false, false, false, false, false, false, false, false, false] rfl rfl (by kernel_rfl) (fun _ _ _ h => h) (Or.inl ⟨by rfl, ?_⟩) ?_ ?_
  rotate_left
  · intro w'
    go_simp
    with_reducible rfl
  rotate_left
  · simp only [Act.put, List.setIfInBounds_toArray, List.set_cons_zero, List.set_cons_succ, i64_w, i32_w]
    rfl
  refine pure_ (i := 1) (N := some 46) (v := ?_) (a' := ?_) #[true, true, false, false, false, false, false, false, false, false] rfl rfl (by kernel_rfl) (fun _ _ _ h => h) (Or.inl ⟨by rfl, ?_⟩) ?_ ?_
  rotate_left
  · intro w'
    go_simp
    with_reducible rfl
  rotate_left
  · simp only [Act.put, List.setIfInBounds_toArray, List.set_cons_zero, List.set_cons_succ, i64_w, i32_w]
    rfl
  refine pure_ (i := 2) (N := some 47) (v := ?_) (a' := ?_) #[true, true, true, false, false, false, false, false, false, false] rfl rfl (by kernel_rfl) (fun _ _ _ h => h) (Or.inl ⟨by rfl, ?_⟩) ?_ ?_
  rotate_left
  · intro w'
    go_simp
    with_reducible rfl
  rotate_left
  · simp only [Act.put, List.setIfInBounds_toArray, List.set_cons_zero, List.set_cons_succ, i64_w, i32_w]
    rfl
  refine take_ (i := 3) (N := some 48) (v := ?_) (a' := ?_) #[true, true, true, true, false, false, false, false, false, false] rfl rfl (by kernel_rfl) (fun _ _ _ h => h) (Or.inl ⟨by rfl, ?_⟩) hHeld ?_ ?_
  rotate_left
  · rintro w' ⟨s0, s1, s2, s3⟩
    go_simp
    with_reducible rfl
  rotate_left
  · simp only [Act.put, List.setIfInBounds_toArray, List.set_cons_zero, List.set_cons_succ, i64_w, i32_w]
    rfl
  refine pure_ (i := 4) (N := some 49) (v := ?_) (a' := ?_) #[true, true, true, true, true, false, false, false, false, false] rfl rfl (by kernel_rfl) (fun _ _ _ h => h) (Or.inl ⟨by rfl, ?_⟩) ?_ ?_
  rotate_left
  · intro w'
    go_simp
    with_reducible rfl
  rotate_left
  · simp only [Act.put, List.setIfInBounds_toArray, List.set_cons_zero, List.set_cons_succ, i64_w, i32_w]
    rfl
  refine pure_ (i := 5) (N := some 50) (v := ?_) (a' := ?_) #[true, true, true, true, true, true, false, false, false, false] rfl rfl (by kernel_rfl) (fun _ _ _ h => h) (Or.inl ⟨by rfl, ?_⟩) ?_ ?_
  rotate_left
  · intro w'
    go_simp
    with_reducible rfl
  rotate_left
  · simp only [Act.put, List.setIfInBounds_toArray, List.set_cons_zero, List.set_cons_succ, i64_w, i32_w]
    rfl
  refine pure_ (i := 6) (N := some 51) (v := ?_) (a' := ?_) #[true, true, true, true, true, true, true, false, false, false] rfl rfl (by kernel_rfl) (fun _ _ _ h => h) (Or.inl ⟨by rfl, ?_⟩) ?_ ?_
  rotate_left
  · intro w'
    go_simp
    with_reducible rfl
  rotate_left
  · simp only [Act.put, List.setIfInBounds_toArray, List.set_cons_zero, List.set_cons_succ, i64_w, i32_w]
    rfl
  refine take_ (i := 7) (N := some 52) (v := ?_) (a' := ?_) #[true, true, true, true, true, true, true, true, false, false] rfl rfl (by kernel_rfl) (fun _ _ _ h => h) (Or.inl ⟨by rfl, ?_⟩) hHeld ?_ ?_
  rotate_left
  · rintro w' ⟨s0, s1, s2, s3⟩
    go_simp
    with_reducible rfl
  rotate_left
  · simp only [Act.put, List.setIfInBounds_toArray, List.set_cons_zero, List.set_cons_succ, i64_w, i32_w]
    rfl
  refine one_ (i := 8) (N := some 53) #[true, true, true, true, true, true, true, true, true, false] rfl rfl (by kernel_rfl) (by decide) (fun K hK => ?_)
  refine goes_ Try.func38 (by kernel_rfl) rfl #[.slice Ax lx.length cx, .slice Ay ly.length cy] (by rfl) rfl rfl (by (try simp only [List.map_toArray, List.map_cons, List.map_nil]); first | done | rfl | (simp only [List.length_drop, List.length_take]; rfl)) ?_
  with_reducible refine (HC.out w.drew.drew.drew ⟨rfl, rfl, rfl, Nat.le_refl _, fun _ _ => rfl⟩).mono ?_
  rintro e w1 ⟨rfl, k1⟩
  refine ⟨_, rfl, ?_⟩
  have HB1 : Aside0 (Below w.heap.size w w1) := ⟨⟨k1.os, k1.tape, k1.output, k1.size, k1.block⟩⟩
  have k2 := k1
  clear k1
  refine hK.out _ _ (⟨pw_cell_below k2 hHeld.1, pw_cell_below k2 hHeld.2.1, pw_cell_below k2 hHeld.2.2.1, pw_cell_below k2 hHeld.2.2.2⟩) (fun hHeld => ?_)
  clear hK K
  refine norm_ (a' := ?_) ?_ ?_
  rotate_left
  · show Act.put _ (some 53) _ = _
    simp only [Act.put, List.setIfInBounds_toArray, List.set_cons_zero, List.set_cons_succ, i64_w, i32_w]
    rfl
  refine pure_ (i := 9) (N := some 4) (v := ?_) (a' := ?_) #[true, true, true, true, true, true, true, true, true, true] rfl rfl (by kernel_rfl) (fun _ _ _ h => h) (Or.inl ⟨by rfl, ?_⟩) ?_ ?_
  rotate_left
  · intro w'
    go_simp
    with_reducible rfl
  rotate_left
  · simp only [Act.put, List.setIfInBounds_toArray, List.set_cons_zero, List.set_cons_succ, i64_w, i32_w]
    rfl
  refine done_ (by kernel_rfl) ?_
  go_wp2_with fail
  go_ret
  exact ⟨rfl, HB1.out⟩
set_option maxRecDepth 100000 in
set_option maxHeartbeats 2000000 in
theorem numberC (k : Nat) (oks : Nat → Prop) (v : Value) (xs r : List Int) (w : World) (base : Nat) (hok : ∀ k, oks k → k < w.heap.size) (hv : Kd.V (Kd.int .u8) 5 w base oks v xs) (hx : Bytes xs) (hn : xs.length ≤ 1000000)
    (hr : smallbig_nat_norm.f k (dg (vB xs) ((xs.length + 3) / 4)) = some r) :
    Calls Try.prog 12 #[v] w fun e w' => e = .returned (.pointer (some ⟨w.heap.size, 0, none⟩)) ∧ Is w' w.heap.size (· ≠ w.heap.size) false r ∧ Below w.heap.size w w' := by
  have HC : Aside0 (∀ w1 : World, Below w.heap.size w w1 → w1.heap[w.heap.size]? = some (.cells #[.bool false, .slice none 0 0] 73 (0, 0)) → w.heap.size < w1.heap.size → Calls Try.prog 22 #[.pointer (some ⟨w.heap.size, 0, none⟩), v] w1 fun e w' => e = .returned (.pointer (some ⟨w.heap.size, 0, none⟩)) ∧ Is w' w.heap.size (· ≠ w.heap.size) false r ∧ Only w.heap.size w1 w') := ⟨fun w1 hb h1 h2 =>
    setBytes w.heap.size (fun _ => True) false [] k oks v xs r w1 base ⟨_, h1, Kd.V_nil _ _ _ _ _⟩ (fun k hk => Nat.lt_trans (hok k hk) h2) (Kd.V_below hv hb) hx hn hr⟩
  clear hok hv hx hn hr
  go_enter Try.func12, Try.ntmps12
  go_wp2_with (go_at_call 22; with_reducible refine (HC.out _ (below_alloc (Below.refl _ _) _) (heap_alloc_new w _) (by simp)).mono ?_; rintro e w2 ⟨rfl, k1, k2⟩; have H1 := Aside0.mk k1; have H2 := Aside0.mk k2; clear k1 k2)
  go_ret
  exact ⟨rfl, H1.out, H2.out.below (below_alloc (Below.refl _ _) _) (Nat.le_refl _) (by simp)⟩
end Go.Proofs.Ytigpdgfhngknhaa.Big
/- A call through an interface, as an arm; in a drawn region. -/
namespace Go.Proofs.YtigpdgfhngknhaaW.PrintLast
open Go.RowKit Go.Proofs.YtigpdgfhngknhaaW.PrintWords
set_option linter.unusedVariables false
section
variable {P : Program} {md : Region.Mode} {ops : Array Oper} {S : World → Prop} {ds : List Nat} {Q : Exit → Act → World → Prop}
/-- What a type's method is called with: whatever the fuel. -/
def Meth (P : Program) (t : TypeId) (v : Value) (name : String) (f : FuncId) (v' : Value) : Prop := ∀ n w, (method (n + 1) t v name).run P w = .ok (f, v') w
theorem inv_enters {oi : Oper} {ρ : Operand → Value} {w : World} (recv : Operand) (name : String) (ops1 : Array Operand) (ts : Array TypeId) (hop : oi.op = .call { callee := .invoke recv name, args := ops1, argTypes := ts }) (t : TypeId) (v : Value) (hr : ρ recv = .iface t v) (f : FuncId) (v' : Value) (hm : Meth P t v name f v')
    {fn : Func} (hf : P.funcs[f]? = some fn) (hname : (fn.name == "runtime.NumGoroutine") = false) (hb : fn.body.isSome = true) (all : Array Value) (hall : #[v'] ++ ops1.map ρ = all) : (execOp ρ oi).run P w = .ok (.enter f all) w := by
  subst hall
  obtain ⟨args, hargs⟩ : ∃ args, ops1.map ρ = args := ⟨_, rfl⟩
  rw [hargs]
  have he := enters_ hf hname hb (#[v'] ++ args) w
  have h0 : 0 < P.types.size + Made.depth := Nat.lt_of_lt_of_le (show 0 < Made.depth by decide) (Nat.le_add_left _ _)
  obtain ⟨n, hn⟩ : ∃ n, P.types.size + Made.depth = n + 1 := ⟨P.types.size + Made.depth - 1, by omega⟩
  have h1 := hm n w
  rw [← hn] at h1
  unfold execOp
  have e0 : (#[Value.iface t v] ++ args)[0]? = some (.iface t v) := by rw [Array.getElem?_append_left (by simp)]; simp
  have e1 : (#[v'] ++ args : Array Value) = #[v'] ++ args := rfl
  simp [hop, resolve, invoke, callMethod, hargs, hr]
  rw [e0]
  simp [h1, he, Result.andThen]
theorem invL_ {rest : List Oper} {oi : Oper} {a : Act} {w : World} (N : Option Tmp) (hd : oi.dst = N) (hg : oi.guard = none) (recv : Operand) (name : String) {ops1 : Array Operand} {ts : Array TypeId} (hop : oi.op = .call { callee := .invoke recv name, args := ops1, argTypes := ts }) (t : TypeId) (v : Value) (hr : a.eval recv = .iface t v) (f : FuncId) {v' : Value} (hm : Meth P t v name f v')
    {fn : Func} (hf : P.funcs[f]? = some fn) (hname : (fn.name == "runtime.NumGoroutine") = false) (hb : fn.body.isSome = true) (all : Array Value) (hall : #[v'] ++ ops1.map a.eval = all)
    (h : Calls P f all w fun e w' => ∃ v, e = .returned v ∧ wpList P ops Q rest (a.put N v) w') : wpList P ops Q (oi :: rest) a w := by
  refine wpList_plain hg fun K hK => ?_
  unfold Oper.wp
  rw [inv_enters recv name ops1 ts hop t v hr f v' hm hf hname hb all hall, Oper.upon_enter]
  refine h.mono fun e w'' hh => ?_
  obtain ⟨v, rfl, hk⟩ := hh
  subst hd
  exact hK _ _ hk
theorem goesI_ {oi : Oper} {N : Option Tmp} {a : Act} {w : World} {K : Act → World → Prop} (hw : Region.wanted oi (yielded ops a.tmps) = true) (hN : oi.dst = N) (recv : Operand) (name : String) {ops1 : Array Operand} {ts : Array TypeId} (hop : oi.op = .call { callee := .invoke recv name, args := ops1, argTypes := ts }) (t : TypeId) (v : Value) (hr : a.eval recv = .iface t v) (f : FuncId) {v' : Value} (hm : Meth P t v name f v')
    {fn : Func} (hf : P.funcs[f]? = some fn) (hname : (fn.name == "runtime.NumGoroutine") = false) (hb : fn.body.isSome = true) (all : Array Value) (hall : #[v'] ++ ops1.map a.eval = all)
    (h : Calls P f all w fun e w' => ∃ v, e = .returned v ∧ K (a.put N v) w') : if Region.wanted oi (yielded ops a.tmps) = true then Oper.wp P oi a w K Q else K (a.put N undef) w :=
  call_ f all hw hN (inv_enters recv name ops1 ts hop t v hr f v' hm hf hname hb all hall) h
/-! ### A call of a function value -/
theorem val_enters {oi : Oper} {ρ : Operand → Value} {w : World} (recv : Operand) (ops1 : Array Operand) (ts : Array TypeId) (hop : oi.op = .call { callee := .value recv, args := ops1, argTypes := ts }) (f : FuncId) (first cap : Array Value) (hr : ρ recv = .func (.func f) first cap)
    {fn : Func} (hf : P.funcs[f]? = some fn) (hname : (fn.name == "runtime.NumGoroutine") = false) (hb : fn.body.isSome = true) (all : Array Value) (hall : (first ++ ops1.map ρ) ++ cap = all) : (execOp ρ oi).run P w = .ok (.enter f all) w := by
  subst hall
  obtain ⟨args, hargs⟩ : ∃ args, ops1.map ρ = args := ⟨_, rfl⟩
  rw [hargs]
  have he := enters_ hf hname hb ((first ++ args) ++ cap) w
  unfold execOp
  simp [hop, resolve, Deferred.ofValue, invoke, hargs, hr]
  simpa using he
theorem valL_ {rest : List Oper} {oi : Oper} {a : Act} {w : World} (N : Option Tmp) (hd : oi.dst = N) (hg : oi.guard = none) (recv : Operand) {ops1 : Array Operand} {ts : Array TypeId} (hop : oi.op = .call { callee := .value recv, args := ops1, argTypes := ts }) (f : FuncId) (first cap : Array Value) (hr : a.eval recv = .func (.func f) first cap)
    {fn : Func} (hf : P.funcs[f]? = some fn) (hname : (fn.name == "runtime.NumGoroutine") = false) (hb : fn.body.isSome = true) (all : Array Value) (hall : (first ++ ops1.map a.eval) ++ cap = all)
    (h : Calls P f all w fun e w' => ∃ v, e = .returned v ∧ wpList P ops Q rest (a.put N v) w') : wpList P ops Q (oi :: rest) a w := by
  refine wpList_plain hg fun K hK => ?_
  unfold Oper.wp
  rw [val_enters recv ops1 ts hop f first cap hr hf hname hb all hall, Oper.upon_enter]
  refine h.mono fun e w'' hh => ?_
  obtain ⟨v, rfl, hk⟩ := hh
  subst hd
  exact hK _ _ hk
theorem goesV_ {oi : Oper} {N : Option Tmp} {a : Act} {w : World} {K : Act → World → Prop} (hw : Region.wanted oi (yielded ops a.tmps) = true) (hN : oi.dst = N) (recv : Operand) {ops1 : Array Operand} {ts : Array TypeId} (hop : oi.op = .call { callee := .value recv, args := ops1, argTypes := ts }) (f : FuncId) (first cap : Array Value) (hr : a.eval recv = .func (.func f) first cap)
    {fn : Func} (hf : P.funcs[f]? = some fn) (hname : (fn.name == "runtime.NumGoroutine") = false) (hb : fn.body.isSome = true) (all : Array Value) (hall : (first ++ ops1.map a.eval) ++ cap = all)
    (h : Calls P f all w fun e w' => ∃ v, e = .returned v ∧ K (a.put N v) w') : if Region.wanted oi (yielded ops a.tmps) = true then Oper.wp P oi a w K Q else K (a.put N undef) w :=
  call_ f all hw hN (val_enters recv ops1 ts hop f first cap hr hf hname hb all hall) h
end
end Go.Proofs.YtigpdgfhngknhaaW.PrintLast
/- Rows of bytes as cells. -/
namespace Go.Proofs.Ytigpdgfhngknhaa.Snk
open Go.RowKit Go.Proofs.YtigpdgfhngknhaaW.PrintWords
def byteC (l : List Int) : List Value := l.map (Value.int .u8)
theorem byteC_len (l : List Int) : (byteC l).length = l.length := List.length_map _
theorem byteC_at {l : List Int} {j : Nat} (h : j < l.length) : (byteC l)[j]? = some (.int .u8 (l.getD j 0)) := by
  unfold byteC
  rw [List.getElem?_map, List.getD_eq_getElem?_getD, List.getElem?_eq_getElem h]; rfl
theorem byteC_set (l : List Int) (j : Nat) (v : Int) : (byteC l).set j (.int .u8 v) = byteC (l.set j v) := by unfold byteC; rw [List.map_set]
theorem row_set {l : List Int} {t : TypeId} {W : World} {g : Nat} (h : W.heap[g]? = some (.cells (byteC l).toArray t (0, 0))) (j : Nat) (v : Int) : (W.setCell ⟨g, j, none⟩ (.int .u8 v)).heap[g]? = some (.cells (byteC (l.set j v)).toArray t (0, 0)) := by
  rw [heap_set_same h (j := j) (.int .u8 v), List.setIfInBounds_toArray, byteC_set]
theorem row_cell {l : List Int} {t : TypeId} {W : World} {g : Nat} (h : W.heap[g]? = some (.cells (byteC l).toArray t (0, 0))) (j : Nat) (hj : j < l.length) : W.cell? ⟨g, j, none⟩ = some (.int .u8 (l.getD j 0)) :=
  cell_of h (by rw [List.getElem?_toArray]; exact byteC_at hj)
end Go.Proofs.Ytigpdgfhngknhaa.Snk
/- Four bytes laid down, the least first. -/
namespace Go.Proofs.Ytigpdgfhngknhaa.Snk
open Go.RowKit Go.Proofs.YtigpdgfhngknhaaW.PrintWords Go.Proofs.YtigpdgfhngknhaaW.PrintLast Go.Proofs.YtigpdgfhngknhaaW.PrintMore
set_option linter.unusedVariables false
set_option linter.unusedSimpArgs false
def lput4 (l : List Int) (o : Nat) (v : Int) : List Int := ((((l.set o (v % 256)).set (o + 1) ((v / 256) % 256)).set (o + 2) ((v / 65536) % 256)).set (o + 3) ((v / 16777216) % 256))
def le4 (v : Int) : List Int := [v % 256, (v / 256) % 256, (v / 65536) % 256, (v / 16777216) % 256]
theorem lput4_len (l : List Int) (o : Nat) (v : Int) : (lput4 l o v).length = l.length := by unfold lput4; simp only [List.length_set]
theorem lput4_take (l : List Int) (v : Int) (hl : 4 ≤ l.length) : (lput4 l 0 v).take 4 = le4 v := by
  match l, hl with
  | a :: b :: c :: d :: r, _ => rfl
set_option maxRecDepth 100000 in
set_option maxHeartbeats 4000000 in
theorem lput4C (g o n c : Nat) (l : List Int) (t : TypeId) (v : Int) (E : Value) (w : World) (h : w.heap[g]? = some (.cells (byteC l).toArray t (0, 0))) (ho : o + 4 ≤ l.length) (hn : 4 ≤ n) :
    Calls Try.prog 59 #[.agg #[], .slice (some ⟨g, o, none⟩) n c, .int .u32 v] w fun e w' => e = .returned (.tuple #[]) ∧ w'.heap[g]? = some (.cells (byteC (lput4 l o v)).toArray t (0, 0)) ∧ Only g w w' := by
  have hn1 : 3 < (n : Int) := by omega
  have GW := Aside0.mk h
  have HO := Aside0.mk ho
  clear h ho
  go_enter Try.func59, Try.ntmps59
  go_upto_region 1 with fail
  generalize hv0 : World.alloc _ _ = v0
  have O0 : Aside0 (Only g w v0) := ⟨by rw [← hv0]; exact (Only.refl g w).alloc _⟩
  have G0 : Aside0 (v0.heap[g]? = some (.cells (byteC l).toArray t (0, 0))) := ⟨by rw [← hv0]; exact heap_alloc_lt GW.out _⟩
  clear hv0
  have z9 := row_cell G0.out (o + 3) (by have := HO.out; omega)
  go_upto_region 2 with fail
  clear z9
  have z0 := row_cell G0.out (o) (by have := HO.out; (try simp only [List.length_set]); omega)
  have f0 := frozen_of G0.out (o)
  go_upto_region 3 with fail
  generalize hv1 : World.setCell _ _ _ = v1
  have G1 : Aside0 (v1.heap[g]? = some (.cells (byteC (l.set o (v % 256))).toArray t (0, 0))) := ⟨by rw [← hv1]; exact row_set G0.out _ _⟩
  have O1 : Aside0 (Only g w v1) := ⟨by rw [← hv1]; exact O0.out.set _ _⟩
  clear hv1 z0 f0
  have z1 := row_cell G1.out (o + 1) (by have := HO.out; (try simp only [List.length_set]); omega)
  have f1 := frozen_of G1.out (o + 1)
  go_upto_region 4 with fail
  generalize hv2 : World.setCell _ _ _ = v2
  have G2 : Aside0 (v2.heap[g]? = some (.cells (byteC ((l.set o (v % 256)).set (o + 1) ((v / 256) % 256))).toArray t (0, 0))) := ⟨by rw [← hv2]; exact row_set G1.out _ _⟩
  have O2 : Aside0 (Only g w v2) := ⟨by rw [← hv2]; exact O1.out.set _ _⟩
  clear hv2 z1 f1
  have z2 := row_cell G2.out (o + 2) (by have := HO.out; (try simp only [List.length_set]); omega)
  have f2 := frozen_of G2.out (o + 2)
  go_upto_region 5 with fail
  generalize hv3 : World.setCell _ _ _ = v3
  have G3 : Aside0 (v3.heap[g]? = some (.cells (byteC (((l.set o (v % 256)).set (o + 1) ((v / 256) % 256)).set (o + 2) ((v / 65536) % 256))).toArray t (0, 0))) := ⟨by rw [← hv3]; exact row_set G2.out _ _⟩
  have O3 : Aside0 (Only g w v3) := ⟨by rw [← hv3]; exact O2.out.set _ _⟩
  clear hv3 z2 f2
  have z3 := row_cell G3.out (o + 3) (by have := HO.out; (try simp only [List.length_set]); omega)
  have f3 := frozen_of G3.out (o + 3)
  go_wp2_with fail
  go_end0
  exact ⟨rfl, row_set G3.out _ _, O3.out.set _ _⟩
end Go.Proofs.Ytigpdgfhngknhaa.Snk
/- What bytes are written to, behind an interface. -/
namespace Go.Proofs.Ytigpdgfhngknhaa.Snk
open Go.RowKit Go.Proofs.YtigpdgfhngknhaaW.PrintWords Go.Proofs.YtigpdgfhngknhaaW.PrintLast
set_option linter.unusedVariables false
/-- A method value's test for nil. -/
def NilNot (P : Program) (t : TypeId) (v : Value) (name : String) : Prop := ∀ n w, (nilAhead (n + 1) t v name).run P w = .ok (some false) w
theorem nil_run {P : Program} {t : TypeId} {v : Value} {name : String} (h : NilNot P t v name) (w : World) {ρ : Operand → Value} {o : Oper} (x : Operand) (ho : o.op = .nilCheck x) (hx : ρ x = .func (.method name) #[.iface t v] #[]) : (execOp ρ o).run P w = .ok (.value (.func (.method name) #[.iface t v] #[])) w := by
  have h0 : 0 < P.types.size + Made.depth := Nat.lt_of_lt_of_le (show 0 < Made.depth by decide) (Nat.le_add_left _ _)
  obtain ⟨n, hn⟩ : ∃ n, P.types.size + Made.depth = n + 1 := ⟨P.types.size + Made.depth - 1, by omega⟩
  have h1 := h n w
  rw [← hn] at h1
  unfold execOp
  rw [ho]
  show Sem.run _ (match ρ x with | .pointer none | .nilIface | .nilFunc => _ | .func (.method name) first captured => _ | x => _) w = _
  rw [hx]
  simp [h1, Result.andThen]
/-- Things to which bytes can be written: T its type, v the value, f the type's Write. w0: the world ahead of them all. M: how much they take. -/
structure Sink (P : Program) (w0 : World) (T : TypeId) (v : Value) (f : FuncId) (M : Nat) where
  St : World → List Int → Prop
  own : World → Nat → Prop
  meth : Meth P T v "Write" f v
  nil : NilNot P T v "Write"
  below : ∀ {w bs}, St w bs → Below w0.heap.size w0 w
  fresh : ∀ {w bs k}, St w bs → own w k → w0.heap.size ≤ k ∧ k < w.heap.size
  stay : ∀ {w bs w'}, St w bs → Below w0.heap.size w0 w' → (∀ k, own w k → w'.heap[k]? = w.heap[k]?) → St w' bs ∧ ∀ k, own w' k → own w k
  write : ∀ {w bs} {p : List Int} {A : Option Addr} {c n : Nat}, St w bs → p.length = n → bs.length + n ≤ M → n ≤ c → ReadsInt w .u8 A n p → (0 < n → ∀ a, A = some a → ¬ own w a.block) →
    Calls P f #[v, .slice A n c] w fun e w' => e = .returned (.tuple #[.int .i64 (n : Int), .nilIface]) ∧ St w' (bs ++ p) ∧ (w'.os = w.os ∧ w'.tape = w.tape ∧ w'.output = w.output ∧ w.heap.size ≤ w'.heap.size ∧ (∀ k, k < w.heap.size → ¬ own w k → w'.heap[k]? = w.heap[k]?) ∧ ∀ k, own w' k → own w k ∨ w.heap.size ≤ k)
section
variable {P : Program} {w0 : World} {T : TypeId} {v : Value} {f : FuncId} {M : Nat} (S : Sink P w0 T v f M)
/-- What a writer may turn: the sink's own blocks, and what is new. -/
structure Step (w w' : World) : Prop where
  os : w'.os = w.os
  tape : w'.tape = w.tape
  output : w'.output = w.output
  size : w.heap.size ≤ w'.heap.size
  block : ∀ k, k < w.heap.size → ¬ S.own w k → w'.heap[k]? = w.heap[k]?
  grow : ∀ k, S.own w' k → S.own w k ∨ w.heap.size ≤ k
variable {S}
theorem Step.refl (w : World) : Step S w w := ⟨rfl, rfl, rfl, Nat.le_refl _, fun _ _ _ => rfl, fun _ h => .inl h⟩
theorem Step.trans {w w1 w2 : World} (h : Step S w w1) (k : Step S w1 w2) : Step S w w2 :=
  ⟨k.os.trans h.os, k.tape.trans h.tape, k.output.trans h.output, Nat.le_trans h.size k.size, fun i hi ho => (k.block i (Nat.lt_of_lt_of_le hi h.size) (fun hh => (h.grow i hh).elim ho (fun h1 => Nat.not_le.2 hi h1))).trans (h.block i hi ho), fun i hi => by
    rcases k.grow i hi with h1 | h1
    · exact h.grow i h1
    · exact .inr (Nat.le_trans h.size h1)⟩
theorem below_step {w w1 : World} {bs : List Int} (hs : S.St w bs) (hb : Below w.heap.size w w1) : S.St w1 bs ∧ Step S w w1 := by
  have h := S.stay hs ((S.below hs).trans ⟨hb.os, hb.tape, hb.output, hb.size, fun k hk => hb.block k (Nat.lt_of_lt_of_le hk (S.below hs).size)⟩) (fun k hk => hb.block k (S.fresh hs hk).2)
  exact ⟨h.1, hb.os, hb.tape, hb.output, hb.size, fun k hk _ => hb.block k hk, fun k hk => .inl (h.2 k hk)⟩
theorem below_own {w w1 : World} {bs : List Int} (hs : S.St w bs) (hb : Below w.heap.size w w1) (k : Nat) (h : S.own w1 k) : S.own w k :=
  (S.stay hs ((S.below hs).trans ⟨hb.os, hb.tape, hb.output, hb.size, fun k hk => hb.block k (Nat.lt_of_lt_of_le hk (S.below hs).size)⟩) (fun k hk => hb.block k (S.fresh hs hk).2)).2 k h
/-- A block of one's own, made behind wE, turns. -/
theorem only_step {wE w w1 : World} {bs : List Int} {g : Nat} (hs : S.St w bs) (hE : Step S wE w) (hg : wE.heap.size ≤ g) (hg0 : w0.heap.size ≤ g) (hn : ¬ S.own w g) (ho : Only g w w1) : S.St w1 bs ∧ Step S wE w1 ∧ ¬ S.own w1 g := by
  have h := S.stay hs ((S.below hs).trans ⟨ho.os, ho.tape, ho.output, ho.size, fun k hk => ho.block k (Nat.lt_of_lt_of_le hk (S.below hs).size) (by omega)⟩) (fun k hk => ho.block k (S.fresh hs hk).2 (fun e => hn (e ▸ hk)))
  exact ⟨h.1, ⟨ho.os.trans hE.os, ho.tape.trans hE.tape, ho.output.trans hE.output, Nat.le_trans hE.size ho.size, fun k hk hk2 => (ho.block k (Nat.lt_of_lt_of_le hk hE.size) (by omega)).trans (hE.block k hk hk2), fun k hk => hE.grow k (h.2 k hk)⟩, fun hh => hn (h.2 g hh)⟩
/-- A block that is not the sink's stays. -/
theorem Step.kept {w w1 : World} {g : Nat} {x : Obj} (h : Step S w w1) (hn : ¬ S.own w g) (hx : w.heap[g]? = some x) : w1.heap[g]? = some x ∧ ¬ S.own w1 g :=
  ⟨(h.block g (blk_lt' hx) hn).trans hx, fun hh => (h.grow g hh).elim hn (fun h1 => Nat.not_le.2 (blk_lt' hx) h1)⟩
theorem Sink.writeC (S : Sink P w0 T v f M) {w : World} {bs p : List Int} {A : Option Addr} {c n : Nat} (hs : S.St w bs) (hp : p.length = n) (hM : bs.length + n ≤ M) (hc : n ≤ c) (hr : ReadsInt w .u8 A n p) (ho : 0 < n → ∀ a, A = some a → ¬ S.own w a.block) :
    Calls P f #[v, .slice A n c] w fun e w' => e = .returned (.tuple #[.int .i64 (n : Int), .nilIface]) ∧ S.St w' (bs ++ p) ∧ Step S w w' :=
  (S.write hs hp hM hc hr ho).mono fun e w' ⟨h1, h2, h3, h4, h5, h6, h7, h8⟩ => ⟨h1, h2, h3, h4, h5, h6, h7, h8⟩
end
end Go.Proofs.Ytigpdgfhngknhaa.Snk
/- A header is written. -/
namespace Go.Proofs.Ytigpdgfhngknhaa.Snk
open Go.RowKit Go.Proofs.YtigpdgfhngknhaaW.PrintWords Go.Proofs.YtigpdgfhngknhaaW.PrintLast Go.Proofs.YtigpdgfhngknhaaW.PrintMore
set_option linter.unusedVariables false
set_option linter.unusedSimpArgs false
theorem add_any (g o j : Nat) : (⟨g, o, none⟩ : Addr).add j = ⟨g, o + j, none⟩ := by
  unfold Addr.add
  split
  · rename_i h; rw [h]; rfl
  · rfl
/-- A header's numbers. -/
structure HdV where
  v : Int
  p : List Int
  r : List Int
  t : Int
  b : Int
  n : Int
structure HdV.ok (h : HdV) : Prop where
  v0 : -2147483648 ≤ h.v
  v1 : h.v < 2147483648
  p : h.p.length = 32
  r : h.r.length = 32
  t0 : 0 ≤ h.t
  t1 : h.t < 4294967296
  b0 : 0 ≤ h.b
  b1 : h.b < 4294967296
  n0 : 0 ≤ h.n
  n1 : h.n < 4294967296
def HdV.bytes (h : HdV) : List Int := le4 (h.v % 4294967296) ++ (h.p ++ (h.r ++ (le4 h.t ++ (le4 h.b ++ le4 h.n))))
/-- A header of the text, at the head of block g. -/
structure HdAt (w : World) (g : Nat) (h : HdV) : Prop where
  v : w.cell? ⟨g, 0, none⟩ = some (.int .i32 h.v)
  p : ∀ j, j < 32 → w.cell? ⟨g, 1 + j, none⟩ = some (.int .u8 (h.p.getD j 0))
  r : ∀ j, j < 32 → w.cell? ⟨g, 33 + j, none⟩ = some (.int .u8 (h.r.getD j 0))
  t : w.cell? ⟨g, 65, none⟩ = some (.int .i64 h.t)
  b : w.cell? ⟨g, 66, none⟩ = some (.int .u32 h.b)
  n : w.cell? ⟨g, 67, none⟩ = some (.int .u32 h.n)
theorem HdAt.below {w w1 : World} {g : Nat} {h : HdV} (k : HdAt w g h) (hb : Below w.heap.size w w1) : HdAt w1 g h :=
  ⟨pw_cell_below hb k.v, fun j hj => pw_cell_below hb (k.p j hj), fun j hj => pw_cell_below hb (k.r j hj), pw_cell_below hb k.t, pw_cell_below hb k.b, pw_cell_below hb k.n⟩
theorem HdAt.readP {w : World} {g : Nat} {h : HdV} (k : HdAt w g h) (ho : h.ok) : ReadsInt w .u8 (some ⟨g, 1, none⟩) 32 h.p := ⟨ho.p, by decide, fun _ => ⟨_, rfl, fun j hj => by rw [add_any]; exact k.p j hj⟩⟩
theorem HdAt.readR {w : World} {g : Nat} {h : HdV} (k : HdAt w g h) (ho : h.ok) : ReadsInt w .u8 (some ⟨g, 33, none⟩) 32 h.r := ⟨ho.r, by decide, fun _ => ⟨_, rfl, fun j hj => by rw [add_any]; exact k.r j hj⟩⟩
theorem HdAt.lt {w : World} {g : Nat} {h : HdV} (k : HdAt w g h) : g < w.heap.size := World.block_lt_of_cell? w _ k.v
theorem read4 {w : World} {g : Nat} {l : List Int} {t : TypeId} (h : w.heap[g]? = some (.cells (byteC l).toArray t (0, 0))) (hl : l.length = 8) : ReadsInt w .u8 (some ⟨g, 0, none⟩) 4 (l.take 4) :=
  ⟨by rw [List.length_take]; omega, by decide, fun _ => ⟨_, rfl, fun j hj => by
    rw [add_any, Nat.zero_add, row_cell h j (by omega), List.getD_eq_getElem?_getD, List.getD_eq_getElem?_getD, List.getElem?_take_of_lt hj]⟩⟩
theorem le4_len (v : Int) : (le4 v).length = 4 := rfl
set_option maxRecDepth 100000 in
theorem timeUnixC (t : Int) (w : World) : Calls Try.prog 60 #[.agg #[.int .i64 t]] w fun e w' => e = .returned (.int .i64 t) ∧ Below w.heap.size w w' := by
  go_enter Try.func60, Try.ntmps60
  go_wp2_with fail
  go_ret
  exact ⟨rfl, below_alloc (Below.refl _ _) _⟩
set_option maxRecDepth 100000 in
set_option maxHeartbeats 8000000 in
theorem hdrBufC {w0 : World} {T : TypeId} {v : Value} {f M : Nat} (S : Sink Try.prog w0 T v f M) {fn : Func} (hf : Try.prog.funcs[f]? = some fn) (hname : (fn.name == "runtime.NumGoroutine") = false) (hbd : fn.body.isSome = true) (g gb : Nat) (h : HdV) (ho : h.ok) (hd : HdAt w0 g h) (wE w : World) (bs l : List Int) (tb : TypeId)
    (hs : S.St w bs) (hE : Step S wE w) (hgE : wE.heap.size ≤ gb) (hg0 : w0.heap.size ≤ gb) (hno : ¬ S.own w gb) (hl : l.length = 8) (hrow : w.heap[gb]? = some (.cells (byteC l).toArray tb (0, 0))) (hM : bs.length + 80 ≤ M) :
    Calls Try.prog 53 #[.iface T v, .int .u32 0, .pointer (some ⟨g, 0, none⟩), .slice (some ⟨gb, 0, none⟩) 8 8] w fun e w' => e = .returned .nilIface ∧ S.St w' (bs ++ h.bytes) ∧ Step S wE w' := by
  have HF := Aside0.mk hf
  have HNM := Aside0.mk hname
  have HBD := Aside0.mk hbd
  have HO := Aside0.mk ho
  have HD := Aside0.mk hd
  have HM := Aside0.mk hM
  have HGE := Aside0.mk hgE
  have HG0 := Aside0.mk hg0
  have HS0 := Aside0.mk hs
  have HE0 := Aside0.mk hE
  have HN0 := Aside0.mk hno
  have HL0 := Aside0.mk hl
  have HR0 := Aside0.mk hrow
  have HGN : Aside0 (∀ w bs, S.St w bs → ¬ S.own w g) := ⟨fun w bs h1 h2 => absurd (S.fresh h1 h2).1 (Nat.not_le.2 hd.lt)⟩
  have ho1 : 0 ≤ h.t := ho.t0
  have ho2 : h.t < 4294967296 := ho.t1
  have HT : Aside0 (h.t % 4294967296 = h.t) := ⟨by omega⟩
  obtain ⟨bs0, hb0⟩ : ∃ b, b = bs := ⟨_, rfl⟩
  have HB0 := Aside0.mk hb0
  rw [← hb0] at HS0
  clear hf hname hbd hd hM hgE hg0 hs hE hno hl hrow hb0 ho ho1 ho2
  go_enter Try.func53, Try.ntmps53
  go_upto_region 1 with fail
  have hz0 := (show (w.drew).cell? ⟨g, 0, none⟩ = some (.int .i32 h.v) from (HD.out.below (S.below HS0.out)).v)
  have C1 : Aside0 (w.drew.cell? ⟨g, 0, none⟩ = some (.int .i32 h.v)) := ⟨hz0⟩
  have HRd1 : Aside0 ((World.drew w).heap[gb]? = _) := ⟨HR0.out⟩
  refine start_ (n := 9) (S := fun w' => w'.cell? ⟨g, 0, none⟩ = some (.int .i32 h.v)) (ds := []) #[false, false, false, false, false, false, false, false, false] (by kernel_rfl) rfl rfl C1.out (fun hHeld => ?_)
  refine take_ (i := 0) (N := some 21) (v := ?_) (a' := ?_) #[true, false, false, false, false, false, false, false, false] rfl rfl (by kernel_rfl) (fun _ _ _ h => h) (Or.inl ⟨by rfl, ?_⟩) hHeld ?_ ?_
  rotate_left
  · rintro w' s0
    go_simp
    with_reducible rfl
  rotate_left
  · simp only [Act.put, List.setIfInBounds_toArray, List.set_cons_zero, List.set_cons_succ, i64_w, i32_w]
    rfl
  refine pure_ (i := 1) (N := some 22) (v := ?_) (a' := ?_) #[true, true, false, false, false, false, false, false, false] rfl rfl (by kernel_rfl) (fun _ _ _ h => h) (Or.inl ⟨by rfl, ?_⟩) ?_ ?_
  rotate_left
  · intro w'
    go_simp
    with_reducible rfl
  rotate_left
  · simp only [Act.put, List.setIfInBounds_toArray, List.set_cons_zero, List.set_cons_succ, i64_w, i32_w]
    rfl
  refine pure_ (i := 2) (N := some 23) (v := ?_) (a' := ?_) #[true, true, true, false, false, false, false, false, false] rfl rfl (by kernel_rfl) (fun _ _ _ h => h) (Or.inl ⟨by rfl, ?_⟩) ?_ ?_
  rotate_left
  · intro w'
    go_simp
    with_reducible rfl
  rotate_left
  · simp only [Act.put, List.setIfInBounds_toArray, List.set_cons_zero, List.set_cons_succ, i64_w, i32_w]
    rfl
  refine pure_ (i := 3) (N := some 24) (v := ?_) (a' := ?_) #[true, true, true, true, false, false, false, false, false] rfl rfl (by kernel_rfl) (fun _ _ _ h => h) (Or.inl ⟨by rfl, ?_⟩) ?_ ?_
  rotate_left
  · intro w'
    go_simp
    with_reducible rfl
  rotate_left
  · simp only [Act.put, List.setIfInBounds_toArray, List.set_cons_zero, List.set_cons_succ, i64_w, i32_w]
    rfl
  refine pure_ (i := 4) (N := some 25) (v := ?_) (a' := ?_) #[true, true, true, true, true, false, false, false, false] rfl rfl (by kernel_rfl) (fun _ _ _ h => h) (Or.inl ⟨by rfl, ?_⟩) ?_ ?_
  rotate_left
  · intro w'
    go_simp
    with_reducible rfl
  rotate_left
  · simp only [Act.put, List.setIfInBounds_toArray, List.set_cons_zero, List.set_cons_succ, i64_w, i32_w]
    rfl
  refine pure_ (i := 5) (N := some 26) (v := ?_) (a' := ?_) #[true, true, true, true, true, true, false, false, false] rfl rfl (by kernel_rfl) (fun _ _ _ h => h) (Or.inl ⟨by rfl, ?_⟩) ?_ ?_
  rotate_left
  · intro w'
    go_simp
    with_reducible rfl
  rotate_left
  · simp only [Act.put, List.setIfInBounds_toArray, List.set_cons_zero, List.set_cons_succ, i64_w, i32_w]
    rfl
  refine take_ (i := 6) (N := some 27) (v := ?_) (a' := ?_) #[true, true, true, true, true, true, true, false, false] rfl rfl (by kernel_rfl) (fun _ _ _ h => h) (Or.inl ⟨by rfl, ?_⟩) hHeld ?_ ?_
  rotate_left
  · rintro w' s0
    go_simp
    with_reducible rfl
  rotate_left
  · simp only [Act.put, List.setIfInBounds_toArray, List.set_cons_zero, List.set_cons_succ, i64_w, i32_w]
    rfl
  refine pure_ (i := 7) (N := some 28) (v := ?_) (a' := ?_) #[true, true, true, true, true, true, true, true, false] rfl rfl (by kernel_rfl) (fun _ _ _ h => h) (Or.inl ⟨by rfl, ?_⟩) ?_ ?_
  rotate_left
  · intro w'
    go_simp
    with_reducible rfl
  rotate_left
  · simp only [Act.put, List.setIfInBounds_toArray, List.set_cons_zero, List.set_cons_succ, i64_w, i32_w]
    rfl
  refine one_ (i := 8) (N := some 29) #[true, true, true, true, true, true, true, true, true] rfl rfl (by kernel_rfl) (by decide) (fun K hK => ?_)
  refine goes_ Try.func59 (by kernel_rfl) rfl #[.agg #[], .slice (some ⟨gb, 0, none⟩) 4 8, .int .u32 (h.v % 4294967296)] (by rfl) rfl rfl (by (try simp only [List.map_toArray, List.map_cons, List.map_nil]); first | done | rfl | (simp only [List.length_drop, List.length_take]; rfl)) ?_
  with_reducible refine (lput4C gb 0 4 8 _ _ (h.v % 4294967296) (.agg #[]) _ HRd1.out (by rw [HL0.out]; decide) (by decide)).mono ?_
  rintro e v1 ⟨rfl, k1, k2⟩
  refine ⟨_, rfl, ?_⟩
  have HR1 := Aside0.mk k1
  have P1 : Aside0 (Only gb w v1) := ⟨⟨k2.os, k2.tape, k2.output, k2.size, k2.block⟩⟩
  clear k1 k2
  refine hK.out _ _ (by have := P1.out; exact this.cell (p := ⟨g, 0, none⟩) (by intro e; have h1 : g = gb := e; have h2 := HD.out.lt; have h3 := HG0.out; omega) hHeld) (fun hHeld => ?_)
  clear hK K
  refine norm_ (a' := ?_) ?_ ?_
  rotate_left
  · show Act.put _ (some 29) _ = _
    simp only [Act.put, List.setIfInBounds_toArray, List.set_cons_zero, List.set_cons_succ, i64_w, i32_w]
    rfl
  refine done_ (by kernel_rfl) ?_
  obtain ⟨hs1, he1, hn1⟩ := only_step HS0.out HE0.out HGE.out HG0.out HN0.out P1.out
  have HS1 := Aside0.mk hs1
  have HE1 := Aside0.mk he1
  have HN1 := Aside0.mk hn1
  have HL1 : Aside0 ((lput4 l 0 (h.v % 4294967296)).length = 8) := ⟨by rw [lput4_len]; exact HL0.out⟩
  clear hs1 he1 hn1 hHeld
  clear hz0
  go_upto_region 2 with fail
  obtain ⟨q2, hq2⟩ : ∃ q, q = le4 (h.v % 4294967296) := ⟨_, rfl⟩
  have HQ2 := Aside0.mk hq2
  have HW2 : Aside0 (Calls Try.prog f #[v, .slice (some ⟨gb, 0, none⟩) 4 8] (World.drew v1) fun e w' => e = .returned (.tuple #[.int .i64 4, .nilIface]) ∧ S.St w' (bs0 ++ q2) ∧ Step S v1 w') := ⟨by
    subst hq2
    have b0 := below_step HS1.out (show Below v1.heap.size v1 v1.drew from ⟨rfl, rfl, rfl, Nat.le_refl _, fun _ _ => rfl⟩)
    exact (S.writeC b0.1 (le4_len _) (by have h1 := HM.out; have h2 := HB0.out; have h3 := HO.out.p; have h4 := HO.out.r; subst h2; (try simp only [List.length_append, le4_len, List.length_take]); omega) (by decide) (by have := read4 (w := v1) HR1.out HL1.out; rw [lput4_take _ _ (by have := HL1.out; rw [lput4_len] at this; omega)] at this; exact this) (fun _ a e hw => by obtain rfl := Option.some.inj e; exact HN1.out (b0.2.grow gb hw |>.elim id (fun h => absurd (blk_lt' HR1.out) (Nat.not_lt.2 h))))).mono fun e w' ⟨h1, h2, h3⟩ => ⟨h1, h2, b0.2.trans h3⟩⟩
  clear hq2
  have hnl : ∀ W : World, True := fun _ => trivial
  clear hnl
  refine start_ (n := 12) (S := fun w' => True) (ds := []) #[false, false, false, false, false, false, false, false, false, false, false, false] (by kernel_rfl) rfl rfl trivial (fun hHeld => ?_)
  refine pure_ (i := 0) (N := some 31) (v := ?_) (a' := ?_) #[true, false, false, false, false, false, false, false, false, false, false, false] rfl rfl (by kernel_rfl) (fun _ _ _ h => h) (Or.inl ⟨by rfl, ?_⟩) ?_ ?_
  rotate_left
  · intro w'
    go_simp
    with_reducible rfl
  rotate_left
  · simp only [Act.put, List.setIfInBounds_toArray, List.set_cons_zero, List.set_cons_succ, i64_w, i32_w]
    rfl
  refine pure_ (i := 1) (N := some 32) (v := ?_) (a' := ?_) #[true, true, false, false, false, false, false, false, false, false, false, false] rfl rfl (by kernel_rfl) (fun _ _ _ h => h) (Or.inl ⟨by rfl, ?_⟩) ?_ ?_
  rotate_left
  · intro w'
    go_simp
    with_reducible rfl
  rotate_left
  · simp only [Act.put, List.setIfInBounds_toArray, List.set_cons_zero, List.set_cons_succ, i64_w, i32_w]
    rfl
  refine pure_ (i := 2) (N := some 33) (v := ?_) (a' := ?_) #[true, true, true, false, false, false, false, false, false, false, false, false] rfl rfl (by kernel_rfl) (fun _ _ _ h => h) (Or.inl ⟨by rfl, ?_⟩) ?_ ?_
  rotate_left
  · intro w'
    go_simp
    with_reducible rfl
  rotate_left
  · simp only [Act.put, List.setIfInBounds_toArray, List.set_cons_zero, List.set_cons_succ, i64_w, i32_w]
    rfl
  refine pure_ (i := 3) (N := some 34) (v := ?_) (a' := ?_) #[true, true, true, true, false, false, false, false, false, false, false, false] rfl rfl (by kernel_rfl) (fun _ _ _ h => h) (Or.inl ⟨by rfl, ?_⟩) ?_ ?_
  rotate_left
  · intro w'
    go_simp
    with_reducible rfl
  rotate_left
  · simp only [Act.put, List.setIfInBounds_toArray, List.set_cons_zero, List.set_cons_succ, i64_w, i32_w]
    rfl
  refine pure_ (i := 4) (N := some 35) (v := ?_) (a' := ?_) #[true, true, true, true, true, false, false, false, false, false, false, false] rfl rfl (by kernel_rfl) (fun _ _ _ h => h) (Or.inl ⟨by rfl, ?_⟩) ?_ ?_
  rotate_left
  · intro w'
    refine nil_run S.nil _ (.tmp 34) ?_ ?_ <;> rfl
  rotate_left
  · simp only [Act.put, List.setIfInBounds_toArray, List.set_cons_zero, List.set_cons_succ, i64_w, i32_w]
    rfl
  refine pure_ (i := 5) (N := some 36) (v := ?_) (a' := ?_) #[true, true, true, true, true, true, false, false, false, false, false, false] rfl rfl (by kernel_rfl) (fun _ _ _ h => h) (Or.inl ⟨by rfl, ?_⟩) ?_ ?_
  rotate_left
  · intro w'
    go_simp
    with_reducible rfl
  rotate_left
  · simp only [Act.put, List.setIfInBounds_toArray, List.set_cons_zero, List.set_cons_succ, i64_w, i32_w]
    rfl
  refine one_ (i := 6) (N := some 37) #[true, true, true, true, true, true, true, false, false, false, false, false] rfl rfl (by kernel_rfl) (by decide) (fun K hK => ?_)
  refine goesI_ (by rfl) rfl (.tmp 36) "Write" rfl T v rfl f S.meth HF.out HNM.out HBD.out #[v, .slice (some ⟨gb, 0, none⟩) 4 8] (by (try simp only [List.map_toArray, List.map_cons, List.map_nil]); first | done | rfl | (simp only [List.length_drop, List.length_take]; rfl)) ?_
  with_reducible refine HW2.out.mono ?_
  rintro e v2 ⟨rfl, k1, k2⟩
  refine ⟨_, rfl, ?_⟩
  have HS2 := Aside0.mk k1
  have X2 := Aside0.mk k2
  clear k1 k2
  refine hK.out _ _ trivial (fun hHeld => ?_)
  clear hK K
  refine norm_ (a' := ?_) ?_ ?_
  rotate_left
  · show Act.put _ (some 37) _ = _
    simp only [Act.put, List.setIfInBounds_toArray, List.set_cons_zero, List.set_cons_succ, i64_w, i32_w]
    rfl
  refine pure_ (i := 7) (N := some 30) (v := ?_) (a' := ?_) #[true, true, true, true, true, true, true, true, false, false, false, false] rfl rfl (by kernel_rfl) (fun _ _ _ h => h) (Or.inl ⟨by rfl, ?_⟩) ?_ ?_
  rotate_left
  · intro w'
    go_simp
    with_reducible rfl
  rotate_left
  · simp only [Act.put, List.setIfInBounds_toArray, List.set_cons_zero, List.set_cons_succ, i64_w, i32_w]
    rfl
  refine pure_ (i := 8) (N := some 38) (v := ?_) (a' := ?_) #[true, true, true, true, true, true, true, true, true, false, false, false] rfl rfl (by kernel_rfl) (fun _ _ _ h => h) (Or.inl ⟨by rfl, ?_⟩) ?_ ?_
  rotate_left
  · intro w'
    go_simp
    with_reducible rfl
  rotate_left
  · simp only [Act.put, List.setIfInBounds_toArray, List.set_cons_zero, List.set_cons_succ, i64_w, i32_w]
    rfl
  refine pure_ (i := 9) (N := some 39) (v := ?_) (a' := ?_) #[true, true, true, true, true, true, true, true, true, true, false, false] rfl rfl (by kernel_rfl) (fun _ _ _ h => h) (Or.inl ⟨by rfl, ?_⟩) ?_ ?_
  rotate_left
  · intro w'
    go_simp
    with_reducible rfl
  rotate_left
  · simp only [Act.put, List.setIfInBounds_toArray, List.set_cons_zero, List.set_cons_succ, i64_w, i32_w]
    rfl
  refine pure_ (i := 10) (N := some 9) (v := ?_) (a' := ?_) #[true, true, true, true, true, true, true, true, true, true, true, false] rfl rfl (by kernel_rfl) (fun _ _ _ h => h) (Or.inl ⟨by rfl, ?_⟩) ?_ ?_
  rotate_left
  · intro w'
    go_simp
    with_reducible rfl
  rotate_left
  · simp only [Act.put, List.setIfInBounds_toArray, List.set_cons_zero, List.set_cons_succ, i64_w, i32_w]
    rfl
  refine pure_ (i := 11) (N := some 10) (v := ?_) (a' := ?_) #[true, true, true, true, true, true, true, true, true, true, true, true] rfl rfl (by kernel_rfl) (fun _ _ _ h => h) (Or.inl ⟨by rfl, ?_⟩) ?_ ?_
  rotate_left
  · intro w'
    go_simp
    with_reducible rfl
  rotate_left
  · simp only [Act.put, List.setIfInBounds_toArray, List.set_cons_zero, List.set_cons_succ, i64_w, i32_w]
    rfl
  refine done_ (by kernel_rfl) ?_
  have HE2 := Aside0.mk (HE1.out.trans X2.out)
  have kr2 := X2.out.kept HN1.out HR1.out
  have HR2 := Aside0.mk kr2.1
  have HN2 := Aside0.mk kr2.2
  have HL2 := HL1
  clear kr2
  go_upto_region 5 with fail
  obtain ⟨q3, hq3⟩ : ∃ q, q = h.p := ⟨_, rfl⟩
  have HQ3 := Aside0.mk hq3
  have HW3 : Aside0 (Calls Try.prog f #[v, .slice (some ⟨g, 1, none⟩) 32 32] (World.drew v2) fun e w' => e = .returned (.tuple #[.int .i64 32, .nilIface]) ∧ S.St w' ((bs0 ++ q2) ++ q3) ∧ Step S v2 w') := ⟨by
    subst hq3
    have b0 := below_step HS2.out (show Below v2.heap.size v2 v2.drew from ⟨rfl, rfl, rfl, Nat.le_refl _, fun _ _ => rfl⟩)
    exact (S.writeC b0.1 HO.out.p (by have h1 := HM.out; have h2 := HB0.out; have h3 := HO.out.p; have h4 := HO.out.r; subst h2; have hq2 := congrArg List.length HQ2.out; (try simp only [le4_len] at hq2); (try simp only [List.length_append, le4_len, List.length_take]); omega) (by decide) (((HD.out.below (S.below HS2.out))).readP HO.out) (fun _ a e hw => by obtain rfl := Option.some.inj e; exact HGN.out _ _ b0.1 hw)).mono fun e w' ⟨h1, h2, h3⟩ => ⟨h1, h2, b0.2.trans h3⟩⟩
  clear hq3
  have hnl : ∀ W : World, True := fun _ => trivial
  clear hnl
  refine start_ (n := 14) (S := fun w' => True) (ds := []) #[false, false, false, false, false, false, false, false, false, false, false, false, false, false] (by kernel_rfl) rfl rfl trivial (fun hHeld => ?_)
  refine pure_ (i := 0) (N := some 44) (v := ?_) (a' := ?_) #[true, false, false, false, false, false, false, false, false, false, false, false, false, false] rfl rfl (by kernel_rfl) (fun _ _ _ h => h) (Or.inl ⟨by rfl, ?_⟩) ?_ ?_
  rotate_left
  · intro w'
    go_simp
    with_reducible rfl
  rotate_left
  · simp only [Act.put, List.setIfInBounds_toArray, List.set_cons_zero, List.set_cons_succ, i64_w, i32_w]
    rfl
  refine pure_ (i := 1) (N := some 45) (v := ?_) (a' := ?_) #[true, true, false, false, false, false, false, false, false, false, false, false, false, false] rfl rfl (by kernel_rfl) (fun _ _ _ h => h) (Or.inl ⟨by rfl, ?_⟩) ?_ ?_
  rotate_left
  · intro w'
    go_simp
    with_reducible rfl
  rotate_left
  · simp only [Act.put, List.setIfInBounds_toArray, List.set_cons_zero, List.set_cons_succ, i64_w, i32_w]
    rfl
  refine pure_ (i := 2) (N := some 46) (v := ?_) (a' := ?_) #[true, true, true, false, false, false, false, false, false, false, false, false, false, false] rfl rfl (by kernel_rfl) (fun _ _ _ h => h) (Or.inl ⟨by rfl, ?_⟩) ?_ ?_
  rotate_left
  · intro w'
    go_simp
    with_reducible rfl
  rotate_left
  · simp only [Act.put, List.setIfInBounds_toArray, List.set_cons_zero, List.set_cons_succ, i64_w, i32_w]
    rfl
  refine pure_ (i := 3) (N := some 47) (v := ?_) (a' := ?_) #[true, true, true, true, false, false, false, false, false, false, false, false, false, false] rfl rfl (by kernel_rfl) (fun _ _ _ h => h) (Or.inl ⟨by rfl, ?_⟩) ?_ ?_
  rotate_left
  · intro w'
    go_simp
    with_reducible rfl
  rotate_left
  · simp only [Act.put, List.setIfInBounds_toArray, List.set_cons_zero, List.set_cons_succ, i64_w, i32_w]
    rfl
  refine pure_ (i := 4) (N := some 48) (v := ?_) (a' := ?_) #[true, true, true, true, true, false, false, false, false, false, false, false, false, false] rfl rfl (by kernel_rfl) (fun _ _ _ h => h) (Or.inl ⟨by rfl, ?_⟩) ?_ ?_
  rotate_left
  · intro w'
    go_simp
    with_reducible rfl
  rotate_left
  · simp only [Act.put, List.setIfInBounds_toArray, List.set_cons_zero, List.set_cons_succ, i64_w, i32_w]
    rfl
  refine pure_ (i := 5) (N := some 49) (v := ?_) (a' := ?_) #[true, true, true, true, true, true, false, false, false, false, false, false, false, false] rfl rfl (by kernel_rfl) (fun _ _ _ h => h) (Or.inl ⟨by rfl, ?_⟩) ?_ ?_
  rotate_left
  · intro w'
    go_simp
    with_reducible rfl
  rotate_left
  · simp only [Act.put, List.setIfInBounds_toArray, List.set_cons_zero, List.set_cons_succ, i64_w, i32_w]
    rfl
  refine pure_ (i := 6) (N := some 50) (v := ?_) (a' := ?_) #[true, true, true, true, true, true, true, false, false, false, false, false, false, false] rfl rfl (by kernel_rfl) (fun _ _ _ h => h) (Or.inl ⟨by rfl, ?_⟩) ?_ ?_
  rotate_left
  · intro w'
    refine nil_run S.nil _ (.tmp 49) ?_ ?_ <;> rfl
  rotate_left
  · simp only [Act.put, List.setIfInBounds_toArray, List.set_cons_zero, List.set_cons_succ, i64_w, i32_w]
    rfl
  refine pure_ (i := 7) (N := some 51) (v := ?_) (a' := ?_) #[true, true, true, true, true, true, true, true, false, false, false, false, false, false] rfl rfl (by kernel_rfl) (fun _ _ _ h => h) (Or.inl ⟨by rfl, ?_⟩) ?_ ?_
  rotate_left
  · intro w'
    go_simp
    with_reducible rfl
  rotate_left
  · simp only [Act.put, List.setIfInBounds_toArray, List.set_cons_zero, List.set_cons_succ, i64_w, i32_w]
    rfl
  refine one_ (i := 8) (N := some 52) #[true, true, true, true, true, true, true, true, true, false, false, false, false, false] rfl rfl (by kernel_rfl) (by decide) (fun K hK => ?_)
  refine goesI_ (by rfl) rfl (.tmp 51) "Write" rfl T v rfl f S.meth HF.out HNM.out HBD.out #[v, .slice (some ⟨g, 1, none⟩) 32 32] (by (try simp only [List.map_toArray, List.map_cons, List.map_nil]); first | done | rfl | (simp only [List.length_drop, List.length_take]; rfl)) ?_
  with_reducible refine HW3.out.mono ?_
  rintro e v3 ⟨rfl, k1, k2⟩
  refine ⟨_, rfl, ?_⟩
  have HS3 := Aside0.mk k1
  have X3 := Aside0.mk k2
  clear k1 k2
  refine hK.out _ _ trivial (fun hHeld => ?_)
  clear hK K
  refine norm_ (a' := ?_) ?_ ?_
  rotate_left
  · show Act.put _ (some 52) _ = _
    simp only [Act.put, List.setIfInBounds_toArray, List.set_cons_zero, List.set_cons_succ, i64_w, i32_w]
    rfl
  refine pure_ (i := 9) (N := some 43) (v := ?_) (a' := ?_) #[true, true, true, true, true, true, true, true, true, true, false, false, false, false] rfl rfl (by kernel_rfl) (fun _ _ _ h => h) (Or.inl ⟨by rfl, ?_⟩) ?_ ?_
  rotate_left
  · intro w'
    go_simp
    with_reducible rfl
  rotate_left
  · simp only [Act.put, List.setIfInBounds_toArray, List.set_cons_zero, List.set_cons_succ, i64_w, i32_w]
    rfl
  refine pure_ (i := 10) (N := some 53) (v := ?_) (a' := ?_) #[true, true, true, true, true, true, true, true, true, true, true, false, false, false] rfl rfl (by kernel_rfl) (fun _ _ _ h => h) (Or.inl ⟨by rfl, ?_⟩) ?_ ?_
  rotate_left
  · intro w'
    go_simp
    with_reducible rfl
  rotate_left
  · simp only [Act.put, List.setIfInBounds_toArray, List.set_cons_zero, List.set_cons_succ, i64_w, i32_w]
    rfl
  refine pure_ (i := 11) (N := some 54) (v := ?_) (a' := ?_) #[true, true, true, true, true, true, true, true, true, true, true, true, false, false] rfl rfl (by kernel_rfl) (fun _ _ _ h => h) (Or.inl ⟨by rfl, ?_⟩) ?_ ?_
  rotate_left
  · intro w'
    go_simp
    with_reducible rfl
  rotate_left
  · simp only [Act.put, List.setIfInBounds_toArray, List.set_cons_zero, List.set_cons_succ, i64_w, i32_w]
    rfl
  refine pure_ (i := 12) (N := some 11) (v := ?_) (a' := ?_) #[true, true, true, true, true, true, true, true, true, true, true, true, true, false] rfl rfl (by kernel_rfl) (fun _ _ _ h => h) (Or.inl ⟨by rfl, ?_⟩) ?_ ?_
  rotate_left
  · intro w'
    go_simp
    with_reducible rfl
  rotate_left
  · simp only [Act.put, List.setIfInBounds_toArray, List.set_cons_zero, List.set_cons_succ, i64_w, i32_w]
    rfl
  refine pure_ (i := 13) (N := some 12) (v := ?_) (a' := ?_) #[true, true, true, true, true, true, true, true, true, true, true, true, true, true] rfl rfl (by kernel_rfl) (fun _ _ _ h => h) (Or.inl ⟨by rfl, ?_⟩) ?_ ?_
  rotate_left
  · intro w'
    go_simp
    with_reducible rfl
  rotate_left
  · simp only [Act.put, List.setIfInBounds_toArray, List.set_cons_zero, List.set_cons_succ, i64_w, i32_w]
    rfl
  refine done_ (by kernel_rfl) ?_
  have HE3 := Aside0.mk (HE2.out.trans X3.out)
  have kr3 := X3.out.kept HN2.out HR2.out
  have HR3 := Aside0.mk kr3.1
  have HN3 := Aside0.mk kr3.2
  have HL3 := HL2
  clear kr3
  go_upto_region 8 with fail
  obtain ⟨q4, hq4⟩ : ∃ q, q = h.r := ⟨_, rfl⟩
  have HQ4 := Aside0.mk hq4
  have HW4 : Aside0 (Calls Try.prog f #[v, .slice (some ⟨g, 33, none⟩) 32 32] (World.drew v3) fun e w' => e = .returned (.tuple #[.int .i64 32, .nilIface]) ∧ S.St w' (((bs0 ++ q2) ++ q3) ++ q4) ∧ Step S v3 w') := ⟨by
    subst hq4
    have b0 := below_step HS3.out (show Below v3.heap.size v3 v3.drew from ⟨rfl, rfl, rfl, Nat.le_refl _, fun _ _ => rfl⟩)
    exact (S.writeC b0.1 HO.out.r (by have h1 := HM.out; have h2 := HB0.out; have h3 := HO.out.p; have h4 := HO.out.r; subst h2; have hq2 := congrArg List.length HQ2.out; (try simp only [le4_len] at hq2);  have hq3 := congrArg List.length HQ3.out; (try simp only [le4_len] at hq3); (try simp only [List.length_append, le4_len, List.length_take]); omega) (by decide) (((HD.out.below (S.below HS3.out))).readR HO.out) (fun _ a e hw => by obtain rfl := Option.some.inj e; exact HGN.out _ _ b0.1 hw)).mono fun e w' ⟨h1, h2, h3⟩ => ⟨h1, h2, b0.2.trans h3⟩⟩
  clear hq4
  have hnl : ∀ W : World, True := fun _ => trivial
  clear hnl
  refine start_ (n := 14) (S := fun w' => True) (ds := []) #[false, false, false, false, false, false, false, false, false, false, false, false, false, false] (by kernel_rfl) rfl rfl trivial (fun hHeld => ?_)
  refine pure_ (i := 0) (N := some 59) (v := ?_) (a' := ?_) #[true, false, false, false, false, false, false, false, false, false, false, false, false, false] rfl rfl (by kernel_rfl) (fun _ _ _ h => h) (Or.inl ⟨by rfl, ?_⟩) ?_ ?_
  rotate_left
  · intro w'
    go_simp
    with_reducible rfl
  rotate_left
  · simp only [Act.put, List.setIfInBounds_toArray, List.set_cons_zero, List.set_cons_succ, i64_w, i32_w]
    rfl
  refine pure_ (i := 1) (N := some 60) (v := ?_) (a' := ?_) #[true, true, false, false, false, false, false, false, false, false, false, false, false, false] rfl rfl (by kernel_rfl) (fun _ _ _ h => h) (Or.inl ⟨by rfl, ?_⟩) ?_ ?_
  rotate_left
  · intro w'
    go_simp
    with_reducible rfl
  rotate_left
  · simp only [Act.put, List.setIfInBounds_toArray, List.set_cons_zero, List.set_cons_succ, i64_w, i32_w]
    rfl
  refine pure_ (i := 2) (N := some 61) (v := ?_) (a' := ?_) #[true, true, true, false, false, false, false, false, false, false, false, false, false, false] rfl rfl (by kernel_rfl) (fun _ _ _ h => h) (Or.inl ⟨by rfl, ?_⟩) ?_ ?_
  rotate_left
  · intro w'
    go_simp
    with_reducible rfl
  rotate_left
  · simp only [Act.put, List.setIfInBounds_toArray, List.set_cons_zero, List.set_cons_succ, i64_w, i32_w]
    rfl
  refine pure_ (i := 3) (N := some 62) (v := ?_) (a' := ?_) #[true, true, true, true, false, false, false, false, false, false, false, false, false, false] rfl rfl (by kernel_rfl) (fun _ _ _ h => h) (Or.inl ⟨by rfl, ?_⟩) ?_ ?_
  rotate_left
  · intro w'
    go_simp
    with_reducible rfl
  rotate_left
  · simp only [Act.put, List.setIfInBounds_toArray, List.set_cons_zero, List.set_cons_succ, i64_w, i32_w]
    rfl
  refine pure_ (i := 4) (N := some 63) (v := ?_) (a' := ?_) #[true, true, true, true, true, false, false, false, false, false, false, false, false, false] rfl rfl (by kernel_rfl) (fun _ _ _ h => h) (Or.inl ⟨by rfl, ?_⟩) ?_ ?_
  rotate_left
  · intro w'
    go_simp
    with_reducible rfl
  rotate_left
  · simp only [Act.put, List.setIfInBounds_toArray, List.set_cons_zero, List.set_cons_succ, i64_w, i32_w]
    rfl
  refine pure_ (i := 5) (N := some 64) (v := ?_) (a' := ?_) #[true, true, true, true, true, true, false, false, false, false, false, false, false, false] rfl rfl (by kernel_rfl) (fun _ _ _ h => h) (Or.inl ⟨by rfl, ?_⟩) ?_ ?_
  rotate_left
  · intro w'
    go_simp
    with_reducible rfl
  rotate_left
  · simp only [Act.put, List.setIfInBounds_toArray, List.set_cons_zero, List.set_cons_succ, i64_w, i32_w]
    rfl
  refine pure_ (i := 6) (N := some 65) (v := ?_) (a' := ?_) #[true, true, true, true, true, true, true, false, false, false, false, false, false, false] rfl rfl (by kernel_rfl) (fun _ _ _ h => h) (Or.inl ⟨by rfl, ?_⟩) ?_ ?_
  rotate_left
  · intro w'
    refine nil_run S.nil _ (.tmp 64) ?_ ?_ <;> rfl
  rotate_left
  · simp only [Act.put, List.setIfInBounds_toArray, List.set_cons_zero, List.set_cons_succ, i64_w, i32_w]
    rfl
  refine pure_ (i := 7) (N := some 66) (v := ?_) (a' := ?_) #[true, true, true, true, true, true, true, true, false, false, false, false, false, false] rfl rfl (by kernel_rfl) (fun _ _ _ h => h) (Or.inl ⟨by rfl, ?_⟩) ?_ ?_
  rotate_left
  · intro w'
    go_simp
    with_reducible rfl
  rotate_left
  · simp only [Act.put, List.setIfInBounds_toArray, List.set_cons_zero, List.set_cons_succ, i64_w, i32_w]
    rfl
  refine one_ (i := 8) (N := some 67) #[true, true, true, true, true, true, true, true, true, false, false, false, false, false] rfl rfl (by kernel_rfl) (by decide) (fun K hK => ?_)
  refine goesI_ (by rfl) rfl (.tmp 66) "Write" rfl T v rfl f S.meth HF.out HNM.out HBD.out #[v, .slice (some ⟨g, 33, none⟩) 32 32] (by (try simp only [List.map_toArray, List.map_cons, List.map_nil]); first | done | rfl | (simp only [List.length_drop, List.length_take]; rfl)) ?_
  with_reducible refine HW4.out.mono ?_
  rintro e v4 ⟨rfl, k1, k2⟩
  refine ⟨_, rfl, ?_⟩
  have HS4 := Aside0.mk k1
  have X4 := Aside0.mk k2
  clear k1 k2
  refine hK.out _ _ trivial (fun hHeld => ?_)
  clear hK K
  refine norm_ (a' := ?_) ?_ ?_
  rotate_left
  · show Act.put _ (some 67) _ = _
    simp only [Act.put, List.setIfInBounds_toArray, List.set_cons_zero, List.set_cons_succ, i64_w, i32_w]
    rfl
  refine pure_ (i := 9) (N := some 58) (v := ?_) (a' := ?_) #[true, true, true, true, true, true, true, true, true, true, false, false, false, false] rfl rfl (by kernel_rfl) (fun _ _ _ h => h) (Or.inl ⟨by rfl, ?_⟩) ?_ ?_
  rotate_left
  · intro w'
    go_simp
    with_reducible rfl
  rotate_left
  · simp only [Act.put, List.setIfInBounds_toArray, List.set_cons_zero, List.set_cons_succ, i64_w, i32_w]
    rfl
  refine pure_ (i := 10) (N := some 68) (v := ?_) (a' := ?_) #[true, true, true, true, true, true, true, true, true, true, true, false, false, false] rfl rfl (by kernel_rfl) (fun _ _ _ h => h) (Or.inl ⟨by rfl, ?_⟩) ?_ ?_
  rotate_left
  · intro w'
    go_simp
    with_reducible rfl
  rotate_left
  · simp only [Act.put, List.setIfInBounds_toArray, List.set_cons_zero, List.set_cons_succ, i64_w, i32_w]
    rfl
  refine pure_ (i := 11) (N := some 69) (v := ?_) (a' := ?_) #[true, true, true, true, true, true, true, true, true, true, true, true, false, false] rfl rfl (by kernel_rfl) (fun _ _ _ h => h) (Or.inl ⟨by rfl, ?_⟩) ?_ ?_
  rotate_left
  · intro w'
    go_simp
    with_reducible rfl
  rotate_left
  · simp only [Act.put, List.setIfInBounds_toArray, List.set_cons_zero, List.set_cons_succ, i64_w, i32_w]
    rfl
  refine pure_ (i := 12) (N := some 13) (v := ?_) (a' := ?_) #[true, true, true, true, true, true, true, true, true, true, true, true, true, false] rfl rfl (by kernel_rfl) (fun _ _ _ h => h) (Or.inl ⟨by rfl, ?_⟩) ?_ ?_
  rotate_left
  · intro w'
    go_simp
    with_reducible rfl
  rotate_left
  · simp only [Act.put, List.setIfInBounds_toArray, List.set_cons_zero, List.set_cons_succ, i64_w, i32_w]
    rfl
  refine pure_ (i := 13) (N := some 14) (v := ?_) (a' := ?_) #[true, true, true, true, true, true, true, true, true, true, true, true, true, true] rfl rfl (by kernel_rfl) (fun _ _ _ h => h) (Or.inl ⟨by rfl, ?_⟩) ?_ ?_
  rotate_left
  · intro w'
    go_simp
    with_reducible rfl
  rotate_left
  · simp only [Act.put, List.setIfInBounds_toArray, List.set_cons_zero, List.set_cons_succ, i64_w, i32_w]
    rfl
  refine done_ (by kernel_rfl) ?_
  have HE4 := Aside0.mk (HE3.out.trans X4.out)
  have kr4 := X4.out.kept HN3.out HR3.out
  have HR4 := Aside0.mk kr4.1
  have HN4 := Aside0.mk kr4.2
  have HL4 := HL3
  clear kr4
  go_upto_region 11 with fail
  have hz4 := (show (v4.drew).cell? ⟨g, 65, none⟩ = some (.int .i64 h.t) from (HD.out.below (S.below HS4.out)).t)
  have C5 : Aside0 (v4.drew.cell? ⟨g, 65, none⟩ = some (.int .i64 h.t)) := ⟨hz4⟩
  have HRd5 : Aside0 ((World.drew v4).heap[gb]? = _) := ⟨HR4.out⟩
  refine start_ (n := 10) (S := fun w' => w'.cell? ⟨g, 65, none⟩ = some (.int .i64 h.t)) (ds := []) #[false, false, false, false, false, false, false, false, false, false] (by kernel_rfl) rfl rfl C5.out (fun hHeld => ?_)
  refine take_ (i := 0) (N := some 73) (v := ?_) (a' := ?_) #[true, false, false, false, false, false, false, false, false, false] rfl rfl (by kernel_rfl) (fun _ _ _ h => h) (Or.inl ⟨by rfl, ?_⟩) hHeld ?_ ?_
  rotate_left
  · rintro w' s0
    go_simp
    with_reducible rfl
  rotate_left
  · simp only [Act.put, List.setIfInBounds_toArray, List.set_cons_zero, List.set_cons_succ, i64_w, i32_w]
    rfl
  refine pure_ (i := 1) (N := some 74) (v := ?_) (a' := ?_) #[true, true, false, false, false, false, false, false, false, false] rfl rfl (by kernel_rfl) (fun _ _ _ h => h) (Or.inl ⟨by rfl, ?_⟩) ?_ ?_
  rotate_left
  · intro w'
    go_simp
    with_reducible rfl
  rotate_left
  · simp only [Act.put, List.setIfInBounds_toArray, List.set_cons_zero, List.set_cons_succ, i64_w, i32_w]
    rfl
  refine pure_ (i := 2) (N := some 75) (v := ?_) (a' := ?_) #[true, true, true, false, false, false, false, false, false, false] rfl rfl (by kernel_rfl) (fun _ _ _ h => h) (Or.inl ⟨by rfl, ?_⟩) ?_ ?_
  rotate_left
  · intro w'
    go_simp
    with_reducible rfl
  rotate_left
  · simp only [Act.put, List.setIfInBounds_toArray, List.set_cons_zero, List.set_cons_succ, i64_w, i32_w]
    rfl
  refine pure_ (i := 3) (N := some 76) (v := ?_) (a' := ?_) #[true, true, true, true, false, false, false, false, false, false] rfl rfl (by kernel_rfl) (fun _ _ _ h => h) (Or.inl ⟨by rfl, ?_⟩) ?_ ?_
  rotate_left
  · intro w'
    go_simp
    with_reducible rfl
  rotate_left
  · simp only [Act.put, List.setIfInBounds_toArray, List.set_cons_zero, List.set_cons_succ, i64_w, i32_w]
    rfl
  refine pure_ (i := 4) (N := some 77) (v := ?_) (a' := ?_) #[true, true, true, true, true, false, false, false, false, false] rfl rfl (by kernel_rfl) (fun _ _ _ h => h) (Or.inl ⟨by rfl, ?_⟩) ?_ ?_
  rotate_left
  · intro w'
    go_simp
    with_reducible rfl
  rotate_left
  · simp only [Act.put, List.setIfInBounds_toArray, List.set_cons_zero, List.set_cons_succ, i64_w, i32_w]
    rfl
  refine pure_ (i := 5) (N := some 78) (v := ?_) (a' := ?_) #[true, true, true, true, true, true, false, false, false, false] rfl rfl (by kernel_rfl) (fun _ _ _ h => h) (Or.inl ⟨by rfl, ?_⟩) ?_ ?_
  rotate_left
  · intro w'
    go_simp
    with_reducible rfl
  rotate_left
  · simp only [Act.put, List.setIfInBounds_toArray, List.set_cons_zero, List.set_cons_succ, i64_w, i32_w]
    rfl
  refine take_ (i := 6) (N := some 79) (v := ?_) (a' := ?_) #[true, true, true, true, true, true, true, false, false, false] rfl rfl (by kernel_rfl) (fun _ _ _ h => h) (Or.inl ⟨by rfl, ?_⟩) hHeld ?_ ?_
  rotate_left
  · rintro w' s0
    go_simp
    with_reducible rfl
  rotate_left
  · simp only [Act.put, List.setIfInBounds_toArray, List.set_cons_zero, List.set_cons_succ, i64_w, i32_w]
    rfl
  refine one_ (i := 7) (N := some 80) #[true, true, true, true, true, true, true, true, false, false] rfl rfl (by kernel_rfl) (by decide) (fun K hK => ?_)
  refine goes_ Try.func60 (by kernel_rfl) rfl #[.agg #[.int .i64 h.t]] (by rfl) rfl rfl (by (try simp only [List.map_toArray, List.map_cons, List.map_nil]); first | done | rfl | (simp only [List.length_drop, List.length_take]; rfl)) ?_
  with_reducible refine (timeUnixC h.t _).mono ?_
  rintro e wt ⟨rfl, k1⟩
  refine ⟨_, rfl, ?_⟩
  have HRe5 := Aside0.mk ((k1.block gb (blk_lt' HRd5.out)).trans HRd5.out)
  have PT5 : Aside0 (Below v4.heap.size v4 wt) := ⟨⟨k1.os, k1.tape, k1.output, k1.size, k1.block⟩⟩
  have CT : wt.cell? ⟨g, 65, none⟩ = some (.int .i64 h.t) := pw_cell_below k1 hHeld
  clear k1
  refine hK.out _ _ CT (fun hHeld => ?_)
  clear hK K
  refine norm_ (a' := ?_) ?_ ?_
  rotate_left
  · show Act.put _ (some 80) _ = _
    simp only [Act.put, List.setIfInBounds_toArray, List.set_cons_zero, List.set_cons_succ, i64_w, i32_w]
    rfl
  refine pure_ (i := 8) (N := some 81) (v := ?_) (a' := ?_) #[true, true, true, true, true, true, true, true, true, false] rfl rfl (by kernel_rfl) (fun _ _ _ h => h) (Or.inl ⟨by rfl, ?_⟩) ?_ ?_
  rotate_left
  · intro w'
    go_simp
    with_reducible rfl
  rotate_left
  · simp only [Act.put, List.setIfInBounds_toArray, List.set_cons_zero, List.set_cons_succ, i64_w, i32_w]
    rfl
  refine one_ (i := 9) (N := some 82) #[true, true, true, true, true, true, true, true, true, true] rfl rfl (by kernel_rfl) (by decide) (fun K hK => ?_)
  refine goes_ Try.func59 (by kernel_rfl) rfl #[.agg #[], .slice (some ⟨gb, 0, none⟩) 4 8, .int .u32 (h.t % 4294967296)] (by rfl) rfl rfl (by (try simp only [List.map_toArray, List.map_cons, List.map_nil]); first | done | rfl | (simp only [List.length_drop, List.length_take]; rfl)) ?_
  with_reducible refine (lput4C gb 0 4 8 _ _ (h.t % 4294967296) (.agg #[]) _ HRe5.out (by rw [HL4.out]; decide) (by decide)).mono ?_
  rintro e v5 ⟨rfl, k1, k2⟩
  refine ⟨_, rfl, ?_⟩
  have HR5 := Aside0.mk k1
  have P5 : Aside0 (Only gb v4 v5) := ⟨(Only.of_below (g := gb) PT5.out).trans ⟨k2.os, k2.tape, k2.output, k2.size, k2.block⟩⟩
  have K2 := k2
  clear k1
  refine hK.out _ _ (by have := K2; exact this.cell (p := ⟨g, 65, none⟩) (by intro e; have h1 : g = gb := e; have h2 := HD.out.lt; have h3 := HG0.out; omega) hHeld) (fun hHeld => ?_)
  clear hK K
  refine norm_ (a' := ?_) ?_ ?_
  rotate_left
  · show Act.put _ (some 82) _ = _
    simp only [Act.put, List.setIfInBounds_toArray, List.set_cons_zero, List.set_cons_succ, i64_w, i32_w]
    rfl
  refine done_ (by kernel_rfl) ?_
  obtain ⟨hs5, he5, hn5⟩ := only_step HS4.out HE4.out HGE.out HG0.out HN4.out P5.out
  have HS5 := Aside0.mk hs5
  have HE5 := Aside0.mk he5
  have HN5 := Aside0.mk hn5
  have HL5 : Aside0 ((lput4 (lput4 l 0 (h.v % 4294967296)) 0 (h.t % 4294967296)).length = 8) := ⟨by rw [lput4_len]; exact HL4.out⟩
  clear K2
  clear hs5 he5 hn5 hHeld
  clear hz4
  go_upto_region 12 with fail
  obtain ⟨q6, hq6⟩ : ∃ q, q = le4 (h.t % 4294967296) := ⟨_, rfl⟩
  have HQ6 := Aside0.mk hq6
  have HW6 : Aside0 (Calls Try.prog f #[v, .slice (some ⟨gb, 0, none⟩) 4 8] (World.drew v5) fun e w' => e = .returned (.tuple #[.int .i64 4, .nilIface]) ∧ S.St w' ((((bs0 ++ q2) ++ q3) ++ q4) ++ q6) ∧ Step S v5 w') := ⟨by
    subst hq6
    have b0 := below_step HS5.out (show Below v5.heap.size v5 v5.drew from ⟨rfl, rfl, rfl, Nat.le_refl _, fun _ _ => rfl⟩)
    exact (S.writeC b0.1 (le4_len _) (by have h1 := HM.out; have h2 := HB0.out; have h3 := HO.out.p; have h4 := HO.out.r; subst h2; have hq2 := congrArg List.length HQ2.out; (try simp only [le4_len] at hq2);  have hq3 := congrArg List.length HQ3.out; (try simp only [le4_len] at hq3);  have hq4 := congrArg List.length HQ4.out; (try simp only [le4_len] at hq4); (try simp only [List.length_append, le4_len, List.length_take]); omega) (by decide) (by have := read4 (w := v5) HR5.out HL5.out; rw [lput4_take _ _ (by have := HL5.out; rw [lput4_len] at this; omega)] at this; exact this) (fun _ a e hw => by obtain rfl := Option.some.inj e; exact HN5.out (b0.2.grow gb hw |>.elim id (fun h => absurd (blk_lt' HR5.out) (Nat.not_lt.2 h))))).mono fun e w' ⟨h1, h2, h3⟩ => ⟨h1, h2, b0.2.trans h3⟩⟩
  clear hq6
  have hnl : ∀ W : World, True := fun _ => trivial
  clear hnl
  refine start_ (n := 12) (S := fun w' => True) (ds := []) #[false, false, false, false, false, false, false, false, false, false, false, false] (by kernel_rfl) rfl rfl trivial (fun hHeld => ?_)
  refine pure_ (i := 0) (N := some 84) (v := ?_) (a' := ?_) #[true, false, false, false, false, false, false, false, false, false, false, false] rfl rfl (by kernel_rfl) (fun _ _ _ h => h) (Or.inl ⟨by rfl, ?_⟩) ?_ ?_
  rotate_left
  · intro w'
    go_simp
    with_reducible rfl
  rotate_left
  · simp only [Act.put, List.setIfInBounds_toArray, List.set_cons_zero, List.set_cons_succ, i64_w, i32_w]
    rfl
  refine pure_ (i := 1) (N := some 85) (v := ?_) (a' := ?_) #[true, true, false, false, false, false, false, false, false, false, false, false] rfl rfl (by kernel_rfl) (fun _ _ _ h => h) (Or.inl ⟨by rfl, ?_⟩) ?_ ?_
  rotate_left
  · intro w'
    go_simp
    with_reducible rfl
  rotate_left
  · simp only [Act.put, List.setIfInBounds_toArray, List.set_cons_zero, List.set_cons_succ, i64_w, i32_w]
    rfl
  refine pure_ (i := 2) (N := some 86) (v := ?_) (a' := ?_) #[true, true, true, false, false, false, false, false, false, false, false, false] rfl rfl (by kernel_rfl) (fun _ _ _ h => h) (Or.inl ⟨by rfl, ?_⟩) ?_ ?_
  rotate_left
  · intro w'
    go_simp
    with_reducible rfl
  rotate_left
  · simp only [Act.put, List.setIfInBounds_toArray, List.set_cons_zero, List.set_cons_succ, i64_w, i32_w]
    rfl
  refine pure_ (i := 3) (N := some 87) (v := ?_) (a' := ?_) #[true, true, true, true, false, false, false, false, false, false, false, false] rfl rfl (by kernel_rfl) (fun _ _ _ h => h) (Or.inl ⟨by rfl, ?_⟩) ?_ ?_
  rotate_left
  · intro w'
    go_simp
    with_reducible rfl
  rotate_left
  · simp only [Act.put, List.setIfInBounds_toArray, List.set_cons_zero, List.set_cons_succ, i64_w, i32_w]
    rfl
  refine pure_ (i := 4) (N := some 88) (v := ?_) (a' := ?_) #[true, true, true, true, true, false, false, false, false, false, false, false] rfl rfl (by kernel_rfl) (fun _ _ _ h => h) (Or.inl ⟨by rfl, ?_⟩) ?_ ?_
  rotate_left
  · intro w'
    refine nil_run S.nil _ (.tmp 87) ?_ ?_ <;> rfl
  rotate_left
  · simp only [Act.put, List.setIfInBounds_toArray, List.set_cons_zero, List.set_cons_succ, i64_w, i32_w]
    rfl
  refine pure_ (i := 5) (N := some 89) (v := ?_) (a' := ?_) #[true, true, true, true, true, true, false, false, false, false, false, false] rfl rfl (by kernel_rfl) (fun _ _ _ h => h) (Or.inl ⟨by rfl, ?_⟩) ?_ ?_
  rotate_left
  · intro w'
    go_simp
    with_reducible rfl
  rotate_left
  · simp only [Act.put, List.setIfInBounds_toArray, List.set_cons_zero, List.set_cons_succ, i64_w, i32_w]
    rfl
  refine one_ (i := 6) (N := some 90) #[true, true, true, true, true, true, true, false, false, false, false, false] rfl rfl (by kernel_rfl) (by decide) (fun K hK => ?_)
  refine goesI_ (by rfl) rfl (.tmp 89) "Write" rfl T v rfl f S.meth HF.out HNM.out HBD.out #[v, .slice (some ⟨gb, 0, none⟩) 4 8] (by (try simp only [List.map_toArray, List.map_cons, List.map_nil]); first | done | rfl | (simp only [List.length_drop, List.length_take]; rfl)) ?_
  with_reducible refine HW6.out.mono ?_
  rintro e v6 ⟨rfl, k1, k2⟩
  refine ⟨_, rfl, ?_⟩
  have HS6 := Aside0.mk k1
  have X6 := Aside0.mk k2
  clear k1 k2
  refine hK.out _ _ trivial (fun hHeld => ?_)
  clear hK K
  refine norm_ (a' := ?_) ?_ ?_
  rotate_left
  · show Act.put _ (some 90) _ = _
    simp only [Act.put, List.setIfInBounds_toArray, List.set_cons_zero, List.set_cons_succ, i64_w, i32_w]
    rfl
  refine pure_ (i := 7) (N := some 83) (v := ?_) (a' := ?_) #[true, true, true, true, true, true, true, true, false, false, false, false] rfl rfl (by kernel_rfl) (fun _ _ _ h => h) (Or.inl ⟨by rfl, ?_⟩) ?_ ?_
  rotate_left
  · intro w'
    go_simp
    with_reducible rfl
  rotate_left
  · simp only [Act.put, List.setIfInBounds_toArray, List.set_cons_zero, List.set_cons_succ, i64_w, i32_w]
    rfl
  refine pure_ (i := 8) (N := some 91) (v := ?_) (a' := ?_) #[true, true, true, true, true, true, true, true, true, false, false, false] rfl rfl (by kernel_rfl) (fun _ _ _ h => h) (Or.inl ⟨by rfl, ?_⟩) ?_ ?_
  rotate_left
  · intro w'
    go_simp
    with_reducible rfl
  rotate_left
  · simp only [Act.put, List.setIfInBounds_toArray, List.set_cons_zero, List.set_cons_succ, i64_w, i32_w]
    rfl
  refine pure_ (i := 9) (N := some 92) (v := ?_) (a' := ?_) #[true, true, true, true, true, true, true, true, true, true, false, false] rfl rfl (by kernel_rfl) (fun _ _ _ h => h) (Or.inl ⟨by rfl, ?_⟩) ?_ ?_
  rotate_left
  · intro w'
    go_simp
    with_reducible rfl
  rotate_left
  · simp only [Act.put, List.setIfInBounds_toArray, List.set_cons_zero, List.set_cons_succ, i64_w, i32_w]
    rfl
  refine pure_ (i := 10) (N := some 15) (v := ?_) (a' := ?_) #[true, true, true, true, true, true, true, true, true, true, true, false] rfl rfl (by kernel_rfl) (fun _ _ _ h => h) (Or.inl ⟨by rfl, ?_⟩) ?_ ?_
  rotate_left
  · intro w'
    go_simp
    with_reducible rfl
  rotate_left
  · simp only [Act.put, List.setIfInBounds_toArray, List.set_cons_zero, List.set_cons_succ, i64_w, i32_w]
    rfl
  refine pure_ (i := 11) (N := some 16) (v := ?_) (a' := ?_) #[true, true, true, true, true, true, true, true, true, true, true, true] rfl rfl (by kernel_rfl) (fun _ _ _ h => h) (Or.inl ⟨by rfl, ?_⟩) ?_ ?_
  rotate_left
  · intro w'
    go_simp
    with_reducible rfl
  rotate_left
  · simp only [Act.put, List.setIfInBounds_toArray, List.set_cons_zero, List.set_cons_succ, i64_w, i32_w]
    rfl
  refine done_ (by kernel_rfl) ?_
  have HE6 := Aside0.mk (HE5.out.trans X6.out)
  have kr6 := X6.out.kept HN5.out HR5.out
  have HR6 := Aside0.mk kr6.1
  have HN6 := Aside0.mk kr6.2
  have HL6 := HL5
  clear kr6
  go_upto_region 15 with fail
  have hz6 := (show (v6.drew).cell? ⟨g, 66, none⟩ = some (.int .u32 h.b) from (HD.out.below (S.below HS6.out)).b)
  have C7 : Aside0 (v6.drew.cell? ⟨g, 66, none⟩ = some (.int .u32 h.b)) := ⟨hz6⟩
  have HRd7 : Aside0 ((World.drew v6).heap[gb]? = _) := ⟨HR6.out⟩
  refine start_ (n := 8) (S := fun w' => w'.cell? ⟨g, 66, none⟩ = some (.int .u32 h.b)) (ds := []) #[false, false, false, false, false, false, false, false] (by kernel_rfl) rfl rfl C7.out (fun hHeld => ?_)
  refine take_ (i := 0) (N := some 96) (v := ?_) (a' := ?_) #[true, false, false, false, false, false, false, false] rfl rfl (by kernel_rfl) (fun _ _ _ h => h) (Or.inl ⟨by rfl, ?_⟩) hHeld ?_ ?_
  rotate_left
  · rintro w' s0
    go_simp
    with_reducible rfl
  rotate_left
  · simp only [Act.put, List.setIfInBounds_toArray, List.set_cons_zero, List.set_cons_succ, i64_w, i32_w]
    rfl
  refine pure_ (i := 1) (N := some 97) (v := ?_) (a' := ?_) #[true, true, false, false, false, false, false, false] rfl rfl (by kernel_rfl) (fun _ _ _ h => h) (Or.inl ⟨by rfl, ?_⟩) ?_ ?_
  rotate_left
  · intro w'
    go_simp
    with_reducible rfl
  rotate_left
  · simp only [Act.put, List.setIfInBounds_toArray, List.set_cons_zero, List.set_cons_succ, i64_w, i32_w]
    rfl
  refine pure_ (i := 2) (N := some 98) (v := ?_) (a' := ?_) #[true, true, true, false, false, false, false, false] rfl rfl (by kernel_rfl) (fun _ _ _ h => h) (Or.inl ⟨by rfl, ?_⟩) ?_ ?_
  rotate_left
  · intro w'
    go_simp
    with_reducible rfl
  rotate_left
  · simp only [Act.put, List.setIfInBounds_toArray, List.set_cons_zero, List.set_cons_succ, i64_w, i32_w]
    rfl
  refine pure_ (i := 3) (N := some 99) (v := ?_) (a' := ?_) #[true, true, true, true, false, false, false, false] rfl rfl (by kernel_rfl) (fun _ _ _ h => h) (Or.inl ⟨by rfl, ?_⟩) ?_ ?_
  rotate_left
  · intro w'
    go_simp
    with_reducible rfl
  rotate_left
  · simp only [Act.put, List.setIfInBounds_toArray, List.set_cons_zero, List.set_cons_succ, i64_w, i32_w]
    rfl
  refine pure_ (i := 4) (N := some 100) (v := ?_) (a' := ?_) #[true, true, true, true, true, false, false, false] rfl rfl (by kernel_rfl) (fun _ _ _ h => h) (Or.inl ⟨by rfl, ?_⟩) ?_ ?_
  rotate_left
  · intro w'
    go_simp
    with_reducible rfl
  rotate_left
  · simp only [Act.put, List.setIfInBounds_toArray, List.set_cons_zero, List.set_cons_succ, i64_w, i32_w]
    rfl
  refine pure_ (i := 5) (N := some 101) (v := ?_) (a' := ?_) #[true, true, true, true, true, true, false, false] rfl rfl (by kernel_rfl) (fun _ _ _ h => h) (Or.inl ⟨by rfl, ?_⟩) ?_ ?_
  rotate_left
  · intro w'
    go_simp
    with_reducible rfl
  rotate_left
  · simp only [Act.put, List.setIfInBounds_toArray, List.set_cons_zero, List.set_cons_succ, i64_w, i32_w]
    rfl
  refine take_ (i := 6) (N := some 102) (v := ?_) (a' := ?_) #[true, true, true, true, true, true, true, false] rfl rfl (by kernel_rfl) (fun _ _ _ h => h) (Or.inl ⟨by rfl, ?_⟩) hHeld ?_ ?_
  rotate_left
  · rintro w' s0
    go_simp
    with_reducible rfl
  rotate_left
  · simp only [Act.put, List.setIfInBounds_toArray, List.set_cons_zero, List.set_cons_succ, i64_w, i32_w]
    rfl
  refine one_ (i := 7) (N := some 103) #[true, true, true, true, true, true, true, true] rfl rfl (by kernel_rfl) (by decide) (fun K hK => ?_)
  refine goes_ Try.func59 (by kernel_rfl) rfl #[.agg #[], .slice (some ⟨gb, 0, none⟩) 4 8, .int .u32 (h.b)] (by rfl) rfl rfl (by (try simp only [List.map_toArray, List.map_cons, List.map_nil]); first | done | rfl | (simp only [List.length_drop, List.length_take]; rfl)) ?_
  with_reducible refine (lput4C gb 0 4 8 _ _ (h.b) (.agg #[]) _ HRd7.out (by rw [HL6.out]; decide) (by decide)).mono ?_
  rintro e v7 ⟨rfl, k1, k2⟩
  refine ⟨_, rfl, ?_⟩
  have HR7 := Aside0.mk k1
  have P7 : Aside0 (Only gb v6 v7) := ⟨⟨k2.os, k2.tape, k2.output, k2.size, k2.block⟩⟩
  clear k1 k2
  refine hK.out _ _ (by have := P7.out; exact this.cell (p := ⟨g, 66, none⟩) (by intro e; have h1 : g = gb := e; have h2 := HD.out.lt; have h3 := HG0.out; omega) hHeld) (fun hHeld => ?_)
  clear hK K
  refine norm_ (a' := ?_) ?_ ?_
  rotate_left
  · show Act.put _ (some 103) _ = _
    simp only [Act.put, List.setIfInBounds_toArray, List.set_cons_zero, List.set_cons_succ, i64_w, i32_w]
    rfl
  refine done_ (by kernel_rfl) ?_
  obtain ⟨hs7, he7, hn7⟩ := only_step HS6.out HE6.out HGE.out HG0.out HN6.out P7.out
  have HS7 := Aside0.mk hs7
  have HE7 := Aside0.mk he7
  have HN7 := Aside0.mk hn7
  have HL7 : Aside0 ((lput4 (lput4 (lput4 l 0 (h.v % 4294967296)) 0 (h.t % 4294967296)) 0 (h.b)).length = 8) := ⟨by rw [lput4_len]; exact HL6.out⟩
  clear hs7 he7 hn7 hHeld
  clear hz6
  go_upto_region 16 with fail
  obtain ⟨q8, hq8⟩ : ∃ q, q = le4 (h.b) := ⟨_, rfl⟩
  have HQ8 := Aside0.mk hq8
  have HW8 : Aside0 (Calls Try.prog f #[v, .slice (some ⟨gb, 0, none⟩) 4 8] (World.drew v7) fun e w' => e = .returned (.tuple #[.int .i64 4, .nilIface]) ∧ S.St w' (((((bs0 ++ q2) ++ q3) ++ q4) ++ q6) ++ q8) ∧ Step S v7 w') := ⟨by
    subst hq8
    have b0 := below_step HS7.out (show Below v7.heap.size v7 v7.drew from ⟨rfl, rfl, rfl, Nat.le_refl _, fun _ _ => rfl⟩)
    exact (S.writeC b0.1 (le4_len _) (by have h1 := HM.out; have h2 := HB0.out; have h3 := HO.out.p; have h4 := HO.out.r; subst h2; have hq2 := congrArg List.length HQ2.out; (try simp only [le4_len] at hq2);  have hq3 := congrArg List.length HQ3.out; (try simp only [le4_len] at hq3);  have hq4 := congrArg List.length HQ4.out; (try simp only [le4_len] at hq4);  have hq6 := congrArg List.length HQ6.out; (try simp only [le4_len] at hq6); (try simp only [List.length_append, le4_len, List.length_take]); omega) (by decide) (by have := read4 (w := v7) HR7.out HL7.out; rw [lput4_take _ _ (by have := HL7.out; rw [lput4_len] at this; omega)] at this; exact this) (fun _ a e hw => by obtain rfl := Option.some.inj e; exact HN7.out (b0.2.grow gb hw |>.elim id (fun h => absurd (blk_lt' HR7.out) (Nat.not_lt.2 h))))).mono fun e w' ⟨h1, h2, h3⟩ => ⟨h1, h2, b0.2.trans h3⟩⟩
  clear hq8
  have hnl : ∀ W : World, True := fun _ => trivial
  clear hnl
  refine start_ (n := 12) (S := fun w' => True) (ds := []) #[false, false, false, false, false, false, false, false, false, false, false, false] (by kernel_rfl) rfl rfl trivial (fun hHeld => ?_)
  refine pure_ (i := 0) (N := some 105) (v := ?_) (a' := ?_) #[true, false, false, false, false, false, false, false, false, false, false, false] rfl rfl (by kernel_rfl) (fun _ _ _ h => h) (Or.inl ⟨by rfl, ?_⟩) ?_ ?_
  rotate_left
  · intro w'
    go_simp
    with_reducible rfl
  rotate_left
  · simp only [Act.put, List.setIfInBounds_toArray, List.set_cons_zero, List.set_cons_succ, i64_w, i32_w]
    rfl
  refine pure_ (i := 1) (N := some 106) (v := ?_) (a' := ?_) #[true, true, false, false, false, false, false, false, false, false, false, false] rfl rfl (by kernel_rfl) (fun _ _ _ h => h) (Or.inl ⟨by rfl, ?_⟩) ?_ ?_
  rotate_left
  · intro w'
    go_simp
    with_reducible rfl
  rotate_left
  · simp only [Act.put, List.setIfInBounds_toArray, List.set_cons_zero, List.set_cons_succ, i64_w, i32_w]
    rfl
  refine pure_ (i := 2) (N := some 107) (v := ?_) (a' := ?_) #[true, true, true, false, false, false, false, false, false, false, false, false] rfl rfl (by kernel_rfl) (fun _ _ _ h => h) (Or.inl ⟨by rfl, ?_⟩) ?_ ?_
  rotate_left
  · intro w'
    go_simp
    with_reducible rfl
  rotate_left
  · simp only [Act.put, List.setIfInBounds_toArray, List.set_cons_zero, List.set_cons_succ, i64_w, i32_w]
    rfl
  refine pure_ (i := 3) (N := some 108) (v := ?_) (a' := ?_) #[true, true, true, true, false, false, false, false, false, false, false, false] rfl rfl (by kernel_rfl) (fun _ _ _ h => h) (Or.inl ⟨by rfl, ?_⟩) ?_ ?_
  rotate_left
  · intro w'
    go_simp
    with_reducible rfl
  rotate_left
  · simp only [Act.put, List.setIfInBounds_toArray, List.set_cons_zero, List.set_cons_succ, i64_w, i32_w]
    rfl
  refine pure_ (i := 4) (N := some 109) (v := ?_) (a' := ?_) #[true, true, true, true, true, false, false, false, false, false, false, false] rfl rfl (by kernel_rfl) (fun _ _ _ h => h) (Or.inl ⟨by rfl, ?_⟩) ?_ ?_
  rotate_left
  · intro w'
    refine nil_run S.nil _ (.tmp 108) ?_ ?_ <;> rfl
  rotate_left
  · simp only [Act.put, List.setIfInBounds_toArray, List.set_cons_zero, List.set_cons_succ, i64_w, i32_w]
    rfl
  refine pure_ (i := 5) (N := some 110) (v := ?_) (a' := ?_) #[true, true, true, true, true, true, false, false, false, false, false, false] rfl rfl (by kernel_rfl) (fun _ _ _ h => h) (Or.inl ⟨by rfl, ?_⟩) ?_ ?_
  rotate_left
  · intro w'
    go_simp
    with_reducible rfl
  rotate_left
  · simp only [Act.put, List.setIfInBounds_toArray, List.set_cons_zero, List.set_cons_succ, i64_w, i32_w]
    rfl
  refine one_ (i := 6) (N := some 111) #[true, true, true, true, true, true, true, false, false, false, false, false] rfl rfl (by kernel_rfl) (by decide) (fun K hK => ?_)
  refine goesI_ (by rfl) rfl (.tmp 110) "Write" rfl T v rfl f S.meth HF.out HNM.out HBD.out #[v, .slice (some ⟨gb, 0, none⟩) 4 8] (by (try simp only [List.map_toArray, List.map_cons, List.map_nil]); first | done | rfl | (simp only [List.length_drop, List.length_take]; rfl)) ?_
  with_reducible refine HW8.out.mono ?_
  rintro e v8 ⟨rfl, k1, k2⟩
  refine ⟨_, rfl, ?_⟩
  have HS8 := Aside0.mk k1
  have X8 := Aside0.mk k2
  clear k1 k2
  refine hK.out _ _ trivial (fun hHeld => ?_)
  clear hK K
  refine norm_ (a' := ?_) ?_ ?_
  rotate_left
  · show Act.put _ (some 111) _ = _
    simp only [Act.put, List.setIfInBounds_toArray, List.set_cons_zero, List.set_cons_succ, i64_w, i32_w]
    rfl
  refine pure_ (i := 7) (N := some 104) (v := ?_) (a' := ?_) #[true, true, true, true, true, true, true, true, false, false, false, false] rfl rfl (by kernel_rfl) (fun _ _ _ h => h) (Or.inl ⟨by rfl, ?_⟩) ?_ ?_
  rotate_left
  · intro w'
    go_simp
    with_reducible rfl
  rotate_left
  · simp only [Act.put, List.setIfInBounds_toArray, List.set_cons_zero, List.set_cons_succ, i64_w, i32_w]
    rfl
  refine pure_ (i := 8) (N := some 112) (v := ?_) (a' := ?_) #[true, true, true, true, true, true, true, true, true, false, false, false] rfl rfl (by kernel_rfl) (fun _ _ _ h => h) (Or.inl ⟨by rfl, ?_⟩) ?_ ?_
  rotate_left
  · intro w'
    go_simp
    with_reducible rfl
  rotate_left
  · simp only [Act.put, List.setIfInBounds_toArray, List.set_cons_zero, List.set_cons_succ, i64_w, i32_w]
    rfl
  refine pure_ (i := 9) (N := some 113) (v := ?_) (a' := ?_) #[true, true, true, true, true, true, true, true, true, true, false, false] rfl rfl (by kernel_rfl) (fun _ _ _ h => h) (Or.inl ⟨by rfl, ?_⟩) ?_ ?_
  rotate_left
  · intro w'
    go_simp
    with_reducible rfl
  rotate_left
  · simp only [Act.put, List.setIfInBounds_toArray, List.set_cons_zero, List.set_cons_succ, i64_w, i32_w]
    rfl
  refine pure_ (i := 10) (N := some 17) (v := ?_) (a' := ?_) #[true, true, true, true, true, true, true, true, true, true, true, false] rfl rfl (by kernel_rfl) (fun _ _ _ h => h) (Or.inl ⟨by rfl, ?_⟩) ?_ ?_
  rotate_left
  · intro w'
    go_simp
    with_reducible rfl
  rotate_left
  · simp only [Act.put, List.setIfInBounds_toArray, List.set_cons_zero, List.set_cons_succ, i64_w, i32_w]
    rfl
  refine pure_ (i := 11) (N := some 18) (v := ?_) (a' := ?_) #[true, true, true, true, true, true, true, true, true, true, true, true] rfl rfl (by kernel_rfl) (fun _ _ _ h => h) (Or.inl ⟨by rfl, ?_⟩) ?_ ?_
  rotate_left
  · intro w'
    go_simp
    with_reducible rfl
  rotate_left
  · simp only [Act.put, List.setIfInBounds_toArray, List.set_cons_zero, List.set_cons_succ, i64_w, i32_w]
    rfl
  refine done_ (by kernel_rfl) ?_
  have HE8 := Aside0.mk (HE7.out.trans X8.out)
  have kr8 := X8.out.kept HN7.out HR7.out
  have HR8 := Aside0.mk kr8.1
  have HN8 := Aside0.mk kr8.2
  have HL8 := HL7
  clear kr8
  go_upto_region 19 with fail
  have hz8 := (show (v8.drew).cell? ⟨g, 67, none⟩ = some (.int .u32 h.n) from (HD.out.below (S.below HS8.out)).n)
  have C9 : Aside0 (v8.drew.cell? ⟨g, 67, none⟩ = some (.int .u32 h.n)) := ⟨hz8⟩
  have HRd9 : Aside0 ((World.drew v8).heap[gb]? = _) := ⟨HR8.out⟩
  refine start_ (n := 8) (S := fun w' => w'.cell? ⟨g, 67, none⟩ = some (.int .u32 h.n)) (ds := []) #[false, false, false, false, false, false, false, false] (by kernel_rfl) rfl rfl C9.out (fun hHeld => ?_)
  refine take_ (i := 0) (N := some 117) (v := ?_) (a' := ?_) #[true, false, false, false, false, false, false, false] rfl rfl (by kernel_rfl) (fun _ _ _ h => h) (Or.inl ⟨by rfl, ?_⟩) hHeld ?_ ?_
  rotate_left
  · rintro w' s0
    go_simp
    with_reducible rfl
  rotate_left
  · simp only [Act.put, List.setIfInBounds_toArray, List.set_cons_zero, List.set_cons_succ, i64_w, i32_w]
    rfl
  refine pure_ (i := 1) (N := some 118) (v := ?_) (a' := ?_) #[true, true, false, false, false, false, false, false] rfl rfl (by kernel_rfl) (fun _ _ _ h => h) (Or.inl ⟨by rfl, ?_⟩) ?_ ?_
  rotate_left
  · intro w'
    go_simp
    with_reducible rfl
  rotate_left
  · simp only [Act.put, List.setIfInBounds_toArray, List.set_cons_zero, List.set_cons_succ, i64_w, i32_w]
    rfl
  refine pure_ (i := 2) (N := some 119) (v := ?_) (a' := ?_) #[true, true, true, false, false, false, false, false] rfl rfl (by kernel_rfl) (fun _ _ _ h => h) (Or.inl ⟨by rfl, ?_⟩) ?_ ?_
  rotate_left
  · intro w'
    go_simp
    with_reducible rfl
  rotate_left
  · simp only [Act.put, List.setIfInBounds_toArray, List.set_cons_zero, List.set_cons_succ, i64_w, i32_w]
    rfl
  refine pure_ (i := 3) (N := some 120) (v := ?_) (a' := ?_) #[true, true, true, true, false, false, false, false] rfl rfl (by kernel_rfl) (fun _ _ _ h => h) (Or.inl ⟨by rfl, ?_⟩) ?_ ?_
  rotate_left
  · intro w'
    go_simp
    with_reducible rfl
  rotate_left
  · simp only [Act.put, List.setIfInBounds_toArray, List.set_cons_zero, List.set_cons_succ, i64_w, i32_w]
    rfl
  refine pure_ (i := 4) (N := some 121) (v := ?_) (a' := ?_) #[true, true, true, true, true, false, false, false] rfl rfl (by kernel_rfl) (fun _ _ _ h => h) (Or.inl ⟨by rfl, ?_⟩) ?_ ?_
  rotate_left
  · intro w'
    go_simp
    with_reducible rfl
  rotate_left
  · simp only [Act.put, List.setIfInBounds_toArray, List.set_cons_zero, List.set_cons_succ, i64_w, i32_w]
    rfl
  refine pure_ (i := 5) (N := some 122) (v := ?_) (a' := ?_) #[true, true, true, true, true, true, false, false] rfl rfl (by kernel_rfl) (fun _ _ _ h => h) (Or.inl ⟨by rfl, ?_⟩) ?_ ?_
  rotate_left
  · intro w'
    go_simp
    with_reducible rfl
  rotate_left
  · simp only [Act.put, List.setIfInBounds_toArray, List.set_cons_zero, List.set_cons_succ, i64_w, i32_w]
    rfl
  refine take_ (i := 6) (N := some 123) (v := ?_) (a' := ?_) #[true, true, true, true, true, true, true, false] rfl rfl (by kernel_rfl) (fun _ _ _ h => h) (Or.inl ⟨by rfl, ?_⟩) hHeld ?_ ?_
  rotate_left
  · rintro w' s0
    go_simp
    with_reducible rfl
  rotate_left
  · simp only [Act.put, List.setIfInBounds_toArray, List.set_cons_zero, List.set_cons_succ, i64_w, i32_w]
    rfl
  refine one_ (i := 7) (N := some 124) #[true, true, true, true, true, true, true, true] rfl rfl (by kernel_rfl) (by decide) (fun K hK => ?_)
  refine goes_ Try.func59 (by kernel_rfl) rfl #[.agg #[], .slice (some ⟨gb, 0, none⟩) 4 8, .int .u32 (h.n)] (by rfl) rfl rfl (by (try simp only [List.map_toArray, List.map_cons, List.map_nil]); first | done | rfl | (simp only [List.length_drop, List.length_take]; rfl)) ?_
  with_reducible refine (lput4C gb 0 4 8 _ _ (h.n) (.agg #[]) _ HRd9.out (by rw [HL8.out]; decide) (by decide)).mono ?_
  rintro e v9 ⟨rfl, k1, k2⟩
  refine ⟨_, rfl, ?_⟩
  have HR9 := Aside0.mk k1
  have P9 : Aside0 (Only gb v8 v9) := ⟨⟨k2.os, k2.tape, k2.output, k2.size, k2.block⟩⟩
  clear k1 k2
  refine hK.out _ _ (by have := P9.out; exact this.cell (p := ⟨g, 67, none⟩) (by intro e; have h1 : g = gb := e; have h2 := HD.out.lt; have h3 := HG0.out; omega) hHeld) (fun hHeld => ?_)
  clear hK K
  refine norm_ (a' := ?_) ?_ ?_
  rotate_left
  · show Act.put _ (some 124) _ = _
    simp only [Act.put, List.setIfInBounds_toArray, List.set_cons_zero, List.set_cons_succ, i64_w, i32_w]
    rfl
  refine done_ (by kernel_rfl) ?_
  obtain ⟨hs9, he9, hn9⟩ := only_step HS8.out HE8.out HGE.out HG0.out HN8.out P9.out
  have HS9 := Aside0.mk hs9
  have HE9 := Aside0.mk he9
  have HN9 := Aside0.mk hn9
  have HL9 : Aside0 ((lput4 (lput4 (lput4 (lput4 l 0 (h.v % 4294967296)) 0 (h.t % 4294967296)) 0 (h.b)) 0 (h.n)).length = 8) := ⟨by rw [lput4_len]; exact HL8.out⟩
  clear hs9 he9 hn9 hHeld
  clear hz8
  go_upto_region 20 with fail
  obtain ⟨q10, hq10⟩ : ∃ q, q = le4 (h.n) := ⟨_, rfl⟩
  have HQ10 := Aside0.mk hq10
  have HW10 : Aside0 (Calls Try.prog f #[v, .slice (some ⟨gb, 0, none⟩) 4 8] (World.drew v9) fun e w' => e = .returned (.tuple #[.int .i64 4, .nilIface]) ∧ S.St w' ((((((bs0 ++ q2) ++ q3) ++ q4) ++ q6) ++ q8) ++ q10) ∧ Step S v9 w') := ⟨by
    subst hq10
    have b0 := below_step HS9.out (show Below v9.heap.size v9 v9.drew from ⟨rfl, rfl, rfl, Nat.le_refl _, fun _ _ => rfl⟩)
    exact (S.writeC b0.1 (le4_len _) (by have h1 := HM.out; have h2 := HB0.out; have h3 := HO.out.p; have h4 := HO.out.r; subst h2; have hq2 := congrArg List.length HQ2.out; (try simp only [le4_len] at hq2);  have hq3 := congrArg List.length HQ3.out; (try simp only [le4_len] at hq3);  have hq4 := congrArg List.length HQ4.out; (try simp only [le4_len] at hq4);  have hq6 := congrArg List.length HQ6.out; (try simp only [le4_len] at hq6);  have hq8 := congrArg List.length HQ8.out; (try simp only [le4_len] at hq8); (try simp only [List.length_append, le4_len, List.length_take]); omega) (by decide) (by have := read4 (w := v9) HR9.out HL9.out; rw [lput4_take _ _ (by have := HL9.out; rw [lput4_len] at this; omega)] at this; exact this) (fun _ a e hw => by obtain rfl := Option.some.inj e; exact HN9.out (b0.2.grow gb hw |>.elim id (fun h => absurd (blk_lt' HR9.out) (Nat.not_lt.2 h))))).mono fun e w' ⟨h1, h2, h3⟩ => ⟨h1, h2, b0.2.trans h3⟩⟩
  clear hq10
  have hnl : ∀ W : World, True := fun _ => trivial
  clear hnl
  refine start_ (n := 12) (S := fun w' => True) (ds := []) #[false, false, false, false, false, false, false, false, false, false, false, false] (by kernel_rfl) rfl rfl trivial (fun hHeld => ?_)
  refine pure_ (i := 0) (N := some 126) (v := ?_) (a' := ?_) #[true, false, false, false, false, false, false, false, false, false, false, false] rfl rfl (by kernel_rfl) (fun _ _ _ h => h) (Or.inl ⟨by rfl, ?_⟩) ?_ ?_
  rotate_left
  · intro w'
    go_simp
    with_reducible rfl
  rotate_left
  · simp only [Act.put, List.setIfInBounds_toArray, List.set_cons_zero, List.set_cons_succ, i64_w, i32_w]
    rfl
  refine pure_ (i := 1) (N := some 127) (v := ?_) (a' := ?_) #[true, true, false, false, false, false, false, false, false, false, false, false] rfl rfl (by kernel_rfl) (fun _ _ _ h => h) (Or.inl ⟨by rfl, ?_⟩) ?_ ?_
  rotate_left
  · intro w'
    go_simp
    with_reducible rfl
  rotate_left
  · simp only [Act.put, List.setIfInBounds_toArray, List.set_cons_zero, List.set_cons_succ, i64_w, i32_w]
    rfl
  refine pure_ (i := 2) (N := some 128) (v := ?_) (a' := ?_) #[true, true, true, false, false, false, false, false, false, false, false, false] rfl rfl (by kernel_rfl) (fun _ _ _ h => h) (Or.inl ⟨by rfl, ?_⟩) ?_ ?_
  rotate_left
  · intro w'
    go_simp
    with_reducible rfl
  rotate_left
  · simp only [Act.put, List.setIfInBounds_toArray, List.set_cons_zero, List.set_cons_succ, i64_w, i32_w]
    rfl
  refine pure_ (i := 3) (N := some 129) (v := ?_) (a' := ?_) #[true, true, true, true, false, false, false, false, false, false, false, false] rfl rfl (by kernel_rfl) (fun _ _ _ h => h) (Or.inl ⟨by rfl, ?_⟩) ?_ ?_
  rotate_left
  · intro w'
    go_simp
    with_reducible rfl
  rotate_left
  · simp only [Act.put, List.setIfInBounds_toArray, List.set_cons_zero, List.set_cons_succ, i64_w, i32_w]
    rfl
  refine pure_ (i := 4) (N := some 130) (v := ?_) (a' := ?_) #[true, true, true, true, true, false, false, false, false, false, false, false] rfl rfl (by kernel_rfl) (fun _ _ _ h => h) (Or.inl ⟨by rfl, ?_⟩) ?_ ?_
  rotate_left
  · intro w'
    refine nil_run S.nil _ (.tmp 129) ?_ ?_ <;> rfl
  rotate_left
  · simp only [Act.put, List.setIfInBounds_toArray, List.set_cons_zero, List.set_cons_succ, i64_w, i32_w]
    rfl
  refine pure_ (i := 5) (N := some 131) (v := ?_) (a' := ?_) #[true, true, true, true, true, true, false, false, false, false, false, false] rfl rfl (by kernel_rfl) (fun _ _ _ h => h) (Or.inl ⟨by rfl, ?_⟩) ?_ ?_
  rotate_left
  · intro w'
    go_simp
    with_reducible rfl
  rotate_left
  · simp only [Act.put, List.setIfInBounds_toArray, List.set_cons_zero, List.set_cons_succ, i64_w, i32_w]
    rfl
  refine one_ (i := 6) (N := some 132) #[true, true, true, true, true, true, true, false, false, false, false, false] rfl rfl (by kernel_rfl) (by decide) (fun K hK => ?_)
  refine goesI_ (by rfl) rfl (.tmp 131) "Write" rfl T v rfl f S.meth HF.out HNM.out HBD.out #[v, .slice (some ⟨gb, 0, none⟩) 4 8] (by (try simp only [List.map_toArray, List.map_cons, List.map_nil]); first | done | rfl | (simp only [List.length_drop, List.length_take]; rfl)) ?_
  with_reducible refine HW10.out.mono ?_
  rintro e v10 ⟨rfl, k1, k2⟩
  refine ⟨_, rfl, ?_⟩
  have HS10 := Aside0.mk k1
  have X10 := Aside0.mk k2
  clear k1 k2
  refine hK.out _ _ trivial (fun hHeld => ?_)
  clear hK K
  refine norm_ (a' := ?_) ?_ ?_
  rotate_left
  · show Act.put _ (some 132) _ = _
    simp only [Act.put, List.setIfInBounds_toArray, List.set_cons_zero, List.set_cons_succ, i64_w, i32_w]
    rfl
  refine pure_ (i := 7) (N := some 125) (v := ?_) (a' := ?_) #[true, true, true, true, true, true, true, true, false, false, false, false] rfl rfl (by kernel_rfl) (fun _ _ _ h => h) (Or.inl ⟨by rfl, ?_⟩) ?_ ?_
  rotate_left
  · intro w'
    go_simp
    with_reducible rfl
  rotate_left
  · simp only [Act.put, List.setIfInBounds_toArray, List.set_cons_zero, List.set_cons_succ, i64_w, i32_w]
    rfl
  refine pure_ (i := 8) (N := some 133) (v := ?_) (a' := ?_) #[true, true, true, true, true, true, true, true, true, false, false, false] rfl rfl (by kernel_rfl) (fun _ _ _ h => h) (Or.inl ⟨by rfl, ?_⟩) ?_ ?_
  rotate_left
  · intro w'
    go_simp
    with_reducible rfl
  rotate_left
  · simp only [Act.put, List.setIfInBounds_toArray, List.set_cons_zero, List.set_cons_succ, i64_w, i32_w]
    rfl
  refine pure_ (i := 9) (N := some 134) (v := ?_) (a' := ?_) #[true, true, true, true, true, true, true, true, true, true, false, false] rfl rfl (by kernel_rfl) (fun _ _ _ h => h) (Or.inl ⟨by rfl, ?_⟩) ?_ ?_
  rotate_left
  · intro w'
    go_simp
    with_reducible rfl
  rotate_left
  · simp only [Act.put, List.setIfInBounds_toArray, List.set_cons_zero, List.set_cons_succ, i64_w, i32_w]
    rfl
  refine pure_ (i := 10) (N := some 19) (v := ?_) (a' := ?_) #[true, true, true, true, true, true, true, true, true, true, true, false] rfl rfl (by kernel_rfl) (fun _ _ _ h => h) (Or.inl ⟨by rfl, ?_⟩) ?_ ?_
  rotate_left
  · intro w'
    go_simp
    with_reducible rfl
  rotate_left
  · simp only [Act.put, List.setIfInBounds_toArray, List.set_cons_zero, List.set_cons_succ, i64_w, i32_w]
    rfl
  refine pure_ (i := 11) (N := some 20) (v := ?_) (a' := ?_) #[true, true, true, true, true, true, true, true, true, true, true, true] rfl rfl (by kernel_rfl) (fun _ _ _ h => h) (Or.inl ⟨by rfl, ?_⟩) ?_ ?_
  rotate_left
  · intro w'
    go_simp
    with_reducible rfl
  rotate_left
  · simp only [Act.put, List.setIfInBounds_toArray, List.set_cons_zero, List.set_cons_succ, i64_w, i32_w]
    rfl
  refine done_ (by kernel_rfl) ?_
  have HE10 := Aside0.mk (HE9.out.trans X10.out)
  have kr10 := X10.out.kept HN9.out HR9.out
  have HR10 := Aside0.mk kr10.1
  have HN10 := Aside0.mk kr10.2
  have HL10 := HL9
  clear kr10
  go_wp2_with fail
  go_ret
  refine ⟨rfl, ?_, HE10.out⟩
  have e0 := HB0.out
  have e2 := HQ2.out
  have e3 := HQ3.out
  have e4 := HQ4.out
  have e6 := HQ6.out
  have e8 := HQ8.out
  have e10 := HQ10.out
  have e := HS10.out
  rw [HT.out] at e6
  subst e0 e2 e3 e4 e6 e8 e10
  unfold HdV.bytes
  simpa only [List.append_assoc] using e
end Go.Proofs.Ytigpdgfhngknhaa.Snk
/- The hash: rotations. -/
namespace Go.Proofs.Ytigpdgfhngknhaa.Sha
open Go.RowKit Go.Proofs.YtigpdgfhngknhaaW.PrintWords Go.Proofs.YtigpdgfhngknhaaW.PrintLast Go.Proofs.YtigpdgfhngknhaaW.PrintMore Go.Proofs.Ytigpdgfhngknhaa.QFnProofFault
set_option linter.unusedVariables false
set_option linter.unusedSimpArgs false
/-- A word turned to the right: by as many places as d has zeros (m: the other way). -/
def rotR (x m d : Int) : Int := bits BinOp.or IntKind.u32 (x * m % 4294967296) (x / d)
set_option maxRecDepth 100000 in
theorem rot2 (x : Int) (w : World) : Calls Try.prog 99 #[.int .u32 x, .int .i64 (-2)] w fun e w' => e = .returned (.int .u32 (rotR x 1073741824 4)) ∧ w = w' := by
  have e : bits BinOp.and IntKind.u64 (IntKind.u64.wrap (-2)) 31 = 30 := by kernel_rfl
  go_enter Try.func99, Try.ntmps99
  go_wp2_with fail
  go_ret
  exact ⟨rfl, rfl⟩
set_option maxRecDepth 100000 in
theorem rot6 (x : Int) (w : World) : Calls Try.prog 99 #[.int .u32 x, .int .i64 (-6)] w fun e w' => e = .returned (.int .u32 (rotR x 67108864 64)) ∧ w = w' := by
  have e : bits BinOp.and IntKind.u64 (IntKind.u64.wrap (-6)) 31 = 26 := by kernel_rfl
  go_enter Try.func99, Try.ntmps99
  go_wp2_with fail
  go_ret
  exact ⟨rfl, rfl⟩
set_option maxRecDepth 100000 in
theorem rot7 (x : Int) (w : World) : Calls Try.prog 99 #[.int .u32 x, .int .i64 (-7)] w fun e w' => e = .returned (.int .u32 (rotR x 33554432 128)) ∧ w = w' := by
  have e : bits BinOp.and IntKind.u64 (IntKind.u64.wrap (-7)) 31 = 25 := by kernel_rfl
  go_enter Try.func99, Try.ntmps99
  go_wp2_with fail
  go_ret
  exact ⟨rfl, rfl⟩
set_option maxRecDepth 100000 in
theorem rot11 (x : Int) (w : World) : Calls Try.prog 99 #[.int .u32 x, .int .i64 (-11)] w fun e w' => e = .returned (.int .u32 (rotR x 2097152 2048)) ∧ w = w' := by
  have e : bits BinOp.and IntKind.u64 (IntKind.u64.wrap (-11)) 31 = 21 := by kernel_rfl
  go_enter Try.func99, Try.ntmps99
  go_wp2_with fail
  go_ret
  exact ⟨rfl, rfl⟩
set_option maxRecDepth 100000 in
theorem rot13 (x : Int) (w : World) : Calls Try.prog 99 #[.int .u32 x, .int .i64 (-13)] w fun e w' => e = .returned (.int .u32 (rotR x 524288 8192)) ∧ w = w' := by
  have e : bits BinOp.and IntKind.u64 (IntKind.u64.wrap (-13)) 31 = 19 := by kernel_rfl
  go_enter Try.func99, Try.ntmps99
  go_wp2_with fail
  go_ret
  exact ⟨rfl, rfl⟩
set_option maxRecDepth 100000 in
theorem rot17 (x : Int) (w : World) : Calls Try.prog 99 #[.int .u32 x, .int .i64 (-17)] w fun e w' => e = .returned (.int .u32 (rotR x 32768 131072)) ∧ w = w' := by
  have e : bits BinOp.and IntKind.u64 (IntKind.u64.wrap (-17)) 31 = 15 := by kernel_rfl
  go_enter Try.func99, Try.ntmps99
  go_wp2_with fail
  go_ret
  exact ⟨rfl, rfl⟩
set_option maxRecDepth 100000 in
theorem rot18 (x : Int) (w : World) : Calls Try.prog 99 #[.int .u32 x, .int .i64 (-18)] w fun e w' => e = .returned (.int .u32 (rotR x 16384 262144)) ∧ w = w' := by
  have e : bits BinOp.and IntKind.u64 (IntKind.u64.wrap (-18)) 31 = 14 := by kernel_rfl
  go_enter Try.func99, Try.ntmps99
  go_wp2_with fail
  go_ret
  exact ⟨rfl, rfl⟩
set_option maxRecDepth 100000 in
theorem rot19 (x : Int) (w : World) : Calls Try.prog 99 #[.int .u32 x, .int .i64 (-19)] w fun e w' => e = .returned (.int .u32 (rotR x 8192 524288)) ∧ w = w' := by
  have e : bits BinOp.and IntKind.u64 (IntKind.u64.wrap (-19)) 31 = 13 := by kernel_rfl
  go_enter Try.func99, Try.ntmps99
  go_wp2_with fail
  go_ret
  exact ⟨rfl, rfl⟩
set_option maxRecDepth 100000 in
theorem rot22 (x : Int) (w : World) : Calls Try.prog 99 #[.int .u32 x, .int .i64 (-22)] w fun e w' => e = .returned (.int .u32 (rotR x 1024 4194304)) ∧ w = w' := by
  have e : bits BinOp.and IntKind.u64 (IntKind.u64.wrap (-22)) 31 = 10 := by kernel_rfl
  go_enter Try.func99, Try.ntmps99
  go_wp2_with fail
  go_ret
  exact ⟨rfl, rfl⟩
set_option maxRecDepth 100000 in
theorem rot25 (x : Int) (w : World) : Calls Try.prog 99 #[.int .u32 x, .int .i64 (-25)] w fun e w' => e = .returned (.int .u32 (rotR x 128 33554432)) ∧ w = w' := by
  have e : bits BinOp.and IntKind.u64 (IntKind.u64.wrap (-25)) 31 = 7 := by kernel_rfl
  go_enter Try.func99, Try.ntmps99
  go_wp2_with fail
  go_ret
  exact ⟨rfl, rfl⟩
end Go.Proofs.Ytigpdgfhngknhaa.Sha
/- The hash: blocks. -/
namespace Go.Proofs.Ytigpdgfhngknhaa.Sha
open Go.RowKit Go.Proofs.YtigpdgfhngknhaaW.PrintWords Go.Proofs.YtigpdgfhngknhaaW.PrintLast Go.Proofs.YtigpdgfhngknhaaW.PrintMore Go.Proofs.Ytigpdgfhngknhaa.QFnProofFault
set_option linter.unusedVariables false
set_option linter.unusedSimpArgs false
theorem ln64 (x : Int) (h0 : 0 ≤ x) (h1 : x ≤ 9223372036854775807) : wrap64 x = x := by unfold wrap64; omega
theorem meas1 {n i gk : Nat} (h : i ≤ n ∧ n + 1 ≤ i + gk) (h2 : i < n) : gk - 1 < gk := by omega
theorem meas2 {n i gk : Nat} (h : i ≤ n ∧ n + 1 ≤ i + gk) (h2 : i < n) : i + 1 ≤ n ∧ n + 1 ≤ i + 1 + (gk - 1) := by omega
def wordC (l : List Int) : List Value := l.map (Value.int .u32)
def byteC (l : List Int) : List Value := l.map (Value.int .u8)
theorem wordC_len (l : List Int) : (wordC l).length = l.length := List.length_map _
theorem byteC_len (l : List Int) : (byteC l).length = l.length := List.length_map _
theorem wordC_at {l : List Int} {j : Nat} (h : j < l.length) : (wordC l)[j]? = some (.int .u32 (l.getD j 0)) := by
  unfold wordC
  rw [List.getElem?_map, List.getD_eq_getElem?_getD, List.getElem?_eq_getElem h]; rfl
theorem byteC_at {l : List Int} {j : Nat} (h : j < l.length) : (byteC l)[j]? = some (.int .u8 (l.getD j 0)) := by
  unfold byteC
  rw [List.getElem?_map, List.getD_eq_getElem?_getD, List.getElem?_eq_getElem h]; rfl
theorem wordC_set (l : List Int) (j : Nat) (v : Int) : (wordC l).set j (.int .u32 v) = wordC (l.set j v) := by unfold wordC; rw [List.map_set]
/-- The state of a hash in block g. -/
structure Dig (w : World) (g : Nat) (hs xs : List Int) (nx len : Int) : Prop where
  blk : w.heap[g]? = some (.cells (wordC hs ++ (byteC xs ++ [Value.int .i64 nx, Value.int .u64 len, Value.bool false])).toArray 143 (0, 0))
  h8 : hs.length = 8
  x64 : xs.length = 64
theorem Dig.below {w w1 : World} {g : Nat} {hs xs : List Int} {nx len : Int} (h : Dig w g hs xs nx len) (hb : Below w.heap.size w w1) : Dig w1 g hs xs nx len := ⟨(hb.block g (blk_lt' h.blk)).trans h.blk, h.h8, h.x64⟩
theorem Dig.hcell {w : World} {g : Nat} {hs xs : List Int} {nx len : Int} (h : Dig w g hs xs nx len) (j : Nat) (hj : j < 8) : w.cell? ⟨g, j, none⟩ = some (.int .u32 (hs.getD j 0)) := by
  refine cell_of h.blk ?_
  rw [List.getElem?_toArray, List.getElem?_append_left (by rw [wordC_len, h.h8]; exact hj)]
  exact wordC_at (by rw [h.h8]; exact hj)
/-- The table of constants, whatever it holds. -/
def KRow (w : World) (kl : List Int) : Prop := ∀ j, j < 64 → w.cell? ⟨1, j, none⟩ = some (.int .u32 (kl.getD j 0))
theorem KRow.below {w w1 : World} {kl : List Int} (h : KRow w kl) (hb : Below w.heap.size w w1) : KRow w1 kl := fun j hj => pw_cell_below hb (h j hj)
theorem byte_at {w : World} {A : Option Addr} {n : Nat} {q : List Int} (h : ReadsInt w .u8 A n q) (j : Nat) (hj : j < n) : ∃ ad, A = some ad ∧ w.cell? (ad.add j) = some (.int .u8 (q.getD j 0)) := by
  obtain ⟨ad, e, h2⟩ := ReadsOf.at_ (readsInt_of.1 h) (j : Int) (Int.natCast_nonneg _) (by omega)
  rw [Int.toNat_natCast] at h2
  exact ⟨ad, e, h2⟩
theorem below_setOld {w0 W : World} {B : Nat} (h : Below B w0 W) {g : Nat} (hg : B ≤ g) (j : Nat) (u : Value) : Below B w0 (W.setCell ⟨g, j, none⟩ u) :=
  ⟨h.os, h.tape, h.output, by simpa [World.setCell] using h.size, fun k hk => (Below.heap_setCell W ⟨g, j, none⟩ u k (show k ≠ g by omega)).trans (h.block k hk)⟩
theorem dig_set {hs : List Int} {rs : List Value} {t : TypeId} {W : World} {g : Nat} (h : W.heap[g]? = some (.cells (wordC hs ++ rs).toArray t (0, 0))) (j : Nat) (hj : j < hs.length) (v : Int) : (W.setCell ⟨g, j, none⟩ (.int .u32 v)).heap[g]? = some (.cells (wordC (hs.set j v) ++ rs).toArray t (0, 0)) := by
  rw [heap_set_same h (j := j) (.int .u32 v), List.setIfInBounds_toArray, List.set_append_left _ _ (by rw [wordC_len]; exact hj), wordC_set]
structure H8 where
  a : Int
  b : Int
  c : Int
  d : Int
  e : Int
  f : Int
  g : Int
  h : Int
def m32 (x : Int) : Int := x % 4294967296
def sigma0 (x : Int) : Int := bits BinOp.xor IntKind.u32 (bits BinOp.xor IntKind.u32 (rotR x 33554432 128) (rotR x 16384 262144)) (x / 8)
def sigma1 (x : Int) : Int := bits BinOp.xor IntKind.u32 (bits BinOp.xor IntKind.u32 (rotR x 32768 131072) (rotR x 8192 524288)) (x / 1024)
def word4 (q : List Int) (i : Nat) : Int := bits BinOp.or IntKind.u32 (bits BinOp.or IntKind.u32 (bits BinOp.or IntKind.u32 (IntKind.u32.wrap (IntKind.u32.wrap (q.getD (4 * i) 0) * 16777216)) (IntKind.u32.wrap (IntKind.u32.wrap (q.getD (4 * i + 1) 0) * 65536))) (IntKind.u32.wrap (IntKind.u32.wrap (q.getD (4 * i + 2) 0) * 256))) (IntKind.u32.wrap (q.getD (4 * i + 3) 0))
/-- The next word of a block's row. -/
def wnext (q : List Int) (l : List Int) (n : Nat) : Int :=
  if n < 16 then word4 q n else IntKind.u32.wrap (IntKind.u32.wrap (IntKind.u32.wrap (sigma1 (l.getD (n - 2) 0) + l.getD (n - 7) 0) + sigma0 (l.getD (n - 15) 0)) + l.getD (n - 16) 0)
def wl (q : List Int) : Nat → List Int
  | 0 => []
  | n + 1 => wl q n ++ [wnext q (wl q n) n]
theorem wl_len (q : List Int) : ∀ n, (wl q n).length = n
  | 0 => rfl
  | n + 1 => by rw [wl, List.length_append, wl_len q n]; rfl
theorem wl_cell {q : List Int} {i : Nat} {r : List Int} {W : World} {g : Nat} (hg : W.heap[g]? = some (.cells (wordC (wl q i ++ r)).toArray 171 (0, 0))) (j : Nat) (hj : j < i) : W.cell? ⟨g, j, none⟩ = some (.int .u32 ((wl q i).getD j 0)) := by
  refine cell_of hg (j := j) ?_
  rw [List.getElem?_toArray, wordC_at (by rw [List.length_append, wl_len]; omega), List.getD_eq_getElem?_getD, List.getElem?_append_left (by rw [wl_len]; exact hj), ← List.getD_eq_getElem?_getD]
theorem wl_store {q : List Int} {i : Nat} {r0 : Int} {r : List Int} {W : World} {g : Nat} (hg : W.heap[g]? = some (.cells (wordC (wl q i ++ r0 :: r)).toArray 171 (0, 0))) {v : Int} (hv : v = wnext q (wl q i) i) : (W.setCell ⟨g, i, none⟩ (.int .u32 v)).heap[g]? = some (.cells (wordC (wl q (i + 1) ++ r)).toArray 171 (0, 0)) := by
  rw [heap_set_same hg (j := i) (.int .u32 v), List.setIfInBounds_toArray, wordC_set, List.set_append_right _ _ (by rw [wl_len]; exact Nat.le_refl _), wl_len, Nat.sub_self, List.set_cons_zero, hv, wl, List.append_assoc]
  rfl
theorem wl_next {q : List Int} {i : Nat} {r0 : Int} {r : List Int} {W : World} {g : Nat} (hg : W.heap[g]? = some (.cells (wordC (wl q i ++ r0 :: r)).toArray 171 (0, 0))) : W.cell? ⟨g, i, none⟩ = some (.int .u32 r0) := by
  refine cell_of hg (j := i) ?_
  rw [List.getElem?_toArray, wordC_at (by rw [List.length_append, wl_len]; simp), List.getD_eq_getElem?_getD, List.getElem?_append_right (by rw [wl_len]; exact Nat.le_refl _), wl_len, Nat.sub_self]; rfl
theorem wl_last (q : List Int) (n : Nat) : (wl q (n + 1)).getD n 0 = wnext q (wl q n) n := by
  rw [wl, List.getD_eq_getElem?_getD, List.getElem?_append_right (by rw [wl_len]; exact Nat.le_refl _), wl_len, Nat.sub_self]; rfl
def t1V (t4 t5 t6 t7 kv wv : Int) : Int := IntKind.u32.wrap (IntKind.u32.wrap (IntKind.u32.wrap (IntKind.u32.wrap (t7 + bits BinOp.xor IntKind.u32 (bits BinOp.xor IntKind.u32 (rotR t4 67108864 64) (rotR t4 2097152 2048)) (rotR t4 128 33554432)) + bits BinOp.xor IntKind.u32 (bits BinOp.and IntKind.u32 t4 t5) (bits BinOp.and IntKind.u32 (bits BinOp.xor IntKind.u32 (if IntKind.u32.signed = true then -1 else IntKind.u32.max) t4) t6)) + kv) + wv)
def rnd (k v : Int) (s : H8) : H8 :=
  let t1 := t1V s.e s.f s.g s.h k v
  let t2 := m32 (bits BinOp.xor IntKind.u32 (bits BinOp.xor IntKind.u32 (rotR s.a 1073741824 4) (rotR s.a 524288 8192)) (rotR s.a 1024 4194304) + bits BinOp.xor IntKind.u32 (bits BinOp.xor IntKind.u32 (bits BinOp.and IntKind.u32 s.a s.b) (bits BinOp.and IntKind.u32 s.a s.c)) (bits BinOp.and IntKind.u32 s.b s.c))
  ⟨m32 (t1 + t2), s.a, s.b, s.c, m32 (s.d + t1), s.e, s.f, s.g⟩
def rounds (kl q : List Int) : Nat → H8 → H8
  | 0, s => s
  | n + 1, s => rnd (kl.getD n 0) (wnext q (wl q n) n) (rounds kl q n s)
def addH (s t : H8) : H8 := ⟨m32 (s.a + t.a), m32 (s.b + t.b), m32 (s.c + t.c), m32 (s.d + t.d), m32 (s.e + t.e), m32 (s.f + t.f), m32 (s.g + t.g), m32 (s.h + t.h)⟩
def blk (kl q : List Int) (s : H8) : H8 := addH s (rounds kl q 64 s)
def blks (kl p : List Int) : Nat → H8 → H8
  | 0, s => s
  | n + 1, s => blk kl (p.drop (64 * n)) (blks kl p n s)
def H8.l (s : H8) : List Int := [s.a, s.b, s.c, s.d, s.e, s.f, s.g, s.h]
/-- Pieces of a function's text, found by number. -/
def findB (n : Nat) : Code → Option Code
  | .block k c => if k = n then some (.block k c) else findB n c
  | .seq a b => (findB n a).orElse fun _ => findB n b
  | .cond _ a b => (findB n a).orElse fun _ => findB n b
  | .loop c => findB n c
  | _ => none
def findC (n : Nat) : Code → Option Code
  | .block _ c => findC n c
  | .seq a b => (findC n a).orElse fun _ => findC n b
  | .cond o a b => match o with
    | .tmp k => if k = n then some (.cond o a b) else (findC n a).orElse fun _ => findC n b
    | _ => (findC n a).orElse fun _ => findC n b
  | .loop c => findC n c
  | _ => none
def findR (n : Nat) : Code → Option Code
  | .region k ops d => if k = n then some (.region k ops d) else none
  | .block _ c => findR n c
  | .seq a b => (findR n a).orElse fun _ => findR n b
  | .cond _ a b => (findR n a).orElse fun _ => findR n b
  | .loop c => findR n c
  | _ => none
end Go.Proofs.Ytigpdgfhngknhaa.Sha

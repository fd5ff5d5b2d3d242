/- Four bytes as a number, the lowest first. -/
import Derived.Lib.EndianBits
import Derived.Deep.QuietTactic
import Derived.BigQuiet
import Derived.Defers
import Derived.Test.YtpogfbompljkkaaDoorK0
import Derived.Test.YtpogfbompljkkaaDoorK1
namespace Go.Proofs.YtpogfbompljkkaaDoor.Tok
open Go.RowKit Go.Proofs.YtpogfbompljkkaaDoorW.PrintWords Go.Proofs.YtpogfbompljkkaaDoorW.PrintLast Go.Proofs.YtpogfbompljkkaaDoorW.PrintMore Go.Proofs.YtpogfbompljkkaaDoor.QFnVarBytes
set_option linter.unusedVariables false
set_option linter.unusedSimpArgs false
theorem cell_alloc' {w : World} {p : Addr} {v : Value} (h : w.cell? p = some v) (o : Obj) : (w.alloc o).cell? p = some v := by
  have hlt := World.block_lt_of_cell? w _ h
  exact (World.cell?_of_block (w := w) (Below.heap_alloc w o p.block hlt)).trans h
theorem u16w {x : Int} (h0 : 0 ≤ x) (h1 : x < 65536) : IntKind.u16.wrap x = x := by
  unfold IntKind.wrap; simp [IntKind.signed, IntKind.bits]; omega
theorem u32w {x : Int} (h0 : 0 ≤ x) (h1 : x < 4294967296) : IntKind.u32.wrap x = x := by
  unfold IntKind.wrap; simp [IntKind.signed, IntKind.bits]; omega
theorem orUint32 (a b c d : Int) (a0 : 0 ≤ a) (a1 : a < 256) (b0 : 0 ≤ b) (b1 : b < 256) (c0 : 0 ≤ c) (c1 : c < 256) (d0 : 0 ≤ d) (d1 : d < 256) :
    Go.bits .or .u32 (Go.bits .or .u32 (Go.bits .or .u32 (IntKind.u32.wrap a) (IntKind.u32.wrap (IntKind.u32.wrap b * 256))) (IntKind.u32.wrap (IntKind.u32.wrap c * 65536))) (IntKind.u32.wrap (IntKind.u32.wrap d * 16777216)) = a + b * 256 + c * 65536 + d * 16777216 := by
  rw [u32w a0 (by omega), u32w b0 (by omega), u32w c0 (by omega), u32w d0 (by omega), u32w (x := b * 256) (by omega) (by omega), u32w (x := c * 65536) (by omega) (by omega), u32w (x := d * 16777216) (by omega) (by omega)]
  rw [bits_join_low .u32 32 (by decide) (fun n h0 h1 => by simp [IntKind.wrap, IntKind.signed, IntKind.bits]; omega) 8 a (b * 256) a0 (by omega) (by omega) (by omega) (by omega) (by omega)]
  rw [bits_join_low .u32 32 (by decide) (fun n h0 h1 => by simp [IntKind.wrap, IntKind.signed, IntKind.bits]; omega) 16 (a + b * 256) (c * 65536) (by omega) (by omega) (by omega) (by omega) (by omega) (by omega)]
  exact bits_join_low .u32 32 (by decide) (fun n h0 h1 => by simp [IntKind.wrap, IntKind.signed, IntKind.bits]; omega) 24 (a + b * 256 + c * 65536) (d * 16777216) (by omega) (by omega) (by omega) (by omega) (by omega) (by omega)

set_option maxRecDepth 100000 in
set_option maxHeartbeats 4000000 in
theorem leUint32 (ad : Addr) (m cc : Nat) (hm : 4 ≤ m) (a b c d : Int) (a0 : 0 ≤ a) (a1 : a < 256) (b0 : 0 ≤ b) (b1 : b < 256) (c0 : 0 ≤ c) (c1 : c < 256) (d0 : 0 ≤ d) (d1 : d < 256) (w : World) (ha : w.cell? ad = some (.int .u8 a)) (hb : w.cell? ⟨ad.block, ad.off + 1, none⟩ = some (.int .u8 b)) (hc : w.cell? ⟨ad.block, ad.off + 2, none⟩ = some (.int .u8 c)) (hd : w.cell? ⟨ad.block, ad.off + 3, none⟩ = some (.int .u8 d)) :
    Calls Tryd.prog 40 #[.agg #[], .slice (some ad) m cc] w fun e w' => e = .returned (.int .u32 (a + b * 256 + c * 65536 + d * 16777216)) ∧ Below w.heap.size w w' := by
  have m0 : 0 < m := by omega
  have m1 : 1 < m := by omega
  have m2 : 2 < m := by omega
  have m3 : 3 < m := by omega
  have n0 : (0 : Int) < m := by omega
  have n1 : (1 : Int) < m := by omega
  have n2 : (2 : Int) < m := by omega
  have n3 : (3 : Int) < m := by omega
  clear hm
  have HS := Aside0.mk (And.intro (show (w.alloc (.cells #[] 81)).drew.cell? _ = _ from cell_alloc' ha _) (And.intro (show (w.alloc (.cells #[] 81)).drew.cell? _ = _ from cell_alloc' hb _) (And.intro (show (w.alloc (.cells #[] 81)).drew.cell? _ = _ from cell_alloc' hc _) (show (w.alloc (.cells #[] 81)).drew.cell? _ = _ from cell_alloc' hd _))))
  have hy0 := cell_alloc' ha (.cells #[] 81)
  have hy1 := cell_alloc' hb (.cells #[] 81)
  have hy2 := cell_alloc' hc (.cells #[] 81)
  have hy3 := cell_alloc' hd (.cells #[] 81)
  clear ha hb hc hd
  go_enter Tryd.func40, Tryd.ntmps40
  go_wp2
  refine start_ (n := 23) (S := fun w' => w'.cell? ad = some (.int .u8 a) ∧ w'.cell? ⟨ad.block, ad.off + 1, none⟩ = some (.int .u8 b) ∧ w'.cell? ⟨ad.block, ad.off + 2, none⟩ = some (.int .u8 c) ∧ w'.cell? ⟨ad.block, ad.off + 3, none⟩ = some (.int .u8 d)) (ds := []) #[false, false, false, false, false, false, false, false, false, false, false, false, false, false, false, false, false, false, false, false, false, false, false] (by kernel_rfl) rfl rfl HS.out (fun hHeld => ?_)
  refine pure_ (i := 0) (N := some 8) (v := ?_) (a' := ?_) #[true, false, false, false, false, false, false, false, false, false, false, false, false, false, false, false, false, false, false, false, false, false, false] rfl rfl (by kernel_rfl) (fun _ _ _ h => h) (Or.inl ⟨by rfl, ?_⟩) ?_ ?_
  rotate_left
  · intro w'
    go_simp
    with_reducible rfl
  rotate_left
  · simp only [Act.put, List.setIfInBounds_toArray, List.set_cons_zero, List.set_cons_succ, i64_w, i32_w]
    rfl
  refine pure_ (i := 1) (N := some 9) (v := ?_) (a' := ?_) #[true, true, false, false, false, false, false, false, false, false, false, false, false, false, false, false, false, false, false, false, false, false, false] rfl rfl (by kernel_rfl) (fun _ _ _ h => h) (Or.inl ⟨by rfl, ?_⟩) ?_ ?_
  rotate_left
  · intro w'
    go_simp
    with_reducible rfl
  rotate_left
  · simp only [Act.put, List.setIfInBounds_toArray, List.set_cons_zero, List.set_cons_succ, i64_w, i32_w]
    rfl
  refine take_ (i := 2) (N := some 10) (v := ?_) (a' := ?_) #[true, true, true, false, false, false, false, false, false, false, false, false, false, false, false, false, false, false, false, false, false, false, false] rfl rfl (by kernel_rfl) (fun _ _ _ h => h) (Or.inl ⟨by rfl, ?_⟩) hHeld ?_ ?_
  rotate_left
  · rintro w' ⟨s0, s1, s2, s3⟩
    go_simp
    with_reducible rfl
  rotate_left
  · simp only [Act.put, List.setIfInBounds_toArray, List.set_cons_zero, List.set_cons_succ, i64_w, i32_w]
    rfl
  refine pure_ (i := 3) (N := some 11) (v := ?_) (a' := ?_) #[true, true, true, true, false, false, false, false, false, false, false, false, false, false, false, false, false, false, false, false, false, false, false] rfl rfl (by kernel_rfl) (fun _ _ _ h => h) (Or.inl ⟨by rfl, ?_⟩) ?_ ?_
  rotate_left
  · intro w'
    go_simp
    with_reducible rfl
  rotate_left
  · simp only [Act.put, List.setIfInBounds_toArray, List.set_cons_zero, List.set_cons_succ, i64_w, i32_w]
    rfl
  refine pure_ (i := 4) (N := some 12) (v := ?_) (a' := ?_) #[true, true, true, true, true, false, false, false, false, false, false, false, false, false, false, false, false, false, false, false, false, false, false] rfl rfl (by kernel_rfl) (fun _ _ _ h => h) (Or.inl ⟨by rfl, ?_⟩) ?_ ?_
  rotate_left
  · intro w'
    go_simp
    with_reducible rfl
  rotate_left
  · simp only [Act.put, List.setIfInBounds_toArray, List.set_cons_zero, List.set_cons_succ, i64_w, i32_w]
    rfl
  refine pure_ (i := 5) (N := some 13) (v := ?_) (a' := ?_) #[true, true, true, true, true, true, false, false, false, false, false, false, false, false, false, false, false, false, false, false, false, false, false] rfl rfl (by kernel_rfl) (fun _ _ _ h => h) (Or.inl ⟨by rfl, ?_⟩) ?_ ?_
  rotate_left
  · intro w'
    go_simp
    with_reducible rfl
  rotate_left
  · simp only [Act.put, List.setIfInBounds_toArray, List.set_cons_zero, List.set_cons_succ, i64_w, i32_w]
    rfl
  refine take_ (i := 6) (N := some 14) (v := ?_) (a' := ?_) #[true, true, true, true, true, true, true, false, false, false, false, false, false, false, false, false, false, false, false, false, false, false, false] rfl rfl (by kernel_rfl) (fun _ _ _ h => h) (Or.inl ⟨by rfl, ?_⟩) hHeld ?_ ?_
  rotate_left
  · rintro w' ⟨s0, s1, s2, s3⟩
    go_simp
    with_reducible rfl
  rotate_left
  · simp only [Act.put, List.setIfInBounds_toArray, List.set_cons_zero, List.set_cons_succ, i64_w, i32_w]
    rfl
  refine pure_ (i := 7) (N := some 15) (v := ?_) (a' := ?_) #[true, true, true, true, true, true, true, true, false, false, false, false, false, false, false, false, false, false, false, false, false, false, false] rfl rfl (by kernel_rfl) (fun _ _ _ h => h) (Or.inl ⟨by rfl, ?_⟩) ?_ ?_
  rotate_left
  · intro w'
    go_simp
    with_reducible rfl
  rotate_left
  · simp only [Act.put, List.setIfInBounds_toArray, List.set_cons_zero, List.set_cons_succ, i64_w, i32_w]
    rfl
  refine pure_ (i := 8) (N := some 16) (v := ?_) (a' := ?_) #[true, true, true, true, true, true, true, true, true, false, false, false, false, false, false, false, false, false, false, false, false, false, false] rfl rfl (by kernel_rfl) (fun _ _ _ h => h) (Or.inl ⟨by rfl, ?_⟩) ?_ ?_
  rotate_left
  · intro w'
    go_simp
    with_reducible rfl
  rotate_left
  · simp only [Act.put, List.setIfInBounds_toArray, List.set_cons_zero, List.set_cons_succ, i64_w, i32_w]
    rfl
  refine pure_ (i := 9) (N := some 17) (v := ?_) (a' := ?_) #[true, true, true, true, true, true, true, true, true, true, false, false, false, false, false, false, false, false, false, false, false, false, false] rfl rfl (by kernel_rfl) (fun _ _ _ h => h) (Or.inl ⟨by rfl, ?_⟩) ?_ ?_
  rotate_left
  · intro w'
    go_simp
    with_reducible rfl
  rotate_left
  · simp only [Act.put, List.setIfInBounds_toArray, List.set_cons_zero, List.set_cons_succ, i64_w, i32_w]
    rfl
  refine pure_ (i := 10) (N := some 18) (v := ?_) (a' := ?_) #[true, true, true, true, true, true, true, true, true, true, true, false, false, false, false, false, false, false, false, false, false, false, false] rfl rfl (by kernel_rfl) (fun _ _ _ h => h) (Or.inl ⟨by rfl, ?_⟩) ?_ ?_
  rotate_left
  · intro w'
    go_simp
    with_reducible rfl
  rotate_left
  · simp only [Act.put, List.setIfInBounds_toArray, List.set_cons_zero, List.set_cons_succ, i64_w, i32_w]
    rfl
  refine pure_ (i := 11) (N := some 19) (v := ?_) (a' := ?_) #[true, true, true, true, true, true, true, true, true, true, true, true, false, false, false, false, false, false, false, false, false, false, false] rfl rfl (by kernel_rfl) (fun _ _ _ h => h) (Or.inl ⟨by rfl, ?_⟩) ?_ ?_
  rotate_left
  · intro w'
    go_simp
    with_reducible rfl
  rotate_left
  · simp only [Act.put, List.setIfInBounds_toArray, List.set_cons_zero, List.set_cons_succ, i64_w, i32_w]
    rfl
  refine take_ (i := 12) (N := some 20) (v := ?_) (a' := ?_) #[true, true, true, true, true, true, true, true, true, true, true, true, true, false, false, false, false, false, false, false, false, false, false] rfl rfl (by kernel_rfl) (fun _ _ _ h => h) (Or.inl ⟨by rfl, ?_⟩) hHeld ?_ ?_
  rotate_left
  · rintro w' ⟨s0, s1, s2, s3⟩
    go_simp
    with_reducible rfl
  rotate_left
  · simp only [Act.put, List.setIfInBounds_toArray, List.set_cons_zero, List.set_cons_succ, i64_w, i32_w]
    rfl
  refine pure_ (i := 13) (N := some 21) (v := ?_) (a' := ?_) #[true, true, true, true, true, true, true, true, true, true, true, true, true, true, false, false, false, false, false, false, false, false, false] rfl rfl (by kernel_rfl) (fun _ _ _ h => h) (Or.inl ⟨by rfl, ?_⟩) ?_ ?_
  rotate_left
  · intro w'
    go_simp
    with_reducible rfl
  rotate_left
  · simp only [Act.put, List.setIfInBounds_toArray, List.set_cons_zero, List.set_cons_succ, i64_w, i32_w]
    rfl
  refine pure_ (i := 14) (N := some 22) (v := ?_) (a' := ?_) #[true, true, true, true, true, true, true, true, true, true, true, true, true, true, true, false, false, false, false, false, false, false, false] rfl rfl (by kernel_rfl) (fun _ _ _ h => h) (Or.inl ⟨by rfl, ?_⟩) ?_ ?_
  rotate_left
  · intro w'
    go_simp
    with_reducible rfl
  rotate_left
  · simp only [Act.put, List.setIfInBounds_toArray, List.set_cons_zero, List.set_cons_succ, i64_w, i32_w]
    rfl
  refine pure_ (i := 15) (N := some 23) (v := ?_) (a' := ?_) #[true, true, true, true, true, true, true, true, true, true, true, true, true, true, true, true, false, false, false, false, false, false, false] rfl rfl (by kernel_rfl) (fun _ _ _ h => h) (Or.inl ⟨by rfl, ?_⟩) ?_ ?_
  rotate_left
  · intro w'
    go_simp
    with_reducible rfl
  rotate_left
  · simp only [Act.put, List.setIfInBounds_toArray, List.set_cons_zero, List.set_cons_succ, i64_w, i32_w]
    rfl
  refine pure_ (i := 16) (N := some 24) (v := ?_) (a' := ?_) #[true, true, true, true, true, true, true, true, true, true, true, true, true, true, true, true, true, false, false, false, false, false, false] rfl rfl (by kernel_rfl) (fun _ _ _ h => h) (Or.inl ⟨by rfl, ?_⟩) ?_ ?_
  rotate_left
  · intro w'
    go_simp
    with_reducible rfl
  rotate_left
  · simp only [Act.put, List.setIfInBounds_toArray, List.set_cons_zero, List.set_cons_succ, i64_w, i32_w]
    rfl
  refine pure_ (i := 17) (N := some 25) (v := ?_) (a' := ?_) #[true, true, true, true, true, true, true, true, true, true, true, true, true, true, true, true, true, true, false, false, false, false, false] rfl rfl (by kernel_rfl) (fun _ _ _ h => h) (Or.inl ⟨by rfl, ?_⟩) ?_ ?_
  rotate_left
  · intro w'
    go_simp
    with_reducible rfl
  rotate_left
  · simp only [Act.put, List.setIfInBounds_toArray, List.set_cons_zero, List.set_cons_succ, i64_w, i32_w]
    rfl
  refine take_ (i := 18) (N := some 26) (v := ?_) (a' := ?_) #[true, true, true, true, true, true, true, true, true, true, true, true, true, true, true, true, true, true, true, false, false, false, false] rfl rfl (by kernel_rfl) (fun _ _ _ h => h) (Or.inl ⟨by rfl, ?_⟩) hHeld ?_ ?_
  rotate_left
  · rintro w' ⟨s0, s1, s2, s3⟩
    go_simp
    with_reducible rfl
  rotate_left
  · simp only [Act.put, List.setIfInBounds_toArray, List.set_cons_zero, List.set_cons_succ, i64_w, i32_w]
    rfl
  refine pure_ (i := 19) (N := some 27) (v := ?_) (a' := ?_) #[true, true, true, true, true, true, true, true, true, true, true, true, true, true, true, true, true, true, true, true, false, false, false] rfl rfl (by kernel_rfl) (fun _ _ _ h => h) (Or.inl ⟨by rfl, ?_⟩) ?_ ?_
  rotate_left
  · intro w'
    go_simp
    with_reducible rfl
  rotate_left
  · simp only [Act.put, List.setIfInBounds_toArray, List.set_cons_zero, List.set_cons_succ, i64_w, i32_w]
    rfl
  refine pure_ (i := 20) (N := some 28) (v := ?_) (a' := ?_) #[true, true, true, true, true, true, true, true, true, true, true, true, true, true, true, true, true, true, true, true, true, false, false] rfl rfl (by kernel_rfl) (fun _ _ _ h => h) (Or.inl ⟨by rfl, ?_⟩) ?_ ?_
  rotate_left
  · intro w'
    go_simp
    with_reducible rfl
  rotate_left
  · simp only [Act.put, List.setIfInBounds_toArray, List.set_cons_zero, List.set_cons_succ, i64_w, i32_w]
    rfl
  refine pure_ (i := 21) (N := some 29) (v := ?_) (a' := ?_) #[true, true, true, true, true, true, true, true, true, true, true, true, true, true, true, true, true, true, true, true, true, true, false] rfl rfl (by kernel_rfl) (fun _ _ _ h => h) (Or.inl ⟨by rfl, ?_⟩) ?_ ?_
  rotate_left
  · intro w'
    go_simp
    with_reducible rfl
  rotate_left
  · simp only [Act.put, List.setIfInBounds_toArray, List.set_cons_zero, List.set_cons_succ, i64_w, i32_w]
    rfl
  refine pure_ (i := 22) (N := some 4) (v := ?_) (a' := ?_) #[true, true, true, true, true, true, true, true, true, true, true, true, true, true, true, true, true, true, true, true, true, true, true] rfl rfl (by kernel_rfl) (fun _ _ _ h => h) (Or.inl ⟨by rfl, ?_⟩) ?_ ?_
  rotate_left
  · intro w'
    go_simp
    with_reducible rfl
  rotate_left
  · simp only [Act.put, List.setIfInBounds_toArray, List.set_cons_zero, List.set_cons_succ, i64_w, i32_w]
    rfl
  refine done_ (by kernel_rfl) ?_
  go_wp2
  go_ret
  exact ⟨by simp [orUint32, *], ((Below.refl _ _).alloc (Nat.le_refl _) _).drew⟩

end Go.Proofs.YtpogfbompljkkaaDoor.Tok
/- Two bytes as a number, the lowest first. -/
namespace Go.Proofs.YtpogfbompljkkaaDoor.Tok
open Go.RowKit Go.Proofs.YtpogfbompljkkaaDoorW.PrintWords Go.Proofs.YtpogfbompljkkaaDoorW.PrintLast Go.Proofs.YtpogfbompljkkaaDoorW.PrintMore Go.Proofs.YtpogfbompljkkaaDoor.QFnVarBytes
set_option linter.unusedVariables false
set_option linter.unusedSimpArgs false
theorem orUint16 (a b : Int) (a0 : 0 ≤ a) (a1 : a < 256) (b0 : 0 ≤ b) (b1 : b < 256) : Go.bits .or .u16 (IntKind.u16.wrap a) (IntKind.u16.wrap (IntKind.u16.wrap b * 256)) = a + b * 256 := by
  rw [u16w a0 (by omega), u16w b0 (by omega), u16w (x := b * 256) (by omega) (by omega)]
  exact bits_join_low .u16 16 (by decide) (fun n h0 h1 => by simp [IntKind.wrap, IntKind.signed, IntKind.bits]; omega) 8 a (b * 256) a0 (by omega) (by omega) (by omega) (by omega) (by omega)
set_option maxRecDepth 100000 in
set_option maxHeartbeats 4000000 in
theorem leUint16 (ad : Addr) (cc : Nat) (a b : Int) (a0 : 0 ≤ a) (a1 : a < 256) (b0 : 0 ≤ b) (b1 : b < 256) (w : World) (ha : w.cell? ad = some (.int .u8 a)) (hb : w.cell? ⟨ad.block, ad.off + 1, none⟩ = some (.int .u8 b)) :
    Calls Tryd.prog 41 #[.agg #[], .slice (some ad) 2 cc] w fun e w' => e = .returned (.int .u16 (a + b * 256)) ∧ Below w.heap.size w w' := by
  have HS := Aside0.mk (And.intro (show (w.alloc (.cells #[] 81)).drew.cell? _ = _ from cell_alloc' ha _) (show (w.alloc (.cells #[] 81)).drew.cell? _ = _ from cell_alloc' hb _))
  have hy0 := cell_alloc' ha (.cells #[] 81)
  have hy1 := cell_alloc' hb (.cells #[] 81)
  clear ha hb
  go_enter Tryd.func41, Tryd.ntmps41
  go_wp2
  refine start_ (n := 11) (S := fun w' => w'.cell? ad = some (.int .u8 a) ∧ w'.cell? ⟨ad.block, ad.off + 1, none⟩ = some (.int .u8 b)) (ds := []) #[false, false, false, false, false, false, false, false, false, false, false] (by kernel_rfl) rfl rfl HS.out (fun hHeld => ?_)
  refine pure_ (i := 0) (N := some 8) (v := ?_) (a' := ?_) #[true, false, false, false, false, false, false, false, false, false, false] rfl rfl (by kernel_rfl) (fun _ _ _ h => h) (Or.inl ⟨by rfl, ?_⟩) ?_ ?_
  rotate_left
  · intro w'
    go_simp
    with_reducible rfl
  rotate_left
  · simp only [Act.put, List.setIfInBounds_toArray, List.set_cons_zero, List.set_cons_succ, i64_w, i32_w]
    rfl
  refine pure_ (i := 1) (N := some 9) (v := ?_) (a' := ?_) #[true, true, false, false, false, false, false, false, false, false, false] rfl rfl (by kernel_rfl) (fun _ _ _ h => h) (Or.inl ⟨by rfl, ?_⟩) ?_ ?_
  rotate_left
  · intro w'
    go_simp
    with_reducible rfl
  rotate_left
  · simp only [Act.put, List.setIfInBounds_toArray, List.set_cons_zero, List.set_cons_succ, i64_w, i32_w]
    rfl
  refine take_ (i := 2) (N := some 10) (v := ?_) (a' := ?_) #[true, true, true, false, false, false, false, false, false, false, false] rfl rfl (by kernel_rfl) (fun _ _ _ h => h) (Or.inl ⟨by rfl, ?_⟩) hHeld ?_ ?_
  rotate_left
  · rintro w' ⟨s0, s1⟩
    go_simp
    with_reducible rfl
  rotate_left
  · simp only [Act.put, List.setIfInBounds_toArray, List.set_cons_zero, List.set_cons_succ, i64_w, i32_w]
    rfl
  refine pure_ (i := 3) (N := some 11) (v := ?_) (a' := ?_) #[true, true, true, true, false, false, false, false, false, false, false] rfl rfl (by kernel_rfl) (fun _ _ _ h => h) (Or.inl ⟨by rfl, ?_⟩) ?_ ?_
  rotate_left
  · intro w'
    go_simp
    with_reducible rfl
  rotate_left
  · simp only [Act.put, List.setIfInBounds_toArray, List.set_cons_zero, List.set_cons_succ, i64_w, i32_w]
    rfl
  refine pure_ (i := 4) (N := some 12) (v := ?_) (a' := ?_) #[true, true, true, true, true, false, false, false, false, false, false] rfl rfl (by kernel_rfl) (fun _ _ _ h => h) (Or.inl ⟨by rfl, ?_⟩) ?_ ?_
  rotate_left
  · intro w'
    go_simp
    with_reducible rfl
  rotate_left
  · simp only [Act.put, List.setIfInBounds_toArray, List.set_cons_zero, List.set_cons_succ, i64_w, i32_w]
    rfl
  refine pure_ (i := 5) (N := some 13) (v := ?_) (a' := ?_) #[true, true, true, true, true, true, false, false, false, false, false] rfl rfl (by kernel_rfl) (fun _ _ _ h => h) (Or.inl ⟨by rfl, ?_⟩) ?_ ?_
  rotate_left
  · intro w'
    go_simp
    with_reducible rfl
  rotate_left
  · simp only [Act.put, List.setIfInBounds_toArray, List.set_cons_zero, List.set_cons_succ, i64_w, i32_w]
    rfl
  refine take_ (i := 6) (N := some 14) (v := ?_) (a' := ?_) #[true, true, true, true, true, true, true, false, false, false, false] rfl rfl (by kernel_rfl) (fun _ _ _ h => h) (Or.inl ⟨by rfl, ?_⟩) hHeld ?_ ?_
  rotate_left
  · rintro w' ⟨s0, s1⟩
    go_simp
    with_reducible rfl
  rotate_left
  · simp only [Act.put, List.setIfInBounds_toArray, List.set_cons_zero, List.set_cons_succ, i64_w, i32_w]
    rfl
  refine pure_ (i := 7) (N := some 15) (v := ?_) (a' := ?_) #[true, true, true, true, true, true, true, true, false, false, false] rfl rfl (by kernel_rfl) (fun _ _ _ h => h) (Or.inl ⟨by rfl, ?_⟩) ?_ ?_
  rotate_left
  · intro w'
    go_simp
    with_reducible rfl
  rotate_left
  · simp only [Act.put, List.setIfInBounds_toArray, List.set_cons_zero, List.set_cons_succ, i64_w, i32_w]
    rfl
  refine pure_ (i := 8) (N := some 16) (v := ?_) (a' := ?_) #[true, true, true, true, true, true, true, true, true, false, false] rfl rfl (by kernel_rfl) (fun _ _ _ h => h) (Or.inl ⟨by rfl, ?_⟩) ?_ ?_
  rotate_left
  · intro w'
    go_simp
    with_reducible rfl
  rotate_left
  · simp only [Act.put, List.setIfInBounds_toArray, List.set_cons_zero, List.set_cons_succ, i64_w, i32_w]
    rfl
  refine pure_ (i := 9) (N := some 17) (v := ?_) (a' := ?_) #[true, true, true, true, true, true, true, true, true, true, false] rfl rfl (by kernel_rfl) (fun _ _ _ h => h) (Or.inl ⟨by rfl, ?_⟩) ?_ ?_
  rotate_left
  · intro w'
    go_simp
    with_reducible rfl
  rotate_left
  · simp only [Act.put, List.setIfInBounds_toArray, List.set_cons_zero, List.set_cons_succ, i64_w, i32_w]
    rfl
  refine pure_ (i := 10) (N := some 4) (v := ?_) (a' := ?_) #[true, true, true, true, true, true, true, true, true, true, true] rfl rfl (by kernel_rfl) (fun _ _ _ h => h) (Or.inl ⟨by rfl, ?_⟩) ?_ ?_
  rotate_left
  · intro w'
    go_simp
    with_reducible rfl
  rotate_left
  · simp only [Act.put, List.setIfInBounds_toArray, List.set_cons_zero, List.set_cons_succ, i64_w, i32_w]
    rfl
  refine done_ (by kernel_rfl) ?_
  go_wp2
  go_ret
  exact ⟨by simp [orUint16, *], ((Below.refl _ _).alloc (Nat.le_refl _) _).drew⟩
end Go.Proofs.YtpogfbompljkkaaDoor.Tok
/- Four bytes laid down, the least first. -/
namespace Go.Proofs.YtpogfbompljkkaaDoor.Snk
open Go.RowKit Go.Proofs.YtpogfbompljkkaaDoorW.PrintWords Go.Proofs.YtpogfbompljkkaaDoorW.PrintLast Go.Proofs.YtpogfbompljkkaaDoorW.PrintMore
set_option linter.unusedVariables false
set_option linter.unusedSimpArgs false
def lput4 (l : List Int) (o : Nat) (v : Int) : List Int := ((((l.set o (v % 256)).set (o + 1) ((v / 256) % 256)).set (o + 2) ((v / 65536) % 256)).set (o + 3) ((v / 16777216) % 256))
def le4 (v : Int) : List Int := [v % 256, (v / 256) % 256, (v / 65536) % 256, (v / 16777216) % 256]
theorem lput4_len (l : List Int) (o : Nat) (v : Int) : (lput4 l o v).length = l.length := by unfold lput4; simp only [List.length_set]
theorem lput4_take (l : List Int) (v : Int) (hl : 4 ≤ l.length) : (lput4 l 0 v).take 4 = le4 v := by
  match l, hl with
  | a :: b :: c :: d :: r, _ => rfl
set_option maxRecDepth 100000 in
set_option maxHeartbeats 4000000 in
theorem lput4C (g o n c : Nat) (l : List Int) (t : TypeId) (v : Int) (E : Value) (w : World) (h : w.heap[g]? = some (.cells (byteC l).toArray t (0, 0))) (ho : o + 4 ≤ l.length) (hn : 4 ≤ n) :
    Calls Tryd.prog 37 #[.agg #[], .slice (some ⟨g, o, none⟩) n c, .int .u32 v] w fun e w' => e = .returned (.tuple #[]) ∧ w'.heap[g]? = some (.cells (byteC (lput4 l o v)).toArray t (0, 0)) ∧ Only g w w' := by
  have hn1 : 3 < (n : Int) := by omega
  have GW := Aside0.mk h
  have HO := Aside0.mk ho
  clear h ho
  go_enter Tryd.func37, Tryd.ntmps37
  go_upto_region 1 with fail
  generalize hv0 : World.alloc _ _ = v0
  have O0 : Aside0 (Only g w v0) := ⟨by rw [← hv0]; exact (Only.refl g w).alloc _⟩
  have G0 : Aside0 (v0.heap[g]? = some (.cells (byteC l).toArray t (0, 0))) := ⟨by rw [← hv0]; exact heap_alloc_lt GW.out _⟩
  clear hv0
  have z9 := row_cell G0.out (o + 3) (by have := HO.out; omega)
  go_upto_region 2 with fail
  clear z9
  have z0 := row_cell G0.out (o) (by have := HO.out; (try simp only [List.length_set]); omega)
  have f0 := frozen_of G0.out (o)
  go_upto_region 3 with fail
  generalize hv1 : World.setCell _ _ _ = v1
  have G1 : Aside0 (v1.heap[g]? = some (.cells (byteC (l.set o (v % 256))).toArray t (0, 0))) := ⟨by rw [← hv1]; exact row_set G0.out _ _⟩
  have O1 : Aside0 (Only g w v1) := ⟨by rw [← hv1]; exact O0.out.set _ _⟩
  clear hv1 z0 f0
  have z1 := row_cell G1.out (o + 1) (by have := HO.out; (try simp only [List.length_set]); omega)
  have f1 := frozen_of G1.out (o + 1)
  go_upto_region 4 with fail
  generalize hv2 : World.setCell _ _ _ = v2
  have G2 : Aside0 (v2.heap[g]? = some (.cells (byteC ((l.set o (v % 256)).set (o + 1) ((v / 256) % 256))).toArray t (0, 0))) := ⟨by rw [← hv2]; exact row_set G1.out _ _⟩
  have O2 : Aside0 (Only g w v2) := ⟨by rw [← hv2]; exact O1.out.set _ _⟩
  clear hv2 z1 f1
  have z2 := row_cell G2.out (o + 2) (by have := HO.out; (try simp only [List.length_set]); omega)
  have f2 := frozen_of G2.out (o + 2)
  go_upto_region 5 with fail
  generalize hv3 : World.setCell _ _ _ = v3
  have G3 : Aside0 (v3.heap[g]? = some (.cells (byteC (((l.set o (v % 256)).set (o + 1) ((v / 256) % 256)).set (o + 2) ((v / 65536) % 256))).toArray t (0, 0))) := ⟨by rw [← hv3]; exact row_set G2.out _ _⟩
  have O3 : Aside0 (Only g w v3) := ⟨by rw [← hv3]; exact O2.out.set _ _⟩
  clear hv3 z2 f2
  have z3 := row_cell G3.out (o + 3) (by have := HO.out; (try simp only [List.length_set]); omega)
  have f3 := frozen_of G3.out (o + 3)
  go_wp2_with fail
  go_end0
  exact ⟨rfl, row_set G3.out _ _, O3.out.set _ _⟩
end Go.Proofs.YtpogfbompljkkaaDoor.Snk
/- Bytes of a number laid down, the least first. -/
namespace Go.Proofs.YtpogfbompljkkaaDoor.Snk
open Go.RowKit Go.Proofs.YtpogfbompljkkaaDoorW.PrintWords Go.Proofs.YtpogfbompljkkaaDoorW.PrintLast Go.Proofs.YtpogfbompljkkaaDoorW.PrintMore
set_option linter.unusedVariables false
set_option linter.unusedSimpArgs false
def lput2 (l : List Int) (o : Nat) (v : Int) : List Int := ((l.set o (v % 256)).set (o + 1) ((v / 256) % 256))
def le2 (v : Int) : List Int := [v % 256, (v / 256) % 256]
theorem lput2_len (l : List Int) (o : Nat) (v : Int) : (lput2 l o v).length = l.length := by unfold lput2; simp only [List.length_set]
theorem lput2_take (l : List Int) (v : Int) (hl : 2 ≤ l.length) : (lput2 l 0 v).take 2 = le2 v := by
  match l, hl with
  | a0 :: a1 :: r, _ => rfl
set_option maxRecDepth 100000 in
set_option maxHeartbeats 4000000 in
theorem lput2C (g o n c : Nat) (l : List Int) (t : TypeId) (v : Int) (E : Value) (w : World) (h : w.heap[g]? = some (.cells (byteC l).toArray t (0, 0))) (ho : o + 2 ≤ l.length) (hn : 2 ≤ n) :
    Calls Tryd.prog 36 #[.agg #[], .slice (some ⟨g, o, none⟩) n c, .int .u16 v] w fun e w' => e = .returned (.tuple #[]) ∧ w'.heap[g]? = some (.cells (byteC (lput2 l o v)).toArray t (0, 0)) ∧ Only g w w' := by
  have hn1 : 1 < (n : Int) := by omega
  have GW := Aside0.mk h
  have HO := Aside0.mk ho
  clear h ho
  go_enter Tryd.func36, Tryd.ntmps36
  go_upto_region 1 with fail
  generalize hv0 : World.alloc _ _ = v0
  have O0 : Aside0 (Only g w v0) := ⟨by rw [← hv0]; exact (Only.refl g w).alloc _⟩
  have G0 : Aside0 (v0.heap[g]? = some (.cells (byteC l).toArray t (0, 0))) := ⟨by rw [← hv0]; exact heap_alloc_lt GW.out _⟩
  clear hv0
  have z9 := row_cell G0.out (o + 1) (by have := HO.out; omega)
  go_upto_region 2 with fail
  clear z9
  have z0 := row_cell G0.out (o) (by have := HO.out; (try simp only [List.length_set]); omega)
  have f0 := frozen_of G0.out (o)
  go_upto_region 3 with fail
  generalize hv1 : World.setCell _ _ _ = v1
  have G1 : Aside0 (v1.heap[g]? = some (.cells (byteC (l.set o (v % 256))).toArray t (0, 0))) := ⟨by rw [← hv1]; exact row_set G0.out _ _⟩
  have O1 : Aside0 (Only g w v1) := ⟨by rw [← hv1]; exact O0.out.set _ _⟩
  clear hv1 z0 f0
  have z1 := row_cell G1.out (o + 1) (by have := HO.out; (try simp only [List.length_set]); omega)
  have f1 := frozen_of G1.out (o + 1)
  go_wp2_with fail
  go_end0
  exact ⟨rfl, row_set G1.out _ _, O1.out.set _ _⟩
end Go.Proofs.YtpogfbompljkkaaDoor.Snk
/- A scratch row is borrowed. -/
namespace Go.Proofs.YtpogfbompljkkaaDoor.Snk
open Go.RowKit Go.Proofs.YtpogfbompljkkaaDoorW.PrintWords Go.Proofs.YtpogfbompljkkaaDoorW.PrintLast Go.Proofs.YtpogfbompljkkaaDoorW.PrintMore
set_option linter.unusedVariables false
set_option linter.unusedSimpArgs false
theorem add_any (g o j : Nat) : (⟨g, o, none⟩ : Addr).add j = ⟨g, o + j, none⟩ := by
  unfold Addr.add
  split
  · rename_i h; rw [h]; rfl
  · rfl
theorem read4 {w : World} {g : Nat} {l : List Int} {t : TypeId} (h : w.heap[g]? = some (.cells (byteC l).toArray t (0, 0))) (hl : l.length = 8) : ReadsInt w .u8 (some ⟨g, 0, none⟩) 4 (l.take 4) :=
  ⟨by rw [List.length_take]; omega, by decide, fun _ => ⟨_, rfl, fun j hj => by
    rw [add_any, Nat.zero_add, row_cell h j (by omega), List.getD_eq_getElem?_getD, List.getD_eq_getElem?_getD, List.getElem?_take_of_lt hj]⟩⟩
theorem le4_len (v : Int) : (le4 v).length = 4 := rfl
theorem mk_opS {P : Program} {w w' : World} {ρ : Operand → Value} {o : Oper} (t : TypeId) (l c : Operand) (ho : o.op = .makeSlice t l c) (L C v : Value) (hl : ρ l = L) (hc : ρ c = C) (hr : (Instr.makeSlice t L C).run P w = .ok v w') : (execOp ρ o).run P w = .ok (.value v) w' := by
  unfold execOp
  simp [ho, hl, hc, hr, Result.andThen]
theorem mk8 (w : World) : (Instr.makeSlice 28 (.int .i64 8) (.int .i64 8)).run Tryd.prog w = .ok (.slice (some ⟨w.heap.size, 0, none⟩) 8 8) (w.alloc (.cells (byteC (List.replicate 8 0)).toArray 5)) := by kernel_rfl
set_option maxRecDepth 100000 in
theorem borrowC (w : World) : Calls Tryd.prog 23 #[.agg #[]] w fun e w' => ∃ gb, e = .returned (.slice (some ⟨gb, 0, none⟩) 8 8) ∧ w'.heap[gb]? = some (.cells (byteC (List.replicate 8 0)).toArray 5 (0, 0)) ∧ w.heap.size ≤ gb ∧ Below w.heap.size w w' := by
  go_enter Tryd.func23, Tryd.ntmps23
  go_upto_region 1 with fail
  generalize hw1 : World.alloc _ _ = w1
  have HB1 : Aside0 (Below w.heap.size w w1) := ⟨by rw [← hw1]; exact below_alloc (Below.refl _ _) _⟩
  clear hw1
  go_wp2_with ((with_reducible refine at_dst (N := 3) rfl ?_); refine wpList_run rfl _ (mk_opS 28 (.const (.int .i64 8)) (.const (.int .i64 8)) rfl _ _ _ rfl rfl (mk8 w1)) ?_)
  go_ret
  exact ⟨_, rfl, heap_alloc_new w1 _, HB1.out.size, below_alloc HB1.out _⟩
set_option maxRecDepth 100000 in
theorem returnC (x : Value) (w : World) : Calls Tryd.prog 24 #[.agg #[], x] w fun e w' => e = .returned (.tuple #[]) ∧ Below w.heap.size w w' := by
  go_enter Tryd.func24, Tryd.ntmps24
  go_wp2_with fail
  go_end0
  exact ⟨rfl, below_alloc (Below.refl _ _) _⟩
theorem below_trV {w w1 w2 : World} (h : Below w.heap.size w w1) (k : Below w1.heap.size w1 w2) : Below w.heap.size w w2 :=
  ⟨k.os.trans h.os, k.tape.trans h.tape, k.output.trans h.output, Nat.le_trans h.size k.size, fun i hi => (k.block i (Nat.lt_of_lt_of_le hi h.size)).trans (h.block i hi)⟩
end Go.Proofs.YtpogfbompljkkaaDoor.Snk
/- A number is written, short where it is small. -/
namespace Go.Proofs.YtpogfbompljkkaaDoor.Snk
open Go.RowKit Go.Proofs.YtpogfbompljkkaaDoorW.PrintWords Go.Proofs.YtpogfbompljkkaaDoorW.PrintLast Go.Proofs.YtpogfbompljkkaaDoorW.PrintMore
set_option linter.unusedVariables false
set_option linter.unusedSimpArgs false
theorem readN {w : World} {g n : Nat} {l p : List Int} {t : TypeId} (h : w.heap[g]? = some (.cells (byteC l).toArray t (0, 0))) (hn : n ≤ l.length) (h64 : n ≤ 64) (hp : p = l.take n) : ReadsInt w .u8 (some ⟨g, 0, none⟩) n p := by
  subst hp
  exact ⟨by rw [List.length_take]; omega, by omega, fun _ => ⟨_, rfl, fun j hj => by
    rw [add_any, Nat.zero_add, row_cell h j (by omega), List.getD_eq_getElem?_getD, List.getD_eq_getElem?_getD, List.getElem?_take_of_lt hj]⟩⟩
theorem take_put1 (l : List Int) (x : Int) (hl : l.length = 8) : [x] = (l.set 0 x).take 1 := by
  match l, hl with
  | _ :: _, _ => rfl
theorem take_put3 (l : List Int) (a v : Int) (hl : l.length = 8) : a :: le2 v = (lput2 (l.set 0 a) 1 v).take 3 := by
  match l, hl with
  | [_, _, _, _, _, _, _, _], _ => rfl
theorem take_put5 (l : List Int) (a v : Int) (hl : l.length = 8) : a :: le4 v = (lput4 (l.set 0 a) 1 v).take 5 := by
  match l, hl with
  | [_, _, _, _, _, _, _, _], _ => rfl
/-- A number's bytes. -/
def viB (x : Int) : List Int := if x < 253 then [x] else if x ≤ 65535 then 253 :: le2 x else 254 :: le4 x
theorem viB_len (x : Int) : (viB x).length ≤ 5 := by
  unfold viB
  split
  · exact (by decide : 1 ≤ 5)
  · split
    · exact (by decide : 3 ≤ 5)
    · exact (by decide : 5 ≤ 5)
set_option maxRecDepth 100000 in
set_option maxHeartbeats 4000000 in
theorem varInt1C {w0 : World} {T : TypeId} {v : Value} {f M : Nat} (S : Sink Tryd.prog w0 T v f M) {fn : Func} (hf : Tryd.prog.funcs[f]? = some fn) (hname : (fn.name == "runtime.NumGoroutine") = false) (hbd : fn.body.isSome = true) (gb : Nat) (pv x : Int) (h0 : 0 ≤ x) (hx : x < 253) (wE w : World) (bs l : List Int) (tb : TypeId)
    (hs : S.St w bs) (hE : Step S wE w) (hgE : wE.heap.size ≤ gb) (hg0 : w0.heap.size ≤ gb) (hno : ¬ S.own w gb) (hl : l.length = 8) (hrow : w.heap[gb]? = some (.cells (byteC l).toArray tb (0, 0))) (hM : bs.length + 1 ≤ M) :
    Calls Tryd.prog 30 #[.iface T v, .int .u32 pv, .int .u64 x, .slice (some ⟨gb, 0, none⟩) 8 8] w fun e w' => e = .returned .nilIface ∧ S.St w' (bs ++ [x]) ∧ Step S wE w' := by
  have HF := Aside0.mk hf
  have HNM := Aside0.mk hname
  have HBD := Aside0.mk hbd
  have HM := Aside0.mk hM
  have HGE := Aside0.mk hgE
  have HG0 := Aside0.mk hg0
  have HS0 := Aside0.mk hs
  have HE0 := Aside0.mk hE
  have HN0 := Aside0.mk hno
  have HL0 := Aside0.mk hl
  have HR0 := Aside0.mk hrow
  have HX : Aside0 (x % 256 = x) := ⟨by omega⟩
  clear hf hname hbd hM hgE hg0 hs hE hno hrow hl
  have z0 := row_cell HR0.out 0 (by rw [HL0.out]; decide)
  have f0 := frozen_of HR0.out 0
  go_enter Tryd.func30, Tryd.ntmps30
  go_upto_region 10 with fail
  clear z0 f0
  generalize hv1 : World.setCell _ _ _ = v1
  have HR1 : Aside0 (v1.heap[gb]? = some (.cells (byteC (l.set 0 (x))).toArray tb (0, 0))) := ⟨by rw [← hv1]; exact row_set HR0.out _ _⟩
  have P1 : Aside0 (Only gb w v1) := ⟨by rw [← hv1]; exact (Only.refl _ _).set _ _⟩
  clear hv1
  obtain ⟨hs1, he1, hn1⟩ := only_step HS0.out HE0.out HGE.out HG0.out HN0.out P1.out
  have HS1 := Aside0.mk hs1
  have HE1 := Aside0.mk he1
  have HN1 := Aside0.mk hn1
  have HL1 : Aside0 ((l.set 0 (x)).length = 8) := ⟨by rw [List.length_set]; exact HL0.out⟩
  clear hs1 he1 hn1
  obtain ⟨q, hq⟩ : ∃ q, q = [x] := ⟨_, rfl⟩
  have HQ := Aside0.mk hq
  have HW : Aside0 (Calls Tryd.prog f #[v, .slice (some ⟨gb, 0, none⟩) 1 8] (World.drew v1) fun e w' => e = .returned (.tuple #[.int .i64 1, .nilIface]) ∧ S.St w' (bs ++ q) ∧ Step S v1 w') := ⟨by
    subst hq
    have b0 := below_step HS1.out (show Below v1.heap.size v1 v1.drew from ⟨rfl, rfl, rfl, Nat.le_refl _, fun _ _ => rfl⟩)
    exact (S.writeC b0.1 (n := 1) (by rfl) HM.out (by decide) (readN (w := World.drew v1) HR1.out (by rw [HL1.out]; decide) (by decide) (by exact take_put1 l x HL0.out)) (fun _ a e hw => by obtain rfl := Option.some.inj e; exact HN1.out (b0.2.grow gb hw |>.elim id (fun h => absurd (blk_lt' HR1.out) (Nat.not_lt.2 h))))).mono fun e w' ⟨h1, h2, h3⟩ => ⟨h1, h2, b0.2.trans h3⟩⟩
  clear hq
  refine start_ (n := 12) (S := fun w' => True) (ds := []) #[false, false, false, false, false, false, false, false, false, false, false, false] (by kernel_rfl) rfl rfl trivial (fun hHeld => ?_)
  refine pure_ (i := 0) (N := some 53) (v := ?_) (a' := ?_) #[true, false, false, false, false, false, false, false, false, false, false, false] rfl rfl (by kernel_rfl) (fun _ _ _ h => h) (Or.inl ⟨by rfl, ?_⟩) ?_ ?_
  rotate_left
  · intro w'
    go_simp
    with_reducible rfl
  rotate_left
  · simp only [Act.put, List.setIfInBounds_toArray, List.set_cons_zero, List.set_cons_succ, i64_w, i32_w]
    rfl
  refine pure_ (i := 1) (N := some 54) (v := ?_) (a' := ?_) #[true, true, false, false, false, false, false, false, false, false, false, false] rfl rfl (by kernel_rfl) (fun _ _ _ h => h) (Or.inl ⟨by rfl, ?_⟩) ?_ ?_
  rotate_left
  · intro w'
    go_simp
    with_reducible rfl
  rotate_left
  · simp only [Act.put, List.setIfInBounds_toArray, List.set_cons_zero, List.set_cons_succ, i64_w, i32_w]
    rfl
  refine pure_ (i := 2) (N := some 55) (v := ?_) (a' := ?_) #[true, true, true, false, false, false, false, false, false, false, false, false] rfl rfl (by kernel_rfl) (fun _ _ _ h => h) (Or.inl ⟨by rfl, ?_⟩) ?_ ?_
  rotate_left
  · intro w'
    go_simp
    with_reducible rfl
  rotate_left
  · simp only [Act.put, List.setIfInBounds_toArray, List.set_cons_zero, List.set_cons_succ, i64_w, i32_w]
    rfl
  refine pure_ (i := 3) (N := some 56) (v := ?_) (a' := ?_) #[true, true, true, true, false, false, false, false, false, false, false, false] rfl rfl (by kernel_rfl) (fun _ _ _ h => h) (Or.inl ⟨by rfl, ?_⟩) ?_ ?_
  rotate_left
  · intro w'
    go_simp
    with_reducible rfl
  rotate_left
  · simp only [Act.put, List.setIfInBounds_toArray, List.set_cons_zero, List.set_cons_succ, i64_w, i32_w]
    rfl
  refine pure_ (i := 4) (N := some 57) (v := ?_) (a' := ?_) #[true, true, true, true, true, false, false, false, false, false, false, false] rfl rfl (by kernel_rfl) (fun _ _ _ h => h) (Or.inl ⟨by rfl, ?_⟩) ?_ ?_
  rotate_left
  · intro w'
    refine nil_run S.nil _ (.tmp 56) ?_ ?_ <;> rfl
  rotate_left
  · simp only [Act.put, List.setIfInBounds_toArray, List.set_cons_zero, List.set_cons_succ, i64_w, i32_w]
    rfl
  refine pure_ (i := 5) (N := some 58) (v := ?_) (a' := ?_) #[true, true, true, true, true, true, false, false, false, false, false, false] rfl rfl (by kernel_rfl) (fun _ _ _ h => h) (Or.inl ⟨by rfl, ?_⟩) ?_ ?_
  rotate_left
  · intro w'
    go_simp
    with_reducible rfl
  rotate_left
  · simp only [Act.put, List.setIfInBounds_toArray, List.set_cons_zero, List.set_cons_succ, i64_w, i32_w]
    rfl
  refine one_ (i := 6) (N := some 59) #[true, true, true, true, true, true, true, false, false, false, false, false] rfl rfl (by kernel_rfl) (by decide) (fun K hK => ?_)
  refine goesI_ (by rfl) rfl (.tmp 58) "Write" rfl T v rfl f S.meth HF.out HNM.out HBD.out #[v, .slice (some ⟨gb, 0, none⟩) 1 8] (by (try simp only [List.map_toArray, List.map_cons, List.map_nil]); first | done | rfl | (simp only [List.length_drop, List.length_take]; rfl)) ?_
  with_reducible refine HW.out.mono ?_
  rintro e v2 ⟨rfl, k1, k2⟩
  refine ⟨_, rfl, ?_⟩
  have HS2 := Aside0.mk k1
  have X := Aside0.mk k2
  clear k1 k2
  refine hK.out _ _ trivial (fun hHeld => ?_)
  clear hK K
  refine norm_ (a' := ?_) ?_ ?_
  rotate_left
  · show Act.put _ (some 59) _ = _
    simp only [Act.put, List.setIfInBounds_toArray, List.set_cons_zero, List.set_cons_succ, i64_w, i32_w]
    rfl
  refine pure_ (i := 7) (N := some 52) (v := ?_) (a' := ?_) #[true, true, true, true, true, true, true, true, false, false, false, false] rfl rfl (by kernel_rfl) (fun _ _ _ h => h) (Or.inl ⟨by rfl, ?_⟩) ?_ ?_
  rotate_left
  · intro w'
    go_simp
    with_reducible rfl
  rotate_left
  · simp only [Act.put, List.setIfInBounds_toArray, List.set_cons_zero, List.set_cons_succ, i64_w, i32_w]
    rfl
  refine pure_ (i := 8) (N := some 60) (v := ?_) (a' := ?_) #[true, true, true, true, true, true, true, true, true, false, false, false] rfl rfl (by kernel_rfl) (fun _ _ _ h => h) (Or.inl ⟨by rfl, ?_⟩) ?_ ?_
  rotate_left
  · intro w'
    go_simp
    with_reducible rfl
  rotate_left
  · simp only [Act.put, List.setIfInBounds_toArray, List.set_cons_zero, List.set_cons_succ, i64_w, i32_w]
    rfl
  refine pure_ (i := 9) (N := some 61) (v := ?_) (a' := ?_) #[true, true, true, true, true, true, true, true, true, true, false, false] rfl rfl (by kernel_rfl) (fun _ _ _ h => h) (Or.inl ⟨by rfl, ?_⟩) ?_ ?_
  rotate_left
  · intro w'
    go_simp
    with_reducible rfl
  rotate_left
  · simp only [Act.put, List.setIfInBounds_toArray, List.set_cons_zero, List.set_cons_succ, i64_w, i32_w]
    rfl
  refine pure_ (i := 10) (N := some 9) (v := ?_) (a' := ?_) #[true, true, true, true, true, true, true, true, true, true, true, false] rfl rfl (by kernel_rfl) (fun _ _ _ h => h) (Or.inl ⟨by rfl, ?_⟩) ?_ ?_
  rotate_left
  · intro w'
    go_simp
    with_reducible rfl
  rotate_left
  · simp only [Act.put, List.setIfInBounds_toArray, List.set_cons_zero, List.set_cons_succ, i64_w, i32_w]
    rfl
  refine pure_ (i := 11) (N := some 10) (v := ?_) (a' := ?_) #[true, true, true, true, true, true, true, true, true, true, true, true] rfl rfl (by kernel_rfl) (fun _ _ _ h => h) (Or.inl ⟨by rfl, ?_⟩) ?_ ?_
  rotate_left
  · intro w'
    go_simp
    with_reducible rfl
  rotate_left
  · simp only [Act.put, List.setIfInBounds_toArray, List.set_cons_zero, List.set_cons_succ, i64_w, i32_w]
    rfl
  refine done_ (by kernel_rfl) ?_
  go_wp2_with fail
  go_ret
  exact ⟨rfl, by have := HQ.out; subst this; exact HS2.out, HE1.out.trans X.out⟩
set_option maxRecDepth 100000 in
set_option maxHeartbeats 4000000 in
theorem varInt3C {w0 : World} {T : TypeId} {v : Value} {f M : Nat} (S : Sink Tryd.prog w0 T v f M) {fn : Func} (hf : Tryd.prog.funcs[f]? = some fn) (hname : (fn.name == "runtime.NumGoroutine") = false) (hbd : fn.body.isSome = true) (gb : Nat) (pv x : Int) (h0 : ¬ x < 253) (hx : x ≤ 65535) (wE w : World) (bs l : List Int) (tb : TypeId)
    (hs : S.St w bs) (hE : Step S wE w) (hgE : wE.heap.size ≤ gb) (hg0 : w0.heap.size ≤ gb) (hno : ¬ S.own w gb) (hl : l.length = 8) (hrow : w.heap[gb]? = some (.cells (byteC l).toArray tb (0, 0))) (hM : bs.length + 3 ≤ M) :
    Calls Tryd.prog 30 #[.iface T v, .int .u32 pv, .int .u64 x, .slice (some ⟨gb, 0, none⟩) 8 8] w fun e w' => e = .returned .nilIface ∧ S.St w' (bs ++ (253 :: le2 x)) ∧ Step S wE w' := by
  have HF := Aside0.mk hf
  have HNM := Aside0.mk hname
  have HBD := Aside0.mk hbd
  have HM := Aside0.mk hM
  have HGE := Aside0.mk hgE
  have HG0 := Aside0.mk hg0
  have HS0 := Aside0.mk hs
  have HE0 := Aside0.mk hE
  have HN0 := Aside0.mk hno
  have HL0 := Aside0.mk hl
  have HR0 := Aside0.mk hrow
  have HX : Aside0 (x % 65536 = x) := ⟨by omega⟩
  clear hf hname hbd hM hgE hg0 hs hE hno hrow hl
  have z0 := row_cell HR0.out 0 (by rw [HL0.out]; decide)
  have f0 := frozen_of HR0.out 0
  go_enter Tryd.func30, Tryd.ntmps30
  go_upto_region 14 with fail
  clear z0 f0
  generalize hv1 : World.setCell _ _ _ = v1
  have HR1 : Aside0 (v1.heap[gb]? = some (.cells (byteC (l.set 0 (253))).toArray tb (0, 0))) := ⟨by rw [← hv1]; exact row_set HR0.out _ _⟩
  have P1 : Aside0 (Only gb w v1) := ⟨by rw [← hv1]; exact (Only.refl _ _).set _ _⟩
  clear hv1
  obtain ⟨hs1, he1, hn1⟩ := only_step HS0.out HE0.out HGE.out HG0.out HN0.out P1.out
  have HS1 := Aside0.mk hs1
  have HE1 := Aside0.mk he1
  have HN1 := Aside0.mk hn1
  have HL1 : Aside0 ((l.set 0 (253)).length = 8) := ⟨by rw [List.length_set]; exact HL0.out⟩
  clear hs1 he1 hn1
  have HRd : Aside0 ((World.drew v1).heap[gb]? = some (.cells (byteC (l.set 0 (253))).toArray tb (0, 0))) := ⟨HR1.out⟩
  refine start_ (n := 6) (S := fun w' => True) (ds := []) #[false, false, false, false, false, false] (by kernel_rfl) rfl rfl trivial (fun hHeld => ?_)
  refine take_ (i := 0) (N := some 68) (v := ?_) (a' := ?_) #[true, false, false, false, false, false] rfl rfl (by kernel_rfl) (fun _ _ _ h => h) (Or.inl ⟨by rfl, ?_⟩) hHeld ?_ ?_
  rotate_left
  · rintro w' s0
    go_simp
    with_reducible rfl
  rotate_left
  · simp only [Act.put, List.setIfInBounds_toArray, List.set_cons_zero, List.set_cons_succ, i64_w, i32_w]
    rfl
  refine pure_ (i := 1) (N := some 69) (v := ?_) (a' := ?_) #[true, true, false, false, false, false] rfl rfl (by kernel_rfl) (fun _ _ _ h => h) (Or.inl ⟨by rfl, ?_⟩) ?_ ?_
  rotate_left
  · intro w'
    go_simp
    with_reducible rfl
  rotate_left
  · simp only [Act.put, List.setIfInBounds_toArray, List.set_cons_zero, List.set_cons_succ, i64_w, i32_w]
    rfl
  refine pure_ (i := 2) (N := some 70) (v := ?_) (a' := ?_) #[true, true, true, false, false, false] rfl rfl (by kernel_rfl) (fun _ _ _ h => h) (Or.inl ⟨by rfl, ?_⟩) ?_ ?_
  rotate_left
  · intro w'
    go_simp
    with_reducible rfl
  rotate_left
  · simp only [Act.put, List.setIfInBounds_toArray, List.set_cons_zero, List.set_cons_succ, i64_w, i32_w]
    rfl
  refine pure_ (i := 3) (N := some 71) (v := ?_) (a' := ?_) #[true, true, true, true, false, false] rfl rfl (by kernel_rfl) (fun _ _ _ h => h) (Or.inl ⟨by rfl, ?_⟩) ?_ ?_
  rotate_left
  · intro w'
    go_simp
    with_reducible rfl
  rotate_left
  · simp only [Act.put, List.setIfInBounds_toArray, List.set_cons_zero, List.set_cons_succ, i64_w, i32_w]
    rfl
  refine pure_ (i := 4) (N := some 72) (v := ?_) (a' := ?_) #[true, true, true, true, true, false] rfl rfl (by kernel_rfl) (fun _ _ _ h => h) (Or.inl ⟨by rfl, ?_⟩) ?_ ?_
  rotate_left
  · intro w'
    go_simp
    with_reducible rfl
  rotate_left
  · simp only [Act.put, List.setIfInBounds_toArray, List.set_cons_zero, List.set_cons_succ, i64_w, i32_w]
    rfl
  refine one_ (i := 5) (N := some 73) #[true, true, true, true, true, true] rfl rfl (by kernel_rfl) (by decide) (fun K hK => ?_)
  refine goes_ Tryd.func36 (by kernel_rfl) rfl #[.agg #[], .slice (some ⟨gb, 1, none⟩) 2 7, .int .u16 (x % 65536)] (by rfl) rfl rfl (by (try simp only [List.map_toArray, List.map_cons, List.map_nil]); first | done | rfl | (simp only [List.length_drop, List.length_take]; rfl)) ?_
  with_reducible refine (lput2C gb 1 2 7 _ _ (x % 65536) (.agg #[]) _ HRd.out (by rw [HL1.out]; decide) (by decide)).mono ?_
  rintro e v2 ⟨rfl, k1, k2⟩
  refine ⟨_, rfl, ?_⟩
  have HR2 := Aside0.mk k1
  have P2 : Aside0 (Only gb v1 v2) := ⟨⟨k2.os, k2.tape, k2.output, k2.size, k2.block⟩⟩
  clear k1 k2
  refine hK.out _ _ trivial (fun hHeld => ?_)
  clear hK K
  refine norm_ (a' := ?_) ?_ ?_
  rotate_left
  · show Act.put _ (some 73) _ = _
    simp only [Act.put, List.setIfInBounds_toArray, List.set_cons_zero, List.set_cons_succ, i64_w, i32_w]
    rfl
  refine done_ (by kernel_rfl) ?_
  obtain ⟨hs2, he2, hn2⟩ := only_step HS1.out HE1.out HGE.out HG0.out HN1.out P2.out
  have HS2 := Aside0.mk hs2
  have HE2 := Aside0.mk he2
  have HN2 := Aside0.mk hn2
  have HL2 : Aside0 ((lput2 (l.set 0 (253)) 1 (x % 65536)).length = 8) := ⟨by rw [lput2_len]; exact HL1.out⟩
  clear hs2 he2 hn2 hHeld
  go_upto_region 15 with fail
  obtain ⟨q, hq⟩ : ∃ q, q = (253 :: le2 x) := ⟨_, rfl⟩
  have HQ := Aside0.mk hq
  have HW : Aside0 (Calls Tryd.prog f #[v, .slice (some ⟨gb, 0, none⟩) 3 8] (World.drew v2) fun e w' => e = .returned (.tuple #[.int .i64 3, .nilIface]) ∧ S.St w' (bs ++ q) ∧ Step S v2 w') := ⟨by
    subst hq
    have b0 := below_step HS2.out (show Below v2.heap.size v2 v2.drew from ⟨rfl, rfl, rfl, Nat.le_refl _, fun _ _ => rfl⟩)
    exact (S.writeC b0.1 (n := 3) (by rfl) HM.out (by decide) (readN (w := World.drew v2) HR2.out (by rw [HL2.out]; decide) (by decide) (by rw [HX.out]; exact take_put3 l 253 x HL0.out)) (fun _ a e hw => by obtain rfl := Option.some.inj e; exact HN2.out (b0.2.grow gb hw |>.elim id (fun h => absurd (blk_lt' HR2.out) (Nat.not_lt.2 h))))).mono fun e w' ⟨h1, h2, h3⟩ => ⟨h1, h2, b0.2.trans h3⟩⟩
  clear hq
  refine start_ (n := 12) (S := fun w' => True) (ds := []) #[false, false, false, false, false, false, false, false, false, false, false, false] (by kernel_rfl) rfl rfl trivial (fun hHeld => ?_)
  refine pure_ (i := 0) (N := some 75) (v := ?_) (a' := ?_) #[true, false, false, false, false, false, false, false, false, false, false, false] rfl rfl (by kernel_rfl) (fun _ _ _ h => h) (Or.inl ⟨by rfl, ?_⟩) ?_ ?_
  rotate_left
  · intro w'
    go_simp
    with_reducible rfl
  rotate_left
  · simp only [Act.put, List.setIfInBounds_toArray, List.set_cons_zero, List.set_cons_succ, i64_w, i32_w]
    rfl
  refine pure_ (i := 1) (N := some 76) (v := ?_) (a' := ?_) #[true, true, false, false, false, false, false, false, false, false, false, false] rfl rfl (by kernel_rfl) (fun _ _ _ h => h) (Or.inl ⟨by rfl, ?_⟩) ?_ ?_
  rotate_left
  · intro w'
    go_simp
    with_reducible rfl
  rotate_left
  · simp only [Act.put, List.setIfInBounds_toArray, List.set_cons_zero, List.set_cons_succ, i64_w, i32_w]
    rfl
  refine pure_ (i := 2) (N := some 77) (v := ?_) (a' := ?_) #[true, true, true, false, false, false, false, false, false, false, false, false] rfl rfl (by kernel_rfl) (fun _ _ _ h => h) (Or.inl ⟨by rfl, ?_⟩) ?_ ?_
  rotate_left
  · intro w'
    go_simp
    with_reducible rfl
  rotate_left
  · simp only [Act.put, List.setIfInBounds_toArray, List.set_cons_zero, List.set_cons_succ, i64_w, i32_w]
    rfl
  refine pure_ (i := 3) (N := some 78) (v := ?_) (a' := ?_) #[true, true, true, true, false, false, false, false, false, false, false, false] rfl rfl (by kernel_rfl) (fun _ _ _ h => h) (Or.inl ⟨by rfl, ?_⟩) ?_ ?_
  rotate_left
  · intro w'
    go_simp
    with_reducible rfl
  rotate_left
  · simp only [Act.put, List.setIfInBounds_toArray, List.set_cons_zero, List.set_cons_succ, i64_w, i32_w]
    rfl
  refine pure_ (i := 4) (N := some 79) (v := ?_) (a' := ?_) #[true, true, true, true, true, false, false, false, false, false, false, false] rfl rfl (by kernel_rfl) (fun _ _ _ h => h) (Or.inl ⟨by rfl, ?_⟩) ?_ ?_
  rotate_left
  · intro w'
    refine nil_run S.nil _ (.tmp 78) ?_ ?_ <;> rfl
  rotate_left
  · simp only [Act.put, List.setIfInBounds_toArray, List.set_cons_zero, List.set_cons_succ, i64_w, i32_w]
    rfl
  refine pure_ (i := 5) (N := some 80) (v := ?_) (a' := ?_) #[true, true, true, true, true, true, false, false, false, false, false, false] rfl rfl (by kernel_rfl) (fun _ _ _ h => h) (Or.inl ⟨by rfl, ?_⟩) ?_ ?_
  rotate_left
  · intro w'
    go_simp
    with_reducible rfl
  rotate_left
  · simp only [Act.put, List.setIfInBounds_toArray, List.set_cons_zero, List.set_cons_succ, i64_w, i32_w]
    rfl
  refine one_ (i := 6) (N := some 81) #[true, true, true, true, true, true, true, false, false, false, false, false] rfl rfl (by kernel_rfl) (by decide) (fun K hK => ?_)
  refine goesI_ (by rfl) rfl (.tmp 80) "Write" rfl T v rfl f S.meth HF.out HNM.out HBD.out #[v, .slice (some ⟨gb, 0, none⟩) 3 8] (by (try simp only [List.map_toArray, List.map_cons, List.map_nil]); first | done | rfl | (simp only [List.length_drop, List.length_take]; rfl)) ?_
  with_reducible refine HW.out.mono ?_
  rintro e v3 ⟨rfl, k1, k2⟩
  refine ⟨_, rfl, ?_⟩
  have HS3 := Aside0.mk k1
  have X := Aside0.mk k2
  clear k1 k2
  refine hK.out _ _ trivial (fun hHeld => ?_)
  clear hK K
  refine norm_ (a' := ?_) ?_ ?_
  rotate_left
  · show Act.put _ (some 81) _ = _
    simp only [Act.put, List.setIfInBounds_toArray, List.set_cons_zero, List.set_cons_succ, i64_w, i32_w]
    rfl
  refine pure_ (i := 7) (N := some 74) (v := ?_) (a' := ?_) #[true, true, true, true, true, true, true, true, false, false, false, false] rfl rfl (by kernel_rfl) (fun _ _ _ h => h) (Or.inl ⟨by rfl, ?_⟩) ?_ ?_
  rotate_left
  · intro w'
    go_simp
    with_reducible rfl
  rotate_left
  · simp only [Act.put, List.setIfInBounds_toArray, List.set_cons_zero, List.set_cons_succ, i64_w, i32_w]
    rfl
  refine pure_ (i := 8) (N := some 82) (v := ?_) (a' := ?_) #[true, true, true, true, true, true, true, true, true, false, false, false] rfl rfl (by kernel_rfl) (fun _ _ _ h => h) (Or.inl ⟨by rfl, ?_⟩) ?_ ?_
  rotate_left
  · intro w'
    go_simp
    with_reducible rfl
  rotate_left
  · simp only [Act.put, List.setIfInBounds_toArray, List.set_cons_zero, List.set_cons_succ, i64_w, i32_w]
    rfl
  refine pure_ (i := 9) (N := some 83) (v := ?_) (a' := ?_) #[true, true, true, true, true, true, true, true, true, true, false, false] rfl rfl (by kernel_rfl) (fun _ _ _ h => h) (Or.inl ⟨by rfl, ?_⟩) ?_ ?_
  rotate_left
  · intro w'
    go_simp
    with_reducible rfl
  rotate_left
  · simp only [Act.put, List.setIfInBounds_toArray, List.set_cons_zero, List.set_cons_succ, i64_w, i32_w]
    rfl
  refine pure_ (i := 10) (N := some 11) (v := ?_) (a' := ?_) #[true, true, true, true, true, true, true, true, true, true, true, false] rfl rfl (by kernel_rfl) (fun _ _ _ h => h) (Or.inl ⟨by rfl, ?_⟩) ?_ ?_
  rotate_left
  · intro w'
    go_simp
    with_reducible rfl
  rotate_left
  · simp only [Act.put, List.setIfInBounds_toArray, List.set_cons_zero, List.set_cons_succ, i64_w, i32_w]
    rfl
  refine pure_ (i := 11) (N := some 12) (v := ?_) (a' := ?_) #[true, true, true, true, true, true, true, true, true, true, true, true] rfl rfl (by kernel_rfl) (fun _ _ _ h => h) (Or.inl ⟨by rfl, ?_⟩) ?_ ?_
  rotate_left
  · intro w'
    go_simp
    with_reducible rfl
  rotate_left
  · simp only [Act.put, List.setIfInBounds_toArray, List.set_cons_zero, List.set_cons_succ, i64_w, i32_w]
    rfl
  refine done_ (by kernel_rfl) ?_
  go_wp2_with fail
  go_ret
  exact ⟨rfl, by have := HQ.out; subst this; exact HS3.out, HE2.out.trans X.out⟩
set_option maxRecDepth 100000 in
set_option maxHeartbeats 4000000 in
theorem varInt5C {w0 : World} {T : TypeId} {v : Value} {f M : Nat} (S : Sink Tryd.prog w0 T v f M) {fn : Func} (hf : Tryd.prog.funcs[f]? = some fn) (hname : (fn.name == "runtime.NumGoroutine") = false) (hbd : fn.body.isSome = true) (gb : Nat) (pv x : Int) (h0 : ¬ x < 253) (h1 : ¬ x ≤ 65535) (hx : x ≤ 4294967295) (wE w : World) (bs l : List Int) (tb : TypeId)
    (hs : S.St w bs) (hE : Step S wE w) (hgE : wE.heap.size ≤ gb) (hg0 : w0.heap.size ≤ gb) (hno : ¬ S.own w gb) (hl : l.length = 8) (hrow : w.heap[gb]? = some (.cells (byteC l).toArray tb (0, 0))) (hM : bs.length + 5 ≤ M) :
    Calls Tryd.prog 30 #[.iface T v, .int .u32 pv, .int .u64 x, .slice (some ⟨gb, 0, none⟩) 8 8] w fun e w' => e = .returned .nilIface ∧ S.St w' (bs ++ (254 :: le4 x)) ∧ Step S wE w' := by
  have HF := Aside0.mk hf
  have HNM := Aside0.mk hname
  have HBD := Aside0.mk hbd
  have HM := Aside0.mk hM
  have HGE := Aside0.mk hgE
  have HG0 := Aside0.mk hg0
  have HS0 := Aside0.mk hs
  have HE0 := Aside0.mk hE
  have HN0 := Aside0.mk hno
  have HL0 := Aside0.mk hl
  have HR0 := Aside0.mk hrow
  have HX : Aside0 (x % 4294967296 = x) := ⟨by omega⟩
  clear hf hname hbd hM hgE hg0 hs hE hno hrow hl
  have z0 := row_cell HR0.out 0 (by rw [HL0.out]; decide)
  have f0 := frozen_of HR0.out 0
  go_enter Tryd.func30, Tryd.ntmps30
  go_upto_region 19 with fail
  clear z0 f0
  generalize hv1 : World.setCell _ _ _ = v1
  have HR1 : Aside0 (v1.heap[gb]? = some (.cells (byteC (l.set 0 (254))).toArray tb (0, 0))) := ⟨by rw [← hv1]; exact row_set HR0.out _ _⟩
  have P1 : Aside0 (Only gb w v1) := ⟨by rw [← hv1]; exact (Only.refl _ _).set _ _⟩
  clear hv1
  obtain ⟨hs1, he1, hn1⟩ := only_step HS0.out HE0.out HGE.out HG0.out HN0.out P1.out
  have HS1 := Aside0.mk hs1
  have HE1 := Aside0.mk he1
  have HN1 := Aside0.mk hn1
  have HL1 : Aside0 ((l.set 0 (254)).length = 8) := ⟨by rw [List.length_set]; exact HL0.out⟩
  clear hs1 he1 hn1
  have HRd : Aside0 ((World.drew v1).heap[gb]? = some (.cells (byteC (l.set 0 (254))).toArray tb (0, 0))) := ⟨HR1.out⟩
  refine start_ (n := 6) (S := fun w' => True) (ds := []) #[false, false, false, false, false, false] (by kernel_rfl) rfl rfl trivial (fun hHeld => ?_)
  refine take_ (i := 0) (N := some 90) (v := ?_) (a' := ?_) #[true, false, false, false, false, false] rfl rfl (by kernel_rfl) (fun _ _ _ h => h) (Or.inl ⟨by rfl, ?_⟩) hHeld ?_ ?_
  rotate_left
  · rintro w' s0
    go_simp
    with_reducible rfl
  rotate_left
  · simp only [Act.put, List.setIfInBounds_toArray, List.set_cons_zero, List.set_cons_succ, i64_w, i32_w]
    rfl
  refine pure_ (i := 1) (N := some 91) (v := ?_) (a' := ?_) #[true, true, false, false, false, false] rfl rfl (by kernel_rfl) (fun _ _ _ h => h) (Or.inl ⟨by rfl, ?_⟩) ?_ ?_
  rotate_left
  · intro w'
    go_simp
    with_reducible rfl
  rotate_left
  · simp only [Act.put, List.setIfInBounds_toArray, List.set_cons_zero, List.set_cons_succ, i64_w, i32_w]
    rfl
  refine pure_ (i := 2) (N := some 92) (v := ?_) (a' := ?_) #[true, true, true, false, false, false] rfl rfl (by kernel_rfl) (fun _ _ _ h => h) (Or.inl ⟨by rfl, ?_⟩) ?_ ?_
  rotate_left
  · intro w'
    go_simp
    with_reducible rfl
  rotate_left
  · simp only [Act.put, List.setIfInBounds_toArray, List.set_cons_zero, List.set_cons_succ, i64_w, i32_w]
    rfl
  refine pure_ (i := 3) (N := some 93) (v := ?_) (a' := ?_) #[true, true, true, true, false, false] rfl rfl (by kernel_rfl) (fun _ _ _ h => h) (Or.inl ⟨by rfl, ?_⟩) ?_ ?_
  rotate_left
  · intro w'
    go_simp
    with_reducible rfl
  rotate_left
  · simp only [Act.put, List.setIfInBounds_toArray, List.set_cons_zero, List.set_cons_succ, i64_w, i32_w]
    rfl
  refine pure_ (i := 4) (N := some 94) (v := ?_) (a' := ?_) #[true, true, true, true, true, false] rfl rfl (by kernel_rfl) (fun _ _ _ h => h) (Or.inl ⟨by rfl, ?_⟩) ?_ ?_
  rotate_left
  · intro w'
    go_simp
    with_reducible rfl
  rotate_left
  · simp only [Act.put, List.setIfInBounds_toArray, List.set_cons_zero, List.set_cons_succ, i64_w, i32_w]
    rfl
  refine one_ (i := 5) (N := some 95) #[true, true, true, true, true, true] rfl rfl (by kernel_rfl) (by decide) (fun K hK => ?_)
  refine goes_ Tryd.func37 (by kernel_rfl) rfl #[.agg #[], .slice (some ⟨gb, 1, none⟩) 4 7, .int .u32 (x % 4294967296)] (by rfl) rfl rfl (by (try simp only [List.map_toArray, List.map_cons, List.map_nil]); first | done | rfl | (simp only [List.length_drop, List.length_take]; rfl)) ?_
  with_reducible refine (lput4C gb 1 4 7 _ _ (x % 4294967296) (.agg #[]) _ HRd.out (by rw [HL1.out]; decide) (by decide)).mono ?_
  rintro e v2 ⟨rfl, k1, k2⟩
  refine ⟨_, rfl, ?_⟩
  have HR2 := Aside0.mk k1
  have P2 : Aside0 (Only gb v1 v2) := ⟨⟨k2.os, k2.tape, k2.output, k2.size, k2.block⟩⟩
  clear k1 k2
  refine hK.out _ _ trivial (fun hHeld => ?_)
  clear hK K
  refine norm_ (a' := ?_) ?_ ?_
  rotate_left
  · show Act.put _ (some 95) _ = _
    simp only [Act.put, List.setIfInBounds_toArray, List.set_cons_zero, List.set_cons_succ, i64_w, i32_w]
    rfl
  refine done_ (by kernel_rfl) ?_
  obtain ⟨hs2, he2, hn2⟩ := only_step HS1.out HE1.out HGE.out HG0.out HN1.out P2.out
  have HS2 := Aside0.mk hs2
  have HE2 := Aside0.mk he2
  have HN2 := Aside0.mk hn2
  have HL2 : Aside0 ((lput4 (l.set 0 (254)) 1 (x % 4294967296)).length = 8) := ⟨by rw [lput4_len]; exact HL1.out⟩
  clear hs2 he2 hn2 hHeld
  go_upto_region 20 with fail
  obtain ⟨q, hq⟩ : ∃ q, q = (254 :: le4 x) := ⟨_, rfl⟩
  have HQ := Aside0.mk hq
  have HW : Aside0 (Calls Tryd.prog f #[v, .slice (some ⟨gb, 0, none⟩) 5 8] (World.drew v2) fun e w' => e = .returned (.tuple #[.int .i64 5, .nilIface]) ∧ S.St w' (bs ++ q) ∧ Step S v2 w') := ⟨by
    subst hq
    have b0 := below_step HS2.out (show Below v2.heap.size v2 v2.drew from ⟨rfl, rfl, rfl, Nat.le_refl _, fun _ _ => rfl⟩)
    exact (S.writeC b0.1 (n := 5) (by rfl) HM.out (by decide) (readN (w := World.drew v2) HR2.out (by rw [HL2.out]; decide) (by decide) (by rw [HX.out]; exact take_put5 l 254 x HL0.out)) (fun _ a e hw => by obtain rfl := Option.some.inj e; exact HN2.out (b0.2.grow gb hw |>.elim id (fun h => absurd (blk_lt' HR2.out) (Nat.not_lt.2 h))))).mono fun e w' ⟨h1, h2, h3⟩ => ⟨h1, h2, b0.2.trans h3⟩⟩
  clear hq
  refine start_ (n := 12) (S := fun w' => True) (ds := []) #[false, false, false, false, false, false, false, false, false, false, false, false] (by kernel_rfl) rfl rfl trivial (fun hHeld => ?_)
  refine pure_ (i := 0) (N := some 97) (v := ?_) (a' := ?_) #[true, false, false, false, false, false, false, false, false, false, false, false] rfl rfl (by kernel_rfl) (fun _ _ _ h => h) (Or.inl ⟨by rfl, ?_⟩) ?_ ?_
  rotate_left
  · intro w'
    go_simp
    with_reducible rfl
  rotate_left
  · simp only [Act.put, List.setIfInBounds_toArray, List.set_cons_zero, List.set_cons_succ, i64_w, i32_w]
    rfl
  refine pure_ (i := 1) (N := some 98) (v := ?_) (a' := ?_) #[true, true, false, false, false, false, false, false, false, false, false, false] rfl rfl (by kernel_rfl) (fun _ _ _ h => h) (Or.inl ⟨by rfl, ?_⟩) ?_ ?_
  rotate_left
  · intro w'
    go_simp
    with_reducible rfl
  rotate_left
  · simp only [Act.put, List.setIfInBounds_toArray, List.set_cons_zero, List.set_cons_succ, i64_w, i32_w]
    rfl
  refine pure_ (i := 2) (N := some 99) (v := ?_) (a' := ?_) #[true, true, true, false, false, false, false, false, false, false, false, false] rfl rfl (by kernel_rfl) (fun _ _ _ h => h) (Or.inl ⟨by rfl, ?_⟩) ?_ ?_
  rotate_left
  · intro w'
    go_simp
    with_reducible rfl
  rotate_left
  · simp only [Act.put, List.setIfInBounds_toArray, List.set_cons_zero, List.set_cons_succ, i64_w, i32_w]
    rfl
  refine pure_ (i := 3) (N := some 100) (v := ?_) (a' := ?_) #[true, true, true, true, false, false, false, false, false, false, false, false] rfl rfl (by kernel_rfl) (fun _ _ _ h => h) (Or.inl ⟨by rfl, ?_⟩) ?_ ?_
  rotate_left
  · intro w'
    go_simp
    with_reducible rfl
  rotate_left
  · simp only [Act.put, List.setIfInBounds_toArray, List.set_cons_zero, List.set_cons_succ, i64_w, i32_w]
    rfl
  refine pure_ (i := 4) (N := some 101) (v := ?_) (a' := ?_) #[true, true, true, true, true, false, false, false, false, false, false, false] rfl rfl (by kernel_rfl) (fun _ _ _ h => h) (Or.inl ⟨by rfl, ?_⟩) ?_ ?_
  rotate_left
  · intro w'
    refine nil_run S.nil _ (.tmp 100) ?_ ?_ <;> rfl
  rotate_left
  · simp only [Act.put, List.setIfInBounds_toArray, List.set_cons_zero, List.set_cons_succ, i64_w, i32_w]
    rfl
  refine pure_ (i := 5) (N := some 102) (v := ?_) (a' := ?_) #[true, true, true, true, true, true, false, false, false, false, false, false] rfl rfl (by kernel_rfl) (fun _ _ _ h => h) (Or.inl ⟨by rfl, ?_⟩) ?_ ?_
  rotate_left
  · intro w'
    go_simp
    with_reducible rfl
  rotate_left
  · simp only [Act.put, List.setIfInBounds_toArray, List.set_cons_zero, List.set_cons_succ, i64_w, i32_w]
    rfl
  refine one_ (i := 6) (N := some 103) #[true, true, true, true, true, true, true, false, false, false, false, false] rfl rfl (by kernel_rfl) (by decide) (fun K hK => ?_)
  refine goesI_ (by rfl) rfl (.tmp 102) "Write" rfl T v rfl f S.meth HF.out HNM.out HBD.out #[v, .slice (some ⟨gb, 0, none⟩) 5 8] (by (try simp only [List.map_toArray, List.map_cons, List.map_nil]); first | done | rfl | (simp only [List.length_drop, List.length_take]; rfl)) ?_
  with_reducible refine HW.out.mono ?_
  rintro e v3 ⟨rfl, k1, k2⟩
  refine ⟨_, rfl, ?_⟩
  have HS3 := Aside0.mk k1
  have X := Aside0.mk k2
  clear k1 k2
  refine hK.out _ _ trivial (fun hHeld => ?_)
  clear hK K
  refine norm_ (a' := ?_) ?_ ?_
  rotate_left
  · show Act.put _ (some 103) _ = _
    simp only [Act.put, List.setIfInBounds_toArray, List.set_cons_zero, List.set_cons_succ, i64_w, i32_w]
    rfl
  refine pure_ (i := 7) (N := some 96) (v := ?_) (a' := ?_) #[true, true, true, true, true, true, true, true, false, false, false, false] rfl rfl (by kernel_rfl) (fun _ _ _ h => h) (Or.inl ⟨by rfl, ?_⟩) ?_ ?_
  rotate_left
  · intro w'
    go_simp
    with_reducible rfl
  rotate_left
  · simp only [Act.put, List.setIfInBounds_toArray, List.set_cons_zero, List.set_cons_succ, i64_w, i32_w]
    rfl
  refine pure_ (i := 8) (N := some 104) (v := ?_) (a' := ?_) #[true, true, true, true, true, true, true, true, true, false, false, false] rfl rfl (by kernel_rfl) (fun _ _ _ h => h) (Or.inl ⟨by rfl, ?_⟩) ?_ ?_
  rotate_left
  · intro w'
    go_simp
    with_reducible rfl
  rotate_left
  · simp only [Act.put, List.setIfInBounds_toArray, List.set_cons_zero, List.set_cons_succ, i64_w, i32_w]
    rfl
  refine pure_ (i := 9) (N := some 105) (v := ?_) (a' := ?_) #[true, true, true, true, true, true, true, true, true, true, false, false] rfl rfl (by kernel_rfl) (fun _ _ _ h => h) (Or.inl ⟨by rfl, ?_⟩) ?_ ?_
  rotate_left
  · intro w'
    go_simp
    with_reducible rfl
  rotate_left
  · simp only [Act.put, List.setIfInBounds_toArray, List.set_cons_zero, List.set_cons_succ, i64_w, i32_w]
    rfl
  refine pure_ (i := 10) (N := some 13) (v := ?_) (a' := ?_) #[true, true, true, true, true, true, true, true, true, true, true, false] rfl rfl (by kernel_rfl) (fun _ _ _ h => h) (Or.inl ⟨by rfl, ?_⟩) ?_ ?_
  rotate_left
  · intro w'
    go_simp
    with_reducible rfl
  rotate_left
  · simp only [Act.put, List.setIfInBounds_toArray, List.set_cons_zero, List.set_cons_succ, i64_w, i32_w]
    rfl
  refine pure_ (i := 11) (N := some 14) (v := ?_) (a' := ?_) #[true, true, true, true, true, true, true, true, true, true, true, true] rfl rfl (by kernel_rfl) (fun _ _ _ h => h) (Or.inl ⟨by rfl, ?_⟩) ?_ ?_
  rotate_left
  · intro w'
    go_simp
    with_reducible rfl
  rotate_left
  · simp only [Act.put, List.setIfInBounds_toArray, List.set_cons_zero, List.set_cons_succ, i64_w, i32_w]
    rfl
  refine done_ (by kernel_rfl) ?_
  go_wp2_with fail
  go_ret
  exact ⟨rfl, by have := HQ.out; subst this; exact HS3.out, HE2.out.trans X.out⟩
theorem varIntC {w0 : World} {T : TypeId} {v : Value} {f M : Nat} (S : Sink Tryd.prog w0 T v f M) {fn : Func} (hf : Tryd.prog.funcs[f]? = some fn) (hname : (fn.name == "runtime.NumGoroutine") = false) (hbd : fn.body.isSome = true) (gb : Nat) (pv x : Int) (h0 : 0 ≤ x) (hx : x ≤ 4294967295) (wE w : World) (bs l : List Int) (tb : TypeId)
    (hs : S.St w bs) (hE : Step S wE w) (hgE : wE.heap.size ≤ gb) (hg0 : w0.heap.size ≤ gb) (hno : ¬ S.own w gb) (hl : l.length = 8) (hrow : w.heap[gb]? = some (.cells (byteC l).toArray tb (0, 0))) (hM : bs.length + 5 ≤ M) :
    Calls Tryd.prog 30 #[.iface T v, .int .u32 pv, .int .u64 x, .slice (some ⟨gb, 0, none⟩) 8 8] w fun e w' => e = .returned .nilIface ∧ S.St w' (bs ++ viB x) ∧ Step S wE w' := by
  unfold viB
  split
  · exact varInt1C S hf hname hbd gb pv x h0 ‹_› wE w bs l tb hs hE hgE hg0 hno hl hrow (by omega)
  · split
    · exact varInt3C S hf hname hbd gb pv x ‹_› ‹_› wE w bs l tb hs hE hgE hg0 hno hl hrow (by omega)
    · exact varInt5C S hf hname hbd gb pv x ‹_› ‹_› hx wE w bs l tb hs hE hgE hg0 hno hl hrow (by omega)
end Go.Proofs.YtpogfbompljkkaaDoor.Snk
/- A variable number is read. -/
namespace Go.Proofs.YtpogfbompljkkaaDoor.Snk
open Go.RowKit Go.Proofs.YtpogfbompljkkaaDoorW.PrintWords Go.Proofs.YtpogfbompljkkaaDoorW.PrintLast Go.Proofs.YtpogfbompljkkaaDoorW.PrintMore
set_option linter.unusedVariables false
set_option linter.unusedSimpArgs false
/-- A reader, and eight bytes to read into. -/
structure RBf (w0 : World) (rb gb : Nat) (v : Value) (w : World) (i : Nat) (lr : Int) (buf : List Int) : Prop where
  rd : RdC w rb v i lr
  bf : w.heap[gb]? = some (.cells (byteC buf).toArray 5 (0, 0))
  b8 : buf.length = 8
  w0 : Below w0.heap.size w0 w
theorem RBf.below {w0 w w' : World} {rb gb : Nat} {v : Value} {i : Nat} {lr : Int} {buf : List Int} (k : RBf w0 rb gb v w i lr buf) (hb : Below w.heap.size w w') : RBf w0 rb gb v w' i lr buf :=
  ⟨k.rd.below hb, (hb.block _ (blk_lt' k.bf)).trans k.bf, k.b8, below_then k.w0 k.w0.size hb⟩
theorem RBf.cell {w0 w : World} {rb gb : Nat} {v : Value} {i : Nat} {lr : Int} {buf : List Int} (k : RBf w0 rb gb v w i lr buf) {q : List Int} {m : Nat} (hq : buf.take m = q) (j : Nat) (hj : j < m) (h8 : j < 8) : w.cell? ⟨gb, j, none⟩ = some (.int .u8 (q.getD j 0)) := by
  refine cell_of k.bf ?_
  rw [List.getElem?_toArray, byteC_at (by rw [k.b8]; exact h8), ← hq, List.getD_eq_getElem?_getD, List.getD_eq_getElem?_getD, List.getElem?_take_of_lt hj]
section
variable {w0 : World} {rb gb n c : Nat} {A : Option Addr} {bs : List Int}
theorem rbRead (hrb : w0.heap.size ≤ rb) (hgb : w0.heap.size ≤ gb) (hne : gb ≠ rb) (hr : ReadsInt w0 .u8 A n bs) (hc : n ≤ c) (hn : n ≤ 1000000000) {w : World} {i : Nat} {lr : Int} {buf : List Int} (k : RBf w0 rb gb (.slice A n c) w i lr buf) (m : Nat) (hm : 0 < m) (hm8 : m ≤ 8) (hi : i + m ≤ n) :
    Calls Tryd.prog 33 #[.iface 51 (.pointer (some ⟨rb, 0, none⟩)), .slice (some ⟨gb, 0, none⟩) m 8] w fun e w' => e = .returned (.tuple #[.int .i64 (m : Int), .nilIface]) ∧ ∃ buf2, RBf w0 rb gb (.slice A n c) w' (i + m) (-1) buf2 ∧ buf2.take m = (bs.drop i).take m := by
  refine (readFullC w0 rb gb 0 m 8 i n c lr A bs _ 5 w k.w0 hrb hgb hne hr hc hn k.rd hm hm8 hi k.bf (by rw [List.size_toArray, byteC_len, k.b8]; omega)).mono fun e w' ⟨h1, h2, h3, h4⟩ => ⟨h1, ((bs.drop i).take m) ++ buf.drop m, ⟨h2, ?_, ?_, Turned.below0 k.w0 h4 hrb hgb⟩, ?_⟩
  · have e : (byteC (((bs.drop i).take m) ++ buf.drop m)) = byteC ((bs.drop i).take m) ++ (byteC buf).drop m := by unfold byteC; simp
    rw [e]
    rw [Nat.zero_add] at h3
    exact h3
  · rw [List.length_append, List.length_take, List.length_drop, List.length_drop, hr.1, k.b8]; omega
  · rw [List.take_left' (by rw [List.length_take, List.length_drop, hr.1]; omega)]
theorem RBf.le4 {w : World} {v : Value} {i : Nat} {lr : Int} {buf : List Int} (k : RBf w0 rb gb v w i lr buf) {x : Int} (h0 : 0 ≤ x) (h1 : x < 4294967296) (hx : buf.take 4 = le4 x) : Calls Tryd.prog 40 #[.agg #[], .slice (some ⟨gb, 0, none⟩) 4 8] w fun e w' => e = .returned (.int .u32 x) ∧ RBf w0 rb gb v w' i lr buf := by
  have hc : ∀ j, j < 4 → w.cell? ⟨gb, j, none⟩ = some (.int .u8 ((Snk.le4 x).getD j 0)) := fun j hj => k.cell hx j hj (by omega)
  have h := Tok.leUint32 ⟨gb, 0, none⟩ 4 8 (by decide) (x % 256) (x / 256 % 256) (x / 65536 % 256) (x / 16777216 % 256) (by omega) (by omega) (by omega) (by omega) (by omega) (by omega) (by omega) (by omega) w (hc 0 (by decide)) (hc 1 (by decide)) (hc 2 (by decide)) (hc 3 (by decide))
  exact h.mono fun e w' ⟨he, hb⟩ => ⟨by rw [he]; congr 2; omega, k.below hb⟩
theorem RBf.le2 {w : World} {v : Value} {i : Nat} {lr : Int} {buf : List Int} (k : RBf w0 rb gb v w i lr buf) {x : Int} (h0 : 0 ≤ x) (h1 : x < 65536) (hx : buf.take 2 = le2 x) : Calls Tryd.prog 41 #[.agg #[], .slice (some ⟨gb, 0, none⟩) 2 8] w fun e w' => e = .returned (.int .u16 x) ∧ RBf w0 rb gb v w' i lr buf := by
  have hc : ∀ j, j < 2 → w.cell? ⟨gb, j, none⟩ = some (.int .u8 ((Snk.le2 x).getD j 0)) := fun j hj => k.cell hx j hj (by omega)
  have h := Tok.leUint16 ⟨gb, 0, none⟩ 8 (x % 256) (x / 256 % 256) (by omega) (by omega) (by omega) (by omega) w (hc 0 (by decide)) (hc 1 (by decide))
  exact h.mono fun e w' ⟨he, hb⟩ => ⟨by rw [he]; congr 2; omega, k.below hb⟩
end
theorem u64r {x : Int} (h0 : 0 ≤ x) (h1 : x < 18446744073709551616) : IntKind.u64.wrap x = x := by
  unfold IntKind.wrap; simp [IntKind.signed, IntKind.bits]; omega
set_option maxRecDepth 100000 in
set_option maxHeartbeats 8000000 in
theorem readVi_a (w0 : World) (rb gb n c : Nat) (A : Option Addr) (pv x : Int) (tl : List Int) (lr : Int) (buf : List Int) (w : World) (hrb : w0.heap.size ≤ rb) (hgb : w0.heap.size ≤ gb) (hne : gb ≠ rb) (x0 : 0 ≤ x) (x1 : x < 253) (hr : ReadsInt w0 .u8 A n ([x] ++ tl)) (hc : n ≤ c) (hn : n ≤ 1000000000) (k : RBf w0 rb gb (.slice A n c) w 0 lr buf) :
    Calls Tryd.prog 31 #[.iface 51 (.pointer (some ⟨rb, 0, none⟩)), .int .u32 pv, .slice (some ⟨gb, 0, none⟩) 8 8] w fun e w' => e = .returned (.tuple #[.int .u64 x, .nilIface]) ∧ ∃ buf2, RBf w0 rb gb (.slice A n c) w' 1 (-1) buf2 := by
  have hlen : 1 ≤ n := by have := hr.1; simp only [List.length_append, List.length_cons, List.length_nil] at this; omega
  have HLN := Aside0.mk hlen
  have HB : Aside0 (∀ (w : World) (i : Nat) (lr : Int) (buf : List Int) (m : Nat), RBf w0 rb gb (.slice A n c) w i lr buf → 0 < m → m ≤ 8 → i + m ≤ n → Calls Tryd.prog 33 #[.iface 51 (.pointer (some ⟨rb, 0, none⟩)), .slice (some ⟨gb, 0, none⟩) m 8] w fun e w' => e = .returned (.tuple #[.int .i64 (m : Int), .nilIface]) ∧ ∃ buf2, RBf w0 rb gb (.slice A n c) w' (i + m) (-1) buf2 ∧ buf2.take m = (([x] ++ tl).drop i).take m) := ⟨fun w i lr buf m k h1 h2 h3 => rbRead hrb hgb hne hr hc hn k m h1 h2 h3⟩
  have K0 := Aside0.mk k
  have hu : IntKind.u64.wrap x = x := u64r (by omega) (by omega)
  have HU := Aside0.mk hu
  have HX : Aside0 (0 ≤ x ∧ x ≤ 4294967295) := ⟨by omega, by omega⟩
  have h255 : ¬ x = 255 := by omega
  have h254 : ¬ x = 254 := by omega
  have h253 : ¬ x = 253 := by omega
  clear hrb hgb hne hr hc hn k hlen hu
  go_enter Tryd.func31, Tryd.ntmps31
  go_upto_region 4 with (go_at_call 33; (with_reducible refine (HB.out w 0 _ _ 1 K0.out (by decide) (by decide) (by have := HLN.out; omega)).mono ?_); rintro e w1 ⟨rfl, buf1, k1, k2⟩; have K1 := Aside0.mk k1; have X1 := Aside0.mk k2; clear k1 k2)
  have c0 : w1.cell? ⟨gb, 0, none⟩ = some (.int .u8 (x)) := K1.out.cell (q := [x]) (m := 1) X1.out 0 (by decide) (by decide)
  have hu := HU.out
  go_wp2_with fail
  go_ret2
  exact ⟨rfl, buf1, K1.out⟩
set_option maxRecDepth 100000 in
set_option maxHeartbeats 8000000 in
theorem readVi_b (w0 : World) (rb gb n c : Nat) (A : Option Addr) (pv x : Int) (tl : List Int) (lr : Int) (buf : List Int) (w : World) (hrb : w0.heap.size ≤ rb) (hgb : w0.heap.size ≤ gb) (hne : gb ≠ rb) (x0 : 253 ≤ x) (x1 : x ≤ 65535) (hr : ReadsInt w0 .u8 A n ((253 :: le2 x) ++ tl)) (hc : n ≤ c) (hn : n ≤ 1000000000) (k : RBf w0 rb gb (.slice A n c) w 0 lr buf) :
    Calls Tryd.prog 31 #[.iface 51 (.pointer (some ⟨rb, 0, none⟩)), .int .u32 pv, .slice (some ⟨gb, 0, none⟩) 8 8] w fun e w' => e = .returned (.tuple #[.int .u64 x, .nilIface]) ∧ ∃ buf2, RBf w0 rb gb (.slice A n c) w' 3 (-1) buf2 := by
  have hlen : 3 ≤ n := by have := hr.1; simp only [List.length_append, List.length_cons, List.length_nil, le2] at this; omega
  have HLN := Aside0.mk hlen
  have HB : Aside0 (∀ (w : World) (i : Nat) (lr : Int) (buf : List Int) (m : Nat), RBf w0 rb gb (.slice A n c) w i lr buf → 0 < m → m ≤ 8 → i + m ≤ n → Calls Tryd.prog 33 #[.iface 51 (.pointer (some ⟨rb, 0, none⟩)), .slice (some ⟨gb, 0, none⟩) m 8] w fun e w' => e = .returned (.tuple #[.int .i64 (m : Int), .nilIface]) ∧ ∃ buf2, RBf w0 rb gb (.slice A n c) w' (i + m) (-1) buf2 ∧ buf2.take m = (((253 :: le2 x) ++ tl).drop i).take m) := ⟨fun w i lr buf m k h1 h2 h3 => rbRead hrb hgb hne hr hc hn k m h1 h2 h3⟩
  have K0 := Aside0.mk k
  have hu : IntKind.u64.wrap x = x := u64r (by omega) (by omega)
  have HU := Aside0.mk hu
  have HX : Aside0 (0 ≤ x ∧ x ≤ 4294967295) := ⟨by omega, by omega⟩
  have hlt : ¬ x < 253 := by omega
  clear hrb hgb hne hr hc hn k hlen hu
  go_enter Tryd.func31, Tryd.ntmps31
  go_upto_region 4 with (go_at_call 33; (with_reducible refine (HB.out w 0 _ _ 1 K0.out (by decide) (by decide) (by have := HLN.out; omega)).mono ?_); rintro e w1 ⟨rfl, buf1, k1, k2⟩; have K1 := Aside0.mk k1; have X1 := Aside0.mk k2; clear k1 k2)
  have c0 : w1.cell? ⟨gb, 0, none⟩ = some (.int .u8 (253)) := K1.out.cell (q := [253]) (m := 1) X1.out 0 (by decide) (by decide)
  go_upto_region 28 with (go_at_call 33; (with_reducible refine (HB.out w1 1 _ _ 2 K1.out (by decide) (by decide) (by have := HLN.out; omega)).mono ?_); rintro e w2 ⟨rfl, buf2, k1, k2⟩; have K2 := Aside0.mk k1; have X2 : Aside0 (buf2.take 2 = le2 x) := (⟨k2⟩); clear k1 k2)
  clear c0
  have HE := Aside0.mk ((K2.out.below (below_drew (Below.refl _ _))).le2 (x := x) HX.out.1 (by omega) X2.out)
  have hu := HU.out
  refine start_ (n := 6) (S := fun w' => True) (ds := []) #[false, false, false, false, false, false] (by kernel_rfl) rfl rfl trivial (fun hHeld => ?_)
  refine take_ (i := 0) (N := some 90) (v := ?_) (a' := ?_) #[true, false, false, false, false, false] rfl rfl (by kernel_rfl) (fun _ _ _ h => h) (Or.inl ⟨by rfl, ?_⟩) hHeld ?_ ?_
  rotate_left
  · rintro w' s0
    go_simp
    with_reducible rfl
  rotate_left
  · simp only [Act.put, List.setIfInBounds_toArray, List.set_cons_zero, List.set_cons_succ, i64_w, i32_w]
    rfl
  refine pure_ (i := 1) (N := some 91) (v := ?_) (a' := ?_) #[true, true, false, false, false, false] rfl rfl (by kernel_rfl) (fun _ _ _ h => h) (Or.inl ⟨by rfl, ?_⟩) ?_ ?_
  rotate_left
  · intro w'
    go_simp
    with_reducible rfl
  rotate_left
  · simp only [Act.put, List.setIfInBounds_toArray, List.set_cons_zero, List.set_cons_succ, i64_w, i32_w]
    rfl
  refine pure_ (i := 2) (N := some 92) (v := ?_) (a' := ?_) #[true, true, true, false, false, false] rfl rfl (by kernel_rfl) (fun _ _ _ h => h) (Or.inl ⟨by rfl, ?_⟩) ?_ ?_
  rotate_left
  · intro w'
    go_simp
    with_reducible rfl
  rotate_left
  · simp only [Act.put, List.setIfInBounds_toArray, List.set_cons_zero, List.set_cons_succ, i64_w, i32_w]
    rfl
  refine one_ (i := 3) (N := some 93) #[true, true, true, true, false, false] rfl rfl (by kernel_rfl) (by decide) (fun K hK => ?_)
  refine goes_ Tryd.func41 (by kernel_rfl) rfl #[.agg #[], .slice (some ⟨gb, 0, none⟩) 2 8] (by rfl) rfl rfl (by (try simp only [List.map_toArray, List.map_cons, List.map_nil]); first | done | rfl | (simp only [List.length_drop, List.length_take]; rfl)) ?_
  with_reducible refine HE.out.mono ?_
  rintro e w3 ⟨rfl, k1⟩
  refine ⟨_, rfl, ?_⟩
  have K3 := Aside0.mk k1
  clear k1
  refine hK.out _ _ trivial (fun hHeld => ?_)
  clear hK K
  refine norm_ (a' := ?_) ?_ ?_
  rotate_left
  · show Act.put _ (some 93) _ = _
    simp only [Act.put, List.setIfInBounds_toArray, List.set_cons_zero, List.set_cons_succ, i64_w, i32_w]
    rfl
  refine pure_ (i := 4) (N := some 94) (v := ?_) (a' := ?_) #[true, true, true, true, true, false] rfl rfl (by kernel_rfl) (fun _ _ _ h => h) (Or.inl ⟨by rfl, ?_⟩) ?_ ?_
  rotate_left
  · intro w'
    go_simp
    with_reducible rfl
  rotate_left
  · simp only [Act.put, List.setIfInBounds_toArray, List.set_cons_zero, List.set_cons_succ, i64_w, i32_w]
    rfl
  refine pure_ (i := 5) (N := some 11) (v := ?_) (a' := ?_) #[true, true, true, true, true, true] rfl rfl (by kernel_rfl) (fun _ _ _ h => h) (Or.inl ⟨by rfl, ?_⟩) ?_ ?_
  rotate_left
  · intro w'
    go_simp
    with_reducible rfl
  rotate_left
  · simp only [Act.put, List.setIfInBounds_toArray, List.set_cons_zero, List.set_cons_succ, i64_w, i32_w]
    rfl
  refine done_ (by kernel_rfl) ?_
  go_wp2_with fail
  go_ret2
  exact ⟨rfl, buf2, K3.out⟩
set_option maxRecDepth 100000 in
set_option maxHeartbeats 8000000 in
theorem readVi_c (w0 : World) (rb gb n c : Nat) (A : Option Addr) (pv x : Int) (tl : List Int) (lr : Int) (buf : List Int) (w : World) (hrb : w0.heap.size ≤ rb) (hgb : w0.heap.size ≤ gb) (hne : gb ≠ rb) (x0 : 65536 ≤ x) (x1 : x ≤ 4294967295) (hr : ReadsInt w0 .u8 A n ((254 :: le4 x) ++ tl)) (hc : n ≤ c) (hn : n ≤ 1000000000) (k : RBf w0 rb gb (.slice A n c) w 0 lr buf) :
    Calls Tryd.prog 31 #[.iface 51 (.pointer (some ⟨rb, 0, none⟩)), .int .u32 pv, .slice (some ⟨gb, 0, none⟩) 8 8] w fun e w' => e = .returned (.tuple #[.int .u64 x, .nilIface]) ∧ ∃ buf2, RBf w0 rb gb (.slice A n c) w' 5 (-1) buf2 := by
  have hlen : 5 ≤ n := by have := hr.1; simp only [List.length_append, List.length_cons, List.length_nil, le4] at this; omega
  have HLN := Aside0.mk hlen
  have HB : Aside0 (∀ (w : World) (i : Nat) (lr : Int) (buf : List Int) (m : Nat), RBf w0 rb gb (.slice A n c) w i lr buf → 0 < m → m ≤ 8 → i + m ≤ n → Calls Tryd.prog 33 #[.iface 51 (.pointer (some ⟨rb, 0, none⟩)), .slice (some ⟨gb, 0, none⟩) m 8] w fun e w' => e = .returned (.tuple #[.int .i64 (m : Int), .nilIface]) ∧ ∃ buf2, RBf w0 rb gb (.slice A n c) w' (i + m) (-1) buf2 ∧ buf2.take m = (((254 :: le4 x) ++ tl).drop i).take m) := ⟨fun w i lr buf m k h1 h2 h3 => rbRead hrb hgb hne hr hc hn k m h1 h2 h3⟩
  have K0 := Aside0.mk k
  have hu : IntKind.u64.wrap x = x := u64r (by omega) (by omega)
  have HU := Aside0.mk hu
  have HX : Aside0 (0 ≤ x ∧ x ≤ 4294967295) := ⟨by omega, by omega⟩
  have hlt : ¬ x < 65536 := by omega
  clear hrb hgb hne hr hc hn k hlen hu
  go_enter Tryd.func31, Tryd.ntmps31
  go_upto_region 4 with (go_at_call 33; (with_reducible refine (HB.out w 0 _ _ 1 K0.out (by decide) (by decide) (by have := HLN.out; omega)).mono ?_); rintro e w1 ⟨rfl, buf1, k1, k2⟩; have K1 := Aside0.mk k1; have X1 := Aside0.mk k2; clear k1 k2)
  have c0 : w1.cell? ⟨gb, 0, none⟩ = some (.int .u8 (254)) := K1.out.cell (q := [254]) (m := 1) X1.out 0 (by decide) (by decide)
  go_upto_region 20 with (go_at_call 33; (with_reducible refine (HB.out w1 1 _ _ 4 K1.out (by decide) (by decide) (by have := HLN.out; omega)).mono ?_); rintro e w2 ⟨rfl, buf2, k1, k2⟩; have K2 := Aside0.mk k1; have X2 : Aside0 (buf2.take 4 = le4 x) := (⟨k2⟩); clear k1 k2)
  clear c0
  have HE := Aside0.mk ((K2.out.below (below_drew (Below.refl _ _))).le4 (x := x) HX.out.1 (by omega) X2.out)
  have hu := HU.out
  refine start_ (n := 6) (S := fun w' => True) (ds := []) #[false, false, false, false, false, false] (by kernel_rfl) rfl rfl trivial (fun hHeld => ?_)
  refine take_ (i := 0) (N := some 68) (v := ?_) (a' := ?_) #[true, false, false, false, false, false] rfl rfl (by kernel_rfl) (fun _ _ _ h => h) (Or.inl ⟨by rfl, ?_⟩) hHeld ?_ ?_
  rotate_left
  · rintro w' s0
    go_simp
    with_reducible rfl
  rotate_left
  · simp only [Act.put, List.setIfInBounds_toArray, List.set_cons_zero, List.set_cons_succ, i64_w, i32_w]
    rfl
  refine pure_ (i := 1) (N := some 69) (v := ?_) (a' := ?_) #[true, true, false, false, false, false] rfl rfl (by kernel_rfl) (fun _ _ _ h => h) (Or.inl ⟨by rfl, ?_⟩) ?_ ?_
  rotate_left
  · intro w'
    go_simp
    with_reducible rfl
  rotate_left
  · simp only [Act.put, List.setIfInBounds_toArray, List.set_cons_zero, List.set_cons_succ, i64_w, i32_w]
    rfl
  refine pure_ (i := 2) (N := some 70) (v := ?_) (a' := ?_) #[true, true, true, false, false, false] rfl rfl (by kernel_rfl) (fun _ _ _ h => h) (Or.inl ⟨by rfl, ?_⟩) ?_ ?_
  rotate_left
  · intro w'
    go_simp
    with_reducible rfl
  rotate_left
  · simp only [Act.put, List.setIfInBounds_toArray, List.set_cons_zero, List.set_cons_succ, i64_w, i32_w]
    rfl
  refine one_ (i := 3) (N := some 71) #[true, true, true, true, false, false] rfl rfl (by kernel_rfl) (by decide) (fun K hK => ?_)
  refine goes_ Tryd.func40 (by kernel_rfl) rfl #[.agg #[], .slice (some ⟨gb, 0, none⟩) 4 8] (by rfl) rfl rfl (by (try simp only [List.map_toArray, List.map_cons, List.map_nil]); first | done | rfl | (simp only [List.length_drop, List.length_take]; rfl)) ?_
  with_reducible refine HE.out.mono ?_
  rintro e w3 ⟨rfl, k1⟩
  refine ⟨_, rfl, ?_⟩
  have K3 := Aside0.mk k1
  clear k1
  refine hK.out _ _ trivial (fun hHeld => ?_)
  clear hK K
  refine norm_ (a' := ?_) ?_ ?_
  rotate_left
  · show Act.put _ (some 71) _ = _
    simp only [Act.put, List.setIfInBounds_toArray, List.set_cons_zero, List.set_cons_succ, i64_w, i32_w]
    rfl
  refine pure_ (i := 4) (N := some 72) (v := ?_) (a' := ?_) #[true, true, true, true, true, false] rfl rfl (by kernel_rfl) (fun _ _ _ h => h) (Or.inl ⟨by rfl, ?_⟩) ?_ ?_
  rotate_left
  · intro w'
    go_simp
    with_reducible rfl
  rotate_left
  · simp only [Act.put, List.setIfInBounds_toArray, List.set_cons_zero, List.set_cons_succ, i64_w, i32_w]
    rfl
  refine pure_ (i := 5) (N := some 11) (v := ?_) (a' := ?_) #[true, true, true, true, true, true] rfl rfl (by kernel_rfl) (fun _ _ _ h => h) (Or.inl ⟨by rfl, ?_⟩) ?_ ?_
  rotate_left
  · intro w'
    go_simp
    with_reducible rfl
  rotate_left
  · simp only [Act.put, List.setIfInBounds_toArray, List.set_cons_zero, List.set_cons_succ, i64_w, i32_w]
    rfl
  refine done_ (by kernel_rfl) ?_
  go_wp2_with fail
  go_ret2
  exact ⟨rfl, buf2, K3.out⟩
theorem readViC (w0 : World) (rb gb n c : Nat) (A : Option Addr) (pv x : Int) (tl : List Int) (lr : Int) (buf : List Int) (w : World) (hrb : w0.heap.size ≤ rb) (hgb : w0.heap.size ≤ gb) (hne : gb ≠ rb) (x0 : 0 ≤ x) (x1 : x ≤ 4294967295) (hr : ReadsInt w0 .u8 A n (viB x ++ tl)) (hc : n ≤ c) (hn : n ≤ 1000000000) (k : RBf w0 rb gb (.slice A n c) w 0 lr buf) :
    Calls Tryd.prog 31 #[.iface 51 (.pointer (some ⟨rb, 0, none⟩)), .int .u32 pv, .slice (some ⟨gb, 0, none⟩) 8 8] w fun e w' => e = .returned (.tuple #[.int .u64 x, .nilIface]) ∧ ∃ buf2, RBf w0 rb gb (.slice A n c) w' (viB x).length (-1) buf2 := by
  unfold viB at hr ⊢
  split at hr
  · rename_i h1
    rw [if_pos h1]
    exact readVi_a w0 rb gb n c A pv x tl lr buf w hrb hgb hne x0 h1 hr hc hn k
  · rename_i h1
    rw [if_neg h1]
    split at hr
    · rename_i h2
      rw [if_pos h2]
      exact readVi_b w0 rb gb n c A pv x tl lr buf w hrb hgb hne (by omega) h2 hr hc hn k
    · rename_i h2
      rw [if_neg h2]
      exact readVi_c w0 rb gb n c A pv x tl lr buf w hrb hgb hne (by omega) x1 hr hc hn k
end Go.Proofs.YtpogfbompljkkaaDoor.Snk
/- Bytes are written, their number ahead. -/
namespace Go.Proofs.YtpogfbompljkkaaDoor.Snk
open Go.RowKit Go.Proofs.YtpogfbompljkkaaDoorW.PrintWords Go.Proofs.YtpogfbompljkkaaDoorW.PrintLast Go.Proofs.YtpogfbompljkkaaDoorW.PrintMore
set_option linter.unusedVariables false
set_option linter.unusedSimpArgs false
theorem read_lt {w : World} {A : Option Addr} {n : Nat} {p : List Int} (h : ReadsInt w .u8 A n p) (hn : 0 < n) (a : Addr) (ha : A = some a) : a.block < w.heap.size := by
  obtain ⟨ad, h1, h2⟩ := h.2.2 hn
  obtain rfl := Option.some.inj (ha.symm.trans h1)
  exact World.block_lt_of_cell? w _ (h2 0 hn)
set_option maxRecDepth 100000 in
set_option maxHeartbeats 4000000 in
theorem varBytesBufC {w0 : World} {T : TypeId} {v : Value} {f M : Nat} (S : Sink Tryd.prog w0 T v f M) {fn : Func} (hf : Tryd.prog.funcs[f]? = some fn) (hname : (fn.name == "runtime.NumGoroutine") = false) (hbd : fn.body.isSome = true) (gb : Nat) (pv : Int) (A : Option Addr) (n c : Nat) (p : List Int) (hr : ReadsInt w0 .u8 A n p) (hc : n ≤ c) (hn : n ≤ 4294967295) (wE w : World) (bs l : List Int) (tb : TypeId)
    (hs : S.St w bs) (hE : Step S wE w) (hgE : wE.heap.size ≤ gb) (hg0 : w0.heap.size ≤ gb) (hno : ¬ S.own w gb) (hl : l.length = 8) (hrow : w.heap[gb]? = some (.cells (byteC l).toArray tb (0, 0))) (hM : bs.length + (5 + n) ≤ M) :
    Calls Tryd.prog 25 #[.iface T v, .int .u32 pv, .slice A n c, .slice (some ⟨gb, 0, none⟩) 8 8] w fun e w' => e = .returned .nilIface ∧ S.St w' (bs ++ (viB n ++ p)) ∧ Step S wE w' := by
  have HV := Aside0.mk (varIntC S hf hname hbd gb pv (n : Int) (by omega) (by omega) wE w bs l tb hs hE hgE hg0 hno hl hrow (by omega))
  have HF := Aside0.mk hf
  have HNM := Aside0.mk hname
  have HBD := Aside0.mk hbd
  have HW : Aside0 (∀ w1 b1, S.St w1 b1 → b1.length ≤ bs.length + 5 → Calls Tryd.prog f #[v, .slice A n c] w1 fun e w' => e = .returned (.tuple #[.int .i64 (n : Int), .nilIface]) ∧ S.St w' (b1 ++ p) ∧ Step S w1 w') := ⟨fun w1 b1 h1 h2 => S.writeC h1 hr.1 (by omega) hc (hr.below (S.below h1)) (fun h0 a ha ho => absurd (S.fresh h1 ho).1 (Nat.not_le.2 (read_lt hr h0 a ha)))⟩
  have HLV : Aside0 ((bs ++ viB n).length ≤ bs.length + 5) := ⟨by rw [List.length_append]; have := viB_len (n : Int); omega⟩
  have hu : IntKind.u64.wrap (n : Int) = (n : Int) := by show (n : Int) % 18446744073709551616 = _; omega
  obtain ⟨q, hq⟩ : ∃ q, q = bs ++ viB n := ⟨_, rfl⟩
  have HQ := Aside0.mk hq
  rw [← hq] at HV HLV
  clear hf hname hbd hr hc hn hs hE hgE hg0 hno hl hrow hM hq
  go_enter Tryd.func25, Tryd.ntmps25
  go_upto_region 3 with (go_at_call 30; (with_reducible refine HV.out.mono ?_); rintro e w1 ⟨rfl, k1, k2⟩; have HS1 := Aside0.mk k1; have HE1 := Aside0.mk k2; clear k1 k2)
  have HC := Aside0.mk (HW.out w1 q HS1.out HLV.out)
  go_wp2_with (refine invL_ (some 25) rfl rfl (.tmp 23) "Write" rfl T v rfl f S.meth HF.out HNM.out HBD.out #[v, .slice A n c] (by simp only [List.map_toArray, List.map_cons, List.map_nil]; rfl) ?_; (with_reducible refine HC.out.mono ?_); rintro e w2 ⟨rfl, k1, k2⟩; refine ⟨_, rfl, ?_⟩; have HS2 := Aside0.mk k1; have HE2 := Aside0.mk k2; clear k1 k2)
  go_ret
  refine ⟨rfl, ?_, HE1.out.trans HE2.out⟩
  have h := HS2.out
  rw [HQ.out, List.append_assoc] at h
  exact h
set_option maxRecDepth 100000 in
theorem returnD (x : Value) (u : FrameMode) (w : World) : CallsD Tryd.prog 24 #[.agg #[], x] u w fun e u' w' => u' = u ∧ (e = .returned (.tuple #[]) ∧ Below w.heap.size w w') := by
  go_enter_d Tryd.func24, Tryd.ntmps24
  go_wp2_with fail
  go_end0
  exact ⟨rfl, below_alloc (Below.refl _ _) _⟩
set_option maxRecDepth 100000 in
set_option maxHeartbeats 2000000 in
theorem varBytesC {w0 : World} {T : TypeId} {v : Value} {f M : Nat} (S : Sink Tryd.prog w0 T v f M) {fn : Func} (hf : Tryd.prog.funcs[f]? = some fn) (hname : (fn.name == "runtime.NumGoroutine") = false) (hbd : fn.body.isSome = true) (pv : Int) (A : Option Addr) (n c : Nat) (p : List Int) (hr : ReadsInt w0 .u8 A n p) (hc : n ≤ c) (hn : n ≤ 4294967295) (w : World) (bs : List Int)
    (hs : S.St w bs) (hM : bs.length + (5 + n) ≤ M) :
    Calls Tryd.prog 14 #[.iface T v, .int .u32 pv, .slice A n c] w fun e w' => e = .returned .nilIface ∧ S.St w' (bs ++ (viB n ++ p)) ∧ Step S w w' := by
  have HH := Aside0.mk (fun gb wE w bs l tb h1 h2 h3 h4 h5 h6 h7 h8 => varBytesBufC S hf hname hbd gb pv A n c p hr hc hn wE w bs l tb h1 h2 h3 h4 h5 h6 h7 h8)
  have HS := Aside0.mk hs
  have HM := Aside0.mk hM
  clear hf hname hbd hr hc hn hs hM
  go_enter_defers Tryd.func14, Tryd.ntmps14
  go_upto_region 2 with (go_at_call 23; (with_reducible refine (borrowC w).mono ?_); rintro e w1 ⟨gb, rfl, k1, k2, k3⟩; have HR := Aside0.mk k1; have HG := Aside0.mk k2; have HB := Aside0.mk k3; clear k1 k2 k3)
  have HS1 := Aside0.mk (below_step HS.out HB.out)
  have HC := Aside0.mk (HH.out gb w w1 bs _ _ HS1.out.1 HS1.out.2 HG.out (Nat.le_trans (S.below HS.out).size HG.out) (fun hh => absurd (S.fresh HS.out (below_own HS.out HB.out gb hh)).2 (Nat.not_lt.2 HG.out)) rfl HR.out HM.out)
  go_upto_region 4 with (go_at_call 25; (with_reducible refine HC.out.mono ?_); rintro e w2 ⟨rfl, k1, k2⟩; have HS2 := Aside0.mk k1; have HE2 := Aside0.mk k2; clear k1 k2)
  go_wp2_with fail
  refine leaves_cons (f := 24) (args := #[.agg #[], .slice (some ⟨gb, 0, none⟩) 8 8]) (by simp) (by simp [go_sem]) ?_
  refine (returnD _ .returning _).mono ?_
  rintro e u' w3 ⟨rfl, rfl, k1⟩
  have h3 := below_step HS2.out k1
  exact ⟨_, results_tmp rfl _ _ _, rfl, h3.1, HE2.out.trans h3.2⟩
end Go.Proofs.YtpogfbompljkkaaDoor.Snk
/- The bytes of numbers, the lowest first. -/
namespace Go.Proofs.YtpogfbompljkkaaDoor.QFnVarBytes
open Go.RowKit Go.Proofs.YtpogfbompljkkaaDoorW.PrintWords Go.Proofs.YtpogfbompljkkaaDoorW.PrintLast Go.Proofs.YtpogfbompljkkaaDoorW.PrintMore
set_option linter.unusedVariables false
set_option linter.unusedSimpArgs false
/-- The k lowest bytes of a number, the lowest first. -/
def leB : Nat → Int → List Int
  | 0, _ => []
  | k + 1, n => n % 256 :: leB k (n / 256)
theorem leB_succ (k : Nat) (n : Int) : leB (k + 1) n = n % 256 :: leB k (n / 256) := rfl
theorem leB_zero (n : Int) : leB 0 n = [] := rfl
theorem leB_len : ∀ k n, (leB k n).length = k
  | 0, _ => rfl
  | k + 1, n => by show (leB k (n / 256)).length + 1 = _; rw [leB_len k]
theorem u64wr {x : Int} (h0 : 0 ≤ x) (h1 : x < 18446744073709551616) : IntKind.u64.wrap x = x := by
  simp [IntKind.wrap, IntKind.signed, IntKind.bits]; omega
theorem leB_snoc : ∀ k n, leB k n ++ [n / 256 ^ k % 256] = leB (k + 1) n
  | 0, n => by simp [leB]
  | k + 1, n => by
    show n % 256 :: (leB k (n / 256) ++ [n / 256 ^ (k + 1) % 256]) = n % 256 :: leB (k + 1) (n / 256)
    rw [← leB_snoc k (n / 256), Int.pow_succ', Int.ediv_ediv_of_nonneg (by decide)]
theorem ev_little (n : Int) (m : Nat) (h0 : 0 ≤ n) (h1 : n < 18446744073709551616) (hm : m ≤ 100) : Ev (fun k => spec_little.f k n (m : Int)) (leB m n) := by
  have key : ∀ d (i : Nat) (x : Int) (acc : List Int), i + d = m → 0 ≤ x → x < 18446744073709551616 → acc.length ≤ i → Ev (fun k => spec_little.l0 k x acc (m : Int) (i : Int)) (acc ++ leB d x) := by
    intro d
    induction d with
    | zero =>
      intro i x acc hi x0 x1 ha
      rw [leB_zero, List.append_nil]
      refine Ev.step (f := fun _ => some acc) (fun k => ?_) (Ev.now _)
      rw [spec_little.l0, if_neg (by omega)]
    | succ d ih =>
      intro i x acc hi x0 x1 ha
      have c1 : (i : Int) < (m : Int) := by omega
      have c2 : acc.length < 140737488355328 := by omega
      have y0 : 0 ≤ x / 256 := by omega
      have y1 : x / 256 < 18446744073709551616 := by omega
      have ha2 : (acc ++ [x % 256]).length ≤ i + 1 := by rw [List.length_append]; simp; omega
      have hi2 : i + 1 + d = m := by omega
      have e1 : Int.tdiv x 256 = x / 256 := Int.tdiv_eq_ediv_of_nonneg x0
      have e2 : Int.tmod x 256 = x % 256 := Int.tmod_eq_emod_of_nonneg x0
      have e3 : x % 256 % 256 = x % 256 := Int.emod_emod_of_dvd _ (Int.dvd_refl _)
      have e4 : IntKind.u64.wrap (x / 256) = x / 256 := u64wr y0 y1
      have e5 : wrap64 ((i : Int) + 1) = ((i + 1 : Nat) : Int) := by unfold wrap64; omega
      have h := ih (i + 1) (x / 256) (acc ++ [x % 256]) hi2 y0 y1 ha2
      have e6 : acc ++ leB (d + 1) x = (acc ++ [x % 256]) ++ leB d (x / 256) := by rw [leB_succ, List.append_assoc, List.singleton_append]
      rw [e6]
      refine Ev.step (f := fun k => spec_little.l0 k (x / 256) (acc ++ [x % 256]) (m : Int) ((i + 1 : Nat) : Int)) (fun k => ?_) h
      rw [spec_little.l0, if_pos c1, if_pos c2, e1, e2, e3, e4, e5]
  have h := key m 0 n [] (by omega) h0 h1 (by simp)
  rw [List.nil_append] at h
  exact Ev.congr (fun k => by unfold spec_little.f; rfl) h
end Go.Proofs.YtpogfbompljkkaaDoor.QFnVarBytes
/- Variable bytes, as the law says them. -/
namespace Go.Proofs.YtpogfbompljkkaaDoor.Snk
open Go.RowKit Go.Proofs.YtpogfbompljkkaaDoorW.PrintWords Go.Proofs.YtpogfbompljkkaaDoorW.PrintLast Go.Proofs.YtpogfbompljkkaaDoorW.PrintMore Go.Proofs.YtpogfbompljkkaaDoor.QFnVarBytes
set_option linter.unusedVariables false
set_option linter.unusedSimpArgs false
theorem rdC {w : World} {A : Option Addr} {n : Nat} {xs : List Int} (h : ReadsInt w .u8 A n xs) : Kd.C (Kd.int .u8) w A n xs := Kd.C_of_reads (readsInt_of.1 h)
theorem copiedC (A : Option Addr) (n c : Nat) (p : List Int) (w : World) (hr : ReadsInt w .u8 A n p) (hc : n ≤ c) (hn : n ≤ 1000000000) : Calls Tryd.prog 19 #[.slice A n c] w fun e w' => ∃ A1 c1, e = .returned (.slice A1 n c1) ∧ Kd.R (Kd.int .u8) 5 w' w.heap.size (fun _ => True) (.slice A1 n c1) p ∧ ReadsInt w' .u8 A1 n p ∧ n ≤ c1 ∧ Below w.heap.size w w' := by
  obtain rfl : p.length = n := hr.1
  have hf : impl_copied.f p = some p := by
    unfold impl_copied.f
    simp only [Option.bind_some, List.length_nil, Nat.zero_add, List.nil_append]
    rw [if_pos (by omega)]
  refine (impl_copied.calls A c p p w (rdC hr) hc hf).mono ?_
  rintro e w' ⟨v0, rfl, h1, h2⟩
  obtain ⟨A1, c1, rfl, h3, h4⟩ := Kd.R_reads h1
  exact ⟨A1, c1, rfl, h1, readsInt_of.2 (Kd.reads_of_C h4), h3, h2⟩
theorem leB_two (x : Int) : leB 2 x = le2 x := rfl
theorem leB_four (x : Int) : leB 4 x = le4 x := by
  show [x % 256, x / 256 % 256, x / 256 / 256 % 256, x / 256 / 256 / 256 % 256] = [x % 256, (x / 256) % 256, (x / 65536) % 256, (x / 16777216) % 256]
  rw [Int.ediv_ediv_of_nonneg (by decide), Int.ediv_ediv_of_nonneg (by decide)]
  rfl
theorem varInt_ok (x : Int) (h0 : 0 ≤ x) (hx : x ≤ 4294967295) : ∃ k, spec_VarInt.f k x = some (viB x) := by
  unfold viB
  split
  · rename_i h1
    exact ⟨0, by unfold spec_VarInt.f; rw [if_pos h1, Int.emod_eq_of_lt h0 (by omega)]⟩
  · rename_i h1
    split
    · rename_i h2
      obtain ⟨k, hk⟩ := (ev_little x 2 h0 (by omega) (by decide)).rounds
      refine ⟨k, ?_⟩
      unfold spec_VarInt.f
      rw [if_neg h1, if_pos (by omega), Option.bind_some, show ((2 : Nat) : Int) = 2 from rfl] at *
      rw [hk, Option.bind_some, if_pos (by rw [leB_len]; decide), leB_two]
      rfl
    · rename_i h2
      obtain ⟨k, hk⟩ := (ev_little x 4 h0 (by omega) (by decide)).rounds
      refine ⟨k, ?_⟩
      unfold spec_VarInt.f
      rw [show ((4 : Nat) : Int) = 4 from rfl] at hk
      rw [if_neg h1, if_neg (by omega), if_pos (by omega), Option.bind_some, hk, Option.bind_some, if_pos (by rw [leB_len]; decide), leB_four]
      rfl
theorem varBytes_ok (p : List Int) (hp : p.length ≤ 1000000000) : ∃ k, spec_VarBytes.f k p = some (viB (p.length : Int) ++ p) := by
  obtain ⟨k, hk⟩ := varInt_ok (p.length : Int) (by omega) (by omega)
  refine ⟨k, ?_⟩
  unfold spec_VarBytes.f
  rw [u64wr (by omega) (by omega), hk, Option.bind_some, if_pos (by have := viB_len (p.length : Int); omega)]
theorem varBytesSpecC (A : Option Addr) (n c : Nat) (p : List Int) (w : World) (hr : ReadsInt w .u8 A n p) (hc : n ≤ c) (hn : n ≤ 1000000000) : Calls Tryd.prog 9 #[.slice A n c] w fun e w' => ∃ A1 m c1, e = .returned (.slice A1 m c1) ∧ ReadsInt w' .u8 A1 m (viB n ++ p) ∧ m ≤ c1 ∧ Below w.heap.size w w' := by
  obtain rfl : p.length = n := hr.1
  obtain ⟨k, hk⟩ := varBytes_ok p hn
  refine (spec_VarBytes.calls k A c p _ w (rdC hr) hc hk).mono ?_
  rintro e w' ⟨v0, rfl, h1, h2⟩
  obtain ⟨A1, c1, rfl, h3, h4⟩ := Kd.R_reads h1
  exact ⟨A1, _, c1, rfl, readsInt_of.2 (Kd.reads_of_C h4), h3, h2⟩
theorem bufNew (w : World) : BufS (w.alloc (.cells #[.slice none 0 0, .int .i64 0, .int .i8 0] 44)) w.heap.size [] ∧ ∀ k, Own w.heap.size (w.alloc (.cells #[.slice none 0 0, .int .i64 0, .int .i8 0] 44)) k → w.heap.size ≤ k := by
  have h : BfC (w.alloc (.cells #[.slice none 0 0, .int .i64 0, .int .i8 0] 44)) w.heap.size (.slice none 0 0) 0 := heap_alloc_new w _
  exact ⟨⟨0, .inl ⟨rfl, h⟩⟩, fun k hk => by rw [h.ownNil hk]; exact Nat.le_refl _⟩
theorem bufStep {w0 w w' : World} {b : Nat} {bs bs' : List Int} (h : (bufSink w0 b).St w bs) (hb : BufS w' b bs') (h6 : Frame b w w') : (bufSink w0 b).St w' bs' :=
  ⟨⟨h6.os.trans h.1.os, h6.tape.trans h.1.tape, h6.output.trans h.1.output, Nat.le_trans h.1.size h6.size, fun k hk => (h6.block k (Nat.lt_of_lt_of_le hk h.1.size) (fun hn => Nat.not_le.2 hk (h.2.2 k hn))).trans (h.1.block k hk)⟩, hb, fun k hk => by
    rcases h6.grow k hk with h1 | h1
    · exact h.2.2 k h1
    · exact Nat.le_trans h.1.size h1⟩
end Go.Proofs.YtpogfbompljkkaaDoor.Snk
/- Variable bytes are read. -/
namespace Go.Proofs.YtpogfbompljkkaaDoor.Snk
open Go.RowKit Go.Proofs.YtpogfbompljkkaaDoorW.PrintWords Go.Proofs.YtpogfbompljkkaaDoorW.PrintLast Go.Proofs.YtpogfbompljkkaaDoorW.PrintMore Go.Proofs.YtpogfbompljkkaaDoor.QFnVarBytes
set_option linter.unusedVariables false
set_option linter.unusedSimpArgs false
theorem mk_bytes64 (n c : Nat) (hn : n ≤ c) (hc : c ≤ 1000000) (w : World) : (Instr.makeSlice 28 (.int .u64 (n : Int)) (.int .u64 (c : Int))).run Tryd.prog w = .ok (.slice (some ⟨w.heap.size, 0, none⟩) n c) (w.alloc (.cells (madeCells #[.int .u8 0] c) 5)) := by
  obtain ⟨i, z, hi, hi1, hi2, hi3, hi4⟩ : ∃ i z, Tryd.prog.info? 5 = some i ∧ i.size = 1 ∧ i.zero = some z ∧ i.bytes = 1 ∧ z.cells = #[.int .u8 0] := by
    have h : (match Tryd.prog.info? 5 with | some i => i.size == 1 && (i.bytes == 1 && (match i.zero with | some (.int .u8 0) => true | _ => false)) | none => false) = true := by kernel_rfl
    split at h
    · rename_i i hi
      simp only [Bool.and_eq_true, beq_iff_eq] at h
      obtain ⟨h1, h2, h3⟩ := h
      split at h3
      · rename_i hz
        exact ⟨i, _, hi, h1, hz, h2, rfl⟩
      · cases h3
    · cases h
  have h := run_make (P := Tryd.prog) w 28 5 i _ Tryd.underlying28 hi hi2 .u64 .u64 (n : Int) (c : Int) (by omega) (by omega) (by rw [hi3]; omega) (by omega)
  rw [hi1, hi4] at h
  simpa only [Int.toNat_natCast, Nat.mul_one] using h
theorem reads_rowV {w : World} {g n : Nat} {l : List Int} {t : TypeId} (h : w.heap[g]? = some (.cells (byteC l).toArray t (0, 0))) (hn : l.length = n) (hs : n ≤ 1000000) : ReadsInt w .u8 (some ⟨g, 0, none⟩) n l :=
  ⟨hn, by omega, fun _ => ⟨_, rfl, fun j hj => by rw [add_any, Nat.zero_add]; exact row_cell h j (by omega)⟩⟩
set_option maxRecDepth 100000 in
set_option maxHeartbeats 4000000 in
theorem atLeast0C (v : Value) (B : Option Addr) (dc : Nat) (w : World) : Calls Tryd.prog 42 #[v, .slice B 0 dc, .int .i64 0] w fun e w' => e = .returned (.tuple #[.int .i64 0, .nilIface]) ∧ Below w.heap.size w w' := by
  go_enter Tryd.func42, Tryd.ntmps42
  go_upto_region 3 with fail
  go_loopw [6, 7] (fun v6 v7 wr => v6 = .int .i64 0 ∧ v7 = .nilIface ∧ Aside0 (Below w.heap.size w wr)) (fun v6 v7 _ => 0)
  case atStart => exact ⟨rfl, rfl, ⟨by first | exact Below.refl _ _ | exact below_drew (Below.refl _ _)⟩⟩
  case round =>
    obtain ⟨rfl, rfl, HB⟩ := hrel
    go_wp2_with fail
    go_ret2
    exact ⟨rfl, HB.out⟩
set_option maxRecDepth 100000 in
theorem full0C (v : Value) (B : Option Addr) (dc : Nat) (w : World) : Calls Tryd.prog 33 #[v, .slice B 0 dc] w fun e w' => e = .returned (.tuple #[.int .i64 0, .nilIface]) ∧ Below w.heap.size w w' := by
  have HC := Aside0.mk (atLeast0C v B dc w)
  go_enter Tryd.func33, Tryd.ntmps33
  go_wp2_with (go_at_call 42; (with_reducible refine HC.out.mono ?_); rintro e w2 ⟨rfl, k1⟩; have K1 := Aside0.mk k1; clear k1)
  go_ret2
  exact ⟨rfl, K1.out⟩
set_option maxRecDepth 100000 in
set_option maxHeartbeats 4000000 in
theorem readBytesBufC (w0 : World) (rb gb n c : Nat) (A : Option Addr) (pv mx : Int) (nm : Value) (p tl : List Int) (lr : Int) (buf : List Int) (w : World) (hrb : w0.heap.size ≤ rb) (hgb : w0.heap.size ≤ gb) (hne : gb ≠ rb) (hp : p.length ≤ 100000) (hmx : (p.length : Int) ≤ mx) (hmx2 : mx ≤ 4294967295) (hr : ReadsInt w0 .u8 A n (viB (p.length : Int) ++ (p ++ tl))) (hc : n ≤ c) (hn : n ≤ 1000000000) (k : RBf w0 rb gb (.slice A n c) w 0 lr buf) :
    Calls Tryd.prog 28 #[.iface 51 (.pointer (some ⟨rb, 0, none⟩)), .int .u32 pv, .slice (some ⟨gb, 0, none⟩) 8 8, .int .u32 mx, nm] w fun e w' => ∃ gs, e = .returned (.tuple #[.slice (some ⟨gs, 0, none⟩) p.length p.length, .nilIface]) ∧ ReadsInt w' .u8 (some ⟨gs, 0, none⟩) p.length p ∧ RdC w' rb (.slice A n c) (((viB (p.length : Int)).length + p.length : Nat) : Int) (-1) ∧ Below w0.heap.size w0 w' := by
  have HV := Aside0.mk (readViC w0 rb gb n c A pv (p.length : Int) (p ++ tl) lr buf w hrb hgb hne (by omega) (by omega) hr hc hn k)
  obtain ⟨L, hL⟩ : ∃ L, (viB (p.length : Int)).length = L := ⟨_, rfl⟩
  rw [hL] at HV ⊢
  have hdt : ((viB (p.length : Int) ++ (p ++ tl)).drop L).take p.length = p := by rw [List.drop_left' hL, List.take_left' rfl]
  have hnl : L + p.length ≤ n := by have h1 := hr.1; rw [List.length_append, List.length_append, hL] at h1; omega
  obtain ⟨m, hm⟩ : ∃ m, p.length = m := ⟨_, rfl⟩
  have HF : Aside0 (∀ (w2 : World) (buf : List Int) (gs : Nat), RBf w0 rb gb (.slice A n c) w2 L (-1) buf → w2.heap[gs]? = some (.cells (madeCells #[.int .u8 0] m) 5 (0, 0)) → w0.heap.size ≤ gs → gs ≠ rb → Calls Tryd.prog 33 #[.iface 51 (.pointer (some ⟨rb, 0, none⟩)), .slice (some ⟨gs, 0, none⟩) m m] w2 fun e w' => e = .returned (.tuple #[.int .i64 (m : Int), .nilIface]) ∧ ReadsInt w' .u8 (some ⟨gs, 0, none⟩) m p ∧ RdC w' rb (.slice A n c) ((L + m : Nat) : Int) (-1) ∧ Below w0.heap.size w0 w') := ⟨fun w2 buf gs k2 h1 h2 h3 => by
    by_cases hz : m = 0
    · subst hz
      obtain rfl : p = [] := List.length_eq_zero_iff.1 hm
      refine (full0C _ _ _ w2).mono fun e w' ⟨he, hb⟩ => ⟨he, ⟨rfl, by decide, fun hh => absurd hh (by decide)⟩, (k2.below hb).rd, (k2.below hb).w0⟩
    · refine (readFullC w0 rb gs 0 m m L n c (-1) A _ (madeCells #[.int .u8 0] m) 5 w2 k2.w0 hrb h2 h3 hr hc hn k2.rd (by omega) (Nat.le_refl _) (by rw [← hm]; exact hnl) h1 (by rw [size_madeCells]; omega)).mono fun e w' ⟨he, hq1, hq2, hq3⟩ => ⟨he, ?_, hq1, Turned.below0 k2.w0 hq3 hrb h2⟩
      rw [← hm, hdt, List.take_zero, List.nil_append, List.drop_eq_nil_of_le (by rw [Array.length_toList, size_madeCells]; omega), List.append_nil, ] at hq2
      exact reads_rowV hq2 hm (by omega)⟩
  have HG0 : Aside0 (∀ w1 : World, Below w0.heap.size w0 w1 → w0.heap.size ≤ w1.heap.size) := ⟨fun w1 h => h.size⟩
  have HRB := Aside0.mk hrb
  have hu : IntKind.u64.wrap mx = mx := u64r (by omega) (by omega)
  have hgt : ¬ mx < (m : Int) := by omega
  have HMK := Aside0.mk (fun w1 : World => mk_bytes64 m m (Nat.le_refl _) (by omega) w1)
  rw [hm] at HV ⊢
  clear hrb hgb hne hp hmx hmx2 hr hc hn k hL hdt hnl hm
  go_enter Tryd.func28, Tryd.ntmps28
  go_upto_region 7 with (go_at_call 31; (with_reducible refine HV.out.mono ?_); rintro e w1 ⟨rfl, buf1, k1⟩; have K1 := Aside0.mk k1; clear k1)
  have HFC := Aside0.mk (fun w2 (e : w2 = w1.alloc (.cells (madeCells #[.int .u8 0] m) 5)) => HF.out w2 buf1 w1.heap.size (by rw [e]; exact K1.out.below (below_alloc (Below.refl _ _) _)) (by rw [e]; exact heap_alloc_new w1 _) (HG0.out w1 K1.out.w0) (by have := blk_lt' K1.out.rd; omega))
  go_upto_region 8 with ((with_reducible refine at_dst (N := 34) rfl ?_); refine wpList_run rfl _ (mk_opS 28 (.tmp 33) (.tmp 33) rfl _ _ _ rfl rfl (HMK.out w1)) ?_)
  obtain ⟨gs, hgs⟩ : ∃ g, w1.heap.size = g := ⟨_, rfl⟩
  rw [hgs] at HFC ⊢
  generalize hw2 : World.alloc _ _ = w2
  have HF2 := Aside0.mk (HFC.out w2 hw2.symm)
  clear hw2 hgs
  go_wp2_with (go_at_call 33; (with_reducible refine HF2.out.mono ?_); rintro e w3 ⟨rfl, k1, k2, k3⟩; have Q1 := Aside0.mk k1; have Q2 := Aside0.mk k2; have Q3 := Aside0.mk k3; clear k1 k2 k3)
  go_ret2
  exact ⟨gs, rfl, Q1.out, Q2.out, Q3.out⟩
set_option maxRecDepth 100000 in
set_option maxHeartbeats 4000000 in
theorem readBytesC (w0 : World) (rb n c : Nat) (A : Option Addr) (pv mx : Int) (nm : Value) (p tl : List Int) (lr : Int) (w : World) (hb0 : Below w0.heap.size w0 w) (hrb : w0.heap.size ≤ rb) (hp : p.length ≤ 100000) (hmx : (p.length : Int) ≤ mx) (hmx2 : mx ≤ 4294967295) (hr : ReadsInt w0 .u8 A n (viB (p.length : Int) ++ (p ++ tl))) (hc : n ≤ c) (hn : n ≤ 1000000000) (hrd : RdC w rb (.slice A n c) 0 lr) :
    Calls Tryd.prog 18 #[.iface 51 (.pointer (some ⟨rb, 0, none⟩)), .int .u32 pv, .int .u32 mx, nm] w fun e w' => ∃ gs, e = .returned (.tuple #[.slice (some ⟨gs, 0, none⟩) p.length p.length, .nilIface]) ∧ ReadsInt w' .u8 (some ⟨gs, 0, none⟩) p.length p ∧ RdC w' rb (.slice A n c) (((viB (p.length : Int)).length + p.length : Nat) : Int) (-1) ∧ Below w0.heap.size w0 w' := by
  have HC : Aside0 (∀ gb w1, Below w.heap.size w w1 → w.heap.size ≤ gb → w1.heap[gb]? = some (.cells (byteC (List.replicate 8 0)).toArray 5 (0, 0)) → Calls Tryd.prog 28 #[.iface 51 (.pointer (some ⟨rb, 0, none⟩)), .int .u32 pv, .slice (some ⟨gb, 0, none⟩) 8 8, .int .u32 mx, nm] w1 fun e w' => ∃ gs, e = .returned (.tuple #[.slice (some ⟨gs, 0, none⟩) p.length p.length, .nilIface]) ∧ ReadsInt w' .u8 (some ⟨gs, 0, none⟩) p.length p ∧ RdC w' rb (.slice A n c) (((viB (p.length : Int)).length + p.length : Nat) : Int) (-1) ∧ Below w0.heap.size w0 w') := ⟨fun gb w1 h1 h2 h3 => by
    have hl1 := blk_lt' hrd
    have hl3 := hb0.size
    exact readBytesBufC w0 rb gb n c A pv mx nm p tl lr _ w1 hrb (by omega) (by omega) hp hmx hmx2 hr hc hn ⟨hrd.below h1, h3, rfl, below_then hb0 hb0.size h1⟩⟩
  clear hb0 hrb hp hmx hmx2 hr hc hn hrd
  go_enter_defers Tryd.func18, Tryd.ntmps18
  go_upto_region 2 with (go_at_call 23; (with_reducible refine (borrowC w).mono ?_); rintro e w1 ⟨gb, rfl, k1, k2, k3⟩; have HG := Aside0.mk (HC.out gb w1 k3 k2 k1); clear k1 k2 k3)
  go_upto_region 4 with (go_at_call 28; (with_reducible refine HG.out.mono ?_); rintro e w2 ⟨gs, rfl, k1, k2, k3⟩; have Q1 := Aside0.mk k1; have Q2 := Aside0.mk k2; have Q3 := Aside0.mk k3; clear k1 k2 k3)
  go_wp2_with fail
  refine leaves_cons (f := 24) (args := #[.agg #[], .slice (some ⟨gb, 0, none⟩) 8 8]) (by simp) (by simp [go_sem]) ?_
  refine (returnD _ .returning _).mono ?_
  rintro e u' w3 ⟨rfl, rfl, k1⟩
  exact ⟨_, results_tmp2 rfl _ _ _, gs, rfl, Q1.out.below k1, Q2.out.below k1, below_then Q3.out Q3.out.size k1⟩
set_option maxRecDepth 100000 in
set_option maxHeartbeats 4000000 in
theorem lenRC (rb i n c : Nat) (lr : Int) (A : Option Addr) (w : World) (h : RdC w rb (.slice A n c) (i : Int) lr) (hi : i ≤ n) (hn : n ≤ 1000000000) : Calls Tryd.prog 20 #[.pointer (some ⟨rb, 0, none⟩)] w fun e w' => e = .returned (.int .i64 ((n - i : Nat) : Int)) ∧ Below w.heap.size w w' := by
  have HW : Aside0 (wrap64 ((n : Int) - (i : Int)) = ((n - i : Nat) : Int)) := ⟨by unfold wrap64; omega⟩
  have H := Aside0.mk h
  have HB1 : Aside0 (Below w.heap.size w w.drew) := ⟨below_drew (Below.refl _ _)⟩
  by_cases hz : n ≤ i
  · have h1 : (n : Int) ≤ (i : Int) := by omega
    have HZ : Aside0 (n - i = 0) := ⟨by omega⟩
    rw [HZ.out]
    clear h hi hn
    go_enter Tryd.func20, Tryd.ntmps20
    go_upto_region 1 with fail
    refine start_ (n := 10) (S := fun w' => w'.cell? ⟨rb, 0, none⟩ = some (.slice A n c) ∧ w'.cell? ⟨rb, 1, none⟩ = some (.int .i64 (i : Int))) (ds := []) #[false, false, false, false, false, false, false, false, false, false] (by kernel_rfl) rfl rfl ⟨H.out.c0, H.out.c1⟩ (fun hHeld => ?_)
    refine pure_ (i := 0) (N := some 3) (v := ?_) (a' := ?_) #[true, false, false, false, false, false, false, false, false, false] rfl rfl (by kernel_rfl) (fun _ _ _ h => h) (Or.inl ⟨by rfl, ?_⟩) ?_ ?_
    rotate_left
    · intro w'
      go_simp
      with_reducible rfl
    rotate_left
    · simp only [Act.put, List.setIfInBounds_toArray, List.set_cons_zero, List.set_cons_succ, i64_w, i32_w]
      rfl
    refine pure_ (i := 1) (N := some 4) (v := ?_) (a' := ?_) #[true, true, false, false, false, false, false, false, false, false] rfl rfl (by kernel_rfl) (fun _ _ _ h => h) (Or.inl ⟨by rfl, ?_⟩) ?_ ?_
    rotate_left
    · intro w'
      go_simp
      with_reducible rfl
    rotate_left
    · simp only [Act.put, List.setIfInBounds_toArray, List.set_cons_zero, List.set_cons_succ, i64_w, i32_w]
      rfl
    refine pure_ (i := 2) (N := some 5) (v := ?_) (a' := ?_) #[true, true, true, false, false, false, false, false, false, false] rfl rfl (by kernel_rfl) (fun _ _ _ h => h) (Or.inl ⟨by rfl, ?_⟩) ?_ ?_
    rotate_left
    · intro w'
      go_simp
      with_reducible rfl
    rotate_left
    · simp only [Act.put, List.setIfInBounds_toArray, List.set_cons_zero, List.set_cons_succ, i64_w, i32_w]
      rfl
    refine take_ (i := 3) (N := some 6) (v := ?_) (a' := ?_) #[true, true, true, true, false, false, false, false, false, false] rfl rfl (by kernel_rfl) (fun _ _ _ h => h) (Or.inl ⟨by rfl, ?_⟩) hHeld ?_ ?_
    rotate_left
    · rintro w' ⟨s0, s1⟩
      go_simp
      with_reducible rfl
    rotate_left
    · simp only [Act.put, List.setIfInBounds_toArray, List.set_cons_zero, List.set_cons_succ, i64_w, i32_w]
      rfl
    refine pure_ (i := 4) (N := some 7) (v := ?_) (a' := ?_) #[true, true, true, true, true, false, false, false, false, false] rfl rfl (by kernel_rfl) (fun _ _ _ h => h) (Or.inl ⟨by rfl, ?_⟩) ?_ ?_
    rotate_left
    · intro w'
      go_simp
      with_reducible rfl
    rotate_left
    · simp only [Act.put, List.setIfInBounds_toArray, List.set_cons_zero, List.set_cons_succ, i64_w, i32_w]
      rfl
    refine pure_ (i := 5) (N := some 8) (v := ?_) (a' := ?_) #[true, true, true, true, true, true, false, false, false, false] rfl rfl (by kernel_rfl) (fun _ _ _ h => h) (Or.inl ⟨by rfl, ?_⟩) ?_ ?_
    rotate_left
    · intro w'
      go_simp
      with_reducible rfl
    rotate_left
    · simp only [Act.put, List.setIfInBounds_toArray, List.set_cons_zero, List.set_cons_succ, i64_w, i32_w]
      rfl
    refine pure_ (i := 6) (N := some 9) (v := ?_) (a' := ?_) #[true, true, true, true, true, true, true, false, false, false] rfl rfl (by kernel_rfl) (fun _ _ _ h => h) (Or.inl ⟨by rfl, ?_⟩) ?_ ?_
    rotate_left
    · intro w'
      go_simp
      with_reducible rfl
    rotate_left
    · simp only [Act.put, List.setIfInBounds_toArray, List.set_cons_zero, List.set_cons_succ, i64_w, i32_w]
      rfl
    refine take_ (i := 7) (N := some 10) (v := ?_) (a' := ?_) #[true, true, true, true, true, true, true, true, false, false] rfl rfl (by kernel_rfl) (fun _ _ _ h => h) (Or.inl ⟨by rfl, ?_⟩) hHeld ?_ ?_
    rotate_left
    · rintro w' ⟨s0, s1⟩
      go_simp
      with_reducible rfl
    rotate_left
    · simp only [Act.put, List.setIfInBounds_toArray, List.set_cons_zero, List.set_cons_succ, i64_w, i32_w]
      rfl
    refine pure_ (i := 8) (N := some 11) (v := ?_) (a' := ?_) #[true, true, true, true, true, true, true, true, true, false] rfl rfl (by kernel_rfl) (fun _ _ _ h => h) (Or.inl ⟨by rfl, ?_⟩) ?_ ?_
    rotate_left
    · intro w'
      go_simp
      with_reducible rfl
    rotate_left
    · simp only [Act.put, List.setIfInBounds_toArray, List.set_cons_zero, List.set_cons_succ, i64_w, i32_w]
      rfl
    refine pure_ (i := 9) (N := some 12) (v := ?_) (a' := ?_) #[true, true, true, true, true, true, true, true, true, true] rfl rfl (by kernel_rfl) (fun _ _ _ h => h) (Or.inl ⟨by rfl, ?_⟩) ?_ ?_
    rotate_left
    · intro w'
      go_simp
      with_reducible rfl
    rotate_left
    · simp only [Act.put, List.setIfInBounds_toArray, List.set_cons_zero, List.set_cons_succ, i64_w, i32_w]
      rfl
    refine done_ (by kernel_rfl) ?_
    go_wp2_with fail
    go_ret
    exact ⟨rfl, below_drew (Below.refl _ _)⟩
  · have h1 : ¬ (n : Int) ≤ (i : Int) := by omega
    clear h hi hn
    go_enter Tryd.func20, Tryd.ntmps20
    go_upto_region 1 with fail
    refine start_ (n := 10) (S := fun w' => w'.cell? ⟨rb, 0, none⟩ = some (.slice A n c) ∧ w'.cell? ⟨rb, 1, none⟩ = some (.int .i64 (i : Int))) (ds := []) #[false, false, false, false, false, false, false, false, false, false] (by kernel_rfl) rfl rfl ⟨H.out.c0, H.out.c1⟩ (fun hHeld => ?_)
    refine pure_ (i := 0) (N := some 3) (v := ?_) (a' := ?_) #[true, false, false, false, false, false, false, false, false, false] rfl rfl (by kernel_rfl) (fun _ _ _ h => h) (Or.inl ⟨by rfl, ?_⟩) ?_ ?_
    rotate_left
    · intro w'
      go_simp
      with_reducible rfl
    rotate_left
    · simp only [Act.put, List.setIfInBounds_toArray, List.set_cons_zero, List.set_cons_succ, i64_w, i32_w]
      rfl
    refine pure_ (i := 1) (N := some 4) (v := ?_) (a' := ?_) #[true, true, false, false, false, false, false, false, false, false] rfl rfl (by kernel_rfl) (fun _ _ _ h => h) (Or.inl ⟨by rfl, ?_⟩) ?_ ?_
    rotate_left
    · intro w'
      go_simp
      with_reducible rfl
    rotate_left
    · simp only [Act.put, List.setIfInBounds_toArray, List.set_cons_zero, List.set_cons_succ, i64_w, i32_w]
      rfl
    refine pure_ (i := 2) (N := some 5) (v := ?_) (a' := ?_) #[true, true, true, false, false, false, false, false, false, false] rfl rfl (by kernel_rfl) (fun _ _ _ h => h) (Or.inl ⟨by rfl, ?_⟩) ?_ ?_
    rotate_left
    · intro w'
      go_simp
      with_reducible rfl
    rotate_left
    · simp only [Act.put, List.setIfInBounds_toArray, List.set_cons_zero, List.set_cons_succ, i64_w, i32_w]
      rfl
    refine take_ (i := 3) (N := some 6) (v := ?_) (a' := ?_) #[true, true, true, true, false, false, false, false, false, false] rfl rfl (by kernel_rfl) (fun _ _ _ h => h) (Or.inl ⟨by rfl, ?_⟩) hHeld ?_ ?_
    rotate_left
    · rintro w' ⟨s0, s1⟩
      go_simp
      with_reducible rfl
    rotate_left
    · simp only [Act.put, List.setIfInBounds_toArray, List.set_cons_zero, List.set_cons_succ, i64_w, i32_w]
      rfl
    refine pure_ (i := 4) (N := some 7) (v := ?_) (a' := ?_) #[true, true, true, true, true, false, false, false, false, false] rfl rfl (by kernel_rfl) (fun _ _ _ h => h) (Or.inl ⟨by rfl, ?_⟩) ?_ ?_
    rotate_left
    · intro w'
      go_simp
      with_reducible rfl
    rotate_left
    · simp only [Act.put, List.setIfInBounds_toArray, List.set_cons_zero, List.set_cons_succ, i64_w, i32_w]
      rfl
    refine pure_ (i := 5) (N := some 8) (v := ?_) (a' := ?_) #[true, true, true, true, true, true, false, false, false, false] rfl rfl (by kernel_rfl) (fun _ _ _ h => h) (Or.inl ⟨by rfl, ?_⟩) ?_ ?_
    rotate_left
    · intro w'
      go_simp
      with_reducible rfl
    rotate_left
    · simp only [Act.put, List.setIfInBounds_toArray, List.set_cons_zero, List.set_cons_succ, i64_w, i32_w]
      rfl
    refine pure_ (i := 6) (N := some 9) (v := ?_) (a' := ?_) #[true, true, true, true, true, true, true, false, false, false] rfl rfl (by kernel_rfl) (fun _ _ _ h => h) (Or.inl ⟨by rfl, ?_⟩) ?_ ?_
    rotate_left
    · intro w'
      go_simp
      with_reducible rfl
    rotate_left
    · simp only [Act.put, List.setIfInBounds_toArray, List.set_cons_zero, List.set_cons_succ, i64_w, i32_w]
      rfl
    refine take_ (i := 7) (N := some 10) (v := ?_) (a' := ?_) #[true, true, true, true, true, true, true, true, false, false] rfl rfl (by kernel_rfl) (fun _ _ _ h => h) (Or.inl ⟨by rfl, ?_⟩) hHeld ?_ ?_
    rotate_left
    · rintro w' ⟨s0, s1⟩
      go_simp
      with_reducible rfl
    rotate_left
    · simp only [Act.put, List.setIfInBounds_toArray, List.set_cons_zero, List.set_cons_succ, i64_w, i32_w]
      rfl
    refine pure_ (i := 8) (N := some 11) (v := ?_) (a' := ?_) #[true, true, true, true, true, true, true, true, true, false] rfl rfl (by kernel_rfl) (fun _ _ _ h => h) (Or.inl ⟨by rfl, ?_⟩) ?_ ?_
    rotate_left
    · intro w'
      go_simp
      with_reducible rfl
    rotate_left
    · simp only [Act.put, List.setIfInBounds_toArray, List.set_cons_zero, List.set_cons_succ, i64_w, i32_w]
      rfl
    refine pure_ (i := 9) (N := some 12) (v := ?_) (a' := ?_) #[true, true, true, true, true, true, true, true, true, true] rfl rfl (by kernel_rfl) (fun _ _ _ h => h) (Or.inl ⟨by rfl, ?_⟩) ?_ ?_
    rotate_left
    · intro w'
      go_simp
      with_reducible rfl
    rotate_left
    · simp only [Act.put, List.setIfInBounds_toArray, List.set_cons_zero, List.set_cons_succ, i64_w, i32_w]
      rfl
    refine done_ (by kernel_rfl) ?_
    go_upto_region 3 with fail
    have hw := HW.out
    refine start_ (n := 11) (S := fun w' => w'.cell? ⟨rb, 0, none⟩ = some (.slice A n c) ∧ w'.cell? ⟨rb, 1, none⟩ = some (.int .i64 (i : Int))) (ds := []) #[false, false, false, false, false, false, false, false, false, false, false] (by kernel_rfl) rfl rfl ⟨H.out.c0, H.out.c1⟩ (fun hHeld => ?_)
    refine pure_ (i := 0) (N := some 13) (v := ?_) (a' := ?_) #[true, false, false, false, false, false, false, false, false, false, false] rfl rfl (by kernel_rfl) (fun _ _ _ h => h) (Or.inl ⟨by rfl, ?_⟩) ?_ ?_
    rotate_left
    · intro w'
      go_simp
      with_reducible rfl
    rotate_left
    · simp only [Act.put, List.setIfInBounds_toArray, List.set_cons_zero, List.set_cons_succ, i64_w, i32_w]
      rfl
    refine pure_ (i := 1) (N := some 14) (v := ?_) (a' := ?_) #[true, true, false, false, false, false, false, false, false, false, false] rfl rfl (by kernel_rfl) (fun _ _ _ h => h) (Or.inl ⟨by rfl, ?_⟩) ?_ ?_
    rotate_left
    · intro w'
      go_simp
      with_reducible rfl
    rotate_left
    · simp only [Act.put, List.setIfInBounds_toArray, List.set_cons_zero, List.set_cons_succ, i64_w, i32_w]
      rfl
    refine pure_ (i := 2) (N := some 15) (v := ?_) (a' := ?_) #[true, true, true, false, false, false, false, false, false, false, false] rfl rfl (by kernel_rfl) (fun _ _ _ h => h) (Or.inl ⟨by rfl, ?_⟩) ?_ ?_
    rotate_left
    · intro w'
      go_simp
      with_reducible rfl
    rotate_left
    · simp only [Act.put, List.setIfInBounds_toArray, List.set_cons_zero, List.set_cons_succ, i64_w, i32_w]
      rfl
    refine take_ (i := 3) (N := some 16) (v := ?_) (a' := ?_) #[true, true, true, true, false, false, false, false, false, false, false] rfl rfl (by kernel_rfl) (fun _ _ _ h => h) (Or.inl ⟨by rfl, ?_⟩) hHeld ?_ ?_
    rotate_left
    · rintro w' ⟨s0, s1⟩
      go_simp
      with_reducible rfl
    rotate_left
    · simp only [Act.put, List.setIfInBounds_toArray, List.set_cons_zero, List.set_cons_succ, i64_w, i32_w]
      rfl
    refine pure_ (i := 4) (N := some 17) (v := ?_) (a' := ?_) #[true, true, true, true, true, false, false, false, false, false, false] rfl rfl (by kernel_rfl) (fun _ _ _ h => h) (Or.inl ⟨by rfl, ?_⟩) ?_ ?_
    rotate_left
    · intro w'
      go_simp
      with_reducible rfl
    rotate_left
    · simp only [Act.put, List.setIfInBounds_toArray, List.set_cons_zero, List.set_cons_succ, i64_w, i32_w]
      rfl
    refine pure_ (i := 5) (N := some 18) (v := ?_) (a' := ?_) #[true, true, true, true, true, true, false, false, false, false, false] rfl rfl (by kernel_rfl) (fun _ _ _ h => h) (Or.inl ⟨by rfl, ?_⟩) ?_ ?_
    rotate_left
    · intro w'
      go_simp
      with_reducible rfl
    rotate_left
    · simp only [Act.put, List.setIfInBounds_toArray, List.set_cons_zero, List.set_cons_succ, i64_w, i32_w]
      rfl
    refine pure_ (i := 6) (N := some 19) (v := ?_) (a' := ?_) #[true, true, true, true, true, true, true, false, false, false, false] rfl rfl (by kernel_rfl) (fun _ _ _ h => h) (Or.inl ⟨by rfl, ?_⟩) ?_ ?_
    rotate_left
    · intro w'
      go_simp
      with_reducible rfl
    rotate_left
    · simp only [Act.put, List.setIfInBounds_toArray, List.set_cons_zero, List.set_cons_succ, i64_w, i32_w]
      rfl
    refine pure_ (i := 7) (N := some 20) (v := ?_) (a' := ?_) #[true, true, true, true, true, true, true, true, false, false, false] rfl rfl (by kernel_rfl) (fun _ _ _ h => h) (Or.inl ⟨by rfl, ?_⟩) ?_ ?_
    rotate_left
    · intro w'
      go_simp
      with_reducible rfl
    rotate_left
    · simp only [Act.put, List.setIfInBounds_toArray, List.set_cons_zero, List.set_cons_succ, i64_w, i32_w]
      rfl
    refine take_ (i := 8) (N := some 21) (v := ?_) (a' := ?_) #[true, true, true, true, true, true, true, true, true, false, false] rfl rfl (by kernel_rfl) (fun _ _ _ h => h) (Or.inl ⟨by rfl, ?_⟩) hHeld ?_ ?_
    rotate_left
    · rintro w' ⟨s0, s1⟩
      go_simp
      with_reducible rfl
    rotate_left
    · simp only [Act.put, List.setIfInBounds_toArray, List.set_cons_zero, List.set_cons_succ, i64_w, i32_w]
      rfl
    refine pure_ (i := 9) (N := some 22) (v := ?_) (a' := ?_) #[true, true, true, true, true, true, true, true, true, true, false] rfl rfl (by kernel_rfl) (fun _ _ _ h => h) (Or.inl ⟨by rfl, ?_⟩) ?_ ?_
    rotate_left
    · intro w'
      go_simp
      with_reducible rfl
    rotate_left
    · simp only [Act.put, List.setIfInBounds_toArray, List.set_cons_zero, List.set_cons_succ, i64_w, i32_w]
      rfl
    refine pure_ (i := 10) (N := some 2) (v := ?_) (a' := ?_) #[true, true, true, true, true, true, true, true, true, true, true] rfl rfl (by kernel_rfl) (fun _ _ _ h => h) (Or.inl ⟨by rfl, ?_⟩) ?_ ?_
    rotate_left
    · intro w'
      go_simp
      with_reducible rfl
    rotate_left
    · simp only [Act.put, List.setIfInBounds_toArray, List.set_cons_zero, List.set_cons_succ, i64_w, i32_w]
      rfl
    refine done_ (by kernel_rfl) ?_
    clear hw
    go_wp2_with fail
    go_ret
    exact ⟨rfl, by first | exact below_drew (below_drew (Below.refl _ _)) | exact below_drew (Below.refl _ _)⟩
set_option maxRecDepth 100000 in
set_option maxHeartbeats 4000000 in
theorem implReadC (n c : Nat) (A : Option Addr) (p tl : List Int) (w : World) (hp : p.length ≤ 100000) (hn : n ≤ 200000) (hr : ReadsInt w .u8 A n (viB (p.length : Int) ++ (p ++ tl))) (hc : n ≤ c) :
    Calls Tryd.prog 10 #[.slice A n c] w fun e w' => ∃ A1 c1, e = .returned (.tuple #[.slice A1 p.length c1, .int .i64 (((viB (p.length : Int)).length + p.length : Nat) : Int), .int .i64 0]) ∧ ReadsInt w' .u8 A1 p.length p ∧ p.length ≤ c1 ∧ Below w.heap.size w w' := by
  obtain ⟨L, hL⟩ : ∃ L, (viB (p.length : Int)).length = L := ⟨_, rfl⟩
  have hlen : L + (p.length + tl.length) = n := by have h1 := hr.1; rw [List.length_append, List.length_append, hL] at h1; exact h1
  have hpn : p.length ≤ n := by omega
  have HR : Aside0 (∀ (w1 : World) (rb : Nat), Below w.heap.size w w1 → w.heap.size ≤ rb → RdC w1 rb (.slice A n c) 0 (-1) → Calls Tryd.prog 18 #[.iface 51 (.pointer (some ⟨rb, 0, none⟩)), .int .u32 0, .int .u32 ((n : Int) + 1), .string { data := #[98, 121, 116, 101, 115] }] w1 fun e w' => ∃ gs, e = .returned (.tuple #[.slice (some ⟨gs, 0, none⟩) p.length p.length, .nilIface]) ∧ ReadsInt w' .u8 (some ⟨gs, 0, none⟩) p.length p ∧ RdC w' rb (.slice A n c) ((L + p.length : Nat) : Int) (-1) ∧ Below w.heap.size w w') := ⟨fun w1 rb h1 h2 h3 => by
    have q := readBytesC w rb n c A 0 ((n : Int) + 1) (.string { data := #[98, 121, 116, 101, 115] }) p tl (-1) w1 h1 h2 hp (by omega) (by omega) hr hc (by omega) h3
    rw [hL] at q
    exact q⟩
  have HCP : Aside0 (∀ gs (w1 : World), ReadsInt w1 .u8 (some ⟨gs, 0, none⟩) p.length p → Calls Tryd.prog 19 #[.slice (some ⟨gs, 0, none⟩) p.length p.length] w1 fun e w' => ∃ A1 c1, e = .returned (.slice A1 p.length c1) ∧ ReadsInt w' .u8 A1 p.length p ∧ p.length ≤ c1 ∧ Below w1.heap.size w1 w') := ⟨fun gs w1 h1 => (copiedC _ p.length p.length p w1 h1 (Nat.le_refl _) (by omega)).mono fun e w' ⟨A1, c1, q1, _, q3, q4, q5⟩ => ⟨A1, c1, q1, q3, q4, q5⟩⟩
  have HLN : Aside0 (∀ rb (w1 : World), RdC w1 rb (.slice A n c) ((L + p.length : Nat) : Int) (-1) → Calls Tryd.prog 20 #[.pointer (some ⟨rb, 0, none⟩)] w1 fun e w' => e = .returned (.int .i64 ((n - (L + p.length) : Nat) : Int)) ∧ Below w1.heap.size w1 w') := ⟨fun rb w1 h1 => lenRC rb (L + p.length) n c (-1) A w1 h1 (by omega) (by omega)⟩
  have HON : Aside0 (∀ w1 : World, Calls Tryd.prog 21 #[.nilIface] w1 fun e w' => e = .returned (.int .i64 0) ∧ Below w1.heap.size w1 w') := ⟨fun w1 => (impl_one.calls none 0 w1 rfl).mono fun e w' ⟨h6, h7⟩ => by
    obtain ⟨nd, rfl⟩ := h7
    exact ⟨h6, pw_below_drewN (Below.refl _ _) nd⟩⟩
  obtain ⟨d, hd⟩ : ∃ d, n - (L + p.length) = d := ⟨_, rfl⟩
  obtain ⟨t, ht⟩ : ∃ t, L + p.length = t := ⟨_, rfl⟩
  obtain ⟨m, hm⟩ : ∃ m, p.length = m := ⟨_, rfl⟩
  have HW : Aside0 (wrap64 ((n : Int) - (d : Int)) = (t : Int)) := ⟨by unfold wrap64; omega⟩
  have HW1 : Aside0 (wrap64 ((n : Int) + 1) = (n : Int) + 1) := ⟨by unfold wrap64; omega⟩
  have HU : Aside0 (IntKind.u32.wrap ((n : Int) + 1) = (n : Int) + 1) := ⟨by unfold IntKind.wrap; simp [IntKind.signed, IntKind.bits]; omega⟩
  rw [hL]
  rw [hd] at HLN
  rw [ht] at HLN HR ⊢
  rw [hm] at HR HCP ⊢
  have HRD := Aside0.mk (implReaderC A n c w)
  clear hp hn hr hc hL hlen hpn hd ht hm
  go_enter Tryd.func10, Tryd.ntmps10
  obtain ⟨rb, hrb⟩ : ∃ r, w.heap.size = r := ⟨_, rfl⟩
  have HRB := Aside0.mk hrb
  rw [hrb] at HRD
  clear hrb
  go_upto_region 2 with (go_at_call 17; (with_reducible refine HRD.out.mono ?_); rintro e w1 ⟨rfl, k1, k2⟩; have K1 := Aside0.mk k1; have B1 := Aside0.mk k2; clear k1 k2; rw [← HRB.out] at B1; have HC1 := Aside0.mk (HR.out w1 rb B1.out (by have := HRB.out; omega) K1.out))
  have hw1 := HW1.out
  have hu := HU.out
  go_upto_region 3 with (go_at_call 18; (with_reducible refine HC1.out.mono ?_); rintro e w2 ⟨gs, rfl, k1, k2, k3⟩; have Q1 := Aside0.mk k1; have Q2 := Aside0.mk k2; have Q3 := Aside0.mk k3; clear k1 k2 k3)
  clear hw1 hu
  have hw := HW.out
  go_wp2_with (first
    | (go_at_call 19; (with_reducible refine (HCP.out gs w2 Q1.out).mono ?_); rintro e w3 ⟨A3, c3, rfl, k1, k2, k3⟩; have S1 := Aside0.mk k1; have S2 := Aside0.mk k2; have S3 := Aside0.mk k3; clear k1 k2 k3)
    | (go_at_call 20; (with_reducible refine (HLN.out rb w3 (Q2.out.below S3.out)).mono ?_); rintro e w4 ⟨rfl, k1⟩; have S4 := Aside0.mk k1; clear k1)
    | (go_at_call 21; (with_reducible refine (HON.out w4).mono ?_); rintro e w5 ⟨rfl, k1⟩; have S5 := Aside0.mk k1; clear k1))
  go_ret3
  exact ⟨A3, c3, rfl, (S1.out.below S4.out).below S5.out, S2.out, below_then Q3.out Q3.out.size (below_trV S3.out (below_trV S4.out S5.out))⟩
set_option maxRecDepth 100000 in
set_option maxHeartbeats 4000000 in
theorem implVarC (A : Option Addr) (n c : Nat) (p : List Int) (w : World) (hr : ReadsInt w .u8 A n p) (hc : n ≤ c) (hn : n ≤ 1000000000) : Calls Tryd.prog 7 #[.slice A n c] w fun e w' => ∃ A1 m c1, e = .returned (.slice A1 m c1) ∧ ReadsInt w' .u8 A1 m (viB (n : Int) ++ p) ∧ m ≤ c1 ∧ Below w.heap.size w w' := by
  have HRR := Aside0.mk hr
  have HC := Aside0.mk hc
  have HN := Aside0.mk hn
  clear hr hc hn
  go_enter Tryd.func7, Tryd.ntmps7
  go_upto_region 2 with fail
  have HBN := Aside0.mk (bufNew w)
  obtain ⟨b, hb⟩ : ∃ b, w.heap.size = b := ⟨_, rfl⟩
  have HBB := Aside0.mk hb
  rw [hb] at HBN ⊢
  generalize hw2 : World.alloc _ _ = w2
  have HB2 : Aside0 (Below w.heap.size w w2) := ⟨by rw [← hw2]; exact below_alloc (Below.refl _ _) _⟩
  rw [hw2] at HBN
  clear hw2 hb
  have HS2 : Aside0 ((bufSink w b).St w2 []) := ⟨HB2.out, HBN.out.1, fun k hk => by rw [HBB.out]; exact HBN.out.2 k hk⟩
  have HV := Aside0.mk (varBytesC (bufSink w b) Tryd.func62 rfl rfl 0 A n c p HRR.out HC.out (by have := HN.out; omega) w2 [] HS2.out (by have := HN.out; simp only [List.length_nil]; omega))
  go_upto_region 3 with (go_at_call 14; (with_reducible refine HV.out.mono ?_); rintro e w4 ⟨rfl, k1, k2⟩; have HS4 := Aside0.mk k1; clear k1 k2)
  have HYB := Aside0.mk (bufBytes b _ w4 HS4.out.2.1)
  have HBQ := Aside0.mk ((bufSink w b).below HS4.out)
  rw [List.nil_append] at HYB
  obtain ⟨m, hm⟩ : ∃ m, (viB (n : Int) ++ p).length = m := ⟨_, rfl⟩
  rw [hm] at HYB
  go_wp2_with (go_at_call 15; (with_reducible refine HYB.out.mono ?_); rintro e w6 ⟨A6, c6, rfl, k1, k2, k3, k4, k5⟩; have HR6 := Aside0.mk k1; have HC6 := Aside0.mk k2; have HB6 := Aside0.mk k5; clear k1 k2 k3 k4 k5)
  go_ret
  exact ⟨A6, m, c6, rfl, HR6.out, HC6.out, below_then HBQ.out HBQ.out.size HB6.out⟩
end Go.Proofs.YtpogfbompljkkaaDoor.Snk
/- The law FnVarBytes: its walk. -/
namespace Go.Proofs.YtpogfbompljkkaaDoor.Snk
open Go.RowKit Go.Proofs.YtpogfbompljkkaaDoorW.PrintWords Go.Proofs.YtpogfbompljkkaaDoorW.PrintLast Go.Proofs.YtpogfbompljkkaaDoorW.PrintMore Go.Proofs.YtpogfbompljkkaaDoor.QFnVarBytes
set_option linter.unusedVariables false
set_option linter.unusedSimpArgs false
theorem infoB8 : (Tryd.prog.info? 5).map (fun i => (i.zero, i.size, i.bytes)) = some (some (.int .u8 0), 1, 1) := by kernel_rfl
/-- Bytes appended to a row of one's own. -/
theorem appV_ {w0 W : World} {ops : Array Oper} {rest : List Oper} {o : Oper} {a : Act} {Q : Exit → Act → World → Prop} (N : Tmp) (hN : o.dst = some N) (hgd : o.guard = none) (s x : Operand) (ho : o.op = .call { callee := .builtin .append, args := #[s, x], argTypes := #[28, 28] })
    (v : Value) (xs ys : List Int) (A : Option Addr) (m c : Nat) (hs : a.eval s = v) (hx : a.eval x = .slice A m c) (hR : Kd.R (Kd.int .u8) 5 W w0.heap.size (fun _ => True) v xs) (hr : ReadsInt W .u8 A m ys) (hB : Below w0.heap.size w0 W) (hL : xs.length + m ≤ 140737488355328)
    (h : ∀ v1 w1, Kd.R (Kd.int .u8) 5 w1 w0.heap.size (fun _ => True) v1 (xs ++ ys) → Below w0.heap.size w0 w1 → W.grownBy w1 v.ownBlock → (v1.ownBlock = v.ownBlock ∨ ∃ b, v1.ownBlock = some b ∧ W.heap.size ≤ b) → wpList Tryd.prog ops Q rest (a.put (some N) v1) w1) : wpList Tryd.prog ops Q (o :: rest) a W := by
  refine Kd.R_append_rows (Kd.int .u8) (w0 := w0) w0.heap.size hgd s x 28 5 (.int .u8 0) 1 ho Tryd.underlying28 infoB8 rfl (by decide) (by omega) v xs ys A m c (fun _ => True) (fun _ => False) hs hx hR (rdC hr) (fun _ _ h => h) (fun _ h => h.elim) (fun _ _ => trivial) hB hB.size (by omega) ?_
  intro v1 w1 h1 h2 h3 h4
  rw [hN]
  exact h v1 w1 h1 h2 h3 h4
theorem ev_same (l : List Int) (hl : l.length ≤ 1000000) : Ev (fun k => laws_same.f k l l) true := by
  have w64 : ∀ x : Int, 0 ≤ x → x ≤ 9223372036854775807 → wrap64 x = x := fun x h0 h1 => by unfold wrap64; omega
  have key : ∀ d (i : Nat), i + d = l.length → Ev (fun k => laws_same.l0 k l l i) true := by
    intro d
    induction d with
    | zero =>
      intro i hi
      refine Ev.step (fun k => ?_) (Ev.now _)
      rw [laws_same.l0, if_neg (by omega)]
    | succ d ih =>
      intro i hi
      refine Ev.step (fun k => ?_) (ih (i + 1) (by omega))
      rw [laws_same.l0, if_pos (by omega), if_pos (by omega), if_pos (by omega), if_pos rfl, w64 _ (by omega) (by omega)]
      rfl
  refine Ev.congr (fun k => ?_) (key l.length 0 (by omega))
  unfold laws_same.f
  rw [if_pos rfl]; rfl
set_option maxRecDepth 100000 in
theorem earlyV_a (A B : Option Addr) (c d : Nat) (p tl : List Int) (w : World) (h : 2147483647 < p.length) : Calls Tryd.prog 4 #[.slice A p.length c, .slice B tl.length d] w fun e w' => e = .returned (.bool true) ∧ Below w.heap.size w w' := by
  have b1 : (2147483647 : Int) < (p.length : Int) := by omega
  go_enter Tryd.func4, Tryd.ntmps4
  go_wp2
  go_ret
  exact ⟨rfl, Below.refl _ _⟩
set_option maxRecDepth 100000 in
theorem earlyV_b (A B : Option Addr) (c d : Nat) (p tl : List Int) (w : World) (h1 : p.length ≤ 2147483647) (h : 2147483647 < tl.length) : Calls Tryd.prog 4 #[.slice A p.length c, .slice B tl.length d] w fun e w' => e = .returned (.bool true) ∧ Below w.heap.size w w' := by
  have b1 : ¬ (2147483647 : Int) < (p.length : Int) := by omega
  have d1 : decide ((2147483647 : Int) < (p.length : Int)) = false := decide_eq_false b1
  have n1 : ¬ 2147483647 < p.length := by omega
  have b2 : (2147483647 : Int) < (tl.length : Int) := by omega
  go_enter Tryd.func4, Tryd.ntmps4
  go_wp2
  go_ret
  exact ⟨rfl, Below.refl _ _⟩
set_option maxRecDepth 100000 in
theorem earlyV_c (A B : Option Addr) (c d : Nat) (p tl : List Int) (w : World) (h1 : p.length ≤ 2147483647) (h2 : tl.length ≤ 2147483647) (h : 100000 < p.length + tl.length) : Calls Tryd.prog 4 #[.slice A p.length c, .slice B tl.length d] w fun e w' => e = .returned (.bool true) ∧ Below w.heap.size w w' := by
  have b1 : ¬ (2147483647 : Int) < (p.length : Int) := by omega
  have d1 : decide ((2147483647 : Int) < (p.length : Int)) = false := decide_eq_false b1
  have n1 : ¬ 2147483647 < p.length := by omega
  have b2 : ¬ (2147483647 : Int) < (tl.length : Int) := by omega
  have d2 : decide ((2147483647 : Int) < (tl.length : Int)) = false := decide_eq_false b2
  have n2 : ¬ 2147483647 < tl.length := by omega
  have hs : (100000 : Int) < (p.length : Int) + (tl.length : Int) := by omega
  have HQ : IntKind.i64.wrap ((p.length : Int) + (tl.length : Int)) = (p.length : Int) + (tl.length : Int) := by unfold IntKind.wrap; simp [IntKind.signed, IntKind.bits]; omega
  have HQ2 : wrap64 ((p.length : Int) + (tl.length : Int)) = (p.length : Int) + (tl.length : Int) := by clear HQ; unfold wrap64; omega
  go_enter Tryd.func4, Tryd.ntmps4
  go_wp2
  go_ret
  exact ⟨rfl, Below.refl _ _⟩
set_option maxRecDepth 100000 in
set_option maxHeartbeats 8000000 in
theorem mainVb (A B : Option Addr) (c d : Nat) (p tl : List Int) (w : World) (hs : p.length + tl.length ≤ 100000) (hr : ReadsInt w .u8 A p.length p) (hc : p.length ≤ c) (hr2 : ReadsInt w .u8 B tl.length tl) (hc2 : tl.length ≤ d) : Calls Tryd.prog 4 #[.slice A p.length c, .slice B tl.length d] w fun e w' => e = .returned (.bool true) ∧ Below w.heap.size w w' := by
  have HSM : Aside0 (∀ (w1 : World) (l : List Int) (Aa Ab : Option Addr) (na ca nb cb : Nat), l.length ≤ 1000000 → ReadsInt w1 .u8 Aa na l → na ≤ ca → ReadsInt w1 .u8 Ab nb l → nb ≤ cb → Calls Tryd.prog 8 #[.slice Aa na ca, .slice Ab nb cb] w1 fun e w' => e = .returned (.bool true) ∧ Below w1.heap.size w1 w') := ⟨fun w1 l Aa Ab na ca nb cb hl h1 h2 h3 h4 => by
    obtain rfl : l.length = na := h1.1
    obtain rfl : l.length = nb := h3.1
    obtain ⟨ks, hks⟩ := (ev_same l hl).rounds
    exact (laws_same.calls ks Aa ca l Ab cb l true w1 (rdC h1) h2 (rdC h3) h4 hks).mono fun e w' ⟨h6, h7⟩ => by
      obtain ⟨nd, rfl⟩ := h7
      exact ⟨h6, pw_below_drewN (Below.refl _ _) nd⟩⟩
  obtain ⟨m, hm⟩ : ∃ m, (viB (p.length : Int) ++ p).length = m := ⟨_, rfl⟩
  have hLm : (viB (p.length : Int)).length + p.length = m := by rw [← hm, List.length_append]
  have hml : m ≤ 100005 := by have := viB_len (p.length : Int); omega
  have HML := Aside0.mk hml
  have HIV : Aside0 (Calls Tryd.prog 7 #[.slice A p.length c] w fun e w' => ∃ A1 c1, e = .returned (.slice A1 m c1) ∧ ReadsInt w' .u8 A1 m (viB (p.length : Int) ++ p) ∧ m ≤ c1 ∧ Below w.heap.size w w') := ⟨(implVarC A p.length c p w hr hc (by omega)).mono fun e w' ⟨A1, m1, c1, h1, h2, h3, h4⟩ => by
    obtain rfl : m = m1 := hm.symm.trans h2.1
    exact ⟨A1, c1, h1, h2, h3, h4⟩⟩
  have HSV : Aside0 (∀ w1, Below w.heap.size w w1 → Calls Tryd.prog 9 #[.slice A p.length c] w1 fun e w' => ∃ A1 c1, e = .returned (.slice A1 m c1) ∧ ReadsInt w' .u8 A1 m (viB (p.length : Int) ++ p) ∧ m ≤ c1 ∧ Below w1.heap.size w1 w') := ⟨fun w1 hb => (varBytesSpecC A p.length c p w1 (hr.below hb) hc (by omega)).mono fun e w' ⟨A1, m1, c1, h1, h2, h3, h4⟩ => by
    obtain rfl : m = m1 := hm.symm.trans h2.1
    exact ⟨A1, c1, h1, h2, h3, h4⟩⟩
  have HRV : Aside0 (∀ A5 n5 c5 w1, ReadsInt w1 .u8 A5 n5 ([] ++ (viB (p.length : Int) ++ p) ++ tl) → n5 ≤ c5 → Calls Tryd.prog 10 #[.slice A5 n5 c5] w1 fun e w' => ∃ A1 c1, e = .returned (.tuple #[.slice A1 p.length c1, .int .i64 (m : Int), .int .i64 0]) ∧ ReadsInt w' .u8 A1 p.length p ∧ p.length ≤ c1 ∧ Below w1.heap.size w1 w') := ⟨fun A5 n5 c5 w1 h1 h2 => by
    rw [List.nil_append, List.append_assoc] at h1
    have q := implReadC n5 c5 A5 p tl w1 (by omega) (by have h3 := h1.1; rw [List.length_append, List.length_append] at h3; have h4 := viB_len (p.length : Int); omega) h1 h2
    rw [hLm] at q
    exact q⟩
  obtain ⟨bw, hbw⟩ : ∃ x, viB (p.length : Int) ++ p = x := ⟨_, rfl⟩
  rw [hbw] at HIV HSV HRV hm
  have HBW := Aside0.mk hm
  have HR0 := Aside0.mk hr
  have HC0 := Aside0.mk hc
  have HR2 := Aside0.mk hr2
  have HSS := Aside0.mk hs
  have hsum : ¬ (100000 : Int) < (p.length : Int) + (tl.length : Int) := by omega
  have b1 : ¬ (2147483647 : Int) < (p.length : Int) := by omega
  have d1 : decide ((2147483647 : Int) < (p.length : Int)) = false := decide_eq_false b1
  have n1 : ¬ 2147483647 < p.length := by omega
  have b2 : ¬ (2147483647 : Int) < (tl.length : Int) := by omega
  have d2 : decide ((2147483647 : Int) < (tl.length : Int)) = false := decide_eq_false b2
  have n2 : ¬ 2147483647 < tl.length := by omega
  have HQ : IntKind.i64.wrap ((p.length : Int) + (tl.length : Int)) = (p.length : Int) + (tl.length : Int) := by unfold IntKind.wrap; simp [IntKind.signed, IntKind.bits]; omega
  have HQ2 : wrap64 ((p.length : Int) + (tl.length : Int)) = (p.length : Int) + (tl.length : Int) := by clear HQ; unfold wrap64; omega
  have HP := Aside0.mk HQ
  have HP2 := Aside0.mk HQ2
  clear HQ HQ2
  clear hr hc hr2 hc2 hs hm hLm hbw hml
  have HQ := HP.out
  have HQ2 := HP2.out
  go_enter Tryd.func4, Tryd.ntmps4
  go_upto_region 5 with fail
  clear HQ HQ2
  go_upto_region 6 with (go_at_call 7; (with_reducible refine HIV.out.mono ?_); rintro e w1 ⟨A1, c1, rfl, k1, k2, k3⟩; have R1 := Aside0.mk k1; have C1 := Aside0.mk k2; have B1 := Aside0.mk k3; clear k1 k2 k3)
  go_upto_region 8 with (first
    | (go_at_call 9; (with_reducible refine (HSV.out w1 B1.out).mono ?_); rintro e w2 ⟨A2, c2, rfl, k1, k2, k3⟩; have R2 := Aside0.mk k1; have C2 := Aside0.mk k2; have B2 := Aside0.mk (below_trV B1.out k3); have R12 := Aside0.mk (R1.out.below k3); clear k1 k2 k3)
    | (go_at_call 8; (with_reducible refine (HSM.out w2 bw A1 A2 m c1 m c2 (by rw [HBW.out]; have := HML.out; omega) R12.out C1.out R2.out C2.out).mono ?_); rintro e w3 ⟨rfl, k1⟩; have B3 := Aside0.mk (below_trV B2.out k1); have R3 := Aside0.mk (R12.out.below k1); clear k1))
  go_upto_region 9 with (first
    | ((with_reducible refine gate_dst (N := 31) rfl ?_); refine Kd.R_lit (Kd.int .u8) (w0 := w3) w3.heap.size 5 ?hg (N := 31) ?hd (xs := ([] : List Int)) (inner := []) (ok := fun _ => True) (okp := fun _ => True) ?hr ?hp (fun _ hk => hk) trivial (Below.refl _ _) (Nat.le_refl _) (by simp) ?_; (case hd => rfl); (case hg => rfl); (case hr => first | (go_simp; done) | (go_simp; rfl)); (case hp => exact (Reps.none _ _)); intro v3 w4 k1 k2 k3 k4; have V4 := Aside0.mk k1; have B4 := Aside0.mk k2; clear k1 k2 k3 k4)
    | ((with_reducible refine gate_dst (N := 33) rfl ?_); refine appV_ (w0 := w3) 33 rfl rfl (.tmp 31) (.tmp 32) rfl v3 [] bw A1 m c1 rfl rfl V4.out (R3.out.below B4.out) B4.out (by have := HML.out; simp only [List.length_nil]; omega) ?_; intro v4 w5 k1 k2 k3 k4; have V5 := Aside0.mk k1; have B5 := Aside0.mk k2; clear k1 k2 k3 k4)
    | ((with_reducible refine gate_dst (N := 35) rfl ?_); refine appV_ (w0 := w3) 35 rfl rfl (.tmp 33) (.tmp 34) rfl v4 ([] ++ bw) tl B tl.length d rfl rfl V5.out (HR2.out.below (below_trV B3.out B5.out)) B5.out (by have := HBW.out; have := HML.out; have := HSS.out; simp only [List.length_append, List.length_nil]; omega) ?_; intro v5 w6 k1 k2 k3 k4; have B6 := Aside0.mk k2; obtain ⟨A5, c5, e5, hl5, hC5⟩ := Kd.R_reads k1; obtain ⟨n5, hn5⟩ : ∃ n, ([] ++ bw ++ tl).length = n := ⟨_, rfl⟩; rw [hn5] at e5 hl5 hC5; subst e5; have HRC := Aside0.mk (HRV.out A5 _ c5 w6 (readsInt_of.2 (Kd.reads_of_C hC5)) hl5); clear k1 k2 k3 k4 hl5 hC5 hn5)
    | (go_at_call 10; (with_reducible refine HRC.out.mono ?_); rintro e w7 ⟨A7, c7, rfl, k1, k2, k3⟩; have R7 := Aside0.mk k1; have C7 := Aside0.mk k2; have B7 := Aside0.mk (below_trV B3.out (below_trV B6.out k3)); clear k1 k2 k3))
  go_wp2_with (go_at_call 8; (with_reducible refine (HSM.out w7 p A7 A p.length c7 p.length c (by have := HSS.out; omega) R7.out C7.out (HR0.out.below B7.out) HC0.out).mono ?_); rintro e w8 ⟨rfl, k1⟩; have B8 := Aside0.mk (below_trV B7.out k1); clear k1)
  go_ret
  exact ⟨rfl, B8.out⟩
theorem walkVb (A B : Option Addr) (c d : Nat) (p tl : List Int) (w : World) (hr : ReadsInt w .u8 A p.length p) (hc : p.length ≤ c) (hr2 : ReadsInt w .u8 B tl.length tl) (hc2 : tl.length ≤ d) : Calls Tryd.prog 4 #[.slice A p.length c, .slice B tl.length d] w fun e w' => e = .returned (.bool true) ∧ Below w.heap.size w w' := by
  by_cases c0 : 2147483647 < p.length
  · exact earlyV_a A B c d p tl w c0
  by_cases c1 : 2147483647 < tl.length
  · exact earlyV_b A B c d p tl w (by omega) c1
  by_cases c2 : 100000 < p.length + tl.length
  · exact earlyV_c A B c d p tl w (by omega) (by omega) c2
  exact mainVb A B c d p tl w (by omega) hr hc hr2 hc2
end Go.Proofs.YtpogfbompljkkaaDoor.Snk

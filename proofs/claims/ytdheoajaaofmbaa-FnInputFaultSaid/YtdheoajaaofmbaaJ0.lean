/- A coin: its kind, its cells. -/
import Derived.Test.YtdheoajaaofmbaaTf4
import Derived.Test.YtdheoajaaofmbaaTxP
import Derived.Test.YtdheoajaaofmbaaTf6
namespace Go.Proofs.Ytdheoajaaofmbaa.QFnScriptPlaces
open Go.RowKit Go.Proofs.YtdheoajaaofmbaaW.PrintWords Go.Proofs.YtdheoajaaofmbaaW.PrintLast Go.Proofs.YtdheoajaaofmbaaW.PrintMore
set_option linter.unusedVariables false
set_option linter.unusedSimpArgs false
/-- A coin: a place, an output, a height, whether a block's first transaction made it, whether it is spent. -/
structure S74 where
  f0 : S31
  f1 : S41
  f2 : Int
  f3 : Bool
  f4 : Bool
def z74 : S74 := ⟨z31, ⟨0, []⟩, 0, false, false⟩
def k74 : Kd S74 := Kd.iso (Kd.pair k31 (Kd.pair k41 (Kd.pair (Kd.int .i32) (Kd.pair Kd.bool Kd.bool)))) (fun x => (x.f0, x.f1, x.f2, x.f3, x.f4))
def coinC (x : S74) (A : Option Addr) (c : Nat) : List Value := hashC x.f0.f0 ++ [.int .u32 x.f0.f1, .int .i64 x.f1.f0, .slice A x.f1.f1.length c, .int .i32 x.f2, .bool x.f3, .bool x.f4]
theorem k74_open {w : World} {x : S74} {cs : List Value} (h : k74.K w x cs) : ∃ A c, cs = coinC x A c ∧ x.f0.f0.length = 32 ∧ x.f1.f1.length ≤ c ∧ (Kd.int .u8).C w A x.f1.f1.length x.f1.f1 := by
  obtain ⟨c0, r0, rfl, h0, c1, r1, rfl, h1, c2, r2, rfl, h2, c3, r3, rfl, h3, h4⟩ := h
  obtain ⟨e0, hl⟩ := k31_open h0
  obtain ⟨A, c, e1, l1, g1⟩ := k41_open h1
  refine ⟨A, c, ?_, hl, l1, g1⟩
  rw [show c2 = [Value.int .i32 x.f2] from h2, show c3 = [Value.bool x.f3] from h3, show r3 = [Value.bool x.f4] from h4]
  have e0' : c0 = hashC x.f0.f0 ++ [.int .u32 x.f0.f1] := e0
  have e1' : c1 = [.int .i64 x.f1.f0, .slice A x.f1.f1.length c] := e1
  rw [e0', e1']
  unfold coinC
  simp
theorem k74_mk (w : World) (x : S74) (h : x.f0.f0.length = 32) {A : Option Addr} {c : Nat} (l1 : x.f1.f1.length ≤ c) (g1 : (Kd.int .u8).C w A x.f1.f1.length x.f1.f1) : k74.K w x (coinC x A c) :=
  ⟨hashC x.f0.f0 ++ [.int .u32 x.f0.f1], _, by unfold coinC; rw [List.append_assoc]; rfl, k31_mk w x.f0 h, [.int .i64 x.f1.f0, .slice A x.f1.f1.length c], _, rfl, k41_mk w x.f1 l1 g1, [.int .i32 x.f2], _, rfl, rfl, [.bool x.f3], [.bool x.f4], rfl, rfl, rfl⟩
theorem coinC_len {x : S74} (h : x.f0.f0.length = 32) (A : Option Addr) (c : Nat) : (coinC x A c).length = 38 := by unfold coinC; rw [List.length_append, hashC_len h]; rfl
theorem coinC_at {x : S74} (h : x.f0.f0.length = 32) (A : Option Addr) (c : Nat) (j : Nat) : (coinC x A c)[32 + j]? = [Value.int .u32 x.f0.f1, .int .i64 x.f1.f0, .slice A x.f1.f1.length c, .int .i32 x.f2, .bool x.f3, .bool x.f4][j]? := by
  unfold coinC
  rw [List.getElem?_append_right (by rw [hashC_len h]; omega), hashC_len h, Nat.add_sub_cancel_left]
theorem coinC_one (x : S74) (A : Option Addr) (c : Nat) : (coinC x A c).toArray.all (·.oneCell') = true := by
  rw [List.all_toArray, List.all_eq_true]
  intro u hu
  unfold coinC hashC at hu
  rw [List.mem_append, List.mem_map] at hu
  rcases hu with ⟨y, _, rfl⟩ | hu
  · rfl
  · simp at hu
    rcases hu with rfl | rfl | rfl | rfl | rfl | rfl <;> rfl
/-- The first 33 cells are the place's. -/
theorem coinC_take {x : S74} (h : x.f0.f0.length = 32) (A : Option Addr) (c : Nat) : (coinC x A c).take 33 = opC x.f0.f0 x.f0.f1 := by
  unfold coinC opC
  rw [List.take_append, hashC_len h, List.take_of_length_le (by rw [hashC_len h]; decide)]
  rfl
def rdC (xs : List S74) (i : Int) : S74 := xs.getD i.toNat z74
theorem rd_coin (l : List S74) (i : Nat) (hi : i < l.length) : rdC l (i : Int) = l[i] := by
  show l.getD (i : Int).toNat _ = _
  rw [Int.toNat_natCast, List.getD_eq_getElem?_getD, List.getElem?_eq_getElem hi]; rfl
/-- Coin i of a row, as a whole. -/
theorem coin_at {w : World} {A : Option Addr} {n : Nat} {xs : List S74} (h : Kd.C k74 w A n xs) (i : Int) (h0 : 0 ≤ i) (h1 : i < n) :
    ∃ ad A1 c1, A = some ad ∧ (rdC xs i).f0.f0.length = 32 ∧ (rdC xs i).f1.f1.length ≤ c1 ∧ (Kd.int .u8).C w A1 (rdC xs i).f1.f1.length (rdC xs i).f1.f1 ∧ ∀ j v, (coinC (rdC xs i) A1 c1)[j]? = some v → w.cell? ((ad.add (i.toNat * 38)).add j) = some v := by
  obtain ⟨ad, c, rfl, hcl, hK, hcc⟩ := Kd.C_get h z74 i h0 h1
  obtain ⟨A1, c1, e, hl, l1, g1⟩ := k74_open hK
  subst e
  refine ⟨ad, A1, c1, rfl, hl, l1, g1, fun j v hv => ?_⟩
  rw [Addr.add_add]
  exact hcc j v hv
theorem size_coin : (Try.prog.info? 74).map (·.size) = some 38 := by kernel_rfl
end Go.Proofs.Ytdheoajaaofmbaa.QFnScriptPlaces
/- A coin's place; the coin at a place. -/
namespace Go.Proofs.Ytdheoajaaofmbaa.QFnScriptPlaces
open Go.RowKit Go.Proofs.YtdheoajaaofmbaaW.PrintWords Go.Proofs.YtdheoajaaofmbaaW.PrintLast Go.Proofs.YtdheoajaaofmbaaW.PrintMore
set_option linter.unusedVariables false
set_option linter.unusedSimpArgs false
theorem exec_store_row {P : Program} {o : Oper} {w : World} {ρ : Operand → Value} (ty : TypeId) (x y : Operand) (ho : o.op = .store ty x y) (g : Nat) (cells : Array Value) (hx : ρ x = .pointer (some ⟨g, 0, none⟩)) (hy : ρ y = .agg cells)
    (t : TypeId) (old : Array Value) (hg : w.heap[g]? = some (.cells old t (0, 0))) (hi : (P.info? ty).map (·.size) = some cells.size) (hold : old.size = cells.size) (h1 : cells.all (·.oneCell') = true) : (execOp ρ o).run P w = .ok .skip (w.setRow g cells) := by
  unfold execOp
  simp only [ho, hx, hy, Instr.storeAt, Instr.sureAddr, Sem.run_bind, Sem.run_pure, Result.andThen_ok, run_storeVar_row w g t ty old cells hg hi hold h1]
def plOf (x : S74) : List Int × Int := (x.f0.f0, x.f0.f1)
/-- The last coin of the first i at a place. -/
def lastC (l : List S74) (p : List Int × Int) : Nat → Option S74
  | 0 => none
  | i + 1 => if plOf (rdC l (i : Int)) = p then some (rdC l (i : Int)) else lastC l p i
theorem coin_eq {h1 h2 : List Int} {n1 n2 : Int} (k1 : OpOk h1 n1) (k2 : OpOk h2 n2) (W : World) : (binOp .eql 31 (.agg (opC h1 n1).toArray) (.agg (opC h2 n2).toArray)).run Try.prog W = .ok (.bool (decide ((h1, n1) = (h2, n2)))) W :=
  (run_eq_of W (m := 3) (by decide) (by kernel_rfl) Try.underlying31 (Or.inr ⟨_, rfl⟩) (keyOf_op1 k1) (keyOf_op1 k2) (by rw [decide_eq_true_eq, opL_iff k1 k2, Prod.mk.injEq])).1
theorem cells_sub {w : World} {ad : Addr} {cs : List Value} {n : Nat} (h : ∀ j u, cs[j]? = some u → w.cell? (ad.add j) = some u) : ∀ j u, (cs.take n)[j]? = some u → w.cell? (ad.add j) = some u := fun j u hj => by
  rw [List.getElem?_take] at hj
  split at hj
  · exact h j u hj
  · cases hj
theorem below_setRow {w0 W : World} {B : Nat} (h : Below B w0 W) {g : Nat} (hg : B ≤ g) (cs : Array Value) : Below B w0 (W.setRow g cs) :=
  ⟨h.os, h.tape, h.output, by simpa [World.setRow] using h.size, fun k hk => (show (W.setRow g cs).heap[k]? = W.heap[k]? by simp [World.setRow, Array.getElem?_modify, show g ≠ k by omega]).trans (h.block k hk)⟩
theorem told_of_block {w : World} {g : Nat} {cs : List Value} {t : TypeId} {fr : Nat × Nat} (h : w.heap[g]? = some (.cells cs.toArray t fr)) : ∀ j u, cs[j]? = some u → w.cell? ((⟨g, 0, none⟩ : Addr).add j) = some u := fun j u hj => by
  rw [add_plain]
  exact cell_of h (by simpa using hj)
theorem results_ct {P : Program} {fn : Func} {p u : Tmp} {ty : TypeId} (h : fn.results = #[.cell p ty, .tmp u]) (tmps : Array Value) (w : World) (g : Nat) (t : TypeId) (cs : Array Value) (d : TypeDesc) {fr : Nat × Nat} (hp : tmps.getD p undef = .pointer (some ⟨g, 0, none⟩))
    (hg : w.heap[g]? = some (.cells cs t fr)) (hu : P.underlying ty = some d) (hd : (match d with | .struct _ | .array _ _ => true | _ => false) = true) (hi : (P.info? ty).map (·.size) = some cs.size) :
    (results fn tmps).run P w = .ok (.tuple #[.agg cs, tmps.getD u undef]) w := by
  rw [results_cell_tmp h, hp]
  have h1 : (asAddr (.pointer (some ⟨g, 0, none⟩))).run P w = .ok ⟨g, 0, none⟩ w := rfl
  rw [h1, Result.andThen_ok, run_loadVar_row w g t ty cs fr d hg hu hd hi, Result.andThen_ok]
theorem add_block (a : Addr) (j : Nat) : (a.add j).block = a.block := by unfold Addr.add; split <;> rfl
theorem cell_setRow_ne {W : World} {g : Nat} {cs : Array Value} {a : Addr} (h : a.block ≠ g) : (W.setRow g cs).cell? a = W.cell? a :=
  World.cell?_of_block (w := W) (show (W.setRow g cs).heap[a.block]? = W.heap[a.block]? by simp [World.setRow, Array.getElem?_modify, Ne.symm h])
/-- A coin that a function hands on by value. -/
structure CoinV (w : World) (x : S74) (v : Value) : Prop where
  ex : ∃ A1 c1, v = .agg (coinC x A1 c1).toArray ∧ x.f1.f1.length ≤ c1 ∧ (Kd.int .u8).C w A1 x.f1.f1.length x.f1.f1
  len : x.f0.f0.length = 32
structure CoinAtP (w : World) (LL : Option S74) (e : Ending) (w' : World) : Prop where
  ex : ∃ (cs : List Value) (b : Bool), e = .returned (.tuple #[.agg cs.toArray, .bool b]) ∧ (cs.length = 38 ∧ cs.toArray.all (·.oneCell') = true) ∧ (∀ x, LL = some x → b = !x.f4 ∧ CoinV w x (.agg cs.toArray)) ∧ (LL = none → b = false)
  low : Below w.heap.size w w'
set_option maxRecDepth 100000 in
set_option maxHeartbeats 8000000 in
theorem coinAtC (A : Option Addr) (c : Nat) (l : List S74) (p1 : List Int) (p2 : Int) (w : World) (hr : Kd.C k74 w A l.length l) (hn : l.length ≤ 1000000) (hok : ∀ i : Nat, i < l.length → OpOk (rdC l (i : Int)).f0.f0 (rdC l (i : Int)).f0.f1) (hp : OpOk p1 p2) :
    Calls Try.prog 41 #[.slice A l.length c, .agg (opC p1 p2).toArray] w fun e w' => CoinAtP w (lastC l (p1, p2) l.length) e w' := by
  have HR := Aside0.mk hr
  have HN := Aside0.mk hn
  have HOK := Aside0.mk hok
  have HP := Aside0.mk hp
  obtain ⟨hp9, hhp⟩ : ∃ q, opC p1 p2 = q := ⟨_, rfl⟩
  have HPE := Aside0.mk hhp
  have HPL : Aside0 (hp9.length = 33) := ⟨by rw [← hhp]; exact opC_len hp.l _⟩
  rw [hhp]
  clear hr hn hok hp hhp
  obtain ⟨LL, hLL⟩ : ∃ q, lastC l (p1, p2) l.length = q := ⟨_, rfl⟩
  have HLL := Aside0.mk hLL
  rw [hLL]
  clear hLL
  go_enter Try.func41, Try.ntmps41
  have hw0 : wrap64 ((l.length : Int) - 1) = (l.length : Int) - 1 := by have := HN.out; unfold wrap64; omega
  go_upto_region 1 with fail
  obtain ⟨w1, hw1⟩ : ∃ w1 : World, (w.alloc (.cells hp9.toArray 31)).alloc (.cells #[.int .u8 0, .int .u8 0, .int .u8 0, .int .u8 0, .int .u8 0, .int .u8 0, .int .u8 0, .int .u8 0, .int .u8 0, .int .u8 0, .int .u8 0, .int .u8 0, .int .u8 0, .int .u8 0, .int .u8 0, .int .u8 0, .int .u8 0, .int .u8 0, .int .u8 0, .int .u8 0, .int .u8 0, .int .u8 0, .int .u8 0, .int .u8 0, .int .u8 0, .int .u8 0, .int .u8 0, .int .u8 0, .int .u8 0, .int .u8 0, .int .u8 0, .int .u8 0, .int .u32 0, .int .i64 0, .slice none 0 0, .int .i32 0, .bool false, .bool false] 74) = w1 := ⟨_, rfl⟩
  have HB1 : Aside0 (Below w.heap.size w w1) := ⟨by rw [← hw1]; exact below_alloc (below_alloc (Below.refl _ _) _) _⟩
  have HX1 : Aside0 (w1.heap[w.heap.size]? = some (.cells hp9.toArray 31 (0, 0))) := ⟨by rw [← hw1, Below.heap_alloc _ _ _ (by simp)]; exact heap_alloc_new _ _⟩
  have HX2 : Aside0 (∃ old, w1.heap[w.heap.size + 1]? = some (.cells old 74 (0, 0)) ∧ old.size = 38) := ⟨⟨_, by
    rw [← hw1]
    have h := heap_alloc_new (w.alloc (.cells hp9.toArray 31)) (.cells #[.int .u8 0, .int .u8 0, .int .u8 0, .int .u8 0, .int .u8 0, .int .u8 0, .int .u8 0, .int .u8 0, .int .u8 0, .int .u8 0, .int .u8 0, .int .u8 0, .int .u8 0, .int .u8 0, .int .u8 0, .int .u8 0, .int .u8 0, .int .u8 0, .int .u8 0, .int .u8 0, .int .u8 0, .int .u8 0, .int .u8 0, .int .u8 0, .int .u8 0, .int .u8 0, .int .u8 0, .int .u8 0, .int .u8 0, .int .u8 0, .int .u8 0, .int .u8 0, .int .u32 0, .int .i64 0, .slice none 0 0, .int .i32 0, .bool false, .bool false] 74)
    rwa [show (w.alloc (.cells hp9.toArray 31)).heap.size = w.heap.size + 1 by simp] at h, rfl⟩⟩
  rw [hw1]
  clear hw1
  obtain ⟨old, HX2, HOS⟩ := HX2.out
  have HX2 := Aside0.mk HX2
  have HOS := Aside0.mk HOS
  go_wp2_with fail
  go_loopg [6] (l.length + 1) (fun kq p6 w' => ∃ k : Nat, p6 = .int .i64 ((k : Int) - 1) ∧ Aside0 (k ≤ l.length ∧ k + 1 ≤ kq) ∧ Aside0 (Below w.heap.size w w' ∧ w'.heap[w.heap.size]? = some (.cells hp9.toArray 31 (0, 0)) ∧ w'.heap[w.heap.size + 1]? = some (.cells old 74 (0, 0))) ∧ Aside0 (lastC l (p1, p2) k = LL))
  case atStart => exact ⟨l.length, by rw [hw0], ⟨by omega⟩, ⟨HB1.out, HX1.out, HX2.out⟩, HLL⟩
  case round =>
    obtain ⟨k, rfl, HK, HW, HD⟩ := hrel
    have HBW := Aside0.mk HW.out.1
    have HPG := Aside0.mk HW.out.2.1
    have HKG := Aside0.mk HW.out.2.2
    cases k with
    | zero =>
      have hk0 : ¬ (0 : Int) ≤ ((0 : Nat) : Int) - 1 := by omega
      go_wp2_with (first
        | ((with_reducible refine at_none rfl ?_); refine wpList_store_whole rfl 74 (.tmp 4) (.tmp 31) rfl (w.heap.size + 1) #[.int .u8 0, .int .u8 0, .int .u8 0, .int .u8 0, .int .u8 0, .int .u8 0, .int .u8 0, .int .u8 0, .int .u8 0, .int .u8 0, .int .u8 0, .int .u8 0, .int .u8 0, .int .u8 0, .int .u8 0, .int .u8 0, .int .u8 0, .int .u8 0, .int .u8 0, .int .u8 0, .int .u8 0, .int .u8 0, .int .u8 0, .int .u8 0, .int .u8 0, .int .u8 0, .int .u8 0, .int .u8 0, .int .u8 0, .int .u8 0, .int .u8 0, .int .u8 0, .int .u32 0, .int .i64 0, .slice none 0 0, .int .i32 0, .bool false, .bool false] ?a1 ?a2 74 old HKG.out ?a3 ?a4 ?a5 HBW.out (Nat.le_succ _) ?_; (case a1 => rfl); (case a2 => rfl); (case a3 => exact size_coin); (case a4 => exact HOS.out); (case a5 => exact coinC_one z74 none 0); intro w6 hG6 hB6 _ _; have HG6 := Aside0.mk hG6; have HB6 := Aside0.mk hB6; clear hG6 hB6))
      refine bodyPost_ret (results_ct rfl _ _ (w.heap.size + 1) _ _ _ rfl HG6.out Try.underlying74 rfl size_coin) rfl ?_
      refine ⟨⟨coinC z74 none 0, false, rfl, ⟨coinC_len rfl none 0, coinC_one z74 none 0⟩, fun x hx => ?_, fun _ => rfl⟩, HB6.out⟩
      have h := HD.out
      rw [hx] at h
      cases h
    | succ i =>
      rw [show ((i + 1 : Nat) : Int) - 1 = (i : Int) by omega]
      have hk0 : (0 : Int) ≤ (i : Int) := by omega
      have hi1 : (i : Int) < (l.length : Int) := by have := HK.out; omega
      have hw1 : wrap64 ((i : Int) - 1) = (i : Int) - 1 := by have := HN.out; unfold wrap64; omega
      obtain ⟨ad, A1, c1, e2, hxl, hc1, hsc, hcc⟩ := coin_at HR.out (i : Int) hk0 hi1
      subst e2
      rw [Int.toNat_natCast] at hcc
      have HAB : Aside0 (ad.block ≠ w.heap.size + 1) := ⟨by have h := World.block_lt_of_cell? w _ (hcc 37 _ (coinC_at hxl A1 c1 5)); rw [add_block, add_block] at h; omega⟩
      have hcc : ∀ j v, (coinC (rdC l (i : Int)) A1 c1)[j]? = some v → wr.cell? ((ad.add (i * 38)).add j) = some v := fun j u hj => pw_cell_below HBW.out (hcc j u hj)
      obtain ⟨x, hx9⟩ : ∃ x, rdC l (i : Int) = x := ⟨_, rfl⟩
      have okx : OpOk (rdC l (i : Int)).f0.f0 (rdC l (i : Int)).f0.f1 := HOK.out i (by omega)
      rw [hx9] at hcc hsc hc1 hxl okx
      have HLC : Aside0 (lastC l (p1, p2) (i + 1) = if plOf x = (p1, p2) then some x else lastC l (p1, p2) i) := ⟨by rw [← hx9]; rfl⟩
      obtain ⟨cs, hcs⟩ : ∃ q, coinC x A1 c1 = q := ⟨_, rfl⟩
      have HCS := Aside0.mk hcs
      have HCL : Aside0 (cs.length = 38) := ⟨by rw [← hcs]; exact coinC_len hxl _ _⟩
      have HC1 : Aside0 (cs.toArray.all (·.oneCell') = true) := ⟨by rw [← hcs]; exact coinC_one _ _ _⟩
      have HSP : Aside0 (cs[37]? = some (.bool x.f4)) := ⟨by rw [← hcs]; exact coinC_at hxl A1 c1 5⟩
      rw [hcs] at hcc
      have HSP37 : Aside0 (wr.cell? ⟨(ad.add (i * 38)).block, (ad.add (i * 38)).off + 37, none⟩ = some (.bool x.f4)) := ⟨by
        have h := hcc 37 _ HSP.out
        rwa [add_off _ _ (by decide)] at h⟩
      have HCC := Aside0.mk hcc
      obtain ⟨hx, hhx⟩ : ∃ q, cs.take 33 = q := ⟨_, rfl⟩
      have hxe : hx = opC x.f0.f0 x.f0.f1 := by rw [← hhx, ← hcs]; exact coinC_take hxl A1 c1
      have HXL : Aside0 (hx.length = 33) := ⟨by rw [hxe]; exact opC_len okx.l _⟩
      have HRUN : Aside0 (∀ W : World, (binOp .eql 31 (.agg hx.toArray) (.agg hp9.toArray)).run Try.prog W = .ok (.bool (decide (plOf x = (p1, p2)))) W) := ⟨fun W => by
        rw [hxe, ← HPE.out]
        exact coin_eq okx HP.out W⟩
      have HCV : Aside0 (CoinV w x (.agg cs.toArray)) := ⟨⟨⟨A1, c1, by rw [HCS.out], hc1, hsc⟩, hxl⟩⟩
      have HS : Aside0 ((∀ j u, hx[j]? = some u → wr.drew.cell? ((ad.add (i * 38)).add j) = some u) ∧ (∀ j u, hp9[j]? = some u → wr.drew.cell? ((⟨w.heap.size, 0, none⟩ : Addr).add j) = some u)) := ⟨⟨by rw [← hhx]; exact cells_sub hcc, told_of_block HPG.out⟩⟩
      obtain ⟨b, hb⟩ : ∃ b, decide (plOf x = (p1, p2)) = b := ⟨_, rfl⟩
      rw [hb] at HRUN
      have HBV := Aside0.mk hb
      clear hcc hsc hc1 hxl okx hcs hhx hxe hb HW hx9
      go_upto_region 4 with fail
      refine start_ (n := 7) (S := fun w' => (∀ j u, hx[j]? = some u → w'.cell? ((ad.add (i * 38)).add j) = some u) ∧ (∀ j u, hp9[j]? = some u → w'.cell? ((⟨w.heap.size, 0, none⟩ : Addr).add j) = some u)) (ds := []) #[false, false, false, false, false, false, false] (by kernel_rfl) rfl rfl HS.out (fun hHeld => ?_)
      refine pure_ (i := 0) (N := some 14) (v := ?_) (a' := ?_) #[true, false, false, false, false, false, false] rfl rfl (by kernel_rfl) (fun _ _ _ h => h) (Or.inl ⟨by rfl, ?_⟩) ?_ ?_
      rotate_left
      · intro w'
        go_simp
        with_reducible rfl
      rotate_left
      · simp only [Act.put, List.setIfInBounds_toArray, List.set_cons_zero, List.set_cons_succ, i64_w, i32_w]
        rfl
      refine pure_ (i := 1) (N := some 15) (v := ?_) (a' := ?_) #[true, true, false, false, false, false, false] rfl rfl (by kernel_rfl) (fun _ _ _ h => h) (Or.inl ⟨by rfl, ?_⟩) ?_ ?_
      rotate_left
      · intro w'
        go_simp
        with_reducible rfl
      rotate_left
      · simp only [Act.put, List.setIfInBounds_toArray, List.set_cons_zero, List.set_cons_succ, i64_w, i32_w]
        rfl
      refine pure_ (i := 2) (N := some 16) (v := ?_) (a' := ?_) #[true, true, true, false, false, false, false] rfl rfl (by kernel_rfl) (fun _ _ _ h => h) (Or.inl ⟨by rfl, ?_⟩) ?_ ?_
      rotate_left
      · intro w'
        go_simp
        with_reducible rfl
      rotate_left
      · simp only [Act.put, List.setIfInBounds_toArray, List.set_cons_zero, List.set_cons_succ, i64_w, i32_w]
        rfl
      refine pure_ (i := 3) (N := some 17) (v := ?_) (a' := ?_) #[true, true, true, true, false, false, false] rfl rfl (by kernel_rfl) (fun _ _ _ h => h) (Or.inl ⟨by rfl, ?_⟩) ?_ ?_
      rotate_left
      · intro w'
        go_simp
        with_reducible rfl
      rotate_left
      · simp only [Act.put, List.setIfInBounds_toArray, List.set_cons_zero, List.set_cons_succ, i64_w, i32_w]
        rfl
      refine take_ (i := 4) (N := some 18) (v := ?_) (a' := ?_) #[true, true, true, true, true, false, false] rfl rfl (by kernel_rfl) (fun _ _ _ h => h) (Or.inl ⟨by rfl, ?_⟩) hHeld ?_ ?_
      rotate_left
      · rintro w' ⟨s0, s1⟩
        refine run_load_at 31 (.tmp 17) ?_ _ ?_ hx _ s0 Try.underlying31 rfl (by rw [HXL.out]; exact sizeIp)
        · rfl
        · rfl
      rotate_left
      · simp only [Act.put, List.setIfInBounds_toArray, List.set_cons_zero, List.set_cons_succ, i64_w, i32_w]
        rfl
      refine take_ (i := 5) (N := some 19) (v := ?_) (a' := ?_) #[true, true, true, true, true, true, false] rfl rfl (by kernel_rfl) (fun _ _ _ h => h) (Or.inl ⟨by rfl, ?_⟩) hHeld ?_ ?_
      rotate_left
      · rintro w' ⟨s0, s1⟩
        refine run_load_at 31 (.tmp 3) ?_ _ ?_ hp9 _ s1 Try.underlying31 rfl (by rw [HPL.out]; exact sizeIp)
        · rfl
        · rfl
      rotate_left
      · simp only [Act.put, List.setIfInBounds_toArray, List.set_cons_zero, List.set_cons_succ, i64_w, i32_w]
        rfl
      refine pure_ (i := 6) (N := some 20) (v := ?_) (a' := ?_) #[true, true, true, true, true, true, true] rfl rfl (by kernel_rfl) (fun _ _ _ h => h) (Or.inl ⟨by rfl, ?_⟩) ?_ ?_
      rotate_left
      · intro w'
        refine run_bin (b := .eql) (t := 31) (u := 31) (x := .tmp 18) (y := .tmp 19) (r := .bool b) (xs := hx.toArray) (ys := hp9.toArray) ?_ ?_ ?_ (by kernel_rfl) (HRUN.out _)
        · rfl
        · rfl
        · rfl
      rotate_left
      · simp only [Act.put, List.setIfInBounds_toArray, List.set_cons_zero, List.set_cons_succ, i64_w, i32_w]
        rfl
      refine done_ (by kernel_rfl) ?_
      cases b
      · have HD2 : Aside0 (lastC l (p1, p2) i = LL) := ⟨by
          have h := HD.out
          rwa [HLC.out, if_neg (of_decide_eq_false HBV.out)] at h⟩
        have HDW : Aside0 (Below w.heap.size w wr.drew) := ⟨HBW.out.trans ((below_drew (Below.refl _ _)).mono HBW.out.size)⟩
        go_wp2_with fail
        go_roundg (gk - 1)
        case measure => have := HK.out; omega
        case rel => exact ⟨i, by first | rfl | (rw [hw1]; done), ⟨by have := HK.out; omega⟩, ⟨HDW.out, HPG.out, HKG.out⟩, HD2⟩
      · have HLE : Aside0 (LL = some x) := ⟨by
          have h := HD.out
          rw [HLC.out, if_pos (of_decide_eq_true HBV.out)] at h
          exact h.symm⟩
        have HS5 : Aside0 ((∀ j u, cs[j]? = some u → wr.drew.drew.cell? ((ad.add (i * 38)).add j) = some u) ∧ wr.drew.drew.cell? ⟨(ad.add (i * 38)).block, (ad.add (i * 38)).off + 37, none⟩ = some (.bool x.f4)) := ⟨HCC.out, HSP37.out⟩
        have HKD : Aside0 (wr.drew.heap[w.heap.size + 1]? = some (.cells old 74 (0, 0))) := ⟨HKG.out⟩
        have HBD : Aside0 (Below w.heap.size w wr.drew) := ⟨HBW.out.trans ((below_drew (Below.refl _ _)).mono HBW.out.size)⟩
        obtain ⟨sp, hsp⟩ : ∃ q, x.f4 = q := ⟨_, rfl⟩
        rw [hsp] at HS5
        have HSE := Aside0.mk hsp
        clear hsp
        go_upto_region 5 with fail
        refine start_ (n := 12) (S := fun w' => (∀ j u, cs[j]? = some u → w'.cell? ((ad.add (i * 38)).add j) = some u) ∧ w'.cell? ⟨(ad.add (i * 38)).block, (ad.add (i * 38)).off + 37, none⟩ = some (.bool sp)) (ds := []) #[false, false, false, false, false, false, false, false, false, false, false, false] (by kernel_rfl) rfl rfl HS5.out (fun hHeld => ?_)
        refine pure_ (i := 0) (N := some 21) (v := ?_) (a' := ?_) #[true, false, false, false, false, false, false, false, false, false, false, false] rfl rfl (by kernel_rfl) (fun _ _ _ h => h) (Or.inl ⟨by rfl, ?_⟩) ?_ ?_
        rotate_left
        · intro w'
          go_simp
          with_reducible rfl
        rotate_left
        · simp only [Act.put, List.setIfInBounds_toArray, List.set_cons_zero, List.set_cons_succ, i64_w, i32_w]
          rfl
        refine pure_ (i := 1) (N := some 22) (v := ?_) (a' := ?_) #[true, true, false, false, false, false, false, false, false, false, false, false] rfl rfl (by kernel_rfl) (fun _ _ _ h => h) (Or.inl ⟨by rfl, ?_⟩) ?_ ?_
        rotate_left
        · intro w'
          go_simp
          with_reducible rfl
        rotate_left
        · simp only [Act.put, List.setIfInBounds_toArray, List.set_cons_zero, List.set_cons_succ, i64_w, i32_w]
          rfl
        refine pure_ (i := 2) (N := some 23) (v := ?_) (a' := ?_) #[true, true, true, false, false, false, false, false, false, false, false, false] rfl rfl (by kernel_rfl) (fun _ _ _ h => h) (Or.inl ⟨by rfl, ?_⟩) ?_ ?_
        rotate_left
        · intro w'
          go_simp
          with_reducible rfl
        rotate_left
        · simp only [Act.put, List.setIfInBounds_toArray, List.set_cons_zero, List.set_cons_succ, i64_w, i32_w]
          rfl
        refine take_ (i := 3) (N := some 24) (v := ?_) (a' := ?_) #[true, true, true, true, false, false, false, false, false, false, false, false] rfl rfl (by kernel_rfl) (fun _ _ _ h => h) (Or.inl ⟨by rfl, ?_⟩) hHeld ?_ ?_
        rotate_left
        · rintro w' ⟨s0, s1⟩
          refine run_load_at 74 (.tmp 23) ?_ _ ?_ cs _ s0 Try.underlying74 rfl (by rw [HCL.out]; exact size_coin)
          · rfl
          · rfl
        rotate_left
        · simp only [Act.put, List.setIfInBounds_toArray, List.set_cons_zero, List.set_cons_succ, i64_w, i32_w]
          rfl
        refine pure_ (i := 4) (N := some 25) (v := ?_) (a' := ?_) #[true, true, true, true, true, false, false, false, false, false, false, false] rfl rfl (by kernel_rfl) (fun _ _ _ h => h) (Or.inl ⟨by rfl, ?_⟩) ?_ ?_
        rotate_left
        · intro w'
          go_simp
          with_reducible rfl
        rotate_left
        · simp only [Act.put, List.setIfInBounds_toArray, List.set_cons_zero, List.set_cons_succ, i64_w, i32_w]
          rfl
        refine pure_ (i := 5) (N := some 26) (v := ?_) (a' := ?_) #[true, true, true, true, true, true, false, false, false, false, false, false] rfl rfl (by kernel_rfl) (fun _ _ _ h => h) (Or.inl ⟨by rfl, ?_⟩) ?_ ?_
        rotate_left
        · intro w'
          go_simp
          with_reducible rfl
        rotate_left
        · simp only [Act.put, List.setIfInBounds_toArray, List.set_cons_zero, List.set_cons_succ, i64_w, i32_w]
          rfl
        refine pure_ (i := 6) (N := some 27) (v := ?_) (a' := ?_) #[true, true, true, true, true, true, true, false, false, false, false, false] rfl rfl (by kernel_rfl) (fun _ _ _ h => h) (Or.inl ⟨by rfl, ?_⟩) ?_ ?_
        rotate_left
        · intro w'
          go_simp
          with_reducible rfl
        rotate_left
        · simp only [Act.put, List.setIfInBounds_toArray, List.set_cons_zero, List.set_cons_succ, i64_w, i32_w]
          rfl
        refine pure_ (i := 7) (N := some 28) (v := ?_) (a' := ?_) #[true, true, true, true, true, true, true, true, false, false, false, false] rfl rfl (by kernel_rfl) (fun _ _ _ h => h) (Or.inl ⟨by rfl, ?_⟩) ?_ ?_
        rotate_left
        · intro w'
          go_simp
          with_reducible rfl
        rotate_left
        · simp only [Act.put, List.setIfInBounds_toArray, List.set_cons_zero, List.set_cons_succ, i64_w, i32_w]
          rfl
        refine take_ (i := 8) (N := some 29) (v := ?_) (a' := ?_) #[true, true, true, true, true, true, true, true, true, false, false, false] rfl rfl (by kernel_rfl) (fun _ _ _ h => h) (Or.inl ⟨by rfl, ?_⟩) hHeld ?_ ?_
        rotate_left
        · rintro w' ⟨s0, s1⟩
          go_simp
          with_reducible rfl
        rotate_left
        · simp only [Act.put, List.setIfInBounds_toArray, List.set_cons_zero, List.set_cons_succ, i64_w, i32_w]
          rfl
        refine pure_ (i := 9) (N := some 30) (v := ?_) (a' := ?_) #[true, true, true, true, true, true, true, true, true, true, false, false] rfl rfl (by kernel_rfl) (fun _ _ _ h => h) (Or.inl ⟨by rfl, ?_⟩) ?_ ?_
        rotate_left
        · intro w'
          go_simp
          with_reducible rfl
        rotate_left
        · simp only [Act.put, List.setIfInBounds_toArray, List.set_cons_zero, List.set_cons_succ, i64_w, i32_w]
          rfl
        refine one_ (i := 10) (N := none) #[true, true, true, true, true, true, true, true, true, true, true, false] rfl rfl (by kernel_rfl) (by decide) (fun K hK => ?_)
        obtain ⟨w5, hw5⟩ : ∃ w5 : World, wr.drew.drew = w5 := ⟨_, rfl⟩
        have HG5 : Aside0 (w5.heap[w.heap.size + 1]? = some (.cells old 74 (0, 0))) := ⟨by rw [← hw5]; exact HKD.out⟩
        have HBV5 : Aside0 (Below w.heap.size w w5) := ⟨by rw [← hw5]; exact HBD.out.trans ((below_drew (Below.refl _ _)).mono HBD.out.size)⟩
        rw [hw5] at hHeld ⊢
        have HH5 := hHeld
        clear hw5
        have HB6 := Aside0.mk (below_setRow HBV5.out (Nat.le_succ w.heap.size) cs.toArray)
        have HG6 : Aside0 ((w5.setRow (w.heap.size + 1) cs.toArray).heap[w.heap.size + 1]? = some (.cells cs.toArray 74 (0, 0))) := ⟨by simp [World.setRow, Array.getElem?_modify, HG5.out]⟩
        refine skip_ (w1 := w5.setRow (w.heap.size + 1) cs.toArray) (by rfl) rfl (exec_store_row 74 (.tmp 4) (.tmp 24) rfl (w.heap.size + 1) cs.toArray rfl rfl _ _ HG5.out (by rw [List.size_toArray, HCL.out]; exact size_coin) (by rw [HOS.out, List.size_toArray, HCL.out]) HC1.out) ?_
        refine hK.out _ _ ⟨fun j u hj => (cell_setRow_ne (by rw [add_block, add_block]; exact HAB.out)).trans (HH5.1 j u hj), (cell_setRow_ne (by rw [add_block]; exact HAB.out)).trans HH5.2⟩ (fun hHeld => ?_)
        clear hK K
        refine norm_ (a' := ?_) ?_ ?_
        rotate_left
        · rfl
        refine pure_ (i := 11) (N := some 5) (v := ?_) (a' := ?_) #[true, true, true, true, true, true, true, true, true, true, true, true] rfl rfl (by kernel_rfl) (fun _ _ _ h => h) (Or.inl ⟨by rfl, ?_⟩) ?_ ?_
        rotate_left
        · intro w'
          go_simp
          with_reducible rfl
        rotate_left
        · simp only [Act.put, List.setIfInBounds_toArray, List.set_cons_zero, List.set_cons_succ, i64_w, i32_w]
          rfl
        refine done_ (by kernel_rfl) ?_
        go_wp2_with fail
        refine bodyPost_ret (results_ct rfl _ _ (w.heap.size + 1) _ _ _ rfl HG6.out Try.underlying74 rfl (by rw [List.size_toArray, HCL.out]; exact size_coin)) rfl ?_
        refine ⟨⟨cs, !sp, rfl, ⟨HCL.out, HC1.out⟩, fun x' hx' => ?_, fun h => ?_⟩, HB6.out⟩
        · have h := HLE.out
          rw [hx'] at h
          obtain rfl := Option.some.inj h
          exact ⟨by rw [HSE.out], HCV.out⟩
        · have h2 := HLE.out
          rw [h] at h2
          cases h2
end Go.Proofs.Ytdheoajaaofmbaa.QFnScriptPlaces
/- Coins that came in: their sizes, their places. -/
namespace Go.Proofs.Ytdheoajaaofmbaa.QFnScriptPlaces
open Go.RowKit Go.Proofs.YtdheoajaaofmbaaW.PrintWords Go.Proofs.YtdheoajaaofmbaaW.PrintLast Go.Proofs.YtdheoajaaofmbaaW.PrintMore
set_option linter.unusedVariables false
set_option linter.unusedSimpArgs false
/-- Some bool is returned. -/
structure SomeB (w : World) (p : Bool → Prop) (e : Ending) (w' : World) : Prop where
  ex : ∃ b, e = .returned (.bool b) ∧ p b
  low : Below w.heap.size w w'
set_option maxRecDepth 100000 in
set_option maxHeartbeats 8000000 in
theorem fits13C (x : S74) (A1 : Option Addr) (c1 : Nat) (w : World) (hl : x.f0.f0.length = 32) (l1 : x.f1.f1.length ≤ c1) (g1 : (Kd.int .u8).C w A1 x.f1.f1.length x.f1.f1) :
    Calls Try.prog 40 #[.agg (coinC x A1 c1).toArray] w fun e w' => SomeB w (fun b => b = true → x.f1.f1.length ≤ 2147483647) e w' := by
  obtain ⟨b, hb⟩ : ∃ b, laws_zzFits7.f x.f1.f0 x.f1.f1 = some b := by unfold laws_zzFits7.f; split <;> exact ⟨_, rfl⟩
  have HBB := Aside0.mk hb
  have HBT : Aside0 (b = true → x.f1.f1.length ≤ 2147483647) := ⟨fun h => by
    rw [h] at hb
    unfold laws_zzFits7.f at hb
    split at hb
    · cases hb
    · omega⟩
  obtain ⟨cs, hcs⟩ : ∃ q, coinC x A1 c1 = q := ⟨_, rfl⟩
  have HV : Aside0 (cs[33]? = some (.int .i64 x.f1.f0)) := ⟨by rw [← hcs]; exact coinC_at hl A1 c1 1⟩
  have HS : Aside0 (cs[34]? = some (.slice A1 x.f1.f1.length c1)) := ⟨by rw [← hcs]; exact coinC_at hl A1 c1 2⟩
  have HG1 := Aside0.mk g1
  have HL1 := Aside0.mk l1
  rw [hcs]
  clear hcs g1 l1 hl hb
  go_enter Try.func40, Try.ntmps40
  go_upto_region 1 with fail
  have hg := heap_alloc_new w (.cells cs.toArray 74)
  have HB : Aside0 (Below w.heap.size w (w.alloc (.cells cs.toArray 74))) := ⟨below_alloc (Below.refl _ _) _⟩
  obtain ⟨w1, hw1⟩ : ∃ w1, w.alloc (.cells cs.toArray 74) = w1 := ⟨_, rfl⟩
  rw [hw1] at hg HB ⊢
  have h33 := cell_of hg (j := 33) (v := .int .i64 x.f1.f0) (by simpa using HV.out)
  have h34 := cell_of hg (j := 34) (v := .slice A1 x.f1.f1.length c1) (by simpa using HS.out)
  clear hw1 hg
  go_wp2_with (first
    | (go_at_call 45; (with_reducible refine (laws_zzFits7.calls x.f1.f0 A1 c1 x.f1.f1 b _ (Kd.C_below HG1.out HB.out) HL1.out HBB.out).mono ?_); rintro e w2 ⟨rfl, hb2⟩; have HB2 := Aside0.mk (HB.out.trans (hb2.mono HB.out.size)); clear hb2))
  all_goals
    go_ret
  · exact ⟨⟨_, rfl, fun h => by cases h⟩, HB2.out⟩
  · rename_i h9
    exact ⟨⟨_, rfl, fun _ => HBT.out (by simpa using h9)⟩, HB2.out⟩
set_option maxRecDepth 100000 in
set_option maxHeartbeats 8000000 in
theorem fits12C (A : Option Addr) (c : Nat) (l : List S74) (w : World) (hr : Kd.C k74 w A l.length l) :
    Calls Try.prog 17 #[.slice A l.length c] w fun e w' => SomeB w (fun b => b = true → ∀ i : Nat, i < l.length → (rdC l (i : Int)).f1.f1.length ≤ 2147483647) e w' := by
  by_cases hb : 2147483647 < (l.length : Int)
  · have hb' : 2147483647 < l.length := by omega
    clear hr
    go_enter Try.func17, Try.ntmps17
    go_wp2
    go_ret
    exact ⟨⟨_, rfl, fun h => by cases h⟩, Below.refl _ _⟩
  have hb' : ¬ 2147483647 < l.length := by omega
  have HR := Aside0.mk hr
  have HLN : Aside0 (l.length ≤ 2147483647) := ⟨by omega⟩
  clear hr
  go_enter Try.func17, Try.ntmps17
  go_wp2_with fail
  go_loopg [10] (l.length + 1) (fun kq p10 w' => ∃ i : Nat, p10 = .int .i64 (i : Int) ∧ Aside0 (i ≤ l.length ∧ l.length + 1 ≤ i + kq) ∧ Aside0 (Below w.heap.size w w') ∧ Aside0 (∀ a : Nat, a < i → (rdC l (a : Int)).f1.f1.length ≤ 2147483647))
  case atStart => exact ⟨0, by rfl, ⟨by omega⟩, ⟨Below.refl _ _⟩, ⟨fun a h => by omega⟩⟩
  case round =>
    obtain ⟨i, rfl, HK, HB, HAL⟩ := hrel
    by_cases hi : i < l.length
    · have hi1 : (i : Int) < (l.length : Int) := by omega
      obtain ⟨ad, A1, c1, e2, hxl, hc1, hsc, hcc⟩ := coin_at (Kd.C_below HR.out HB.out) (i : Int) (by omega) hi1
      subst e2
      rw [Int.toNat_natCast] at hcc
      obtain ⟨x, hx9⟩ : ∃ x, rdC l (i : Int) = x := ⟨_, rfl⟩
      rw [hx9] at hcc hsc hc1 hxl
      have HX := Aside0.mk hx9
      have HF := Aside0.mk (fun w (g : (Kd.int .u8).C w A1 x.f1.f1.length x.f1.f1) => fits13C x A1 c1 w hxl hc1 g)
      obtain ⟨cs, hcs⟩ : ∃ q, coinC x A1 c1 = q := ⟨_, rfl⟩
      have HCL : Aside0 (cs.length = 38) := ⟨by rw [← hcs]; exact coinC_len hxl _ _⟩
      have HC1 : Aside0 (cs.toArray.all (·.oneCell') = true) := ⟨by rw [← hcs]; exact coinC_one _ _ _⟩
      rw [hcs] at hcc HF
      have HCC := Aside0.mk hcc
      have HSC := Aside0.mk hsc
      have hw1 : wrap64 ((i : Int) + 1) = ((i + 1 : Nat) : Int) := by have := HLN.out; unfold wrap64; omega
      have hw2 : IntKind.i64.wrap ((i : Int) + 1) = ((i + 1 : Nat) : Int) := (i64_w _).trans hw1
      have HSZ : Aside0 ((Try.prog.info? 74).map (·.size) = some cs.length) := ⟨by rw [HCL.out]; exact size_coin⟩
      have HHI := Aside0.mk hi
      clear hcc hsc hc1 hxl hcs hx9
      go_wp2_with (first
        | ((with_reducible refine at_dst (N := 13) rfl ?_); refine wpList_load_at rfl 74 (.tmp 12) rfl _ rfl cs _ HCC.out Try.underlying74 rfl HSZ.out ?_)
        | ((with_reducible refine at_none rfl ?_); refine wpList_store_whole rfl 74 (.tmp 4) (.tmp 13) rfl wr.heap.size cs.toArray rfl rfl 74 _ (heap_alloc_new wr _) ?hi ?ho HC1.out (w0 := wr) (B := wr.heap.size) (below_alloc (Below.refl _ _) _) (Nat.le_refl _) ?_; (case hi => rw [List.size_toArray]; exact HSZ.out); (case ho => show 38 = cs.toArray.size; rw [List.size_toArray]; exact HCL.out.symm); intro W1 hg1 hb1 hk1 hz1; have HG1 := Aside0.mk hg1; have HB1 := Aside0.mk hb1; clear hg1 hb1 hk1 hz1)
        | ((with_reducible refine at_dst (N := 14) rfl ?_); refine wpList_load_row rfl 74 (.tmp 4) rfl _ rfl 74 cs.toArray (0, 0) _ HG1.out Try.underlying74 rfl (by rw [List.size_toArray]; exact HSZ.out) ?_))
      go_at_call 40
      refine (HF.out _ (Kd.C_below HSC.out HB1.out)).mono ?_
      rintro e w2 ⟨⟨bb, rfl, hbb⟩, hb2⟩
      have HBB := Aside0.mk hbb
      clear hbb
      have HB2 := Aside0.mk (HB.out.trans ((HB1.out.trans (hb2.mono HB1.out.size)).mono HB.out.size))
      clear hb2
      cases bb
      · go_wp2_with fail
        go_ret
        exact ⟨⟨_, rfl, fun h => by cases h⟩, HB2.out⟩
      · have HAL2 : Aside0 (∀ a : Nat, a < i + 1 → (rdC l (a : Int)).f1.f1.length ≤ 2147483647) := ⟨fun a h1 => by
          rcases Nat.lt_or_ge a i with h5 | h5
          · exact HAL.out a h5
          · obtain rfl : a = i := by omega
            rw [HX.out]
            exact HBB.out rfl⟩
        go_wp2_with fail
        go_roundg (gk - 1)
        case measure => have := HK.out; have := HHI.out; omega
        case rel => exact ⟨i + 1, by rfl, ⟨by have := HK.out; have := HHI.out; omega⟩, HB2, HAL2⟩
    · have hi1 : ¬ (i : Int) < (l.length : Int) := by omega
      go_wp2_with fail
      go_ret
      exact ⟨⟨_, rfl, fun _ a h => HAL.out a (by omega)⟩, HB.out⟩
/-- What is known of coins that are told once. -/
structure Once (l : List S74) : Prop where
  few : l.length ≤ 100
  one : ∀ i k : Nat, i < l.length → k < i → plOf (rdC l (i : Int)) ≠ plOf (rdC l (k : Int))
  high : ∀ i : Nat, i < l.length → 0 ≤ (rdC l (i : Int)).f2
  short : ∀ i : Nat, i < l.length → (rdC l (i : Int)).f1.f1.length ≤ 100000
theorem more_is (n : Int) (m : Nat) (h0 : 0 ≤ n) (h1 : n ≤ 100001) (hm : m ≤ 9000000000) : ∃ r, laws_more.f n m = some r ∧ 0 ≤ r ∧ r ≤ 100001 ∧ (r ≤ 100000 → n ≤ 100000 ∧ m ≤ 100000) := by
  unfold laws_more.f
  rw [ln64 (n + m) (by omega) (by omega)]
  split
  · exact ⟨_, rfl, by decide, by decide, fun h => by omega⟩
  split
  · exact ⟨_, rfl, by decide, by decide, fun h => by omega⟩
  split
  · exact ⟨_, rfl, by decide, by decide, fun h => by omega⟩
  · exact ⟨_, rfl, by omega, by omega, fun h => by omega⟩
set_option maxRecDepth 100000 in
set_option maxHeartbeats 8000000 in
theorem onceC (A : Option Addr) (c : Nat) (l : List S74) (w : World) (hr : Kd.C k74 w A l.length l) (hok : ∀ i : Nat, i < l.length → OpOk (rdC l (i : Int)).f0.f0 (rdC l (i : Int)).f0.f1) (hsm : ∀ i : Nat, i < l.length → (rdC l (i : Int)).f1.f1.length ≤ 9000000000) :
    Calls Try.prog 18 #[.slice A l.length c] w fun e w' => SomeB w (fun b => b = true → Once l) e w' := by
  by_cases hb : (100 : Int) < (l.length : Int)
  · have hb' : 100 < l.length := by omega
    clear hr
    go_enter Try.func18, Try.ntmps18
    go_wp2_with fail
    go_ret
    exact ⟨⟨_, rfl, fun h => by cases h⟩, Below.refl _ _⟩
  have hb' : ¬ 100 < l.length := by omega
  have HR := Aside0.mk hr
  have HLN : Aside0 (l.length ≤ 100) := ⟨by omega⟩
  have HOK := Aside0.mk hok
  have HSM := Aside0.mk hsm
  clear hr hok hsm
  go_enter Try.func18, Try.ntmps18
  go_wp2_with fail
  go_loopg [3, 4] (l.length + 1) (fun kq p3 p4 w' => ∃ (n : Int) (i : Nat), p3 = .int .i64 n ∧ p4 = .int .i64 (i : Int) ∧ Aside0 (0 ≤ n ∧ n ≤ 100001) ∧ Aside0 (i ≤ l.length ∧ l.length + 1 ≤ i + kq) ∧ Aside0 (Below w.heap.size w w') ∧ Aside0 (∀ a b : Nat, a < i → b < a → plOf (rdC l (a : Int)) ≠ plOf (rdC l (b : Int))) ∧ Aside0 (∀ a : Nat, a < i → 0 ≤ (rdC l (a : Int)).f2) ∧ Aside0 (n ≤ 100000 → ∀ a : Nat, a < i → (rdC l (a : Int)).f1.f1.length ≤ 100000))
  case atStart => exact ⟨0, 0, by rfl, by rfl, ⟨by omega⟩, ⟨by omega⟩, ⟨Below.refl _ _⟩, ⟨fun a b h => by omega⟩, ⟨fun a h => by omega⟩, ⟨fun _ a h => by omega⟩⟩
  case round =>
    obtain ⟨n, i, rfl, rfl, HNN, HK, HB, HD, HH, HSH⟩ := hrel
    obtain ⟨g1, hg1⟩ : ∃ g1, g1 = gk := ⟨_, rfl⟩
    subst hg1
    by_cases hlt : i < l.length
    · have hi1 : (i : Int) < (l.length : Int) := by omega
      have hw1 : wrap64 ((i : Int) + 1) = ((i + 1 : Nat) : Int) := by rw [ln64 _ (by omega) (by have := HLN.out; omega)]; rfl
      have HHI := Aside0.mk hlt
      obtain ⟨ad, A1, c1, e2, hxl, hc1, hsc, hcc0⟩ := coin_at HR.out (i : Int) (by omega) hi1
      rw [Int.toNat_natCast] at hcc0
      obtain ⟨x, hx9⟩ : ∃ x, rdC l (i : Int) = x := ⟨_, rfl⟩
      have okx := HOK.out i hlt
      have hsm := HSM.out i hlt
      rw [hx9] at hcc0 hsc hc1 hxl okx hsm
      obtain ⟨r, hr1, hr0, hr2, hr3⟩ := more_is n x.f1.f1.length HNN.out.1 HNN.out.2 hsm
      have HM := Aside0.mk hr1
      have HRR : Aside0 (0 ≤ r ∧ r ≤ 100001) := ⟨hr0, hr2⟩
      have HR3 := Aside0.mk hr3
      have HX := Aside0.mk hx9
      have HAD := Aside0.mk e2
      have HCC0 : Aside0 (∀ W, Below w.heap.size w W → ∀ j v, (coinC x A1 c1)[j]? = some v → W.cell? ((ad.add (i * 38)).add j) = some v) := ⟨fun W hW j u hj => pw_cell_below hW (hcc0 j u hj)⟩
      have HXL := Aside0.mk hxl
      have HOX := Aside0.mk okx
      have HH2 : Aside0 (∀ W, Below w.heap.size w W → W.cell? ⟨(ad.add (i * 38)).block, (ad.add (i * 38)).off + 35, none⟩ = some (.int .i32 x.f2)) := ⟨fun W hW => by
        have h := HCC0.out W hW 35 _ (coinC_at hxl A1 c1 3)
        rwa [add_off _ _ (by decide)] at h⟩
      have h34 : wr.cell? ⟨(ad.add (i * 38)).block, (ad.add (i * 38)).off + 34, none⟩ = some (.slice A1 x.f1.f1.length c1) := by
        have h := HCC0.out wr HB.out 34 _ (coinC_at hxl A1 c1 2)
        rwa [add_off _ _ (by decide)] at h
      subst e2
      clear hcc0 hsc hc1 hxl okx hsm hr1 hr0 hr2 hr3 hx9 HAD hlt
      go_wp2_with (first
        | (go_at_call 23; (with_reducible refine (laws_more.calls n (x.f1.f1.length : Int) r _ HM.out).mono ?_); rintro e w2 ⟨rfl, hd⟩; have HB2 := Aside0.mk (HB.out.trans (hd.below.mono HB.out.size)); clear hd))
      go_loopg [5] (i + 1) (fun kq p5 w' => ∃ k : Nat, p5 = .int .i64 (k : Int) ∧ Aside0 (k ≤ i ∧ i + 1 ≤ k + kq) ∧ Aside0 (Below w.heap.size w w') ∧ Aside0 (∀ b : Nat, b < k → plOf x ≠ plOf (rdC l (b : Int))))
      case atStart => exact ⟨0, by rfl, ⟨by omega⟩, HB2, ⟨fun b h => by omega⟩⟩
      case round =>
        obtain ⟨k, rfl, HK2, HB3, HD2⟩ := hrel
        by_cases hlk : k < i
        · have hk1 : (k : Int) < (i : Int) := by omega
          have hk2 : (k : Int) < (l.length : Int) := by omega
          have hw2 : wrap64 ((k : Int) + 1) = ((k + 1 : Nat) : Int) := by rw [ln64 _ (by omega) (by have := HLN.out; have := HHI.out; omega)]; rfl
          have hkl : k < l.length := by have := HHI.out; omega
          obtain ⟨ad2, B1, d1, e3, hyl, hd1, hsd, hcy⟩ := coin_at HR.out (k : Int) (by omega) (by omega)
          obtain rfl := Option.some.inj e3
          rw [Int.toNat_natCast] at hcy
          obtain ⟨y, hy9⟩ : ∃ y, rdC l (k : Int) = y := ⟨_, rfl⟩
          have oky := HOK.out k hkl
          rw [hy9] at hcy hyl oky
          obtain ⟨hx, hhx⟩ : ∃ q, (coinC x A1 c1).take 33 = q := ⟨_, rfl⟩
          obtain ⟨hy, hhy⟩ : ∃ q, (coinC y B1 d1).take 33 = q := ⟨_, rfl⟩
          have hxe : hx = opC x.f0.f0 x.f0.f1 := by rw [← hhx]; exact coinC_take HXL.out A1 c1
          have hye : hy = opC y.f0.f0 y.f0.f1 := by rw [← hhy]; exact coinC_take hyl B1 d1
          have HXL2 : Aside0 (hx.length = 33) := ⟨by rw [hxe]; exact opC_len HOX.out.l _⟩
          have HYL : Aside0 (hy.length = 33) := ⟨by rw [hye]; exact opC_len oky.l _⟩
          have HRUN : Aside0 (∀ W : World, (binOp .eql 31 (.agg hx.toArray) (.agg hy.toArray)).run Try.prog W = .ok (.bool (decide (plOf x = plOf y))) W) := ⟨fun W => by
            rw [hxe, hye]
            exact coin_eq HOX.out oky W⟩
          have HS : Aside0 ((∀ j u, hx[j]? = some u → wr.drew.cell? ((ad.add (i * 38)).add j) = some u) ∧ (∀ j u, hy[j]? = some u → wr.drew.cell? ((ad.add (k * 38)).add j) = some u)) := ⟨⟨by rw [← hhx]; exact cells_sub (HCC0.out wr HB3.out), by rw [← hhy]; exact cells_sub (fun j u hj => pw_cell_below HB3.out (hcy j u hj))⟩⟩
          have HDW : Aside0 (Below w.heap.size w wr.drew) := ⟨HB3.out.trans ((below_drew (Below.refl _ _)).mono HB3.out.size)⟩
          have HKI := Aside0.mk hlk
          have HY := Aside0.mk hy9
          obtain ⟨b, hb⟩ : ∃ b, decide (plOf x = plOf y) = b := ⟨_, rfl⟩
          rw [hb] at HRUN
          have HBV := Aside0.mk hb
          clear hcy hyl oky hhx hhy hxe hye hb hlk e3 hy9 hsd hd1
          go_upto_region 11 with fail
          refine start_ (n := 11) (S := fun w' => (∀ j u, hx[j]? = some u → w'.cell? ((ad.add (i * 38)).add j) = some u) ∧ (∀ j u, hy[j]? = some u → w'.cell? ((ad.add (k * 38)).add j) = some u)) (ds := []) #[false, false, false, false, false, false, false, false, false, false, false] (by kernel_rfl) rfl rfl HS.out (fun hHeld => ?_)
          refine pure_ (i := 0) (N := some 29) (v := ?_) (a' := ?_) #[true, false, false, false, false, false, false, false, false, false, false] rfl rfl (by kernel_rfl) (fun _ _ _ h => h) (Or.inl ⟨by rfl, ?_⟩) ?_ ?_
          rotate_left
          · intro w'
            go_simp
            with_reducible rfl
          rotate_left
          · simp only [Act.put, List.setIfInBounds_toArray, List.set_cons_zero, List.set_cons_succ, i64_w, i32_w]
            rfl
          refine pure_ (i := 1) (N := some 30) (v := ?_) (a' := ?_) #[true, true, false, false, false, false, false, false, false, false, false] rfl rfl (by kernel_rfl) (fun _ _ _ h => h) (Or.inl ⟨by rfl, ?_⟩) ?_ ?_
          rotate_left
          · intro w'
            go_simp
            with_reducible rfl
          rotate_left
          · simp only [Act.put, List.setIfInBounds_toArray, List.set_cons_zero, List.set_cons_succ, i64_w, i32_w]
            rfl
          refine pure_ (i := 2) (N := some 31) (v := ?_) (a' := ?_) #[true, true, true, false, false, false, false, false, false, false, false] rfl rfl (by kernel_rfl) (fun _ _ _ h => h) (Or.inl ⟨by rfl, ?_⟩) ?_ ?_
          rotate_left
          · intro w'
            go_simp
            with_reducible rfl
          rotate_left
          · simp only [Act.put, List.setIfInBounds_toArray, List.set_cons_zero, List.set_cons_succ, i64_w, i32_w]
            rfl
          refine pure_ (i := 3) (N := some 32) (v := ?_) (a' := ?_) #[true, true, true, true, false, false, false, false, false, false, false] rfl rfl (by kernel_rfl) (fun _ _ _ h => h) (Or.inl ⟨by rfl, ?_⟩) ?_ ?_
          rotate_left
          · intro w'
            go_simp
            with_reducible rfl
          rotate_left
          · simp only [Act.put, List.setIfInBounds_toArray, List.set_cons_zero, List.set_cons_succ, i64_w, i32_w]
            rfl
          refine take_ (i := 4) (N := some 33) (v := ?_) (a' := ?_) #[true, true, true, true, true, false, false, false, false, false, false] rfl rfl (by kernel_rfl) (fun _ _ _ h => h) (Or.inl ⟨by rfl, ?_⟩) hHeld ?_ ?_
          rotate_left
          · rintro w' ⟨s0, s1⟩
            refine run_load_at 31 (.tmp 32) ?_ _ ?_ hx _ s0 Try.underlying31 rfl (by rw [HXL2.out]; exact sizeIp)
            · rfl
            · rfl
          rotate_left
          · simp only [Act.put, List.setIfInBounds_toArray, List.set_cons_zero, List.set_cons_succ, i64_w, i32_w]
            rfl
          refine pure_ (i := 5) (N := some 34) (v := ?_) (a' := ?_) #[true, true, true, true, true, true, false, false, false, false, false] rfl rfl (by kernel_rfl) (fun _ _ _ h => h) (Or.inl ⟨by rfl, ?_⟩) ?_ ?_
          rotate_left
          · intro w'
            go_simp
            with_reducible rfl
          rotate_left
          · simp only [Act.put, List.setIfInBounds_toArray, List.set_cons_zero, List.set_cons_succ, i64_w, i32_w]
            rfl
          refine pure_ (i := 6) (N := some 35) (v := ?_) (a' := ?_) #[true, true, true, true, true, true, true, false, false, false, false] rfl rfl (by kernel_rfl) (fun _ _ _ h => h) (Or.inl ⟨by rfl, ?_⟩) ?_ ?_
          rotate_left
          · intro w'
            go_simp
            with_reducible rfl
          rotate_left
          · simp only [Act.put, List.setIfInBounds_toArray, List.set_cons_zero, List.set_cons_succ, i64_w, i32_w]
            rfl
          refine pure_ (i := 7) (N := some 36) (v := ?_) (a' := ?_) #[true, true, true, true, true, true, true, true, false, false, false] rfl rfl (by kernel_rfl) (fun _ _ _ h => h) (Or.inl ⟨by rfl, ?_⟩) ?_ ?_
          rotate_left
          · intro w'
            go_simp
            with_reducible rfl
          rotate_left
          · simp only [Act.put, List.setIfInBounds_toArray, List.set_cons_zero, List.set_cons_succ, i64_w, i32_w]
            rfl
          refine pure_ (i := 8) (N := some 37) (v := ?_) (a' := ?_) #[true, true, true, true, true, true, true, true, true, false, false] rfl rfl (by kernel_rfl) (fun _ _ _ h => h) (Or.inl ⟨by rfl, ?_⟩) ?_ ?_
          rotate_left
          · intro w'
            go_simp
            with_reducible rfl
          rotate_left
          · simp only [Act.put, List.setIfInBounds_toArray, List.set_cons_zero, List.set_cons_succ, i64_w, i32_w]
            rfl
          refine take_ (i := 9) (N := some 38) (v := ?_) (a' := ?_) #[true, true, true, true, true, true, true, true, true, true, false] rfl rfl (by kernel_rfl) (fun _ _ _ h => h) (Or.inl ⟨by rfl, ?_⟩) hHeld ?_ ?_
          rotate_left
          · rintro w' ⟨s0, s1⟩
            refine run_load_at 31 (.tmp 37) ?_ _ ?_ hy _ s1 Try.underlying31 rfl (by rw [HYL.out]; exact sizeIp)
            · rfl
            · rfl
          rotate_left
          · simp only [Act.put, List.setIfInBounds_toArray, List.set_cons_zero, List.set_cons_succ, i64_w, i32_w]
            rfl
          refine pure_ (i := 10) (N := some 39) (v := ?_) (a' := ?_) #[true, true, true, true, true, true, true, true, true, true, true] rfl rfl (by kernel_rfl) (fun _ _ _ h => h) (Or.inl ⟨by rfl, ?_⟩) ?_ ?_
          rotate_left
          · intro w'
            refine run_bin (b := .eql) (t := 31) (u := 31) (x := .tmp 33) (y := .tmp 38) (r := .bool b) (xs := hx.toArray) (ys := hy.toArray) ?_ ?_ ?_ (by kernel_rfl) (HRUN.out _)
            · rfl
            · rfl
            · rfl
          rotate_left
          · simp only [Act.put, List.setIfInBounds_toArray, List.set_cons_zero, List.set_cons_succ, i64_w, i32_w]
            rfl
          refine done_ (by kernel_rfl) ?_
          cases b
          · have HNE : Aside0 (plOf x ≠ plOf y) := ⟨of_decide_eq_false HBV.out⟩
            go_wp2_with fail
            go_roundg (gk - 1)
            case measure => exact (meas3 HK2.out HKI.out).1
            case rel => exact ⟨k + 1, by first | rfl | (rw [hw2]; done), ⟨(meas3 HK2.out HKI.out).2⟩, HDW, ⟨fun b' h1 => by
              rcases Nat.lt_or_ge b' k with h5 | h5
              · exact HD2.out b' h5
              · obtain rfl : b' = k := by omega
                rw [HY.out]
                exact HNE.out⟩⟩
          · go_wp2_with fail
            go_ret
            exact ⟨⟨_, rfl, fun h => by cases h⟩, HDW.out⟩
        · have hk1 : ¬ (k : Int) < (i : Int) := by omega
          have HKI : Aside0 (k = i) := ⟨by have := HK2.out; omega⟩
          have h35 := HH2.out wr HB3.out
          by_cases hneg : x.f2 < 0
          · go_wp2_with fail
            go_ret
            exact ⟨⟨_, rfl, fun h => by cases h⟩, HB3.out⟩
          · have HNG : Aside0 (0 ≤ x.f2) := ⟨by omega⟩
            go_wp2_with fail
            go_roundg (g1 - 1)
            case measure => exact meas1 HK.out HHI.out
            case rel => exact ⟨r, i + 1, by rfl, by first | rfl | (rw [hw1]; done), HRR, ⟨meas2 HK.out HHI.out⟩, HB3, ⟨fun a b h1 h2 => by
                rcases Nat.lt_or_ge a i with h5 | h5
                · exact HD.out a b h5 h2
                · obtain rfl : a = i := by omega
                  rw [HX.out]
                  exact HD2.out b (by rw [HKI.out]; exact h2)⟩, ⟨fun a h1 => by
                rcases Nat.lt_or_ge a i with h5 | h5
                · exact HH.out a h5
                · obtain rfl : a = i := by omega
                  rw [HX.out]
                  exact HNG.out⟩, ⟨fun h9 a h1 => by
                have h8 := HR3.out h9
                rcases Nat.lt_or_ge a i with h5 | h5
                · exact HSH.out h8.1 a h5
                · obtain rfl : a = i := by omega
                  rw [HX.out]
                  exact h8.2⟩⟩
    · have hi1 : ¬ (i : Int) < (l.length : Int) := by omega
      have HII : Aside0 (i = l.length) := ⟨by have := HK.out; omega⟩
      by_cases hn9 : n ≤ 100000
      · have hn8 : ¬ 100000 < n := by omega
        have hl9 : (l.length : Int) ≤ 100 := by have := HLN.out; omega
        have HON : Aside0 (Once l) := ⟨⟨HLN.out, fun a b h1 h2 => HD.out a b (by rw [HII.out]; exact h1) h2, fun a h1 => HH.out a (by rw [HII.out]; exact h1), fun a h1 => HSH.out hn9 a (by rw [HII.out]; exact h1)⟩⟩
        go_wp2_with fail
        go_ret
        exact ⟨⟨_, rfl, fun _ => HON.out⟩, HB.out⟩
      · have hn8 : 100000 < n := by omega
        have hl9 : (l.length : Int) ≤ 100 := by have := HLN.out; omega
        go_wp2_with fail
        go_ret
        exact ⟨⟨_, rfl, fun h => by cases h⟩, HB.out⟩
end Go.Proofs.Ytdheoajaaofmbaa.QFnScriptPlaces
/- What spec.InputFaults tells; spec.badValues over values alone. -/
namespace Go.Proofs.Ytdheoajaaofmbaa.QFnScriptPlaces
open Go.RowKit Go.Proofs.YtdheoajaaofmbaaW.PrintWords Go.Proofs.YtdheoajaaofmbaaW.PrintLast Go.Proofs.YtdheoajaaofmbaaW.PrintMore
set_option linter.unusedVariables false
set_option linter.unusedSimpArgs false
/-- An output of which the value alone is told. -/
def kVal : Kd Int where
  sz := 2
  E := []
  K := fun _ x cs => ∃ A n c, cs = [.int .i64 x, .slice A n c]
  M := fun _ _ _ x cs => ∃ A n c, cs = [.int .i64 x, .slice A n c]
  K_len := by
    rintro w x cs ⟨A, n, c, rfl⟩
    rfl
  K_one := by
    rintro w x cs ⟨A, n, c, rfl⟩ u hu
    simp at hu
    rcases hu with rfl | rfl <;> rfl
  K_below := fun _ h => h
  K_of_M := fun h => h
  M_mono := fun _ h => h
  M_bound := fun h => h
  M_move := fun _ h => h
  M_lower := fun _ h => h
def badW : Int → List Int → Bool
  | _, [] => false
  | s, y :: ys => if y < 0 then true else if y > 2100000000000000 - s then true else badW (s + y) ys
def sumW : List Int → Int
  | [] => 0
  | y :: ys => y + sumW ys
theorem sumW_snoc (l : List Int) (y : Int) : sumW (l ++ [y]) = sumW l + y := by
  induction l with
  | nil => simp [sumW]
  | cons a l ih => rw [List.cons_append, sumW, sumW, ih]; omega
theorem sumW_take (l : List Int) (i : Nat) (h : i < l.length) : sumW (l.take (i + 1)) = sumW (l.take i) + l[i] := by
  rw [List.take_succ_eq_append_getElem h, sumW_snoc]
theorem badW_sum : ∀ (l : List Int) (s : Int), 0 ≤ s → s ≤ 2100000000000000 → badW s l = false → ∀ i : Nat, 0 ≤ s + sumW (l.take i) ∧ s + sumW (l.take i) ≤ 2100000000000000
  | [], s, h0, h1, _, i => by rw [List.take_nil]; simp [sumW]; omega
  | y :: ys, s, h0, h1, h, i => by
    unfold badW at h
    by_cases c1 : y < 0
    · rw [if_pos c1] at h; cases h
    rw [if_neg c1] at h
    by_cases c2 : y > 2100000000000000 - s
    · rw [if_pos c2] at h; cases h
    rw [if_neg c2] at h
    have ih := badW_sum ys (s + y) (by omega) (by omega) h
    cases i with
    | zero => simp [sumW]; omega
    | succ i =>
      have := ih i
      rw [List.take_succ_cons, sumW]
      omega
def rdV (xs : List Int) (i : Int) : Int := xs.getD i.toNat 0
theorem rd_v (l : List Int) (i : Nat) (h : i < l.length) : rdV l (i : Int) = l[i] := by
  show l.getD (i : Int).toNat _ = _
  rw [Int.toNat_natCast, List.getD_eq_getElem?_getD, List.getElem?_eq_getElem h]; rfl
theorem val_at {w : World} {A : Option Addr} {n : Nat} {xs : List Int} (h : Kd.C kVal w A n xs) (i : Int) (h0 : 0 ≤ i) (h1 : i < n) : ∃ ad, A = some ad ∧ w.cell? (ad.add (i.toNat * 2)) = some (.int .i64 (rdV xs i)) := by
  obtain ⟨ad, c, rfl, hcl, ⟨B, m, d, e⟩, hcc⟩ := Kd.C_get h 0 i h0 h1
  subst e
  exact ⟨ad, rfl, hcc 0 _ rfl⟩
set_option maxRecDepth 100000 in
set_option maxHeartbeats 8000000 in
theorem badWC (A : Option Addr) (c : Nat) (l : List Int) (w : World) (hr : Kd.C kVal w A l.length l) (hn : l.length ≤ 1000000) :
    Calls Try.prog 36 #[.slice A l.length c] w fun e w' => e = .returned (.bool (badW 0 l)) ∧ Below w.heap.size w w' := by
  have HR := Aside0.mk hr
  have HN := Aside0.mk hn
  obtain ⟨bb, hbb⟩ : ∃ b, badW 0 l = b := ⟨_, rfl⟩
  have HB0 : Aside0 (badW 0 (l.drop 0) = bb) := ⟨by rw [List.drop_zero]; exact hbb⟩
  rw [hbb]
  clear hr hn hbb
  go_enter Try.func36, Try.ntmps36
  go_wp2_with fail
  go_loopg [3, 4] (l.length + 1) (fun kq p3 p4 w' => ∃ (s : Int) (i : Nat), p3 = .int .i64 s ∧ p4 = .int .i64 (i : Int) ∧ Aside0 (0 ≤ s ∧ s ≤ 2100000000000000) ∧ Aside0 (i ≤ l.length ∧ l.length + 1 ≤ i + kq) ∧ Aside0 (Below w.heap.size w w') ∧ Aside0 (badW s (l.drop i) = bb))
  case atStart => exact ⟨0, 0, by rfl, by rfl, ⟨by omega⟩, ⟨by omega⟩, ⟨Below.refl _ _⟩, HB0⟩
  case round =>
    obtain ⟨s, i, rfl, rfl, HS, HK, HB, HD⟩ := hrel
    by_cases hlt : i < l.length
    · have hi1 : (i : Int) < (l.length : Int) := by omega
      have hw1 : wrap64 ((i : Int) + 1) = ((i + 1 : Nat) : Int) := by rw [ln64 _ (by omega) (by have := HN.out; omega)]; rfl
      have HI9 := Aside0.mk hlt
      obtain ⟨ad, e2, hv⟩ := val_at (Kd.C_below HR.out HB.out) (i : Int) (by omega) hi1
      subst e2
      rw [rd_v l i hlt, Int.toNat_natCast] at hv
      have hd : l.drop i = l[i] :: l.drop (i + 1) := List.drop_eq_getElem_cons hlt
      obtain ⟨y, hy⟩ : ∃ y, l[i] = y := ⟨_, rfl⟩
      rw [hy] at hv hd
      have HD2 : Aside0 ((if y < 0 then true else if y > 2100000000000000 - s then true else badW (s + y) (l.drop (i + 1))) = bb) := ⟨by
        have h := HD.out
        rw [hd] at h
        exact h⟩
      have hw2 : wrap64 (2100000000000000 - s) = 2100000000000000 - s := by have := HS.out; rw [ln64 _ (by omega) (by omega)]
      clear hd hy hlt
      by_cases c1 : y < 0
      · have HT : Aside0 (bb = true) := ⟨by have h := HD2.out; rw [if_pos c1] at h; exact h.symm⟩
        go_wp2_with fail
        go_ret
        exact ⟨by rw [HT.out]; rfl, HB.out⟩
      by_cases c2 : 2100000000000000 - s < y
      · have HT : Aside0 (bb = true) := ⟨by have h := HD2.out; rw [if_neg c1, if_pos c2] at h; exact h.symm⟩
        go_wp2_with fail
        go_ret
        exact ⟨by rw [HT.out]; rfl, HB.out⟩
      have hw3 : wrap64 (s + y) = s + y := by have := HS.out; rw [ln64 _ (by omega) (by omega)]
      have HD3 : Aside0 (badW (s + y) (l.drop (i + 1)) = bb) := ⟨by have h := HD2.out; rwa [if_neg c1, if_neg c2] at h⟩
      have HS3 : Aside0 (0 ≤ s + y ∧ s + y ≤ 2100000000000000) := ⟨by have := HS.out; omega⟩
      go_wp2_with fail
      go_roundg (gk - 1)
      case measure => exact meas1 HK.out HI9.out
      case rel => exact ⟨s + y, i + 1, by first | rfl | (rw [hw3]; done), by first | rfl | (rw [hw1]; done), HS3, ⟨meas2 HK.out HI9.out⟩, HB, HD3⟩
    · have hi1 : ¬ (i : Int) < (l.length : Int) := by omega
      have HT : Aside0 (bb = false) := ⟨by have h := HD.out; rw [List.drop_eq_nil_of_le (by omega)] at h; exact h.symm⟩
      go_wp2_with fail
      go_ret
      exact ⟨by rw [HT.out]; rfl, HB.out⟩
/-- The coin that an input finds. -/
def fnd (l : List S74) (x : S35) : Option S74 :=
  match lastC l (opOf x) l.length with
  | some c => if c.f4 = true then none else some c
  | none => none
def noC (l : List S74) (ins : List S35) : Bool := ins.any fun x => (fnd l x).isNone
/-- Too young to be spent. -/
def yng (height mat : Int) (c : S74) : Bool := c.f3 && decide (height - c.f2 < mat)
def youngC (height mat : Int) (l : List S74) (ins : List S35) : Bool := (ins.filterMap (fnd l)).any (yng height mat)
def valsC (l : List S74) (ins : List S35) : List Int := (ins.filterMap (fnd l)).map fun c => c.f1.f0
theorem take_snoc {α : Type} (l : List α) (i : Nat) (h : i < l.length) : l.take (i + 1) = l.take i ++ [l[i]] := List.take_succ_eq_append_getElem h
theorem snoc_none {height mat : Int} {l : List S74} {ins : List S35} {x : S35} (h : fnd l x = none) : noC l (ins ++ [x]) = true ∧ youngC height mat l (ins ++ [x]) = youngC height mat l ins ∧ valsC l (ins ++ [x]) = valsC l ins := by
  unfold noC youngC valsC
  simp [h]
theorem snoc_some {height mat : Int} {l : List S74} {ins : List S35} {x : S35} {c : S74} (h : fnd l x = some c) : noC l (ins ++ [x]) = noC l ins ∧ youngC height mat l (ins ++ [x]) = (youngC height mat l ins || yng height mat c) ∧ valsC l (ins ++ [x]) = valsC l ins ++ [c.f1.f0] := by
  unfold noC youngC valsC
  simp [h]
def inFaults (height mat : Int) (l : List S74) (ins : List S35) (outs : List S41) : List Int :=
  if isCoin ins = true then [] else
    if badW 0 (valsC l ins) = true then addL (youngC height mat l ins) 25 (addL (noC l ins) 21 []) ++ [18]
    else addL (decide (sumW (valsC l ins) < sumW (outs.map fun y => y.f0))) 26 (addL (youngC height mat l ins) 25 (addL (noC l ins) 21 []))
def inFee (l : List S74) (ins : List S35) (outs : List S41) : Int :=
  if isCoin ins = true then 0 else sumW (valsC l ins) - sumW (outs.map fun y => y.f0)
theorem valsC_len (l : List S74) (ins : List S35) : (valsC l ins).length ≤ ins.length := by
  unfold valsC
  rw [List.length_map]
  exact List.length_filterMap_le _ _
end Go.Proofs.Ytdheoajaaofmbaa.QFnScriptPlaces

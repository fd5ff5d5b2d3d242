/- FnReadHashText: a text is read as a hash just as the reference reads it, for every text; where the two errors that are listed read as the program's text lays them (the card ties them). -/
import Derived.Laws.ResultCell
import Derived.Lib.HexFns2
import Derived.Shelf.Hex.Tagged
import Derived.Test.YtpogfbompljkkaaDoorProg
import Derived.Lib.BufferWrite
import Derived.Laws.MakeOwn
import Derived.Laws.Rows
import Derived.ChangeKeysEq
import Derived.Laws.StructEq
import Derived.Test.YtpogfbompljkkaaDoorRows
import Derived.MakeChecks
import Derived.Test.YtpogfbompljkkaaDoorTie
import Derived.Test.YtpogfbompljkkaaDoorCards
import Derived.LaidMore
import Derived.LaidHandle
import Derived.SevenTiedAt
import Derived.WalkKit
import Derived.ProofKit
import Derived.OpenShut
import Derived.ShutString
import Derived.ChangeOld
import Derived.Below
import Derived.SizedLaws
import Derived.Test.YtpogfbompljkkaaDoorWSized
import Derived.Test.YtpogfbompljkkaaDoorR0
/- spec.ReadHashText. -/
namespace Go.Proofs.YtpogfbompljkkaaDoor.Snk
open Go.RowKit Go.Proofs.YtpogfbompljkkaaDoorW.PrintWords Go.Proofs.YtpogfbompljkkaaDoorW.PrintLast Go.Proofs.YtpogfbompljkkaaDoorW.PrintMore Go.Proofs.YtpogfbompljkkaaDoor.QFnReadHashText
set_option linter.unusedVariables false
set_option linter.unusedSimpArgs false
theorem results_row_tmp {P : Program} {fn : Func} {p u : Tmp} {ty : TypeId} (h : fn.results = #[.cell p ty, .tmp u]) (tmps : Array Value) (w : World) (g : Nat) (t : TypeId) (cs : Array Value) (fr : Nat × Nat) (d : TypeDesc) (x : Value)
    (hp : tmps.getD p undef = .pointer (some ⟨g, 0, none⟩)) (hx : tmps.getD u undef = x) (hg : w.heap[g]? = some (.cells cs t fr)) (hu : P.underlying ty = some d) (hd : (match d with | .struct _ | .array _ _ => true | _ => false) = true) (hi : (P.info? ty).map (·.size) = some cs.size) :
    (results fn tmps).run P w = .ok (.tuple #[.agg cs, x]) w := by
  rw [results_cell_tmp h, hp, hx]
  simp [asAddr, Result.andThen, run_loadVar_row w g t ty cs fr d hg hu hd hi]
theorem row32_infoX (l : List Int) (h : l.length = 32) : (Tryd.prog.info? 22).map (·.size) = some (byteC l).toArray.size := by rw [List.size_toArray, byteC_len, h]; kernel_rfl
theorem byteC_oneX (l : List Int) : ((byteC l).toArray).all (·.oneCell') = true := by
  simp [byteC, Value.oneCell']
theorem row_allocX (w : World) (T : TypeId) : (w.alloc (.cells (byteC (List.replicate 32 0)).toArray T)).heap[w.heap.size]? = some (.cells (byteC (List.replicate 32 0)).toArray T (0, 0)) := heap_alloc_new w _
theorem size32X (l : List Int) (h : l.length = 32) : (byteC (List.replicate 32 0)).toArray.size = (byteC l).toArray.size := by rw [List.size_toArray, List.size_toArray, byteC_len, byteC_len, h]; rfl
/-- A small digit's value. -/
def dg (c : Int) : Int := if 48 ≤ c ∧ c ≤ 57 then c - 48 else if 97 ≤ c ∧ c ≤ 102 then c - 87 else -1
theorem dg_lt (c : Int) : dg c ≤ 15 := by unfold dg; split <;> (try split) <;> omega
theorem dg_ge (c : Int) : -1 ≤ dg c := by unfold dg; split <;> (try split) <;> omega
theorem place_all : ∀ c : Fin 256, spec_place.f 20 { data := #[48, 49, 50, 51, 52, 53, 54, 55, 56, 57, 97, 98, 99, 100, 101, 102] } (c.val : Int) = some (dg (c.val : Int)) := by decide +kernel
theorem placeC (c : Int) (hc : 0 ≤ c ∧ c < 256) (w : World) : Calls Tryd.prog 12 #[.string { data := #[48, 49, 50, 51, 52, 53, 54, 55, 56, 57, 97, 98, 99, 100, 101, 102] }, .int .u8 c] w fun e w' => e = .returned (.int .i64 (dg c)) ∧ Below w.heap.size w w' := by
  have h := place_all ⟨c.toNat, by omega⟩
  rw [show (((⟨c.toNat, by omega⟩ : Fin 256).val : Nat) : Int) = c from Int.toNat_of_nonneg hc.1] at h
  exact (spec_place.calls 20 { data := #[48, 49, 50, 51, 52, 53, 54, 55, 56, 57, 97, 98, 99, 100, 101, 102] } c _ w h).mono fun e w' ⟨h6, h7⟩ => by
    obtain ⟨nd, rfl⟩ := h7
    exact ⟨h6, pw_below_drewN (Below.refl _ _) nd⟩
/-- Two digits' number. -/
def two (Q : List Int) (i : Nat) : Int := 16 * dg (Q.getD (2 * i) 0) + dg (Q.getD (2 * i + 1) 0)
def okAt (Q : List Int) (i : Nat) : Prop := 0 ≤ dg (Q.getD (2 * i) 0) ∧ 0 ≤ dg (Q.getD (2 * i + 1) 0)
def outS (i : Nat) (Q : List Int) : List Int := (List.range 32).map fun t => if 31 - t < i then two Q (31 - t) else 0
theorem outS_len (i : Nat) (Q : List Int) : (outS i Q).length = 32 := by unfold outS; rw [List.length_map, List.length_range]
theorem outS_zero (Q : List Int) : outS 0 Q = List.replicate 32 0 := by
  refine List.ext_getElem? fun t => ?_
  unfold outS
  rw [List.getElem?_map, List.getElem?_replicate]
  by_cases h : t < 32
  · rw [List.getElem?_range h, if_pos h]; simp
  · rw [if_neg h, List.getElem?_eq_none (by rw [List.length_range]; omega)]; rfl
theorem outS_succ (i : Nat) (Q : List Int) (hi : i < 32) : (outS i Q).set (31 - i) (two Q i) = outS (i + 1) Q := by
  refine List.ext_getElem? fun t => ?_
  rw [List.getElem?_set, outS_len]
  unfold outS
  by_cases h : t < 32
  · rw [List.getElem?_map, List.getElem?_map, List.getElem?_range h]
    by_cases e : 31 - i = t
    · rw [if_pos e, if_pos (by omega)]
      have e2 : 31 - t = i := by omega
      simp only [Option.map_some, e2]
      rw [if_pos (by omega)]
    · rw [if_neg e]
      simp only [Option.map_some]
      congr 1
      by_cases h2 : 31 - t < i
      · rw [if_pos h2, if_pos (by omega)]
      · rw [if_neg h2, if_neg (by omega)]
  · rw [if_neg (by omega)]
    rw [List.getElem?_eq_none (by rw [List.length_map, List.length_range]; omega), List.getElem?_eq_none (by rw [List.length_map, List.length_range]; omega)]
theorem byteC_setX (l : List Int) (j : Nat) (v : Int) : (byteC l).toArray.setIfInBounds j (.int .u8 v) = (byteC (l.set j v)).toArray := by
  rw [List.setIfInBounds_toArray]
  unfold byteC
  rw [List.map_set]
def strLen : Value → Nat
  | .string s => s.size
  | _ => 0
set_option maxRecDepth 100000 in
theorem specLong (L : List Int) (hn : 64 < L.length) (w : World) : Calls Tryd.prog 5 #[.string (strOfNums L)] w fun e w' => e = .returned (.tuple #[.agg (byteC (List.replicate 32 0)).toArray, .bool false]) ∧ Below w.heap.size w w' := by
  obtain ⟨s, hs⟩ : ∃ s, strOfNums L = s := ⟨_, rfl⟩
  have hsz : s.size = L.length := by rw [← hs]; exact strOfNums_size L
  rw [hs]
  obtain ⟨n, hnn⟩ : ∃ n, L.length = n := ⟨_, rfl⟩
  rw [hnn] at hsz hn
  have h1 : (64 : Int) < (n : Int) := by omega
  have HI := Aside0.mk (row32_infoX (List.replicate 32 0) (by rfl))
  clear hs hnn
  go_enter Tryd.func5, Tryd.ntmps5
  go_upto_region 1 with fail
  obtain ⟨r0, hr0⟩ : ∃ r, w.heap.size = r := ⟨_, rfl⟩
  have HG := Aside0.mk hr0
  have HR := Aside0.mk (row_allocX w 22)
  rw [hr0] at HR ⊢
  generalize hw1 : World.alloc _ _ = w1
  have HB1 : Aside0 (Below w.heap.size w w1) := ⟨by rw [← hw1]; exact below_alloc (Below.refl _ _) _⟩
  have HR1 : Aside0 (w1.heap[r0]? = some (.cells (byteC (List.replicate 32 0)).toArray 22 (0, 0))) := ⟨by rw [← hw1]; exact HR.out⟩
  clear hw1 HR hr0
  go_wp2_with (refine wpList_store_row rfl 22 (.tmp 2) (.tmp 11) rfl r0 (byteC (List.replicate 32 0)).toArray rfl rfl 22 _ HR1.out HI.out rfl (byteC_oneX _) ?_)
  refine bodyPost_ret_by (results_row_tmp rfl _ _ r0 22 _ (0, 0) _ (.bool false) (by rfl) (by rfl) (setRow_heap _ _ _ _ _ _ HR1.out) Tryd.underlying22 rfl HI.out) rfl ⟨rfl, HB1.out.trans ⟨rfl, rfl, rfl, Nat.le_of_eq (setRow_size _ _ _).symm, fun k hk => setRow_other _ _ _ _ (by have := HG.out; omega)⟩⟩
set_option maxRecDepth 100000 in
set_option maxHeartbeats 8000000 in
theorem specC (L : List Int) (hl : ByteL L) (hn : L.length ≤ 64) (Q : List Int) (hQ : Q = (List.replicate (64 - L.length) 48 ++ L).map lowB) (b : Bool) (hb : b = true ↔ ∀ i, i < 32 → okAt Q i) (w : World) :
    Calls Tryd.prog 5 #[.string (strOfNums L)] w fun e w' => e = .returned (.tuple #[.agg (byteC (if b = true then outS 32 Q else List.replicate 32 0)).toArray, .bool b]) ∧ Below w.heap.size w w' := by
  have hrep : ∀ k, ByteL (List.replicate k 48 ++ L) := fun k x hx => by
    rcases List.mem_append.1 hx with h | h
    · rw [List.eq_of_mem_replicate h]; decide
    · exact hl x h
  have HLW : Aside0 (∀ w1, Calls Tryd.prog 11 #[.string (strOfNums (List.replicate (64 - L.length) 48 ++ L))] w1 fun e w' => e = .returned (.string (strOfNums Q)) ∧ Below w1.heap.size w1 w') := ⟨fun w1 => by
    rw [hQ]
    exact lowerC _ (hrep _) (by rw [List.length_append, List.length_replicate]; omega) w1⟩
  have HQB : Aside0 (ByteL Q) := ⟨by rw [hQ]; exact low_bytes (hrep _)⟩
  have HQL : Aside0 (Q.length = 64) := ⟨by rw [hQ, List.length_map, List.length_append, List.length_replicate]; omega⟩
  have HPL : Aside0 (∀ j (w1 : World), Calls Tryd.prog 12 #[.string { data := #[48, 49, 50, 51, 52, 53, 54, 55, 56, 57, 97, 98, 99, 100, 101, 102] }, .int .u8 (Q.getD j 0)] w1 fun e w' => e = .returned (.int .i64 (dg (Q.getD j 0))) ∧ Below w1.heap.size w1 w') := ⟨fun j w1 => placeC _ (HQB.out.at j) w1⟩
  obtain ⟨n, hnn⟩ : ∃ n, L.length = n := ⟨_, rfl⟩
  have HSZ : Aside0 (∀ k, (strOfNums (List.replicate k 48 ++ L)).size = k + n) := ⟨fun k => by rw [strOfNums_size, List.length_append, List.length_replicate, hnn]⟩
  rw [hnn] at HLW hn
  have HN := Aside0.mk hn
  have HI := Aside0.mk (row32_infoX (List.replicate 32 0) (by rfl))
  have HCB := Aside0.mk hb
  have hng : ¬ (64 : Int) < (n : Int) := by omega
  obtain ⟨s0, hst⟩ : ∃ s0, strOfNums L = s0 := ⟨_, rfl⟩
  have HS0 : Aside0 (s0 = strOfNums (List.replicate 0 48 ++ L)) := ⟨by rw [← hst, List.replicate_zero, List.nil_append]⟩
  have hs0 : s0.size = n := by rw [HS0.out, HSZ.out 0, Nat.zero_add]
  rw [hst]
  clear hl hQ hb hrep hnn hst hn
  go_enter Tryd.func5, Tryd.ntmps5
  go_upto_region 1 with fail
  obtain ⟨r0, hr0⟩ : ∃ r, w.heap.size = r := ⟨_, rfl⟩
  have HG := Aside0.mk hr0
  have HR := Aside0.mk (row_allocX w 22)
  rw [hr0] at HR ⊢
  generalize hw1 : World.alloc _ _ = w1
  have HB1 : Aside0 (Below w.heap.size w w1) := ⟨by rw [← hw1]; exact below_alloc (Below.refl _ _) _⟩
  have HR1 : Aside0 (w1.heap[r0]? = some (.cells (byteC (List.replicate 32 0)).toArray 22 (0, 0))) := ⟨by rw [← hw1]; exact HR.out⟩
  clear hw1 HR hr0
  go_upto_region 3 with fail
  clear hs0 hng
  go_loopw [0] (fun v0 wr => ∃ k : Nat, k + n ≤ 64 ∧ v0 = .string (strOfNums (List.replicate k 48 ++ L)) ∧ Aside0 (wr.heap[r0]? = some (.cells (byteC (List.replicate 32 0)).toArray 22 (0, 0))) ∧ Aside0 (Below w.heap.size w wr)) (fun v0 _ => 64 - strLen v0)
  case atStart => exact ⟨0, by have := HN.out; omega, by rw [HS0.out], HR1, HB1⟩
  case round =>
    clear HR1 HB1
    obtain ⟨k, hk, rfl, HRr, HBr⟩ := hrel
    have hsz := HSZ.out k
    have HSK := Aside0.mk hsz
    have HKN := Aside0.mk hk
    by_cases hlt : k + n < 64
    · have HLT := Aside0.mk hlt
      have h1 : (k : Int) + (n : Int) < 64 := by omega
      have HC : Aside0 (({ data := #[48] } : ByteArray) ++ strOfNums (List.replicate k 48 ++ L) = strOfNums (List.replicate (k + 1) 48 ++ L)) := ⟨by rw [cat48]; rfl⟩
      obtain ⟨s, hs⟩ : ∃ s, strOfNums (List.replicate k 48 ++ L) = s := ⟨_, rfl⟩
      rw [hs] at hsz HSK HC ⊢
      clear hs hk hlt
      go_wp2_with ((with_reducible refine at_dst (N := 16) rfl ?_); refine wpList_run rfl _ (cat_op 9 9 (.const (.string { data := #[48] })) (.tmp 15) rfl _ _ rfl rfl (by have h1 := HSK.out; have h2 := HLT.out; have h3 : ({ data := #[48] } : ByteArray).size = 1 := rfl; omega)) ?_)
      go_roundw
      case rel => exact ⟨k + 1, by have := HLT.out; omega, by rw [HC.out], HRr, HBr⟩
      case measure => rw [HC.out]; show 64 - (strOfNums (List.replicate (k + 1) 48 ++ L)).size < 64 - s.size; rw [HSZ.out (k + 1)]; have h1 := HSK.out; have h2 := HLT.out; omega
    · have hk64 : k = 64 - n := by omega
      have hge : ¬ (k : Int) + (n : Int) < 64 := by omega
      have HL2 : Aside0 (∀ w1, Calls Tryd.prog 11 #[.string (strOfNums (List.replicate k 48 ++ L))] w1 fun e w' => e = .returned (.string (strOfNums Q)) ∧ Below w1.heap.size w1 w') := ⟨by rw [hk64]; exact HLW.out⟩
      obtain ⟨s, hs⟩ : ∃ s, strOfNums (List.replicate k 48 ++ L) = s := ⟨_, rfl⟩
      rw [hs] at hsz HSK HL2 ⊢
      clear hs hk hlt hk64 HLW
      go_upto_region 6 with (go_at_call 11; (with_reducible refine (HL2.out wr).mono ?_); rintro e w2 ⟨rfl, k1⟩; have B2 := Aside0.mk (below_trV HBr.out k1); have R2 := Aside0.mk ((k1.block _ (blk_lt' HRr.out)).trans HRr.out); clear k1)
      clear hsz hge
      go_upto_region 7 with fail
      obtain ⟨q, hq⟩ : ∃ r, w2.heap.size = r := ⟨_, rfl⟩
      have HGQ := Aside0.mk hq
      have HA := Aside0.mk (row_allocX w2 22)
      have HA0 := Aside0.mk (heap_alloc_lt R2.out (.cells (byteC (List.replicate 32 0)).toArray 22))
      rw [hq] at HA ⊢
      generalize hw3 : World.alloc _ _ = w3
      have B3 : Aside0 (Below w.heap.size w w3) := ⟨by rw [← hw3]; exact below_alloc B2.out _⟩
      have Q3 : Aside0 (w3.heap[q]? = some (.cells (byteC (outS 0 Q)).toArray 22 (0, 0))) := ⟨by rw [outS_zero, ← hw3]; exact HA.out⟩
      have R3 : Aside0 (w3.heap[r0]? = some (.cells (byteC (List.replicate 32 0)).toArray 22 (0, 0))) := ⟨by rw [← hw3]; exact HA0.out⟩
      have HQR : Aside0 (r0 < q ∧ w.heap.size ≤ q) := ⟨by have h1 := blk_lt' R2.out; have h2 := B2.out.size; rw [hq] at h1 h2; exact ⟨h1, h2⟩⟩
      clear hw3 HA HA0 hq
      go_upto_region 8 with fail
      go_loopw [19] (fun v19 wr => ∃ i : Nat, i ≤ 32 ∧ v19 = .int .i64 i ∧ Aside0 (wr.heap[q]? = some (.cells (byteC (outS i Q)).toArray 22 (0, 0))) ∧ Aside0 (wr.heap[r0]? = some (.cells (byteC (List.replicate 32 0)).toArray 22 (0, 0))) ∧ Aside0 (Below w.heap.size w wr) ∧ Aside0 (∀ t, t < i → okAt Q t)) (fun v19 _ => 32 - (intOf v19).toNat)
      case atStart => exact ⟨0, Nat.zero_le _, rfl, Q3, R3, B3, ⟨fun t ht => absurd ht (Nat.not_lt_zero t)⟩⟩
      case round =>
        clear Q3 R3 B3 R2 B2 HRr HBr
        obtain ⟨i, hi, rfl, Q4, R4, B4, V4⟩ := hrel
        by_cases hi32 : i < 32
        · have HI32 := Aside0.mk hi32
          have hlt : (i : Int) < 32 := by omega
          obtain ⟨j, hj⟩ : ∃ j, 2 * i = j := ⟨_, rfl⟩
          have HJ := Aside0.mk hj
          obtain ⟨x, hx⟩ : ∃ x, Q.getD j 0 = x := ⟨_, rfl⟩
          obtain ⟨y, hy⟩ : ∃ y, Q.getD (j + 1) 0 = y := ⟨_, rfl⟩
          have P1 := Aside0.mk (HPL.out j)
          have P2 := Aside0.mk (HPL.out (j + 1))
          rw [hx] at P1
          rw [hy] at P2
          obtain ⟨a, ha⟩ : ∃ a, dg x = a := ⟨_, rfl⟩
          obtain ⟨c, hc⟩ : ∃ c, dg y = c := ⟨_, rfl⟩
          have ha1 : a ≤ 15 := by rw [← ha]; exact dg_lt x
          have hc1 : c ≤ 15 := by rw [← hc]; exact dg_lt y
          rw [ha] at P1
          rw [hc] at P2
          have HOK : Aside0 (okAt Q i ↔ 0 ≤ a ∧ 0 ≤ c) := ⟨by unfold okAt; rw [hj, hx, hy, ha, hc]⟩
          have HTW : Aside0 (two Q i = 16 * a + c) := ⟨by unfold two; rw [hj, hx, hy, ha, hc]⟩
          have HX := Aside0.mk hx
          have HY := Aside0.mk hy
          have HW2 : Aside0 (wrap64 (2 * (i : Int)) = (j : Int)) := ⟨by rw [wrn _ (by omega) (by omega)]; omega⟩
          have HW3 : Aside0 (wrap64 ((j : Int) + 1) = (j : Int) + 1) := ⟨wrn _ (by omega) (by omega)⟩
          have HI1 : Aside0 (wrap64 ((i : Int) + 1) = (i : Int) + 1) := ⟨wrn _ (by omega) (by omega)⟩
          have HBU : Aside0 (¬ okAt Q i → b = false) := ⟨fun hno => by
            cases hb : b with
            | false => rfl
            | true => exact absurd (HCB.out.1 hb i hi32) hno⟩
          clear hx hy ha hc hj hi
          go_upto_region 10 with fail
          have hw2 := HW2.out
          have hw3 := HW3.out
          refine start_ (n := 13) (S := fun w' => True) (ds := []) #[false, false, false, false, false, false, false, false, false, false, false, false, false] (by kernel_rfl) rfl rfl trivial (fun hHeld => ?_)
          generalize hw4 : World.drew wr = w4
          have BD : Aside0 (Below w.heap.size w w4) := ⟨by rw [← hw4]; exact below_drew B4.out⟩
          have QD : Aside0 (w4.heap[q]? = some (.cells (byteC (outS i Q)).toArray 22 (0, 0))) := ⟨by rw [← hw4]; exact Q4.out⟩
          have RD : Aside0 (w4.heap[r0]? = some (.cells (byteC (List.replicate 32 0)).toArray 22 (0, 0))) := ⟨by rw [← hw4]; exact R4.out⟩
          clear hw4
          refine pure_ (i := 0) (N := some 22) (v := ?_) (a' := ?_) #[true, false, false, false, false, false, false, false, false, false, false, false, false] rfl rfl (by kernel_rfl) (fun _ _ _ h => h) (Or.inl ⟨by rfl, ?_⟩) ?_ ?_
          rotate_left
          · intro w'
            go_simp
            with_reducible rfl
          rotate_left
          · simp only [Act.put, List.setIfInBounds_toArray, List.set_cons_zero, List.set_cons_succ, i64_w, i32_w]
            rfl
          refine pure_ (i := 1) (N := some 23) (v := ?_) (a' := ?_) #[true, true, false, false, false, false, false, false, false, false, false, false, false] rfl rfl (by kernel_rfl) (fun _ _ _ h => h) (Or.inl ⟨by rfl, ?_⟩) ?_ ?_
          rotate_left
          · intro w'
            go_simp
            with_reducible rfl
          rotate_left
          · simp only [Act.put, List.setIfInBounds_toArray, List.set_cons_zero, List.set_cons_succ, i64_w, i32_w]
            rfl
          refine pure_ (i := 2) (N := some 24) (v := ?_) (a' := ?_) #[true, true, true, false, false, false, false, false, false, false, false, false, false] rfl rfl (by kernel_rfl) (fun _ _ _ h => h) (Or.inl ⟨by rfl, ?_⟩) ?_ ?_
          rotate_left
          · intro w'
            go_simp
            with_reducible rfl
          rotate_left
          · simp only [Act.put, List.setIfInBounds_toArray, List.set_cons_zero, List.set_cons_succ, i64_w, i32_w]
            rfl
          refine pure_ (i := 3) (N := some 25) (v := ?_) (a' := ?_) #[true, true, true, true, false, false, false, false, false, false, false, false, false] rfl rfl (by kernel_rfl) (fun _ _ _ h => h) (Or.inl ⟨by rfl, ?_⟩) ?_ ?_
          rotate_left
          · intro w'
            refine index_op (.tmp 22) (.tmp 24) ?_ HQB.out j (wrap64 (2 * (i : Int))) ?_ ?_ HW2.out (by clear hw2 hw3; have h1 := HQL.out; have h2 := HJ.out; have h3 := HI32.out; omega) x HX.out w' <;> rfl
          rotate_left
          · simp only [Act.put, List.setIfInBounds_toArray, List.set_cons_zero, List.set_cons_succ, i64_w, i32_w]
            rfl
          refine pure_ (i := 5) (N := some 27) (v := ?_) (a' := ?_) #[true, true, true, true, false, true, false, false, false, false, false, false, false] rfl rfl (by kernel_rfl) (fun _ _ _ h => h) (Or.inl ⟨by rfl, ?_⟩) ?_ ?_
          rotate_left
          · intro w'
            go_simp
            with_reducible rfl
          rotate_left
          · simp only [Act.put, List.setIfInBounds_toArray, List.set_cons_zero, List.set_cons_succ, i64_w, i32_w]
            rfl
          refine pure_ (i := 6) (N := some 28) (v := ?_) (a' := ?_) #[true, true, true, true, false, true, true, false, false, false, false, false, false] rfl rfl (by kernel_rfl) (fun _ _ _ h => h) (Or.inl ⟨by rfl, ?_⟩) ?_ ?_
          rotate_left
          · intro w'
            go_simp
            with_reducible rfl
          rotate_left
          · simp only [Act.put, List.setIfInBounds_toArray, List.set_cons_zero, List.set_cons_succ, i64_w, i32_w]
            rfl
          refine pure_ (i := 7) (N := some 29) (v := ?_) (a' := ?_) #[true, true, true, true, false, true, true, true, false, false, false, false, false] rfl rfl (by kernel_rfl) (fun _ _ _ h => h) (Or.inl ⟨by rfl, ?_⟩) ?_ ?_
          rotate_left
          · intro w'
            go_simp
            with_reducible rfl
          rotate_left
          · simp only [Act.put, List.setIfInBounds_toArray, List.set_cons_zero, List.set_cons_succ, i64_w, i32_w]
            rfl
          refine pure_ (i := 8) (N := some 30) (v := ?_) (a' := ?_) #[true, true, true, true, false, true, true, true, true, false, false, false, false] rfl rfl (by kernel_rfl) (fun _ _ _ h => h) (Or.inl ⟨by rfl, ?_⟩) ?_ ?_
          rotate_left
          · intro w'
            go_simp
            with_reducible rfl
          rotate_left
          · simp only [Act.put, List.setIfInBounds_toArray, List.set_cons_zero, List.set_cons_succ, i64_w, i32_w]
            rfl
          refine pure_ (i := 9) (N := some 31) (v := ?_) (a' := ?_) #[true, true, true, true, false, true, true, true, true, true, false, false, false] rfl rfl (by kernel_rfl) (fun _ _ _ h => h) (Or.inl ⟨by rfl, ?_⟩) ?_ ?_
          rotate_left
          · intro w'
            refine index_op (.tmp 27) (.tmp 30) ?_ HQB.out (j + 1) (wrap64 ((j : Int) + 1)) ?_ ?_ (HW3.out.trans (by clear hw2 hw3; omega)) (by clear hw2 hw3; have h1 := HQL.out; have h2 := HJ.out; have h3 := HI32.out; omega) y HY.out w' <;> rfl
          rotate_left
          · simp only [Act.put, List.setIfInBounds_toArray, List.set_cons_zero, List.set_cons_succ, i64_w, i32_w]
            rfl
          refine one_ (i := 4) (N := some 26) #[true, true, true, true, true, true, true, true, true, true, false, false, false] rfl rfl (by kernel_rfl) (by decide) (fun K hK => ?_)
          refine goes_ Tryd.func12 (by kernel_rfl) rfl #[.string { data := #[48, 49, 50, 51, 52, 53, 54, 55, 56, 57, 97, 98, 99, 100, 101, 102] }, .int .u8 x] (by rfl) rfl rfl (by (try simp only [List.map_toArray, List.map_cons, List.map_nil]); first | done | rfl | (simp only [List.length_drop, List.length_take]; rfl)) ?_
          with_reducible refine (P1.out w4).mono ?_
          rintro e w5 ⟨rfl, k1⟩
          refine ⟨_, rfl, ?_⟩
          have B5 := Aside0.mk (below_trV BD.out k1)
          have Q5 := Aside0.mk ((k1.block _ (blk_lt' QD.out)).trans QD.out)
          have R5 := Aside0.mk ((k1.block _ (blk_lt' RD.out)).trans RD.out)
          clear k1
          refine hK.out _ _ trivial (fun hHeld => ?_)
          clear hK K
          refine norm_ (a' := ?_) ?_ ?_
          rotate_left
          · show Act.put _ (some 26) _ = _
            simp only [Act.put, List.setIfInBounds_toArray, List.set_cons_zero, List.set_cons_succ, i64_w, i32_w]
            rfl
          refine one_ (i := 10) (N := some 32) #[true, true, true, true, true, true, true, true, true, true, true, false, false] rfl rfl (by kernel_rfl) (by decide) (fun K hK => ?_)
          refine goes_ Tryd.func12 (by kernel_rfl) rfl #[.string { data := #[48, 49, 50, 51, 52, 53, 54, 55, 56, 57, 97, 98, 99, 100, 101, 102] }, .int .u8 y] (by rfl) rfl rfl (by (try simp only [List.map_toArray, List.map_cons, List.map_nil]); first | done | rfl | (simp only [List.length_drop, List.length_take]; rfl)) ?_
          with_reducible refine (P2.out w5).mono ?_
          rintro e w6 ⟨rfl, k1⟩
          refine ⟨_, rfl, ?_⟩
          have BZ := Aside0.mk (below_trV B5.out k1)
          have QZ := Aside0.mk ((k1.block _ (blk_lt' Q5.out)).trans Q5.out)
          have RZ := Aside0.mk ((k1.block _ (blk_lt' R5.out)).trans R5.out)
          clear k1
          refine hK.out _ _ trivial (fun hHeld => ?_)
          clear hK K
          refine norm_ (a' := ?_) ?_ ?_
          rotate_left
          · show Act.put _ (some 32) _ = _
            simp only [Act.put, List.setIfInBounds_toArray, List.set_cons_zero, List.set_cons_succ, i64_w, i32_w]
            rfl
          refine pure_ (i := 11) (N := some 6) (v := ?_) (a' := ?_) #[true, true, true, true, true, true, true, true, true, true, true, true, false] rfl rfl (by kernel_rfl) (fun _ _ _ h => h) (Or.inl ⟨by rfl, ?_⟩) ?_ ?_
          rotate_left
          · intro w'
            go_simp
            with_reducible rfl
          rotate_left
          · simp only [Act.put, List.setIfInBounds_toArray, List.set_cons_zero, List.set_cons_succ, i64_w, i32_w]
            rfl
          refine pure_ (i := 12) (N := some 7) (v := ?_) (a' := ?_) #[true, true, true, true, true, true, true, true, true, true, true, true, true] rfl rfl (by kernel_rfl) (fun _ _ _ h => h) (Or.inl ⟨by rfl, ?_⟩) ?_ ?_
          rotate_left
          · intro w'
            go_simp
            with_reducible rfl
          rotate_left
          · simp only [Act.put, List.setIfInBounds_toArray, List.set_cons_zero, List.set_cons_succ, i64_w, i32_w]
            rfl
          refine done_ (by kernel_rfl) ?_
          clear hw2 hw3
          by_cases hneg : a < 0 ∨ c < 0
          · have hbf : b = false := HBU.out (fun h => by have h2 := HOK.out.1 h; omega)
            subst hbf
            by_cases hna : a < 0
            · clear hneg
              go_wp2_with (refine wpList_store_row rfl 22 (.tmp 2) (.tmp 39) rfl r0 (byteC (List.replicate 32 0)).toArray rfl rfl 22 _ RZ.out HI.out rfl (byteC_oneX _) ?_)
              refine bodyPost_ret_by (results_row_tmp rfl _ _ r0 22 _ (0, 0) _ (.bool false) (by rfl) (by rfl) (setRow_heap _ _ _ _ _ _ RZ.out) Tryd.underlying22 rfl HI.out) rfl ⟨rfl, BZ.out.trans ⟨rfl, rfl, rfl, Nat.le_of_eq (setRow_size _ _ _).symm, fun k hk => setRow_other _ _ _ _ (by have := HG.out; omega)⟩⟩
            · have hnc : c < 0 := by omega
              clear hneg
              go_wp2_with (refine wpList_store_row rfl 22 (.tmp 2) (.tmp 39) rfl r0 (byteC (List.replicate 32 0)).toArray rfl rfl 22 _ RZ.out HI.out rfl (byteC_oneX _) ?_)
              refine bodyPost_ret_by (results_row_tmp rfl _ _ r0 22 _ (0, 0) _ (.bool false) (by rfl) (by rfl) (setRow_heap _ _ _ _ _ _ RZ.out) Tryd.underlying22 rfl HI.out) rfl ⟨rfl, BZ.out.trans ⟨rfl, rfl, rfl, Nat.le_of_eq (setRow_size _ _ _).symm, fun k hk => setRow_other _ _ _ _ (by have := HG.out; omega)⟩⟩
          · have hna : ¬ a < 0 := fun h => hneg (.inl h)
            have hnc : ¬ c < 0 := fun h => hneg (.inr h)
            have hd0 : (0 : Int) ≤ 31 - (i : Int) := by omega
            have hd1 : 31 - (i : Int) < 32 := by omega
            have H31 : Aside0 (wrap64 (31 - (i : Int)) = 31 - (i : Int)) := ⟨wrn _ (by omega) (by omega)⟩
            have H16 : Aside0 (wrap64 (16 * a) = 16 * a) := ⟨wrn _ (by omega) (by omega)⟩
            have HAD : Aside0 (wrap64 (16 * a + c) = 16 * a + c) := ⟨wrn _ (by omega) (by omega)⟩
            have HU8 : Aside0 (IntKind.u8.wrap (16 * a + c) = 16 * a + c) := ⟨u8wr (by omega) (by omega)⟩
            have HNN : Aside0 (okAt Q i) := ⟨HOK.out.2 ⟨by omega, by omega⟩⟩
            have hcell := cell_of QZ.out (j := 31 - i) (v := .int .u8 ((outS i Q).getD (31 - i) 0)) (by rw [List.getElem?_toArray]; exact byteC_at (by rw [outS_len]; omega))
            have hfroz := frozen_of QZ.out (31 - i)
            have HST : Aside0 ((byteC (outS i Q)).toArray.setIfInBounds (31 - i) (.int .u8 (16 * a + c)) = (byteC (outS (i + 1) Q)).toArray) := ⟨by rw [byteC_setX, ← HTW.out, outS_succ i Q hi32]⟩
            have q1 := H31.out
            have q2 := H16.out
            have q3 := HAD.out
            have q4 := HU8.out
            have q5 := HI1.out
            clear hneg hi32
            go_wp2_with fail
            clear q1 q2 q3 q4 q5
            go_roundw
            case rel => exact ⟨i + 1, by have := HI32.out; omega, by go_num, ⟨by rw [← HST.out]; exact heap_set_same QZ.out _⟩, ⟨(((Only.refl q w6).set _ _).block r0 (blk_lt' RZ.out) (by have := HQR.out; omega)).trans RZ.out⟩, ⟨BZ.out.trans ⟨rfl, rfl, rfl, by simp [World.setCell], fun k hk => ((Only.refl q w6).set _ _).block k (Nat.lt_of_lt_of_le hk BZ.out.size) (by have := HQR.out; omega)⟩⟩, ⟨fun t ht => by
              rcases Nat.lt_or_ge t i with h1 | h1
              · exact V4.out t h1
              · obtain rfl : t = i := by omega
                exact HNN.out⟩⟩
            case measure => simp [intOf]; have := HI32.out; omega
        · obtain rfl : i = 32 := by omega
          have hbt : b = true := HCB.out.2 V4.out
          subst hbt
          have HIO := Aside0.mk (row32_infoX (outS 32 Q) (outS_len _ _))
          have hnl : ¬ (32 : Int) < 32 := by omega
          clear hi hi32
          go_wp2_with (first
            | ((with_reducible refine at_dst (N := 49) rfl ?_); refine wpList_load_row rfl 22 (.tmp 4) rfl q rfl 22 _ (0, 0) _ Q4.out Tryd.underlying22 rfl HIO.out ?_)
            | (refine wpList_store_row rfl 22 (.tmp 2) (.tmp 49) rfl r0 (byteC (outS 32 Q)).toArray rfl rfl 22 _ R4.out HIO.out (size32X _ (outS_len _ _)) (byteC_oneX _) ?_))
          refine bodyPost_ret_by (results_row_tmp rfl _ _ r0 22 _ (0, 0) _ (.bool true) (by rfl) (by rfl) (setRow_heap _ _ _ _ _ _ R4.out) Tryd.underlying22 rfl HIO.out) rfl ⟨rfl, B4.out.trans ⟨rfl, rfl, rfl, Nat.le_of_eq (setRow_size _ _ _).symm, fun k hk => setRow_other _ _ _ _ (by have := HG.out; omega)⟩⟩
end Go.Proofs.YtpogfbompljkkaaDoor.Snk
/- Digits decoded: what encoding/hex gives is what the law's reading gives. -/
namespace Go.Proofs.YtpogfbompljkkaaDoor.Snk
open Go.RowKit Go.Proofs.YtpogfbompljkkaaDoorW.PrintWords Go.Proofs.YtpogfbompljkkaaDoorW.PrintLast Go.Proofs.YtpogfbompljkkaaDoorW.PrintMore
set_option linter.unusedVariables false
set_option linter.unusedSimpArgs false
theorem hv_all : ∀ c : Fin 256, (0 ≤ dg (lowB (c.val : Int)) ↔ Lib.Hx.v (UInt8.ofNat (c.val : Int).toNat) ≤ 15) ∧ (0 ≤ dg (lowB (c.val : Int)) → (Lib.Hx.v (UInt8.ofNat (c.val : Int).toNat) : Int) = dg (lowB (c.val : Int))) := by decide +kernel
theorem hv_at {c : Int} (hc : 0 ≤ c ∧ c < 256) : (0 ≤ dg (lowB c) ↔ Lib.Hx.v (UInt8.ofNat c.toNat) ≤ 15) ∧ (0 ≤ dg (lowB c) → (Lib.Hx.v (UInt8.ofNat c.toNat) : Int) = dg (lowB c)) := by
  have h := hv_all ⟨c.toNat, by omega⟩
  rw [show (((⟨c.toNat, by omega⟩ : Fin 256).val : Nat) : Int) = c from Int.toNat_of_nonneg hc.1] at h
  exact h
theorem two_cons (p q : Int) (t : List Int) (i : Nat) : two (p :: q :: t) (i + 1) = two t i := rfl
theorem ok_cons (p q : Int) (t : List Int) (i : Nat) : okAt (p :: q :: t) (i + 1) ↔ okAt t i := Iff.rfl
theorem dec_both : ∀ (h : Nat) (xs : List Int), ByteL xs → xs.length = 2 * h →
    ((∀ i, i < h → okAt (xs.map lowB) i) → Lib.Hx.decode (Lib.bytesOf xs) = ((List.range h).map fun i => UInt8.ofNat (two (xs.map lowB) i).toNat, .ok)) ∧
    ((¬ ∀ i, i < h → okAt (xs.map lowB) i) → ∃ c, (Lib.Hx.decode (Lib.bytesOf xs)).2 = .bad c)
  | 0, xs, _, hl => by
    obtain rfl := List.length_eq_zero_iff.1 hl
    exact ⟨fun _ => rfl, fun h => absurd (fun i hi => absurd hi (Nat.not_lt_zero i)) h⟩
  | h + 1, xs, hb, hl => by
    match xs, hl with
    | p :: q :: t, hl =>
      have hp := hb p (by simp)
      have hq := hb q (by simp)
      have ht : ByteL t := fun x hx => hb x (by simp [hx])
      obtain ⟨i1, i2⟩ := dec_both h t ht (by simp at hl; omega)
      have vp := hv_at hp
      have vq := hv_at hq
      have e : Lib.bytesOf (p :: q :: t) = UInt8.ofNat p.toNat :: UInt8.ofNat q.toNat :: Lib.bytesOf t := rfl
      have z0 : okAt ((p :: q :: t).map lowB) 0 ↔ 0 ≤ dg (lowB p) ∧ 0 ≤ dg (lowB q) := Iff.rfl
      rw [e, Lib.Hx.decode_two]
      refine ⟨fun hall => ?_, fun hno => ?_⟩
      · have h0 := z0.1 (hall 0 (by omega))
        have hr := i1 (fun i hi => (ok_cons _ _ _ i).1 (hall (i + 1) (by omega)))
        rw [if_neg (by have := vp.1.1 h0.1; omega), if_neg (by have := vq.1.1 h0.2; omega), hr, List.range_succ_eq_map, List.map_cons, List.map_map]
        have v1 := vp.2 h0.1
        have v2 := vq.2 h0.2
        have hz : two ((p :: q :: t).map lowB) 0 = 16 * dg (lowB p) + dg (lowB q) := rfl
        have hn : Lib.Hx.v (UInt8.ofNat p.toNat) * 16 + Lib.Hx.v (UInt8.ofNat q.toNat) = (two ((p :: q :: t).map lowB) 0).toNat := by rw [hz]; omega
        rw [hn]
        rfl
      · by_cases h1 : 15 < Lib.Hx.v (UInt8.ofNat p.toNat)
        · rw [if_pos h1]; exact ⟨_, rfl⟩
        · rw [if_neg h1]
          by_cases h2 : 15 < Lib.Hx.v (UInt8.ofNat q.toNat)
          · rw [if_pos h2]; exact ⟨_, rfl⟩
          · rw [if_neg h2]
            have hz := z0.2 ⟨vp.1.2 (by omega), vq.1.2 (by omega)⟩
            refine i2 (fun hall => hno (fun i hi => ?_))
            rcases i with _ | i
            · exact hz
            · exact (ok_cons _ _ _ i).2 (hall i (by omega))
theorem getD_map_low (l : List Int) (j : Nat) : (l.map lowB).getD j 0 = lowB (l.getD j 0) := by
  rw [List.getD_eq_getElem?_getD, List.getD_eq_getElem?_getD, List.getElem?_map]
  cases l[j]? <;> rfl
theorem pad_lo (k : Nat) (xs : List Int) (j : Nat) (hj : j < k) : ((List.replicate k 48 ++ xs).map lowB).getD j 0 = 48 := by
  rw [getD_map_low, List.getD_eq_getElem?_getD, List.getElem?_append_left (by rw [List.length_replicate]; exact hj), List.getElem?_replicate, if_pos hj]; rfl
theorem pad_hi (k : Nat) (xs : List Int) (j : Nat) : ((List.replicate k 48 ++ xs).map lowB).getD (k + j) 0 = (xs.map lowB).getD j 0 := by
  rw [getD_map_low, getD_map_low, List.getD_eq_getElem?_getD, List.getElem?_append_right (by rw [List.length_replicate]; omega), List.length_replicate, Nat.add_sub_cancel_left, List.getD_eq_getElem?_getD]
theorem q_lo (h : Nat) (xs : List Int) (i : Nat) (hi : i < 32 - h) : okAt ((List.replicate (64 - 2 * h) 48 ++ xs).map lowB) i ∧ two ((List.replicate (64 - 2 * h) 48 ++ xs).map lowB) i = 0 := by
  unfold okAt two
  rw [pad_lo _ _ _ (by omega), pad_lo _ _ _ (by omega)]
  decide
theorem q_hi (h : Nat) (hh : h ≤ 32) (xs : List Int) (i : Nat) : (okAt ((List.replicate (64 - 2 * h) 48 ++ xs).map lowB) (32 - h + i) ↔ okAt (xs.map lowB) i) ∧ two ((List.replicate (64 - 2 * h) 48 ++ xs).map lowB) (32 - h + i) = two (xs.map lowB) i := by
  unfold okAt two
  rw [show 2 * (32 - h + i) = (64 - 2 * h) + 2 * i by omega, show (64 - 2 * h) + 2 * i + 1 = (64 - 2 * h) + (2 * i + 1) by omega, pad_hi, pad_hi]
  exact ⟨Iff.rfl, rfl⟩
theorem q_all (h : Nat) (hh : h ≤ 32) (xs : List Int) : (∀ i, i < 32 → okAt ((List.replicate (64 - 2 * h) 48 ++ xs).map lowB) i) ↔ ∀ i, i < h → okAt (xs.map lowB) i := by
  refine ⟨fun hall i hi => (q_hi h hh xs i).1.1 (hall (32 - h + i) (by omega)), fun hall i hi => ?_⟩
  by_cases h1 : i < 32 - h
  · exact (q_lo h xs i h1).1
  · have e : i = 32 - h + (i - (32 - h)) := by omega
    rw [e]
    exact (q_hi h hh xs _).1.2 (hall _ (by omega))
/-- The bytes ahead of their turning. -/
def fwd (Q : List Int) : List Int := (List.range 32).map (two Q)
theorem fwd_len (Q : List Int) : (fwd Q).length = 32 := by unfold fwd; rw [List.length_map, List.length_range]
theorem fwd_at (Q : List Int) (j : Nat) (hj : j < 32) : (fwd Q).getD j 0 = two Q j := by
  unfold fwd
  rw [List.getD_eq_getElem?_getD, List.getElem?_map, List.getElem?_range hj]; rfl
/-- How far they are turned: t < i from ahead and from behind. -/
def swS (i : Nat) (Q : List Int) : List Int := (List.range 32).map fun t => if t < i ∨ 31 - t < i then two Q (31 - t) else 0
theorem swS_len (i : Nat) (Q : List Int) : (swS i Q).length = 32 := by unfold swS; rw [List.length_map, List.length_range]
theorem swS_zero (Q : List Int) : swS 0 Q = List.replicate 32 0 := by
  refine List.ext_getElem? fun t => ?_
  unfold swS
  rw [List.getElem?_map, List.getElem?_replicate]
  by_cases h : t < 32
  · rw [List.getElem?_range h, if_pos h]; simp
  · rw [if_neg h, List.getElem?_eq_none (by rw [List.length_range]; omega)]; rfl
theorem swS_succ (i : Nat) (Q : List Int) (hi : i < 16) : ((swS i Q).set i (two Q (31 - i))).set (31 - i) (two Q i) = swS (i + 1) Q := by
  refine List.ext_getElem? fun t => ?_
  rw [List.getElem?_set, List.length_set, swS_len, List.getElem?_set, swS_len]
  unfold swS
  by_cases h : t < 32
  · rw [List.getElem?_map, List.getElem?_map, List.getElem?_range h]
    by_cases e : 31 - i = t
    · rw [if_pos e, if_pos (by omega)]
      simp only [Option.map_some]
      rw [if_pos (by omega), show 31 - t = i by omega]
    · rw [if_neg e]
      by_cases e2 : i = t
      · rw [if_pos e2, if_pos (by omega)]
        simp only [Option.map_some]
        rw [if_pos (by omega), e2]
      · rw [if_neg e2]
        simp only [Option.map_some]
        congr 1
        by_cases h2 : t < i ∨ 31 - t < i
        · rw [if_pos h2, if_pos (by omega)]
        · rw [if_neg h2, if_neg (by omega)]
  · rw [if_neg (by omega), if_neg (by omega)]
    rw [List.getElem?_eq_none (by rw [List.length_map, List.length_range]; omega), List.getElem?_eq_none (by rw [List.length_map, List.length_range]; omega)]
theorem swS_all (Q : List Int) : swS 16 Q = outS 32 Q := by
  refine List.ext_getElem? fun t => ?_
  unfold swS outS
  rw [List.getElem?_map, List.getElem?_map]
  by_cases h : t < 32
  · rw [List.getElem?_range h]
    simp only [Option.map_some]
    rw [if_pos (by omega), if_pos (by omega)]
  · rw [List.getElem?_eq_none (by rw [List.length_range]; omega)]; rfl
end Go.Proofs.YtpogfbompljkkaaDoor.Snk
/-
  DERIVED: THE SHELF's CONTRACTS AT THIS DUMP, IN PLAIN WORDS (tools/lay-plain.mjs out of 'YtpogfbompljkkaaDoorLayH.lean', which tools/lay-shelf.mjs wrote): THE SAME DECLARATIONS UNDER THE SAME NAMES: 'import', 'namespace', 'open', 'def', 'theorem' AND NOTHING ELSE: no command of the shelf's: FOR A HAND-IN. Each laying: the table of numbers ('.._ren') and one theorem, a field a fact of the dump's own or the kernel's comparison; each contract: ONE APPLICATION.
-/
namespace Go.Proofs
open Go.Shelf
def Tryd.lays44_ren : Go.Shelf.Ren := ⟨fun | 44 => 34 | n => n, fun | 30 => 28 | 3 => 3 | 35 => 37 | 4 => 4 | 0 => 0 | 5 => 5 | 9 => 9 | 47 => 92 | 46 => 93 | 45 => 97 | n => n, fun | 0 => 2 | n => n⟩
theorem Tryd.lays44 : Go.Proofs.Lays.p44 Tryd.prog Tryd.lays44_ren := {
  mixed := by kernel_rfl
  f44 := Tryd.func34.trans (congrArg some (by kernel_rfl))
  t0 := Tryd.underlying0
  a0 := Tryd.isAgg0
  z0 := Tryd.sizeOf0
  v0 := Tryd.zeroValue0
  t3 := Tryd.underlying3
  a3 := Tryd.isAgg3
  z3 := Tryd.sizeOf3
  v3 := Tryd.zeroValue3
  t4 := Tryd.underlying4
  a4 := Tryd.isAgg4
  z4 := Tryd.sizeOf4
  v4 := Tryd.zeroValue4
  t5 := Tryd.underlying5
  a5 := Tryd.isAgg5
  z5 := Tryd.sizeOf5
  v5 := Tryd.zeroValue5
  t9 := Tryd.underlying9
  a9 := Tryd.isAgg9
  z9 := Tryd.sizeOf9
  v9 := Tryd.zeroValue9
  t30 := Tryd.underlying28
  a30 := Tryd.isAgg28
  z30 := Tryd.sizeOf28
  v30 := Tryd.zeroValue28
  t35 := Tryd.underlying37
  a35 := Tryd.isAgg37
  z35 := Tryd.sizeOf37
  v35 := Tryd.zeroValue37
  t45 := Tryd.underlying97
  a45 := Tryd.isAgg97
  z45 := Tryd.sizeOf97
  v45 := Tryd.zeroValue97
  t46 := Tryd.underlying93
  a46 := Tryd.isAgg93
  z46 := Tryd.sizeOf93
  v46 := Tryd.zeroValue93
  t47 := Tryd.underlying92
  a47 := Tryd.isAgg92
  z47 := Tryd.sizeOf92
  v47 := Tryd.zeroValue92
  g0 := by kernel_rfl }
end Go.Proofs
/- chainhash.decodeHash. -/
namespace Go.Proofs.YtpogfbompljkkaaDoor.Snk
open Go.RowKit Go.Proofs.YtpogfbompljkkaaDoorW.PrintWords Go.Proofs.YtpogfbompljkkaaDoorW.PrintLast Go.Proofs.YtpogfbompljkkaaDoorW.PrintMore Go.Proofs.YtpogfbompljkkaaDoor.QFnReadHashText
set_option linter.unusedVariables false
set_option linter.unusedSimpArgs false
theorem grown_keepX {W w1 : World} {row : Option Nat} {k : Nat} (h : W.grownBy w1 row) (hk : k < W.heap.size) (hr : row ≠ some k) : w1.heap[k]? = W.heap[k]? := by
  obtain ⟨_, _, _, _, h5⟩ := h
  exact h5 k hk (fun e => hr (by first | exact e | exact e.symm))
theorem below_grown {w W w1 : World} {g : Nat} (hb : Below w.heap.size w W) (h : W.grownBy w1 (some g)) (hg : w.heap.size ≤ g) : Below w.heap.size w w1 := by
  refine ⟨h.os.trans hb.os, h.tape.trans hb.tape, h.output.trans hb.output, Nat.le_trans hb.size h.size, fun k hk => ?_⟩
  exact (grown_keepX h (Nat.lt_of_lt_of_le hk hb.size) (by intro e; have := Option.some.inj e; omega)).trans (hb.block k hk)
theorem slice_lo (g r : Nat) (hr : r ≤ 32) (w : World) : (Instr.sliceAt 40 (.pointer (some ⟨g, 0, none⟩)) (some (.int .i64 (r : Int))) none none).run Tryd.prog w = .ok (.slice (some ⟨g, if 32 - r = 0 then 0 else r, none⟩) (32 - r) (32 - r)) w := by
  have ha : Tryd.prog.arrayLen 40 = 32 := by kernel_rfl
  have he : Tryd.prog.elem 40 = 5 := by kernel_rfl
  have hs : (sizeOf 5).run Tryd.prog w = .ok 1 w := by kernel_rfl
  have h := run_sliceAt_array_l (P := Tryd.prog) w 40 ⟨g, 0, none⟩ (by rw [ha, he]; exact Tryd.underlying40) .i64 (r : Int) (Int.natCast_nonneg _) (by rw [ha]; omega)
  rw [ha, he, hs] at h
  rw [h]
  show Result.ok (slicedAt _ _ _ _ _) w = _
  unfold slicedAt
  rw [Int.toNat_natCast]
  by_cases hz : 32 - r = 0
  · rw [if_pos (by omega), if_pos hz]
  · rw [if_neg (by omega), if_neg hz, add_any, Nat.mul_one, Nat.zero_add]
theorem slice_16 (g : Nat) (w : World) : (Instr.sliceAt 40 (.pointer (some ⟨g, 0, none⟩)) none (some (.int .i64 16)) none).run Tryd.prog w = .ok (.slice (some ⟨g, 0, none⟩) 16 32) w := by kernel_rfl
set_option maxRecDepth 100000 in
set_option maxHeartbeats 4000000 in
theorem decBad (h : Nat) (hh : h ≤ 32) (xs : List Int) (hb : ByteL xs) (hl : xs.length = 2 * h) (gd gs cs : Nat) (ev : Value) (w : World) (hd : w.heap[gd]? = some (.cells (byteC (List.replicate 32 0)).toArray 40 (0, 0))) (hs : BR w gs xs) (hE : w.cell? ⟨2, 0, none⟩ = some ev) (hno : ¬ ∀ i, i < h → okAt (xs.map lowB) i) :
    Calls Tryd.prog 29 #[.pointer (some ⟨gd, 0, none⟩), .slice (some ⟨gs, 0, none⟩) (2 * h) cs] w fun e w' => (∃ t v, e = .returned (.iface t v)) ∧ Below w.heap.size w w' := by
  have hgs := hs.lt
  have hge := World.block_lt_of_cell? w _ hE
  have hgdl := blk_lt' hd
  obtain ⟨m, hm⟩ : ∃ m, 2 * h = m := ⟨_, rfl⟩
  obtain ⟨od, hod⟩ : ∃ od, od = if h = 0 then 0 else 32 - h := ⟨_, rfl⟩
  have hodn : od + h ≤ 32 ∧ (0 < h → od = 32 - h) := by rw [hod]; split <;> omega
  obtain ⟨gr, hgr⟩ : ∃ g, w.heap.size = g := ⟨_, rfl⟩
  have HX : Aside0 (∀ w1 : World, Below w.heap.size w w1 → w1.heap[gr]? = some (.cells (byteC (List.replicate 32 0)).toArray 40 (0, 0)) → Calls Tryd.prog 34 #[.slice (some ⟨gr, od, none⟩) h h, .slice (some ⟨gs, 0, none⟩) m cs] w1 fun e w' => (∃ (n : Int) (c : UInt8), e = .returned (.tuple #[.int .i64 n, .iface (Tryd.lays44_ren.t 47) (.int .u8 (c.toNat : Int))])) ∧ w1.grownBy w' (some gr)) := ⟨fun w1 h1 h2 => by
    have hrow : w1.rowIs gr 40 32 (fun _ => .int .u8 0) := ⟨_, h2, rfl, fun i hi => by rw [List.getElem?_toArray, byteC_at (by rw [List.length_replicate]; exact hi), List.getD_eq_getElem?_getD, List.getElem?_replicate, if_pos hi]; rfl⟩
    refine (Any.hex_Decode_tag Tryd.lays44 40 gr od h h 32 (fun _ => .int .u8 0) gs 0 m cs xs w1 ev (by rw [hl, hm]) (fun i hi => hb.at i) (fun i hi => by rw [Nat.zero_add]; exact (hs.below h1).cell i (by rw [hl, hm]; exact hi)) hrow hodn.1 (by omega) (by omega) (by omega) (pw_cell_below h1 hE) (by show 2 ≠ gr; have hge2 : 2 < w.heap.size := hge; omega)).mono fun e w' ⟨h3, h4, h5⟩ => ?_
    obtain ⟨c, hc⟩ := (dec_both h xs hb hl).2 hno
    rw [hc] at h3
    exact ⟨⟨_, c, h3⟩, h5⟩⟩
  have HDL : Aside0 (∀ w1 : World, Calls Tryd.prog 35 #[.int .i64 (m : Int)] w1 fun e w' => e = .returned (.int .i64 (h : Int)) ∧ Below w1.heap.size w1 w') := ⟨fun w1 => (hex_DecodedLen.calls (m : Int) (h : Int) w1 (by unfold hex_DecodedLen.f; rw [← hm]; congr 1; rw [Int.tdiv_eq_ediv_of_nonneg (by omega), wrn _ (by omega) (by omega)]; omega)).mono fun e w' ⟨h6, h7⟩ => by
    obtain ⟨nd, rfl⟩ := h7
    exact ⟨h6, pw_below_drewN (Below.refl _ _) nd⟩⟩
  have hsl : ∀ w1 : World, (Instr.sliceAt 40 (.pointer (some ⟨gr, 0, none⟩)) (some (.int .i64 (32 - (h : Int)))) none none).run Tryd.prog w1 = .ok (.slice (some ⟨gr, od, none⟩) h h) w1 := fun w1 => by
    have q := slice_lo gr (32 - h) (by omega) w1
    rw [show ((32 - h : Nat) : Int) = 32 - (h : Int) by omega, show 32 - (32 - h) = h by omega] at q
    rw [q, hod]
  have HW : Aside0 (wrap64 (32 - (h : Int)) = 32 - (h : Int)) := ⟨wrn _ (by omega) (by omega)⟩
  have HGR := Aside0.mk hgr
  have HD0 := Aside0.mk hd
  have HGD := Aside0.mk hgdl
  rw [hm]
  clear hno hh hb hl hd hs hE hgs hge hgdl hm hod hodn
  go_enter Tryd.func29, Tryd.ntmps29
  go_upto_region 2 with fail
  have HA := Aside0.mk (row_allocX w 40)
  rw [hgr] at HA
  generalize hw1 : World.alloc _ _ = w1
  have B1 : Aside0 (Below w.heap.size w w1) := ⟨by rw [← hw1]; exact below_alloc (Below.refl _ _) _⟩
  have R1 : Aside0 (w1.heap[gr]? = some (.cells (byteC (List.replicate 32 0)).toArray 40 (0, 0))) := ⟨by rw [← hw1]; exact HA.out⟩
  clear hw1 HA hgr
  have hw := HW.out
  go_upto_region 3 with (first
    | (go_at_call 35; (with_reducible refine (HDL.out w1).mono ?_); rintro e w2 ⟨rfl, k1⟩; have B2 := Aside0.mk (below_trV B1.out k1); have R2 := Aside0.mk ((k1.block _ (blk_lt' R1.out)).trans R1.out); have HC := Aside0.mk (HX.out w2 B2.out R2.out); clear k1)
    | (go_at_call 34; (with_reducible refine HC.out.mono ?_); rintro e w3 ⟨⟨nx, cc, rfl⟩, k3⟩; have G3 := Aside0.mk k3; clear k3))
  have B3 : Aside0 (Below w.heap.size w w3) := ⟨below_grown B2.out G3.out (by have := HGR.out; omega)⟩
  clear hw
  go_wp2_with fail
  go_ret
  exact ⟨⟨_, _, rfl⟩, B3.out⟩
set_option maxRecDepth 100000 in
set_option maxHeartbeats 8000000 in
theorem decOk (h : Nat) (hh : h ≤ 32) (xs : List Int) (hb : ByteL xs) (hl : xs.length = 2 * h) (gd gs cs : Nat) (ev : Value) (w : World) (hd : w.heap[gd]? = some (.cells (byteC (List.replicate 32 0)).toArray 40 (0, 0))) (hs : BR w gs xs) (hE : w.cell? ⟨2, 0, none⟩ = some ev) (hok : ∀ i, i < h → okAt (xs.map lowB) i) :
    Calls Tryd.prog 29 #[.pointer (some ⟨gd, 0, none⟩), .slice (some ⟨gs, 0, none⟩) (2 * h) cs] w fun e w' => e = .returned .nilIface ∧ w'.heap[gd]? = some (.cells (byteC (outS 32 ((List.replicate (64 - 2 * h) 48 ++ xs).map lowB))).toArray 40 (0, 0)) ∧ Only gd w w' := by
  obtain ⟨Q, hQ⟩ : ∃ Q, ((List.replicate (64 - 2 * h) 48 ++ xs).map lowB) = Q := ⟨_, rfl⟩
  have hgs := hs.lt
  have hge := World.block_lt_of_cell? w _ hE
  have hgdl := blk_lt' hd
  obtain ⟨m, hm⟩ : ∃ m, 2 * h = m := ⟨_, rfl⟩
  obtain ⟨od, hod⟩ : ∃ od, od = if h = 0 then 0 else 32 - h := ⟨_, rfl⟩
  have hodn : od + h ≤ 32 ∧ (0 < h → od = 32 - h) := by rw [hod]; split <;> omega
  obtain ⟨gr, hgr⟩ : ∃ g, w.heap.size = g := ⟨_, rfl⟩
  have HX : Aside0 (∀ w1 : World, Below w.heap.size w w1 → w1.heap[gr]? = some (.cells (byteC (List.replicate 32 0)).toArray 40 (0, 0)) → Calls Tryd.prog 34 #[.slice (some ⟨gr, od, none⟩) h h, .slice (some ⟨gs, 0, none⟩) m cs] w1 fun e w' => (∃ n : Int, e = .returned (.tuple #[.int .i64 n, .nilIface]) ∧ w'.heap[gr]? = some (.cells (byteC (fwd Q)).toArray 40 (0, 0))) ∧ w1.grownBy w' (some gr)) := ⟨fun w1 h1 h2 => by
    have hrow : w1.rowIs gr 40 32 (fun _ => .int .u8 0) := ⟨_, h2, rfl, fun i hi => by rw [List.getElem?_toArray, byteC_at (by rw [List.length_replicate]; exact hi), List.getD_eq_getElem?_getD, List.getElem?_replicate, if_pos hi]; rfl⟩
    refine (Any.hex_Decode_tag Tryd.lays44 40 gr od h h 32 (fun _ => .int .u8 0) gs 0 m cs xs w1 ev (by rw [hl, hm]) (fun i hi => hb.at i) (fun i hi => by rw [Nat.zero_add]; exact (hs.below h1).cell i (by rw [hl, hm]; exact hi)) hrow hodn.1 (by omega) (by omega) (by omega) (pw_cell_below h1 hE) (by show 2 ≠ gr; have hge2 : 2 < w.heap.size := hge; omega)).mono fun e w' ⟨h3, h4, h5⟩ => ?_
    have hdec := (dec_both h xs hb hl).1 hok
    rw [hdec] at h3 h4
    obtain ⟨c, hc1, hc2, hc3⟩ := h4
    refine ⟨⟨_, h3, ?_⟩, h5⟩
    rw [hc1]
    congr 2
    apply Array.ext'
    refine List.ext_getElem? fun t => ?_
    rw [Array.getElem?_toList]
    by_cases ht : t < 32
    · rw [hc3 t ht, byteC_at (by rw [fwd_len]; exact ht), fwd_at Q t ht, ← hQ]
      unfold Lib.Hx.rowP
      rw [List.length_map, List.length_range]
      by_cases h1 : t < 32 - h
      · rw [if_neg (by have := hodn.2; omega), (q_lo h xs t h1).2]
      · have e := (q_hi h hh xs (t - (32 - h))).2
        rw [show 32 - h + (t - (32 - h)) = t by omega] at e
        have e3 := hodn.2 (by omega)
        rw [if_pos (by omega), e, List.getElem?_map, List.getElem?_range (by omega), e3]
        have hw0 := hok (t - (32 - h)) (by omega)
        have hr1 : 0 ≤ two (xs.map lowB) (t - (32 - h)) ∧ two (xs.map lowB) (t - (32 - h)) < 256 := by
          unfold okAt at hw0
          unfold two
          have q1 := dg_lt ((xs.map lowB).getD (2 * (t - (32 - h))) 0)
          have q2 := dg_lt ((xs.map lowB).getD (2 * (t - (32 - h)) + 1) 0)
          omega
        simp only [Option.map_some, Option.getD_some, UInt8.toNat_ofNat']
        congr 2
        omega
    · rw [List.getElem?_eq_none (by rw [byteC_len, fwd_len]; omega), Array.getElem?_eq_none (by omega)]⟩
  have HDL : Aside0 (∀ w1 : World, Calls Tryd.prog 35 #[.int .i64 (m : Int)] w1 fun e w' => e = .returned (.int .i64 (h : Int)) ∧ Below w1.heap.size w1 w') := ⟨fun w1 => (hex_DecodedLen.calls (m : Int) (h : Int) w1 (by unfold hex_DecodedLen.f; rw [← hm]; congr 1; rw [Int.tdiv_eq_ediv_of_nonneg (by omega), wrn _ (by omega) (by omega)]; omega)).mono fun e w' ⟨h6, h7⟩ => by
    obtain ⟨nd, rfl⟩ := h7
    exact ⟨h6, pw_below_drewN (Below.refl _ _) nd⟩⟩
  have hs16 := slice_16 gr
  have hsl : ∀ w1 : World, (Instr.sliceAt 40 (.pointer (some ⟨gr, 0, none⟩)) (some (.int .i64 (32 - (h : Int)))) none none).run Tryd.prog w1 = .ok (.slice (some ⟨gr, od, none⟩) h h) w1 := fun w1 => by
    have q := slice_lo gr (32 - h) (by omega) w1
    rw [show ((32 - h : Nat) : Int) = 32 - (h : Int) by omega, show 32 - (32 - h) = h by omega] at q
    rw [q, hod]
  have HW : Aside0 (wrap64 (32 - (h : Int)) = 32 - (h : Int)) := ⟨wrn _ (by omega) (by omega)⟩
  have HGR := Aside0.mk hgr
  have HD0 := Aside0.mk hd
  have HGD := Aside0.mk hgdl
  rw [hQ, hm]
  have HTB : Aside0 (∀ i, i < 32 → 0 ≤ two Q i ∧ two Q i < 256) := ⟨fun i hi => by
    have hall := (q_all h hh xs).2 hok i hi
    rw [hQ] at hall
    unfold okAt at hall
    unfold two
    have q1 := dg_lt (Q.getD (2 * i) 0)
    have q2 := dg_lt (Q.getD (2 * i + 1) 0)
    omega⟩
  clear hQ hok hh hb hl hd hs hE hgs hge hgdl hm hod hodn
  go_enter Tryd.func29, Tryd.ntmps29
  go_upto_region 2 with fail
  have HA := Aside0.mk (row_allocX w 40)
  rw [hgr] at HA
  generalize hw1 : World.alloc _ _ = w1
  have B1 : Aside0 (Below w.heap.size w w1) := ⟨by rw [← hw1]; exact below_alloc (Below.refl _ _) _⟩
  have R1 : Aside0 (w1.heap[gr]? = some (.cells (byteC (List.replicate 32 0)).toArray 40 (0, 0))) := ⟨by rw [← hw1]; exact HA.out⟩
  clear hw1 HA hgr
  have hw := HW.out
  go_upto_region 5 with (first
    | (go_at_call 35; (with_reducible refine (HDL.out w1).mono ?_); rintro e w2 ⟨rfl, k1⟩; have B2 := Aside0.mk (below_trV B1.out k1); have R2 := Aside0.mk ((k1.block _ (blk_lt' R1.out)).trans R1.out); have HC := Aside0.mk (HX.out w2 B2.out R2.out); clear k1)
    | (go_at_call 34; (with_reducible refine HC.out.mono ?_); rintro e w3 ⟨⟨nx, rfl, k1⟩, k3⟩; have G3 := Aside0.mk k3; clear k3))
  have B3 : Aside0 (Below w.heap.size w w3) := ⟨below_grown B2.out G3.out (by have := HGR.out; omega)⟩
  have F3 := Aside0.mk k1
  have D3 : Aside0 (w3.heap[gd]? = some (.cells (byteC (swS 0 Q)).toArray 40 (0, 0))) := ⟨by rw [swS_zero]; exact (B3.out.block _ HGD.out).trans HD0.out⟩
  clear hw hsl k1
  have HNE : Aside0 (gd < gr) := ⟨by have := HGR.out; have := HGD.out; omega⟩
  have hs16 := slice_16 gr
  go_upto_region 6 with fail
  go_loopw [25] (fun v25 wr => ∃ i : Nat, i ≤ 16 ∧ v25 = .int .i64 i ∧ Aside0 (wr.heap[gd]? = some (.cells (byteC (swS i Q)).toArray 40 (0, 0))) ∧ Aside0 (wr.heap[gr]? = some (.cells (byteC (fwd Q)).toArray 40 (0, 0))) ∧ Aside0 (Only gd w wr)) (fun v25 _ => 16 - (intOf v25).toNat)
  case atStart => exact ⟨0, Nat.zero_le _, rfl, D3, F3, ⟨Only.of_below B3.out⟩⟩
  case round =>
    clear D3 F3 B3 B2 B1 R1 R2 HX HDL HC G3
    obtain ⟨i, hi, rfl, D4, F4, O4⟩ := hrel
    by_cases hlt : i < 16
    · have HLT := Aside0.mk hlt
      have hlti : (i : Int) < 16 := by omega
      have h0i : (0 : Int) ≤ (i : Int) := by omega
      have hi32 : (i : Int) < 32 := by omega
      have hi31 : (i : Int) ≤ 31 := by omega
      have h31a : (0 : Int) ≤ 31 - (i : Int) := by omega
      have h31b : 31 - (i : Int) < 32 := by omega
      have H31 : Aside0 (wrap64 (31 - (i : Int)) = 31 - (i : Int)) := ⟨wrn _ (by omega) (by omega)⟩
      have HI1 : Aside0 (wrap64 ((i : Int) + 1) = (i : Int) + 1) := ⟨wrn _ (by omega) (by omega)⟩
      have HSU := Aside0.mk (swS_succ i Q hlt)
      obtain ⟨x1, hx1⟩ : ∃ x, two Q i = x := ⟨_, rfl⟩
      obtain ⟨x2, hx2⟩ : ∃ x, two Q (31 - i) = x := ⟨_, rfl⟩
      rw [hx1, hx2] at HSU
      have c1 := row_cell F4.out i (by rw [fwd_len]; omega)
      rw [fwd_at Q i (by omega), hx1] at c1
      have c2 := row_cell F4.out (31 - i) (by rw [fwd_len]; omega)
      rw [fwd_at Q (31 - i) (by omega), hx2] at c2
      have C2 := Aside0.mk c2
      clear hi hlt hx1 hx2 c2
      go_upto_region 8 with fail
      have q31 := H31.out
      refine start_ (n := 16) (S := fun w' => w'.cell? ⟨gr, 31 - i, none⟩ = some (.int .u8 x2)) (ds := [12, 15]) #[false, false, false, false, false, false, false, false, false, false, false, false, false, false, false, false] (by kernel_rfl) rfl rfl C2.out (fun hHeld => ?_)
      generalize hwd : World.drew wr = wd at hHeld ⊢
      have DD : Aside0 (wd.heap[gd]? = some (.cells (byteC (swS i Q)).toArray 40 (0, 0))) := ⟨by rw [← hwd]; exact D4.out⟩
      have FD : Aside0 (wd.heap[gr]? = some (.cells (byteC (fwd Q)).toArray 40 (0, 0))) := ⟨by rw [← hwd]; exact F4.out⟩
      have OD : Aside0 (Only gd w wd) := ⟨by rw [← hwd]; exact ⟨O4.out.os, O4.out.tape, O4.out.output, O4.out.size, O4.out.block⟩⟩
      clear hwd
      refine pure_ (i := 0) (N := some 30) (v := ?_) (a' := ?_) #[true, false, false, false, false, false, false, false, false, false, false, false, false, false, false, false] rfl rfl (by kernel_rfl) (fun _ _ _ h => h) (Or.inl ⟨by rfl, ?_⟩) ?_ ?_
      rotate_left
      · intro w'
        go_simp
        with_reducible rfl
      rotate_left
      · simp only [Act.put, List.setIfInBounds_toArray, List.set_cons_zero, List.set_cons_succ, i64_w, i32_w]
        rfl
      refine pure_ (i := 1) (N := some 31) (v := ?_) (a' := ?_) #[true, true, false, false, false, false, false, false, false, false, false, false, false, false, false, false] rfl rfl (by kernel_rfl) (fun _ _ _ h => h) (Or.inl ⟨by rfl, ?_⟩) ?_ ?_
      rotate_left
      · intro w'
        go_simp
        with_reducible rfl
      rotate_left
      · simp only [Act.put, List.setIfInBounds_toArray, List.set_cons_zero, List.set_cons_succ, i64_w, i32_w]
        rfl
      refine pure_ (i := 2) (N := some 32) (v := ?_) (a' := ?_) #[true, true, true, false, false, false, false, false, false, false, false, false, false, false, false, false] rfl rfl (by kernel_rfl) (fun _ _ _ h => h) (Or.inl ⟨by rfl, ?_⟩) ?_ ?_
      rotate_left
      · intro w'
        go_simp
        with_reducible rfl
      rotate_left
      · simp only [Act.put, List.setIfInBounds_toArray, List.set_cons_zero, List.set_cons_succ, i64_w, i32_w]
        rfl
      refine pure_ (i := 3) (N := some 33) (v := ?_) (a' := ?_) #[true, true, true, true, false, false, false, false, false, false, false, false, false, false, false, false] rfl rfl (by kernel_rfl) (fun _ _ _ h => h) (Or.inl ⟨by rfl, ?_⟩) ?_ ?_
      rotate_left
      · intro w'
        go_simp
        with_reducible rfl
      rotate_left
      · simp only [Act.put, List.setIfInBounds_toArray, List.set_cons_zero, List.set_cons_succ, i64_w, i32_w]
        rfl
      refine pure_ (i := 4) (N := some 34) (v := ?_) (a' := ?_) #[true, true, true, true, true, false, false, false, false, false, false, false, false, false, false, false] rfl rfl (by kernel_rfl) (fun _ _ _ h => h) (Or.inl ⟨by rfl, ?_⟩) ?_ ?_
      rotate_left
      · intro w'
        go_simp
        with_reducible rfl
      rotate_left
      · simp only [Act.put, List.setIfInBounds_toArray, List.set_cons_zero, List.set_cons_succ, i64_w, i32_w]
        rfl
      refine pure_ (i := 5) (N := some 35) (v := ?_) (a' := ?_) #[true, true, true, true, true, true, false, false, false, false, false, false, false, false, false, false] rfl rfl (by kernel_rfl) (fun _ _ _ h => h) (Or.inl ⟨by rfl, ?_⟩) ?_ ?_
      rotate_left
      · intro w'
        go_simp
        with_reducible rfl
      rotate_left
      · simp only [Act.put, List.setIfInBounds_toArray, List.set_cons_zero, List.set_cons_succ, i64_w, i32_w]
        rfl
      refine pure_ (i := 6) (N := some 36) (v := ?_) (a' := ?_) #[true, true, true, true, true, true, true, false, false, false, false, false, false, false, false, false] rfl rfl (by kernel_rfl) (fun _ _ _ h => h) (Or.inl ⟨by rfl, ?_⟩) ?_ ?_
      rotate_left
      · intro w'
        go_simp
        with_reducible rfl
      rotate_left
      · simp only [Act.put, List.setIfInBounds_toArray, List.set_cons_zero, List.set_cons_succ, i64_w, i32_w]
        rfl
      refine pure_ (i := 7) (N := some 37) (v := ?_) (a' := ?_) #[true, true, true, true, true, true, true, true, false, false, false, false, false, false, false, false] rfl rfl (by kernel_rfl) (fun _ _ _ h => h) (Or.inl ⟨by rfl, ?_⟩) ?_ ?_
      rotate_left
      · intro w'
        go_simp
        with_reducible rfl
      rotate_left
      · simp only [Act.put, List.setIfInBounds_toArray, List.set_cons_zero, List.set_cons_succ, i64_w, i32_w]
        rfl
      refine take_ (i := 8) (N := some 38) (v := ?_) (a' := ?_) #[true, true, true, true, true, true, true, true, true, false, false, false, false, false, false, false] rfl rfl (by kernel_rfl) (fun _ _ _ h => h) (Or.inl ⟨by rfl, ?_⟩) hHeld ?_ ?_
      rotate_left
      · rintro w' s0
        go_simp
        with_reducible rfl
      rotate_left
      · simp only [Act.put, List.setIfInBounds_toArray, List.set_cons_zero, List.set_cons_succ, i64_w, i32_w]
        rfl
      refine pure_ (i := 9) (N := some 39) (v := ?_) (a' := ?_) #[true, true, true, true, true, true, true, true, true, true, false, false, false, false, false, false] rfl rfl (by kernel_rfl) (fun _ _ _ h => h) (Or.inl ⟨by rfl, ?_⟩) ?_ ?_
      rotate_left
      · intro w'
        go_simp
        with_reducible rfl
      rotate_left
      · simp only [Act.put, List.setIfInBounds_toArray, List.set_cons_zero, List.set_cons_succ, i64_w, i32_w]
        rfl
      refine pure_ (i := 10) (N := some 40) (v := ?_) (a' := ?_) #[true, true, true, true, true, true, true, true, true, true, true, false, false, false, false, false] rfl rfl (by kernel_rfl) (fun _ _ _ h => h) (Or.inl ⟨by rfl, ?_⟩) ?_ ?_
      rotate_left
      · intro w'
        go_simp
        with_reducible rfl
      rotate_left
      · simp only [Act.put, List.setIfInBounds_toArray, List.set_cons_zero, List.set_cons_succ, i64_w, i32_w]
        rfl
      refine pure_ (i := 11) (N := some 41) (v := ?_) (a' := ?_) #[true, true, true, true, true, true, true, true, true, true, true, true, false, false, false, false] rfl rfl (by kernel_rfl) (fun _ _ _ h => h) (Or.inl ⟨by rfl, ?_⟩) ?_ ?_
      rotate_left
      · intro w'
        go_simp
        with_reducible rfl
      rotate_left
      · simp only [Act.put, List.setIfInBounds_toArray, List.set_cons_zero, List.set_cons_succ, i64_w, i32_w]
        rfl
      refine pure_ (i := 13) (N := some 42) (v := ?_) (a' := ?_) #[true, true, true, true, true, true, true, true, true, true, true, true, false, true, false, false] rfl rfl (by kernel_rfl) (fun _ _ _ h => h) (Or.inl ⟨by rfl, ?_⟩) ?_ ?_
      rotate_left
      · intro w'
        go_simp
        with_reducible rfl
      rotate_left
      · simp only [Act.put, List.setIfInBounds_toArray, List.set_cons_zero, List.set_cons_succ, i64_w, i32_w]
        rfl
      refine last_ (i := 12) (N := none) #[true, true, true, true, true, true, true, true, true, true, true, true, true, true, false, false] rfl rfl (by kernel_rfl) (by decide) (fun K hK => ?_)
      have cz := row_cell DD.out i (by rw [swS_len]; have := HLT.out; omega)
      have fz := frozen_of DD.out i
      refine skip_ (w1 := ?_) (by rfl) rfl ?_ ?_
      rotate_left
      · go_simp
        rfl
      refine hK.out _ _ ?_
      clear hK K
      refine norm_ (a' := ?_) ?_ ?_
      rotate_left
      · rfl
      clear cz fz
      generalize hw5 : World.setCell _ _ _ = w5
      have D5 : Aside0 (w5.heap[gd]? = some (.cells (byteC ((swS i Q).set i x2)).toArray 40 (0, 0))) := ⟨by rw [← hw5]; exact row_set DD.out i x2⟩
      have F5 : Aside0 (w5.heap[gr]? = some (.cells (byteC (fwd Q)).toArray 40 (0, 0))) := ⟨by rw [← hw5]; exact (((Only.refl gd wd).set _ _).block gr (blk_lt' FD.out) (by have := HNE.out; omega)).trans FD.out⟩
      have O5 : Aside0 (Only gd w w5) := ⟨by rw [← hw5]; exact OD.out.set _ _⟩
      clear hw5
      refine pure_ (i := 14) (N := some 43) (v := ?_) (a' := ?_) #[true, true, true, true, true, true, true, true, true, true, true, true, true, true, true, false] rfl rfl (by kernel_rfl) (fun _ _ _ h => h) (Or.inl ⟨by rfl, ?_⟩) ?_ ?_
      rotate_left
      · intro w'
        go_simp
        with_reducible rfl
      rotate_left
      · simp only [Act.put, List.setIfInBounds_toArray, List.set_cons_zero, List.set_cons_succ, i64_w, i32_w]
        rfl
      refine last_ (i := 15) (N := none) #[true, true, true, true, true, true, true, true, true, true, true, true, true, true, true, true] rfl rfl (by kernel_rfl) (by decide) (fun K hK => ?_)
      have cz := row_cell D5.out (31 - i) (by rw [List.length_set, swS_len]; omega)
      have fz := frozen_of D5.out (31 - i)
      refine skip_ (w1 := ?_) (by rfl) rfl ?_ ?_
      rotate_left
      · go_simp
        rfl
      refine hK.out _ _ ?_
      clear hK K
      refine norm_ (a' := ?_) ?_ ?_
      rotate_left
      · rfl
      refine done_ (by kernel_rfl) ?_
      clear cz fz
      generalize hw6 : World.setCell _ _ _ = w6
      have D6 : Aside0 (w6.heap[gd]? = some (.cells (byteC (((swS i Q).set i x2).set (31 - i) x1)).toArray 40 (0, 0))) := ⟨by rw [← hw6]; exact row_set D5.out (31 - i) x1⟩
      have F6 : Aside0 (w6.heap[gr]? = some (.cells (byteC (fwd Q)).toArray 40 (0, 0))) := ⟨by rw [← hw6]; exact (((Only.refl gd w5).set _ _).block gr (blk_lt' F5.out) (by have := HNE.out; omega)).trans F5.out⟩
      have O6 : Aside0 (Only gd w w6) := ⟨by rw [← hw6]; exact O5.out.set _ _⟩
      clear hw6
      clear q31 c1
      have hi1 := HI1.out
      go_wp2_with fail
      clear hi1
      go_roundw
      case rel => exact ⟨i + 1, by have := HLT.out; omega, by go_num, ⟨by rw [← HSU.out]; exact D6.out⟩, F6, O6⟩
      case measure => simp [intOf]; have := HLT.out; omega
    · obtain rfl : i = 16 := by omega
      have hnl : ¬ (16 : Int) < 16 := by omega
      clear hi hlt
      go_wp2_with fail
      go_ret
      exact ⟨rfl, by rw [← swS_all]; exact D4.out, O4.out⟩
end Go.Proofs.YtpogfbompljkkaaDoor.Snk
/- chainhash.Decode, NewHashFromStr, impl.ReadHashText. -/
namespace Go.Proofs.YtpogfbompljkkaaDoor.Snk
open Go.RowKit Go.Proofs.YtpogfbompljkkaaDoorW.PrintWords Go.Proofs.YtpogfbompljkkaaDoorW.PrintLast Go.Proofs.YtpogfbompljkkaaDoorW.PrintMore
set_option linter.unusedVariables false
set_option linter.unusedSimpArgs false
theorem mk_bytesX (n c : Nat) (hn : n ≤ c) (hc : c ≤ 1000000) (w : World) : (Instr.makeSlice 28 (.int .i64 (n : Int)) (.int .i64 (c : Int))).run Tryd.prog w = .ok (.slice (some ⟨w.heap.size, 0, none⟩) n c) (w.alloc (.cells (madeCells #[.int .u8 0] c) 5)) := by
  obtain ⟨i, z, hi, hi1, hi2, hi3, hi4⟩ : ∃ i z, Tryd.prog.info? 5 = some i ∧ i.size = 1 ∧ i.zero = some z ∧ i.bytes = 1 ∧ z.cells = #[.int .u8 0] := by
    have h : (match Tryd.prog.info? 5 with | some i => i.size == 1 && (i.bytes == 1 && (match i.zero with | some (.int .u8 0) => true | _ => false)) | none => false) = true := by kernel_rfl
    split at h
    · rename_i i hi
      simp only [Bool.and_eq_true, beq_iff_eq] at h
      obtain ⟨h1, h2, h3⟩ := h
      split at h3
      · rename_i hz
        exact ⟨i, _, hi, h1, hz, h2, rfl⟩
      · cases h3
    · cases h
  have h := run_make (P := Tryd.prog) w 28 5 i _ Tryd.underlying28 hi hi2 .i64 .i64 (n : Int) (c : Int) (by omega) (by omega) (by rw [hi3]; omega) (by omega)
  rw [hi1, hi4] at h
  simpa only [Int.toNat_natCast, Nat.mul_one] using h
theorem madeC (m : Nat) : madeCells #[.int .u8 0] m = (byteC (List.replicate m 0)).toArray := by
  apply Array.ext
  · rw [size_madeCells, List.size_toArray, byteC_len, List.length_replicate]
  · intro i h1 h2
    simp [madeCells, byteC, Nat.mod_one]
theorem byteCells_nums {l : List Int} (hl : ByteL l) : Lib.byteCells (strOfNums l).data.toList = byteC l := by
  have e := congrArg (List.map (Value.int .u8)) (nums_data hl)
  rw [List.map_map] at e
  exact e
theorem copy_str {ρ : Operand → Value} {o : Oper} {W : World} (d s : Operand) (ho : o.op = .call { callee := .builtin .copy, args := #[d, s], argTypes := #[28, 9] }) {l : List Int} (hl : ByteL l) (g off k c : Nat) (cur : List Int) (hd : ρ d = .slice (some ⟨g, off, none⟩) k c) (hs : ρ s = .string (strOfNums l)) (hg : W.heap[g]? = some (.cells (byteC cur).toArray 5 (0, 0))) (hk : l.length ≤ k) (hf : off + l.length ≤ cur.length) :
    (execOp ρ o).run Tryd.prog W = .ok (.value (goInt l.length)) (W.setRow g (byteC (cur.take off ++ l ++ cur.drop (off + l.length))).toArray) := by
  have hsz : (strOfNums l).size = l.length := strOfNums_size l
  have hrun := Lib.run_copy_row_string (P := Tryd.prog) W 28 9 o.type 5 g off k c (strOfNums l) (byteC cur).toArray 5 Tryd.underlying28 (by kernel_rfl) hg (by rw [hsz]; exact hk) (by rw [hsz, List.size_toArray, byteC_len]; exact hf)
  rw [byteCells_nums hl, hsz] at hrun
  have e : ((byteC cur).toArray.toList.take off ++ byteC l ++ (byteC cur).toArray.toList.drop (off + l.length)) = byteC (cur.take off ++ l ++ cur.drop (off + l.length)) := by unfold byteC; simp
  rw [e] at hrun
  simp [execOp, ho, resolve, invoke, builtin, hd, hs, hrun, Result.andThen]
set_option maxRecDepth 100000 in
set_option maxHeartbeats 4000000 in
theorem decodeE (gd : Nat) (L xs : List Int) (h : Nat) (hl : ByteL L) (hn : L.length ≤ 64) (hxl : xs.length = 2 * h) (R : Value → World → Prop) (w : World) (he : xs = L) (hR : ∀ gs cs w1, Below w.heap.size w w1 → BR w1 gs xs → Calls Tryd.prog 29 #[.pointer (some ⟨gd, 0, none⟩), .slice (some ⟨gs, 0, none⟩) (2 * h) cs] w1 fun e w' => ∃ v, e = .returned v ∧ R v w') :
    Calls Tryd.prog 22 #[.pointer (some ⟨gd, 0, none⟩), .string (strOfNums L)] w fun e w' => ∃ v, e = .returned v ∧ R v w' := by
  subst he
  obtain ⟨g, c, w1, hcv, hbr, hcc, hgg, hbl⟩ := strBR hl (by omega) w
  obtain ⟨s, hs⟩ : ∃ s, strOfNums xs = s := ⟨_, rfl⟩
  have hsz : s.size = xs.length := by rw [← hs]; exact strOfNums_size xs
  rw [hs] at hcv ⊢
  obtain ⟨n, hnn⟩ : ∃ n, xs.length = n := ⟨_, rfl⟩
  rw [hnn] at hcv hsz hn
  have HC := Aside0.mk (hR g c w1 hbl hbr)
  rw [← hxl, hnn] at HC
  have HCV := Aside0.mk hcv
  have hng : ¬ (64 : Int) < (n : Int) := by omega
  have hr0 : (n : Int) % 2 = 0 := by omega
  have hrem : wrap64 ((n : Int) % 2) = ((n % 2 : Nat) : Int) := by unfold wrap64; omega
  clear hl hR hcv hbr hcc hgg hbl hs hnn hxl hn
  go_enter Tryd.func22, Tryd.ntmps22
  go_upto_region 9 with ((with_reducible refine at_dst (N := 15) rfl ?_); refine wpList_run rfl _ (conv_op3 9 28 (.tmp 14) rfl rfl HCV.out) ?_)
  clear hrem
  go_wp2_with (go_at_call 29; (with_reducible refine HC.out.mono ?_); rintro e w2 ⟨v, rfl, k1⟩; have K1 := Aside0.mk k1; clear k1)
  go_ret
  exact ⟨v, rfl, K1.out⟩
set_option maxRecDepth 100000 in
set_option maxHeartbeats 4000000 in
theorem decodeO (gd : Nat) (L xs : List Int) (h : Nat) (hl : ByteL L) (hn : L.length ≤ 64) (hxl : xs.length = 2 * h) (R : Value → World → Prop) (w : World) (he : xs = 48 :: L) (hR : ∀ gs cs w1, Below w.heap.size w w1 → BR w1 gs xs → Calls Tryd.prog 29 #[.pointer (some ⟨gd, 0, none⟩), .slice (some ⟨gs, 0, none⟩) (2 * h) cs] w1 fun e w' => ∃ v, e = .returned v ∧ R v w') :
    Calls Tryd.prog 22 #[.pointer (some ⟨gd, 0, none⟩), .string (strOfNums L)] w fun e w' => ∃ v, e = .returned v ∧ R v w' := by
  have hxn : L.length + 1 = 2 * h := by rw [← hxl, he]; rfl
  obtain ⟨n, hnn⟩ : ∃ n, L.length = n := ⟨_, rfl⟩
  obtain ⟨m, hm⟩ : ∃ m, n + 1 = m := ⟨_, rfl⟩
  obtain ⟨gs, hgs⟩ : ∃ g, w.heap.size = g := ⟨_, rfl⟩
  have HC : Aside0 (∀ cs w1, Below w.heap.size w w1 → BR w1 gs xs → Calls Tryd.prog 29 #[.pointer (some ⟨gd, 0, none⟩), .slice (some ⟨gs, 0, none⟩) m cs] w1 fun e w' => ∃ v, e = .returned v ∧ R v w') := ⟨fun cs w1 h1 h2 => by
    have q := hR gs cs w1 h1 h2
    rw [← hxn, hnn, hm] at q
    exact q⟩
  have hmk := mk_bytesX m m (Nat.le_refl _) (by omega) w
  rw [madeC, show ((m : Nat) : Int) = 1 + (n : Int) by omega] at hmk
  have HMK := Aside0.mk hmk
  clear hmk
  have HLL := Aside0.mk hl
  have HNN := Aside0.mk hnn
  have HXE : Aside0 ((List.replicate m (0 : Int)).set 0 48 = 48 :: List.replicate n 0) := ⟨by rw [← hm]; rfl⟩
  have HXS : Aside0 (((48 : Int) :: List.replicate n 0).take 1 ++ L ++ ((48 : Int) :: List.replicate n 0).drop (1 + L.length) = xs) := ⟨by
    rw [he, hnn, List.drop_eq_nil_of_le (by rw [List.length_cons, List.length_replicate]; omega), List.append_nil]; rfl⟩
  have HGS := Aside0.mk hgs
  have HM := Aside0.mk hm
  obtain ⟨s, hs⟩ : ∃ s, strOfNums L = s := ⟨_, rfl⟩
  have hsz : s.size = n := by rw [← hs, strOfNums_size, hnn]
  have HS := Aside0.mk hs
  rw [hs]
  have hng : ¬ (64 : Int) < (n : Int) := by omega
  have hr0 : ¬ (n : Int) % 2 = 0 := by omega
  have hr1 : (n : Int) % 2 = 1 := by omega
  have hrem : wrap64 ((n : Int) % 2) = ((n % 2 : Nat) : Int) := by unfold wrap64; omega
  have HRM := Aside0.mk hrem
  clear hrem
  have HW1 : Aside0 (wrap64 (1 + (n : Int)) = 1 + (n : Int)) := ⟨wrn _ (by omega) (by omega)⟩
  have hm1 : ¬ m = 1 := by omega
  have hm0 : (0 : Int) < (m : Int) := by omega
  have hm2 : (1 : Int) ≤ (m : Int) := by omega
  have HMN : Aside0 (n ≤ m - 1) := ⟨by omega⟩
  clear hl hR hs hnn hxl hxn hm hn he hgs
  have hrem := HRM.out
  have hw1 := HW1.out
  go_enter Tryd.func22, Tryd.ntmps22
  go_upto_region 6 with fail
  clear hrem
  go_upto_region 7 with ((with_reducible refine at_dst (N := 19) rfl ?_); refine wpList_run rfl _ (mk_opS 28 (.tmp 18) (.tmp 18) rfl _ _ _ (by rfl) (by rfl) HMK.out) ?_)
  clear hw1
  have HA := Aside0.mk (heap_alloc_new w (.cells (byteC (List.replicate m 0)).toArray 5))
  rw [HGS.out] at HA
  generalize hq1 : World.alloc _ _ = w1
  have B1 : Aside0 (Below w.heap.size w w1) := ⟨by rw [← hq1]; exact below_alloc (Below.refl _ _) _⟩
  have R1 : Aside0 (w1.heap[gs]? = some (.cells (byteC (List.replicate m 0)).toArray 5 (0, 0))) := ⟨by rw [← hq1]; exact HA.out⟩
  clear hq1 HA
  try rw [HGS.out]
  have cz := row_cell R1.out 0 (by rw [List.length_replicate]; omega)
  have fz := frozen_of R1.out 0
  go_upto_region 8 with fail
  generalize hq2 : World.setCell _ _ _ = w2
  have B2 : Aside0 (Below w.heap.size w w2) := ⟨by rw [← hq2]; exact B1.out.trans ⟨rfl, rfl, rfl, by simp [World.setCell], fun k hk => ((Only.refl gs w1).set _ _).block k (Nat.lt_of_lt_of_le hk B1.out.size) (by have := HGS.out; omega)⟩⟩
  have R2 : Aside0 (w2.heap[gs]? = some (.cells (byteC (48 :: List.replicate n 0)).toArray 5 (0, 0))) := ⟨by rw [← hq2, ← HXE.out]; exact row_set R1.out 0 48⟩
  clear hq2 cz fz
  go_upto_region 9 with ((with_reducible refine at_dst (N := 25) rfl ?_); refine wpList_run rfl _ (copy_str (.tmp 23) (.tmp 24) rfl HLL.out gs 1 _ _ (48 :: List.replicate n 0) (by rfl) (by rw [HS.out]; rfl) R2.out (by rw [HNN.out]; exact HMN.out) (by rw [HNN.out, List.length_cons, List.length_replicate]; omega)) ?_)
  rw [HXS.out]
  generalize hq3 : World.setRow _ _ _ = w3
  have B3 : Aside0 (Below w.heap.size w w3) := ⟨by rw [← hq3]; exact B2.out.trans ⟨rfl, rfl, rfl, Nat.le_of_eq (setRow_size _ _ _).symm, fun k hk => setRow_other _ _ _ _ (by have := HGS.out; omega)⟩⟩
  have R3 : Aside0 (w3.heap[gs]? = some (.cells (byteC xs).toArray 5 (0, 0))) := ⟨by rw [← hq3]; exact setRow_heap _ _ _ _ _ _ R2.out⟩
  clear hq3
  go_wp2_with (go_at_call 29; (with_reducible refine (HC.out _ w3 B3.out (BR.row R3.out)).mono ?_); rintro e w4 ⟨v, rfl, k1⟩; have K1 := Aside0.mk k1; clear k1)
  go_ret
  exact ⟨v, rfl, K1.out⟩
set_option maxRecDepth 100000 in
theorem decodeLong (gd : Nat) (L : List Int) (hn : 64 < L.length) (t : TypeId) (v : Value) (w : World) (hE : w.cell? ⟨0, 0, none⟩ = some (.iface t v)) :
    Calls Tryd.prog 22 #[.pointer (some ⟨gd, 0, none⟩), .string (strOfNums L)] w fun e w' => e = .returned (.iface t v) ∧ Below w.heap.size w w' := by
  obtain ⟨s, hs⟩ : ∃ s, strOfNums L = s := ⟨_, rfl⟩
  obtain ⟨n, hnn⟩ : ∃ n, L.length = n := ⟨_, rfl⟩
  have hsz : s.size = n := by rw [← hs, strOfNums_size, hnn]
  rw [hs]
  have hng : (64 : Int) < (n : Int) := by omega
  clear hs hnn hn
  go_enter Tryd.func22, Tryd.ntmps22
  go_wp2_with fail
  go_ret
  exact ⟨rfl, Below.refl _ _⟩
/-- Is it read. -/
def Good (L : List Int) : Prop := L.length ≤ 64 ∧ ∀ i, i < 32 → okAt ((List.replicate (64 - L.length) 48 ++ L).map lowB) i
theorem pad_even (L : List Int) (h : Nat) (hh : L.length = 2 * h) : (List.replicate (64 - 2 * h) 48 ++ L) = (List.replicate (64 - L.length) 48 ++ L) := by rw [hh]
theorem pad_odd (L : List Int) (h : Nat) (hh : L.length + 1 = 2 * h) (hn : L.length ≤ 64) : (List.replicate (64 - 2 * h) 48 ++ (48 :: L)) = (List.replicate (64 - L.length) 48 ++ L) := by
  rw [show 64 - L.length = (64 - 2 * h) + 1 by omega, List.replicate_succ', List.append_assoc]; rfl
theorem decodeGood (gd : Nat) (L : List Int) (hl : ByteL L) (hg : Good L) (ev : Value) (w : World) (hd : w.heap[gd]? = some (.cells (byteC (List.replicate 32 0)).toArray 40 (0, 0))) (hE : w.cell? ⟨2, 0, none⟩ = some ev) :
    Calls Tryd.prog 22 #[.pointer (some ⟨gd, 0, none⟩), .string (strOfNums L)] w fun e w' => ∃ v, e = .returned v ∧ (v = .nilIface ∧ w'.heap[gd]? = some (.cells (byteC (outS 32 ((List.replicate (64 - L.length) 48 ++ L).map lowB))).toArray 40 (0, 0)) ∧ Only gd w w') := by
  obtain ⟨hn, hok⟩ := hg
  have hdl := blk_lt' hd
  rcases Nat.mod_two_eq_zero_or_one L.length with hz | hz
  · have hh : L.length = 2 * (L.length / 2) := by omega
    refine decodeE gd L L (L.length / 2) hl hn hh _ w rfl (fun gs cs w1 h1 h2 => ?_)
    rw [← pad_even L (L.length / 2) hh] at hok ⊢
    exact (decOk (L.length / 2) (by omega) L hl hh gd gs cs ev w1 ((h1.block _ hdl).trans hd) h2 (pw_cell_below h1 hE) ((q_all _ (by omega) L).1 hok)).mono fun e w' ⟨q1, q2, q3⟩ => ⟨_, q1, rfl, q2, (Only.of_below h1).trans q3⟩
  · have hh : L.length + 1 = 2 * ((L.length + 1) / 2) := by omega
    have hb : ByteL (48 :: L) := fun x hx => by
      rcases List.mem_cons.1 hx with h | h
      · subst h; decide
      · exact hl x h
    refine decodeO gd L (48 :: L) ((L.length + 1) / 2) hl hn hh _ w rfl (fun gs cs w1 h1 h2 => ?_)
    rw [← pad_odd L ((L.length + 1) / 2) hh hn] at hok ⊢
    exact (decOk ((L.length + 1) / 2) (by omega) (48 :: L) hb hh gd gs cs ev w1 ((h1.block _ hdl).trans hd) h2 (pw_cell_below h1 hE) ((q_all _ (by omega) _).1 hok)).mono fun e w' ⟨q1, q2, q3⟩ => ⟨_, q1, rfl, q2, (Only.of_below h1).trans q3⟩
theorem decodeBad (gd : Nat) (L : List Int) (hl : ByteL L) (hg : ¬ Good L) (ev : Value) (t : TypeId) (v0 : Value) (w : World) (hd : w.heap[gd]? = some (.cells (byteC (List.replicate 32 0)).toArray 40 (0, 0))) (hE : w.cell? ⟨2, 0, none⟩ = some ev) (hS : w.cell? ⟨0, 0, none⟩ = some (.iface t v0)) :
    Calls Tryd.prog 22 #[.pointer (some ⟨gd, 0, none⟩), .string (strOfNums L)] w fun e w' => ∃ v, e = .returned v ∧ ((∃ t v0, v = .iface t v0) ∧ Below w.heap.size w w') := by
  have hdl := blk_lt' hd
  by_cases hn : L.length ≤ 64
  · have hno : ¬ ∀ i, i < 32 → okAt ((List.replicate (64 - L.length) 48 ++ L).map lowB) i := fun h => hg ⟨hn, h⟩
    rcases Nat.mod_two_eq_zero_or_one L.length with hz | hz
    · have hh : L.length = 2 * (L.length / 2) := by omega
      refine decodeE gd L L (L.length / 2) hl hn hh _ w rfl (fun gs cs w1 h1 h2 => ?_)
      rw [← pad_even L (L.length / 2) hh] at hno
      exact (decBad (L.length / 2) (by omega) L hl hh gd gs cs ev w1 ((h1.block _ hdl).trans hd) h2 (pw_cell_below h1 hE) (fun h => hno ((q_all _ (by omega) L).2 h))).mono fun e w' ⟨⟨t1, v1, q1⟩, q2⟩ => ⟨_, q1, ⟨t1, v1, rfl⟩, below_trV h1 q2⟩
    · have hh : L.length + 1 = 2 * ((L.length + 1) / 2) := by omega
      have hb : ByteL (48 :: L) := fun x hx => by
        rcases List.mem_cons.1 hx with h | h
        · subst h; decide
        · exact hl x h
      refine decodeO gd L (48 :: L) ((L.length + 1) / 2) hl hn hh _ w rfl (fun gs cs w1 h1 h2 => ?_)
      rw [← pad_odd L ((L.length + 1) / 2) hh hn] at hno
      exact (decBad ((L.length + 1) / 2) (by omega) (48 :: L) hb hh gd gs cs ev w1 ((h1.block _ hdl).trans hd) h2 (pw_cell_below h1 hE) (fun h => hno ((q_all _ (by omega) _).2 h))).mono fun e w' ⟨⟨t1, v1, q1⟩, q2⟩ => ⟨_, q1, ⟨t1, v1, rfl⟩, below_trV h1 q2⟩
  · exact (decodeLong gd L (by omega) t v0 w hS).mono fun e w' ⟨q1, q2⟩ => ⟨_, q1, ⟨t, v0, rfl⟩, q2⟩
set_option maxRecDepth 100000 in
theorem newGood (L : List Int) (hl : ByteL L) (hg : Good L) (ev : Value) (w : World) (hE : w.cell? ⟨2, 0, none⟩ = some ev) :
    Calls Tryd.prog 13 #[.string (strOfNums L)] w fun e w' => ∃ gd, e = .returned (.tuple #[.pointer (some ⟨gd, 0, none⟩), .nilIface]) ∧ w'.heap[gd]? = some (.cells (byteC (outS 32 ((List.replicate (64 - L.length) 48 ++ L).map lowB))).toArray 40 (0, 0)) ∧ Below w.heap.size w w' := by
  obtain ⟨gd, hgd⟩ : ∃ g, w.heap.size = g := ⟨_, rfl⟩
  have HA := Aside0.mk (row_allocX w 40)
  have HBA : Aside0 (Below w.heap.size w (w.alloc (.cells (byteC (List.replicate 32 0)).toArray 40))) := ⟨below_alloc (Below.refl _ _) _⟩
  rw [hgd] at HA
  have HC := Aside0.mk (decodeGood gd L hl hg ev _ HA.out (pw_cell_below HBA.out hE))
  have HGD := Aside0.mk hgd
  obtain ⟨q, hq⟩ : ∃ q, ((List.replicate (64 - L.length) 48 ++ L).map lowB) = q := ⟨_, rfl⟩
  rw [hq] at HC ⊢
  obtain ⟨w1, hw1⟩ : ∃ x, x = w.alloc (.cells (byteC (List.replicate 32 0)).toArray 40) := ⟨_, rfl⟩
  rw [← hw1] at HC HBA
  clear hl hg hE hgd hq HA
  go_enter Tryd.func13, Tryd.ntmps13
  go_upto_region 2 with fail
  generalize hw2 : World.alloc _ _ = w2
  obtain rfl : w2 = w1 := by rw [hw1, ← hw2]; rfl
  clear hw1 hw2
  try rw [HGD.out]
  go_wp2_with (go_at_call 22; (with_reducible refine HC.out.mono ?_); rintro e w3 ⟨v, rfl, rfl, k1, k2⟩; have K1 := Aside0.mk k1; have K2 := Aside0.mk k2; clear k1 k2)
  go_ret2
  exact ⟨gd, rfl, K1.out, HBA.out.trans ⟨K2.out.os, K2.out.tape, K2.out.output, K2.out.size, fun k hk => K2.out.block k (Nat.lt_of_lt_of_le hk HBA.out.size) (by have := HGD.out; omega)⟩⟩
set_option maxRecDepth 100000 in
theorem newBad (L : List Int) (hl : ByteL L) (hg : ¬ Good L) (ev : Value) (t : TypeId) (v0 : Value) (w : World) (hE : w.cell? ⟨2, 0, none⟩ = some ev) (hS : w.cell? ⟨0, 0, none⟩ = some (.iface t v0)) :
    Calls Tryd.prog 13 #[.string (strOfNums L)] w fun e w' => ∃ t v0, e = .returned (.tuple #[.pointer none, .iface t v0]) ∧ Below w.heap.size w w' := by
  obtain ⟨gd, hgd⟩ : ∃ g, w.heap.size = g := ⟨_, rfl⟩
  have HA := Aside0.mk (row_allocX w 40)
  have HBA : Aside0 (Below w.heap.size w (w.alloc (.cells (byteC (List.replicate 32 0)).toArray 40))) := ⟨below_alloc (Below.refl _ _) _⟩
  rw [hgd] at HA
  have HC := Aside0.mk (decodeBad gd L hl hg ev t v0 _ HA.out (pw_cell_below HBA.out hE) (pw_cell_below HBA.out hS))
  have HGD := Aside0.mk hgd
  obtain ⟨w1, hw1⟩ : ∃ x, x = w.alloc (.cells (byteC (List.replicate 32 0)).toArray 40) := ⟨_, rfl⟩
  rw [← hw1] at HC HBA
  clear hl hg hE hS hgd HA
  go_enter Tryd.func13, Tryd.ntmps13
  go_upto_region 2 with fail
  generalize hw2 : World.alloc _ _ = w2
  obtain rfl : w2 = w1 := by rw [hw1, ← hw2]; rfl
  clear hw1 hw2
  try rw [HGD.out]
  go_wp2_with (go_at_call 22; (with_reducible refine HC.out.mono ?_); rintro e w3 ⟨v, rfl, ⟨t1, v1, rfl⟩, k1⟩; have K1 := Aside0.mk k1; clear k1)
  go_ret2
  exact ⟨t1, v1, rfl, below_then HBA.out HBA.out.size K1.out⟩
set_option maxRecDepth 100000 in
theorem implGood (L : List Int) (hl : ByteL L) (hg : Good L) (ev : Value) (w : World) (hE : w.cell? ⟨2, 0, none⟩ = some ev) :
    Calls Tryd.prog 6 #[.string (strOfNums L)] w fun e w' => e = .returned (.tuple #[.agg (byteC (outS 32 ((List.replicate (64 - L.length) 48 ++ L).map lowB))).toArray, .int .i64 0]) ∧ Below w.heap.size w w' := by
  have HC : Aside0 (∀ w1, Below w.heap.size w w1 → Calls Tryd.prog 13 #[.string (strOfNums L)] w1 fun e w' => ∃ gd, e = .returned (.tuple #[.pointer (some ⟨gd, 0, none⟩), .nilIface]) ∧ w'.heap[gd]? = some (.cells (byteC (outS 32 ((List.replicate (64 - L.length) 48 ++ L).map lowB))).toArray 40 (0, 0)) ∧ Below w1.heap.size w1 w') := ⟨fun w1 h1 => newGood L hl hg ev w1 (pw_cell_below h1 hE)⟩
  have HIO := Aside0.mk (row32_infoX (outS 32 ((List.replicate (64 - L.length) 48 ++ L).map lowB)) (outS_len _ _))
  have HIT : Aside0 ((Tryd.prog.info? 40).map (·.size) = some (byteC (outS 32 ((List.replicate (64 - L.length) 48 ++ L).map lowB))).toArray.size) := ⟨by rw [List.size_toArray, byteC_len, outS_len]; kernel_rfl⟩
  have HSZ := Aside0.mk (size32X (outS 32 ((List.replicate (64 - L.length) 48 ++ L).map lowB)) (outS_len _ _))
  obtain ⟨r, hr⟩ : ∃ q, outS 32 ((List.replicate (64 - L.length) 48 ++ L).map lowB) = q := ⟨_, rfl⟩
  rw [hr] at HC HIO HIT HSZ ⊢
  clear hl hg hE hr
  go_enter Tryd.func6, Tryd.ntmps6
  go_upto_region 1 with fail
  obtain ⟨r0, hr0⟩ : ∃ r, w.heap.size = r := ⟨_, rfl⟩
  have HG := Aside0.mk hr0
  have HR := Aside0.mk (row_allocX w 22)
  rw [hr0] at HR ⊢
  generalize hw1 : World.alloc _ _ = w1
  have HB1 : Aside0 (Below w.heap.size w w1) := ⟨by rw [← hw1]; exact below_alloc (Below.refl _ _) _⟩
  have HR1 : Aside0 (w1.heap[r0]? = some (.cells (byteC (List.replicate 32 0)).toArray 22 (0, 0))) := ⟨by rw [← hw1]; exact HR.out⟩
  clear hw1 HR hr0
  go_wp2_with (first
    | (go_at_call 13; (with_reducible refine (HC.out w1 HB1.out).mono ?_); rintro e w2 ⟨gd, rfl, k1, k2⟩; have K1 := Aside0.mk k1; have B2 := Aside0.mk (below_trV HB1.out k2); have R2 := Aside0.mk ((k2.block _ (blk_lt' HR1.out)).trans HR1.out); clear k1 k2)
    | ((with_reducible refine at_dst (N := 16) rfl ?_); refine wpList_load_row rfl 40 (.tmp 15) rfl gd rfl 40 _ (0, 0) _ K1.out Tryd.underlying40 rfl HIT.out ?_)
    | (refine wpList_store_row rfl 22 (.tmp 2) (.tmp 16) rfl r0 (byteC r).toArray rfl rfl 22 _ R2.out HIO.out HSZ.out (byteC_oneX _) ?_))
  refine bodyPost_ret_by (results_row_tmp rfl _ _ r0 22 _ (0, 0) _ (.int .i64 0) (by rfl) (by rfl) (setRow_heap _ _ _ _ _ _ R2.out) Tryd.underlying22 rfl HIO.out) rfl ⟨rfl, B2.out.trans ⟨rfl, rfl, rfl, Nat.le_of_eq (setRow_size _ _ _).symm, fun k hk => setRow_other _ _ _ _ (by have := HG.out; omega)⟩⟩
set_option maxRecDepth 100000 in
theorem implBad (L : List Int) (hl : ByteL L) (hg : ¬ Good L) (ev : Value) (t : TypeId) (v0 : Value) (w : World) (hE : w.cell? ⟨2, 0, none⟩ = some ev) (hS : w.cell? ⟨0, 0, none⟩ = some (.iface t v0)) :
    Calls Tryd.prog 6 #[.string (strOfNums L)] w fun e w' => e = .returned (.tuple #[.agg (byteC (List.replicate 32 0)).toArray, .int .i64 1]) ∧ Below w.heap.size w w' := by
  have HC : Aside0 (∀ w1, Below w.heap.size w w1 → Calls Tryd.prog 13 #[.string (strOfNums L)] w1 fun e w' => ∃ t v0, e = .returned (.tuple #[.pointer none, .iface t v0]) ∧ Below w1.heap.size w1 w') := ⟨fun w1 h1 => newBad L hl hg ev t v0 w1 (pw_cell_below h1 hE) (pw_cell_below h1 hS)⟩
  have HI := Aside0.mk (row32_infoX (List.replicate 32 0) (by rfl))
  clear hl hg hE hS
  go_enter Tryd.func6, Tryd.ntmps6
  go_upto_region 1 with fail
  obtain ⟨r0, hr0⟩ : ∃ r, w.heap.size = r := ⟨_, rfl⟩
  have HG := Aside0.mk hr0
  have HR := Aside0.mk (row_allocX w 22)
  rw [hr0] at HR ⊢
  generalize hw1 : World.alloc _ _ = w1
  have HB1 : Aside0 (Below w.heap.size w w1) := ⟨by rw [← hw1]; exact below_alloc (Below.refl _ _) _⟩
  have HR1 : Aside0 (w1.heap[r0]? = some (.cells (byteC (List.replicate 32 0)).toArray 22 (0, 0))) := ⟨by rw [← hw1]; exact HR.out⟩
  clear hw1 HR hr0
  go_wp2_with (first
    | (go_at_call 13; (with_reducible refine (HC.out w1 HB1.out).mono ?_); rintro e w2 ⟨t1, v1, rfl, k2⟩; have B2 := Aside0.mk (below_trV HB1.out k2); have R2 := Aside0.mk ((k2.block _ (blk_lt' HR1.out)).trans HR1.out); clear k2)
    | (refine wpList_store_row rfl 22 (.tmp 2) (.tmp 13) rfl r0 (byteC (List.replicate 32 0)).toArray rfl rfl 22 _ R2.out HI.out rfl (byteC_oneX _) ?_))
  refine bodyPost_ret_by (results_row_tmp rfl _ _ r0 22 _ (0, 0) _ (.int .i64 1) (by rfl) (by rfl) (setRow_heap _ _ _ _ _ _ R2.out) Tryd.underlying22 rfl HI.out) rfl ⟨rfl, B2.out.trans ⟨rfl, rfl, rfl, Nat.le_of_eq (setRow_size _ _ _).symm, fun k hk => setRow_other _ _ _ _ (by have := HG.out; omega)⟩⟩
end Go.Proofs.YtpogfbompljkkaaDoor.Snk
/- The law FnReadHashText: its walk. -/
namespace Go.Proofs.YtpogfbompljkkaaDoor.Snk
open Go.RowKit Go.Proofs.YtpogfbompljkkaaDoorW.PrintWords Go.Proofs.YtpogfbompljkkaaDoorW.PrintLast Go.Proofs.YtpogfbompljkkaaDoorW.PrintMore
set_option linter.unusedVariables false
set_option linter.unusedSimpArgs false
section
variable {P : Program} {w : World}
theorem eqItems_self (d : Nat) {e : TypeId} (he : P.underlying e = some (.int .u8)) (hc : P.cellsOf e = 1) (l : List Int) : ∀ is : List Nat, (∀ i ∈ is, i < l.length) → (Op.eqItems (d + 1) e (P.cellsOf e) (byteC l).toArray (byteC l).toArray is).run P w = .ok true w
  | [], _ => by simp [Op.eqItems]
  | i :: is, h => by
    have hi := h i (by simp)
    have hp : (part e (byteC l).toArray (i * P.cellsOf e)).run P w = .ok (.int .u8 (l.getD i 0)) w := run_part_plain (P := P) w (by simp [Program.plainKey, he]) (by rw [hc, Nat.mul_one, List.getElem?_toArray]; exact byteC_at hi)
    have he : (Op.equalIn (d + 1) e (.int .u8 (l.getD i 0)) (.int .u8 (l.getD i 0))).run P w = .ok true w := by simp [Op.equalIn, Sem.run_bind, run_underlying he]
    simp only [Op.eqItems, Sem.run_bind, hp, he, Result.andThen_ok]
    simpa using eqItems_self d ‹_› hc l is (fun j hj => h j (by simp [hj]))
theorem eqArr_self (d : Nat) {t e : TypeId} {n : Nat} {i : TypeInfo} (hu : P.underlying t = some (.array n e)) (hi : P.info? e = some i) (he : P.underlying e = some (.int .u8)) (hc : P.cellsOf e = 1) (l : List Int) (hl : l.length = n) : (Op.equalIn (d + 2) t (.agg (byteC l).toArray) (.agg (byteC l).toArray)).run P w = .ok true w := by
  rw [show d + 2 = (d + 1) + 1 from rfl, run_equalIn_array (P := P) w (d + 1) _ _ hu hi]
  exact eqItems_self d he hc l _ (fun j hj => by rw [hl]; exact List.mem_range.1 hj)
theorem exec_eq {ρ : Operand → Value} {o : Oper} (t u : TypeId) (x y : Operand) (xs : Array Value) (ho : o.op = .binOp .eql t x y u) (hx : ρ x = .agg xs) (hy : ρ y = .agg xs) (hm : P.eqGuardType P.depth t = false) (h : (Op.equalIn 10000 t (.agg xs) (.agg xs)).run P w = .ok true w) : (execOp ρ o).run P w = .ok (.value (.bool true)) w := by
  unfold execOp
  simp only [ho, hx, hy, Sem.run_bind, run_eqGuard_agg (P := P) w .eql t x y xs xs hm, run_eql_struct, h, Result.andThen_ok]
  rfl
end
set_option maxRecDepth 100000 in
theorem eq22 (l : List Int) (hl : l.length = 32) (w : World) : (Op.equalIn 10000 22 (.agg (byteC l).toArray) (.agg (byteC l).toArray)).run Tryd.prog w = .ok true w := by
  obtain ⟨i, hi⟩ := info_of_underlying Tryd.underlying5
  exact eqArr_self 9998 Tryd.underlying22 hi Tryd.underlying5 (by kernel_rfl) l hl
set_option maxRecDepth 100000 in
set_option maxHeartbeats 4000000 in
theorem lawGood (s : ByteArray) (n : Nat) (r : List Int) (hr : r.length = 32) (w : World) (hsz : s.size = n) (hn : n ≤ 100000)
    (hs : ∀ w1, Below w.heap.size w w1 → Calls Tryd.prog 5 #[.string s] w1 fun e w' => e = .returned (.tuple #[.agg (byteC r).toArray, .bool true]) ∧ Below w1.heap.size w1 w')
    (hi : ∀ w1, Below w.heap.size w w1 → Calls Tryd.prog 6 #[.string s] w1 fun e w' => e = .returned (.tuple #[.agg (byteC r).toArray, .int .i64 0]) ∧ Below w1.heap.size w1 w') :
    Calls Tryd.prog 3 #[.string s] w fun e w' => e = .returned (.bool true) ∧ Below w.heap.size w w' := by
  have HS := Aside0.mk hs
  have HI := Aside0.mk hi
  have HIO := Aside0.mk (row32_infoX r hr)
  have HSZ := Aside0.mk (size32X r hr)
  have HE : Aside0 (∀ w1 : World, (Op.equalIn 10000 22 (.agg (byteC r).toArray) (.agg (byteC r).toArray)).run Tryd.prog w1 = .ok true w1) := ⟨fun w1 => eq22 r hr w1⟩
  have hm1 : (Tryd.prog).eqGuardType (Tryd.prog).depth 22 = false := by kernel_rfl
  have HM1 := Aside0.mk hm1
  have h1 : ¬ (2147483647 : Int) < (n : Int) := by omega
  have h2 : ¬ (100000 : Int) < (n : Int) := by omega
  have h3 : ¬ 2147483647 < n := by omega
  have h4 : ¬ 100000 < n := by omega
  clear hs hi hr hm1 hn
  go_enter Tryd.func3, Tryd.ntmps3
  go_upto_region 5 with fail
  go_upto_region 6 with (first
    | (go_at_call 5; (with_reducible refine (HS.out _ (Below.refl _ _)).mono ?_); rintro e w1 ⟨rfl, k1⟩; have B1 := Aside0.mk k1; clear k1)
    | (refine wpList_store_row rfl 22 (.tmp 3) (.tmp 16) rfl w1.heap.size (byteC r).toArray rfl rfl 22 _ (row_allocX w1 22) HIO.out HSZ.out (byteC_oneX _) ?_))
  obtain ⟨q1, hq1⟩ : ∃ g, w1.heap.size = g := ⟨_, rfl⟩
  have HQ1 := Aside0.mk hq1
  rw [hq1]
  generalize hw2 : World.setRow _ _ _ = w2
  have B2 : Aside0 (Below w.heap.size w w2) := ⟨by rw [← hw2, ← hq1]; exact (below_alloc B1.out _).trans ⟨rfl, rfl, rfl, Nat.le_of_eq (setRow_size _ _ _).symm, fun k hk => setRow_other _ _ _ _ (by have := B1.out.size; omega)⟩⟩
  have R2 : Aside0 (w2.heap[q1]? = some (.cells (byteC r).toArray 22 (0, 0))) := ⟨by rw [← hw2, ← hq1]; exact setRow_heap _ _ _ _ _ _ (row_allocX w1 22)⟩
  clear hw2 hq1
  go_upto_region 7 with (first
    | (go_at_call 6; (with_reducible refine (HI.out w2 B2.out).mono ?_); rintro e w3 ⟨rfl, k1⟩; have B3 := Aside0.mk (below_trV B2.out k1); have R3 := Aside0.mk ((k1.block _ (blk_lt' R2.out)).trans R2.out); clear k1)
    | (refine wpList_store_row rfl 22 (.tmp 5) (.tmp 21) rfl w3.heap.size (byteC r).toArray rfl rfl 22 _ (row_allocX w3 22) HIO.out HSZ.out (byteC_oneX _) ?_))
  obtain ⟨q2, hq2⟩ : ∃ g, w3.heap.size = g := ⟨_, rfl⟩
  have hlt := blk_lt' R3.out
  rw [hq2] at hlt ⊢
  have HLT := Aside0.mk hlt
  generalize hw4 : World.setRow _ _ _ = w4
  have B4 : Aside0 (Below w.heap.size w w4) := ⟨by rw [← hw4, ← hq2]; exact (below_alloc B3.out _).trans ⟨rfl, rfl, rfl, Nat.le_of_eq (setRow_size _ _ _).symm, fun k hk => setRow_other _ _ _ _ (by have := B3.out.size; omega)⟩⟩
  have R4 : Aside0 (w4.heap[q2]? = some (.cells (byteC r).toArray 22 (0, 0))) := ⟨by rw [← hw4, ← hq2]; exact setRow_heap _ _ _ _ _ _ (row_allocX w3 22)⟩
  have S4 : Aside0 (w4.heap[q1]? = some (.cells (byteC r).toArray 22 (0, 0))) := ⟨by rw [← hw4]; exact (setRow_other _ q2 q1 _ (by omega)).trans (heap_alloc_lt R3.out _)⟩
  clear hw4 hq2 hlt
  go_wp2_with (first
    | ((with_reducible refine gate_dst (N := 31) rfl ?_); refine gate_guard (by rfl) ?_; refine wpList_load_row rfl 22 (.tmp 5) rfl q2 rfl 22 _ (0, 0) _ R4.out Tryd.underlying22 rfl HIO.out ?_)
    | ((with_reducible refine gate_dst (N := 32) rfl ?_); refine gate_guard (by rfl) ?_; refine wpList_load_row rfl 22 (.tmp 3) rfl q1 rfl 22 _ (0, 0) _ S4.out Tryd.underlying22 rfl HIO.out ?_)
    | ((with_reducible refine gate_dst (N := 33) rfl ?_); refine gate_guard (by rfl) ?_; refine wpList_run rfl _ (exec_eq 22 22 (.tmp 31) (.tmp 32) (byteC r).toArray rfl rfl rfl HM1.out (HE.out _)) ?_))
  go_ret
  exact ⟨rfl, B4.out⟩
set_option maxRecDepth 100000 in
set_option maxHeartbeats 4000000 in
theorem lawBad (s : ByteArray) (n : Nat) (r : List Int) (hr : r.length = 32) (w : World) (hsz : s.size = n) (hn : n ≤ 100000)
    (hs : ∀ w1, Below w.heap.size w w1 → Calls Tryd.prog 5 #[.string s] w1 fun e w' => e = .returned (.tuple #[.agg (byteC r).toArray, .bool false]) ∧ Below w1.heap.size w1 w')
    (hi : ∀ w1, Below w.heap.size w w1 → Calls Tryd.prog 6 #[.string s] w1 fun e w' => e = .returned (.tuple #[.agg (byteC r).toArray, .int .i64 1]) ∧ Below w1.heap.size w1 w') :
    Calls Tryd.prog 3 #[.string s] w fun e w' => e = .returned (.bool true) ∧ Below w.heap.size w w' := by
  have HS := Aside0.mk hs
  have HI := Aside0.mk hi
  have HIO := Aside0.mk (row32_infoX r hr)
  have HSZ := Aside0.mk (size32X r hr)
  have HE : Aside0 (∀ w1 : World, (Op.equalIn 10000 22 (.agg (byteC r).toArray) (.agg (byteC r).toArray)).run Tryd.prog w1 = .ok true w1) := ⟨fun w1 => eq22 r hr w1⟩
  have hm1 : (Tryd.prog).eqGuardType (Tryd.prog).depth 22 = false := by kernel_rfl
  have HM1 := Aside0.mk hm1
  have h1 : ¬ (2147483647 : Int) < (n : Int) := by omega
  have h2 : ¬ (100000 : Int) < (n : Int) := by omega
  have h3 : ¬ 2147483647 < n := by omega
  have h4 : ¬ 100000 < n := by omega
  clear hs hi hr hm1 hn
  go_enter Tryd.func3, Tryd.ntmps3
  go_upto_region 5 with fail
  go_upto_region 6 with (first
    | (go_at_call 5; (with_reducible refine (HS.out _ (Below.refl _ _)).mono ?_); rintro e w1 ⟨rfl, k1⟩; have B1 := Aside0.mk k1; clear k1)
    | (refine wpList_store_row rfl 22 (.tmp 3) (.tmp 16) rfl w1.heap.size (byteC r).toArray rfl rfl 22 _ (row_allocX w1 22) HIO.out HSZ.out (byteC_oneX _) ?_))
  obtain ⟨q1, hq1⟩ : ∃ g, w1.heap.size = g := ⟨_, rfl⟩
  have HQ1 := Aside0.mk hq1
  rw [hq1]
  generalize hw2 : World.setRow _ _ _ = w2
  have B2 : Aside0 (Below w.heap.size w w2) := ⟨by rw [← hw2, ← hq1]; exact (below_alloc B1.out _).trans ⟨rfl, rfl, rfl, Nat.le_of_eq (setRow_size _ _ _).symm, fun k hk => setRow_other _ _ _ _ (by have := B1.out.size; omega)⟩⟩
  have R2 : Aside0 (w2.heap[q1]? = some (.cells (byteC r).toArray 22 (0, 0))) := ⟨by rw [← hw2, ← hq1]; exact setRow_heap _ _ _ _ _ _ (row_allocX w1 22)⟩
  clear hw2 hq1
  go_upto_region 7 with (first
    | (go_at_call 6; (with_reducible refine (HI.out w2 B2.out).mono ?_); rintro e w3 ⟨rfl, k1⟩; have B3 := Aside0.mk (below_trV B2.out k1); have R3 := Aside0.mk ((k1.block _ (blk_lt' R2.out)).trans R2.out); clear k1)
    | (refine wpList_store_row rfl 22 (.tmp 5) (.tmp 21) rfl w3.heap.size (byteC r).toArray rfl rfl 22 _ (row_allocX w3 22) HIO.out HSZ.out (byteC_oneX _) ?_))
  obtain ⟨q2, hq2⟩ : ∃ g, w3.heap.size = g := ⟨_, rfl⟩
  have hlt := blk_lt' R3.out
  rw [hq2] at hlt ⊢
  have HLT := Aside0.mk hlt
  generalize hw4 : World.setRow _ _ _ = w4
  have B4 : Aside0 (Below w.heap.size w w4) := ⟨by rw [← hw4, ← hq2]; exact (below_alloc B3.out _).trans ⟨rfl, rfl, rfl, Nat.le_of_eq (setRow_size _ _ _).symm, fun k hk => setRow_other _ _ _ _ (by have := B3.out.size; omega)⟩⟩
  have R4 : Aside0 (w4.heap[q2]? = some (.cells (byteC r).toArray 22 (0, 0))) := ⟨by rw [← hw4, ← hq2]; exact setRow_heap _ _ _ _ _ _ (row_allocX w3 22)⟩
  have S4 : Aside0 (w4.heap[q1]? = some (.cells (byteC r).toArray 22 (0, 0))) := ⟨by rw [← hw4]; exact (setRow_other _ q2 q1 _ (by omega)).trans (heap_alloc_lt R3.out _)⟩
  clear hw4 hq2 hlt
  go_wp2_with fail
  go_ret
  exact ⟨rfl, B4.out⟩
set_option maxRecDepth 100000 in
theorem earlyR_a (s : ByteArray) (n : Nat) (hsz : s.size = n) (h : 2147483647 < n) (w : World) : Calls Tryd.prog 3 #[.string s] w fun e w' => e = .returned (.bool true) ∧ Below w.heap.size w w' := by
  have b1 : (2147483647 : Int) < (n : Int) := by omega
  go_enter Tryd.func3, Tryd.ntmps3
  go_wp2
  go_ret
  exact ⟨rfl, Below.refl _ _⟩
set_option maxRecDepth 100000 in
theorem earlyR_b (s : ByteArray) (n : Nat) (hsz : s.size = n) (h1 : n ≤ 2147483647) (h : 100000 < n) (w : World) : Calls Tryd.prog 3 #[.string s] w fun e w' => e = .returned (.bool true) ∧ Below w.heap.size w w' := by
  have b1 : ¬ (2147483647 : Int) < (n : Int) := by omega
  have b2 : (100000 : Int) < (n : Int) := by omega
  have b3 : ¬ 2147483647 < n := by omega
  go_enter Tryd.func3, Tryd.ntmps3
  go_wp2
  go_ret
  exact ⟨rfl, Below.refl _ _⟩
def strL (s : ByteArray) : List Int := s.data.toList.map fun b => (b.toNat : Int)
theorem strL_byte (s : ByteArray) : ByteL (strL s) := fun x hx => by
  obtain ⟨b, _, rfl⟩ := List.mem_map.1 hx
  have := b.toNat_lt
  omega
theorem strL_nums (s : ByteArray) : strOfNums (strL s) = s := by
  apply ByteArray.ext
  apply Array.ext'
  rw [strOfNums_data]
  unfold strL
  rw [List.map_map]
  conv => rhs; rw [← List.map_id s.data.toList]
  refine List.map_congr_left fun b _ => ?_
  simp
theorem strL_len (s : ByteArray) : (strL s).length = s.size := by unfold strL; rw [List.length_map, Array.length_toList]; rfl
theorem walkHashText (s : ByteArray) (ev : Value) (t : TypeId) (v0 : Value) (w : World) (hE : w.cell? ⟨2, 0, none⟩ = some ev) (hS : w.cell? ⟨0, 0, none⟩ = some (.iface t v0)) :
    Calls Tryd.prog 3 #[.string s] w fun e w' => e = .returned (.bool true) ∧ Below w.heap.size w w' := by
  by_cases c0 : 2147483647 < s.size
  · exact earlyR_a s s.size rfl c0 w
  by_cases c1 : 100000 < s.size
  · exact earlyR_b s s.size rfl (by omega) c1 w
  obtain ⟨L, hL⟩ : ∃ L, strL s = L := ⟨_, rfl⟩
  have hb : ByteL L := by rw [← hL]; exact strL_byte s
  have hsn : s = strOfNums L := by rw [← hL]; exact (strL_nums s).symm
  have hlen : L.length = s.size := by rw [← hL]; exact strL_len s
  by_cases hg : Good L
  · refine lawGood s s.size (outS 32 ((List.replicate (64 - L.length) 48 ++ L).map lowB)) (outS_len _ _) w rfl (by omega) (fun w1 h1 => ?_) (fun w1 h1 => ?_)
    · rw [hsn]
      have q := specC L hb hg.1 _ rfl true ⟨fun _ => hg.2, fun _ => rfl⟩ w1
      rw [if_pos rfl] at q
      exact q
    · rw [hsn]
      exact implGood L hb hg ev w1 (pw_cell_below h1 hE)
  · refine lawBad s s.size (List.replicate 32 0) (by rfl) w rfl (by omega) (fun w1 h1 => ?_) (fun w1 h1 => ?_)
    · rw [hsn]
      by_cases hn : L.length ≤ 64
      · have q := specC L hb hn _ rfl false ⟨fun h => by (cases h), fun h => absurd ⟨hn, h⟩ hg⟩ w1
        rw [if_neg (by decide)] at q
        exact q
      · exact specLong L (by omega) w1
    · rw [hsn]
      exact implBad L hb hg ev t v0 w1 (pw_cell_below h1 hE) (pw_cell_below h1 hS)
end Go.Proofs.YtpogfbompljkkaaDoor.Snk
/- FnReadHashText: a text is read as a hash just as the reference reads it, for every text; where the two errors that are listed read as the program's text lays them (the card ties them). -/
namespace Go.Proofs.YtpogfbompljkkaaDoor.fnReadHashText
open Go.ChangeShapes Go.WideShapes Go.ChangeAt Go.RowKit Go.Proofs.YtpogfbompljkkaaDoorW.PrintWords Go.Proofs.YtpogfbompljkkaaDoorW.PrintLast Go.Proofs.YtpogfbompljkkaaDoor.Snk Go.Proofs.YtpogfbompljkkaaDoor
open Go.ChangeMaps (open_string shut_string)
set_option linter.unusedVariables false
theorem own : ownKnob Tryd.prog.godebug = none := by kernel_rfl
theorem laidOut : laidOutB Tryd.prog = true := by kernel_rfl
theorem gLen : Tryd.prog.globalNamed "encoding/hex.ErrLength" = some 2 := by kernel_rfl
theorem gSize : Tryd.prog.globalNamed "pub-mintmark/pub/btcdchainhash.ErrHashStrSize" = some 0 := by kernel_rfl
theorem tLen : (Tryd.prog.globals[2]?).map (·.type) = some 37 := by kernel_rfl
theorem tSize : (Tryd.prog.globals[0]?).map (·.type) = some 37 := by kernel_rfl
/-- What the listed variables hold. -/
theorem of_laid {W : World} (h : laidMetH Tryd.prog Rows.fnReadHashTextRow.laid W) : (∃ ev, W.cell? ⟨2, 0, none⟩ = some ev) ∧ ∃ t v, W.cell? ⟨0, 0, none⟩ = some (.iface t v) := by
  rw [MakeChecks.laidMetH_plain _ _ _ (by kernel_rfl)] at h
  obtain ⟨ps, ⟨g0, t0, cs0, f0, p0, q0, hg0, ht0, hv0, hd0, ⟨g1, t1, cs1, f1, p1, q1, hg1, ht1, hv1, hd1, _, _⟩, _⟩, _, _⟩ := h
  obtain rfl := Option.some.inj (gLen.symm.trans hg0)
  obtain rfl := Option.some.inj (gSize.symm.trans hg1)
  obtain rfl := Option.some.inj (tLen.symm.trans ht0)
  obtain rfl := Option.some.inj (tSize.symm.trans ht1)
  obtain ⟨fa, u0, v0, e0, _⟩ := iface_of_trod Tryd.underlying37 hd0
  obtain ⟨fb, u1, v1, e1, _⟩ := iface_of_trod Tryd.underlying37 hd1
  have k0 := World.var?_cell hg0 hv0 0
  have k1 := World.var?_cell hg1 hv1 0
  obtain ⟨l0⟩ := cs0
  obtain ⟨l1⟩ := cs1
  have e0' : l0 = [.iface u0 v0] := e0
  have e1' : l1 = [.iface u1 v1] := e1
  subst e0' e1'
  exact ⟨⟨_, by simpa using k0⟩, u1, v1, by simpa using k1⟩
/-- The door's own heap meets the condition. -/
theorem door_met (os : Os) (args : Array Value) : laidMetH Tryd.prog Rows.fnReadHashTextRow.laid ((World.doorLaid Tryd.prog 123 os).forCall (fun _ _ => 0) ⟨#[], args, []⟩).memory :=
  laidMetH_of_parts3 (fuel := 8) (laidMet_of_run' 8 (by kernel_rfl) (by kernel_rfl)) (by kernel_rfl) (by kernel_rfl)
set_option maxRecDepth 100000 in
theorem lifted (os : Os) (started : os.Started) (H : Type) (enc : TypeId × Value → H) :
    ReturnsInHanded {} Tryd.checked os 3 .any (fun w args => (Rows.fnReadHashTextSpec.pre enc Tryd.prog Tryd.f3 [] false w args ∧ laidMetH Tryd.prog Rows.fnReadHashTextRow.laid w) ∧ sizedMet enc Tryd.prog Tryd.f3 (OpenSpec.ofChange Rows.fnReadHashTextSpec) false w args)
      (Rows.fnReadHashTextSpec.post enc Tryd.prog Tryd.f3 false true false false) := by
  refine returnsInHanded_of_change_and (C := Tryd.checked) (X := fun w _ => laidMetH Tryd.prog Rows.fnReadHashTextRow.laid w) (fun _ _ _ hh h => h.of_heap hh) own started (by kernel_rfl) Tryd.func3
    (ChangeSpec.witness_shaped (enc := enc) (C := Tryd.checked) (os := os) (X := fun w _ => laidMetH Tryd.prog Rows.fnReadHashTextRow.laid w) false (World.doorLaid Tryd.prog 123 os) #[.string { data := #[] }] 8 rfl (World.shaped_of_RefB (by kernel_rfl) (by kernel_rfl)) (by kernel_rfl) (by kernel_rfl) (by kernel_rfl) (door_met os _)) ?_
  intro W base args ds gs before hval0 hW hcnd hsz0 hL _
  have hsz : (DataW.weightsEach Tryd.prog (Tryd.f3.params.toList ++ Rows.fnReadHashTextSpec.plain.varTypes Tryd.prog) (ds ++ gs)).all (· ≤ reachBytes) = true := hsz0
  have hval : ∀ (j : Nat) t v, Tryd.f3.params[j]? = some t → args[j]? = some v → Value.okWide Tryd.prog W .any base t v := hval0
  have hW' := hW
  obtain ⟨p, q, hA0, hV, rfl, hfz, hnd⟩ := hW
  have hA : DataW.TrodAll enc Tryd.prog W 0 (fun _ => true) true Tryd.f3.params.toList args.toList ds p := hA0
  rw [Tryd.params3] at hA hval hsz
  obtain ⟨v0, vs0, d0, ds0, p0, q0, hargs, rfl, rfl, h0, r0⟩ := trodAll_cons hA
  obtain ⟨rfl, rfl, rfl⟩ := trodAll_nil r0
  obtain rfl : args = #[v0] := by cases args; simp_all
  obtain ⟨rfl, rfl⟩ := trodVars_none hV
  have k0 := h0
  have lt0 : ∀ x ∈ p0, x.block < W.heap.size := by obtain ⟨m, hm⟩ := k0; exact DataW.trod_lt m _ _ _ hm
  obtain ⟨s0, rfl, rfl, rfl, _⟩ := open_string Tryd.underlying9 (hval 0 9 v0 rfl rfl) h0
  obtain ⟨⟨ev, hE⟩, ty, vv, hS⟩ := of_laid hL
  refine (walkHashText s0 ev ty vv W hE hS).mono fun e W' ⟨he, bel⟩ => ?_
  subst he
  exact ⟨_, rfl, _, _, _, [], _, [], hW', trodAll_mk1 (shut_bool Tryd.underlying4 _), (trodAll_cons_mk (Below.trod laidOut (by kernel_rfl) (of_decide_eq_true (by kernel_rfl)) k0 bel lt0) trodAll_mk0), rfl, bel.frame _, fun h => by cases h⟩
theorem over : Rows.fnReadHashTextRow.holds Tryd.pinned (OpenSpec.ofChange Rows.fnReadHashTextSpec) :=
  OpenClaim.holds_of_wide 3 Tryd.f3 rfl rfl rfl rfl rfl rfl rfl ⟨rfl, rfl, rfl, rfl, rfl⟩ rfl rfl rfl rfl rfl (by kernel_rfl) Tryd.func3 (by kernel_rfl)
    (of_decide_eq_true (by kernel_rfl)) (by unfold Func.isWrapper; first | (rw [if_pos (by decide +kernel)]; kernel_rfl) | (rw [if_neg (by decide +kernel)]; exact ⟨rfl, rfl⟩))
    (fun os started H enc _ => lifted os started H enc)
theorem proved : Rows.FnReadHashTextCardSaid :=
  Claim7.holds_tied_plain_at .later [] [.sentinel, .sentinel] true (true, "1bdc47a64e9a36b3ad40871ce829815e1df802113d90eb6527ac7e312308333c") true
    over (fun _ h => by cases h) (by kernel_rfl) (fun _ h => by cases h) fnReadHashText_row_tie rfl ⟨rfl, rfl⟩ (by kernel_rfl) rfl
    (fun f fn hf hfn => by
      obtain rfl : f = 3 := Option.some.inj ((show Tryd.prog.funcNamed "pub-mintmark/laws.FnReadHashText" = some 3 by kernel_rfl).symm.trans hf) |>.symm
      obtain rfl : fn = Tryd.f3 := (Option.some.inj (Tryd.func3.symm.trans hfn)).symm
      exact ⟨by kernel_rfl, fun j t ht => by
        rw [Tryd.params3] at ht
        have hm : t ∈ [9] := by
          have h1 := Array.mem_of_getElem? ht
          simp at h1 ⊢
          omega
        have hall : ([9].all fun u => !Tryd.prog.wantsStandIn u) = true := by kernel_rfl
        exact (show Tryd.prog.wantsStandIn t = false by simpa using List.all_eq_true.1 hall t hm)⟩)
    (by kernel_rfl)
#print axioms proved
end Go.Proofs.YtpogfbompljkkaaDoor.fnReadHashText

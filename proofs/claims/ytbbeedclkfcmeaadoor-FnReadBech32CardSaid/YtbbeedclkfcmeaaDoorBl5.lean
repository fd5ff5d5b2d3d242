/- bech32.writeBech32Checksum, to whatever builder. -/
import Derived.Test.YtbbeedclkfcmeaaDoorRb2
namespace Go.Proofs.YtbbeedclkfcmeaaDoor.Snk
open Go.RowKit Go.Proofs.YtbbeedclkfcmeaaDoorW.PrintWords Go.Proofs.YtbbeedclkfcmeaaDoorW.PrintLast Go.Proofs.YtbbeedclkfcmeaaDoorW.PrintMore Go.Proofs.YtbbeedclkfcmeaaDoor.KFnReadBech32
set_option linter.unusedVariables false
set_option linter.unusedSimpArgs false
theorem and31 (x : Int) : 0 ≤ bits .and .i64 x 31 ∧ bits .and .i64 x 31 < 32 := by
  have h : (BitVec.ofInt 64 x &&& BitVec.ofInt 64 31).toNat ≤ 31 := by
    rw [BitVec.toNat_and]; exact Nat.and_le_right
  have e : bits .and .i64 x 31 = IntKind.i64.wrap ((BitVec.ofInt 64 x &&& BitVec.ofInt 64 31).toNat : Int) := rfl
  rw [e, wraps_i64 _ (Int.natCast_nonneg _) (by omega)]
  omega
def chZ (s : ByteArray) (j : Int) : Int := if h : 0 ≤ j ∧ j < s.size then ((s[j.toNat]'(by omega)).toNat : Int) else 0
theorem index_opU {P : Program} {ρ : Operand → Value} {o : Oper} {w : World} (s x : Operand) (ho : o.op = .index 9 s x) (hP : P.underlying 9 = some .string) (cs : ByteArray) (j : Int) (hs : ρ s = .string cs) (hx : ρ x = .int .u8 j) (h : 0 ≤ j ∧ j < cs.size) : (execOp ρ o).run P w = .ok (.value (.int .u8 (chZ cs j))) w := by
  have hr := run_index_string (P := P) w 9 cs .u8 j hP
  rw [dif_pos h] at hr
  unfold chZ
  rw [dif_pos h]
  unfold execOp
  simp [ho, hs, hx, hr, Result.andThen]
theorem and31u (x : Int) (n : Nat) (hn : n = 32) : 0 ≤ bits .and .i64 x 31 % 256 ∧ bits .and .i64 x 31 % 256 < (n : Int) := by
  have := and31 x
  omega
abbrev Bdr (B b : Nat) (bs : List Value) (w : World) : Prop := Go.Lib.IsBuilderF 53 5 B b bs w
theorem bdr_cells {l : List UInt8} (c : Int) (h0 : 0 ≤ c) (h1 : c < 256) : Go.Lib.byteCells l ++ [.int .u8 c] = Go.Lib.byteCells (l ++ [c.toNat.toUInt8]) := by
  unfold Go.Lib.byteCells
  rw [List.map_append]
  have : (c.toNat.toUInt8.toNat : Int) = c := by
    rw [show c.toNat.toUInt8.toNat = c.toNat % 256 from UInt8.toNat_ofNat']
    omega
  rw [List.map_cons, List.map_nil, this]
theorem chZ_byte (s : ByteArray) (j : Int) : 0 ≤ chZ s j ∧ chZ s j < 256 := by
  unfold chZ
  split
  · have := (s[j.toNat]'(by omega)).toNat_lt
    omega
  · omega
theorem Bdr.drewN {B b : Nat} {bs : List Value} {w : World} (h : Bdr B b bs w) (n : Nat) : Bdr B b bs (w.drewN n) := h
theorem Bdr.below {B b : Nat} {bs : List Value} {w w1 : World} (h : Bdr B b bs w) (hb : Below w.heap.size w w1) : Bdr B b bs w1 := by
  have go : ∀ p, Go.Lib.BuilderAtF 53 5 B b p bs w → Go.Lib.BuilderAtF 53 5 B b p bs w1 := fun p h => by
    have hlt := h.lt
    obtain ⟨hB, v, hv, ho, hne⟩ := h
    refine ⟨hB, v, (hb.block b hlt).trans hv, ho.kept (row := none) ⟨hb.os, hb.tape, hb.output, hb.size, fun k hk _ => hb.block k hk⟩ ?_, hne⟩
    cases hq : v.ownBlock with
    | none => exact .inl rfl
    | some x => exact .inr (by simp)
  rcases h with h | h
  · exact .inl (go _ h)
  · exact .inr (go _ h)
theorem writeByteC (B b : Nat) (l : List UInt8) (c : Int) (h0 : 0 ≤ c) (h1 : c < 256) (w : World) (h : Bdr B b (Go.Lib.byteCells l) w) (hl : l.length ≤ 2000) (hB : B ≤ w.heap.size) :
    Calls Tryd.prog 29 #[.pointer (some ⟨b, 0, none⟩), .int .u8 c] w fun e w' => e = .returned .nilIface ∧ Bdr B b (Go.Lib.byteCells (l ++ [c.toNat.toUInt8])) w' ∧ Below B w w' := by
  refine Calls.mono (Any.Builder_WriteByte_k Tryd.lays167 Tryd.Builder_Extra_167 B b (Go.Lib.byteCells l) c w h (by rw [Go.Lib.byteCells_length]; omega) hB) ?_
  rintro e w' ⟨rfl, h1', h2, _⟩
  refine ⟨rfl, .inr ?_, h2⟩
  rw [← bdr_cells c h0 h1]
  exact h1'
theorem growC (b : Nat) (w : World) (hb : w.heap.size = b) :
    Calls Tryd.prog 19 #[.pointer (some ⟨b, 0, none⟩), .int .i64 6] (w.alloc (.cells #[.pointer none, .slice none 0 0] 53 (0, 0))) fun e w' => e = .returned (.tuple #[]) ∧ Bdr b b [] w' ∧ Below b w w' := by
  subst hb
  refine Calls.mono (Any.Builder_Grow_fresh Tryd.lays165 Tryd.Builder_Extra_165 w.heap.size w.heap.size 6 _ (Nat.le_refl _) (heap_alloc_new w _) (below_alloc (Below.refl _ _) _).size (by decide)) ?_
  rintro e w' ⟨rfl, h1, h2⟩
  exact ⟨rfl, Go.Lib.IsBuilderF.of (.inr h1), (below_alloc (Below.refl _ _) _).trans h2⟩
theorem stringC (B b : Nat) (l : List UInt8) (w : World) (h : Bdr B b (Go.Lib.byteCells l) w) (hB : B ≤ w.heap.size) :
    Calls Tryd.prog 21 #[.pointer (some ⟨b, 0, none⟩)] w fun e w' => e = .returned (.string ⟨l.toArray⟩) ∧ Bdr B b (Go.Lib.byteCells l) w' ∧ Below B w w' := by
  refine Calls.mono (Any.Builder_String_any_k Tryd.lays169 Tryd.Builder_Extra_169 B b l w h hB) ?_
  rintro e w' ⟨rfl, h1, h2, _⟩
  exact ⟨rfl, h1, h2⟩
set_option maxRecDepth 100000 in
set_option maxHeartbeats 4000000 in
theorem writeSumC (s : ByteArray) (hn : s.size ≤ 1000) (V : List Int) (hV : ByteL V) (hv : V.length ≤ 1000) (A : Option Addr) (c : Nat) (v : Int) (hv2 : v = 0 ∨ v = 1) (w : World) (HG : GenS w) (HR : ReadsInt w .u8 A V.length V) (B b : Nat) (l : List UInt8) (hl : l.length ≤ 1000) (hB : B ≤ w.heap.size) (HD : Bdr B b (Go.Lib.byteCells l) w) :
    Calls Tryd.prog 20 #[.string s, .slice A V.length c, .pointer (some ⟨b, 0, none⟩), .int .u8 v] w fun e w' => e = .returned (.tuple #[]) ∧ (∃ l2, l2.length ≤ l.length + 6 ∧ Bdr B b (Go.Lib.byteCells l2) w') ∧ Below B w w' := by
  obtain ⟨G, cap, hg⟩ := HG
  have HP : Aside0 (∀ nd, _) := ⟨fun nd => polySN (bytesOf s) V (bytesOf_byte s) (by rw [bytesOf_length]; exact hn) hV V.length rfl hv A c (w.drewN nd) G cap ⟨hg.v, hg.c⟩ HR⟩
  rw [str_bytesOf] at HP
  obtain ⟨N, hN⟩ : ∃ N : Nat, polyN (bytesOf s) V (List.replicate 6 0) = N := ⟨_, rfl⟩
  rw [hN] at HP
  obtain ⟨K, hK⟩ : ∃ K : Int, bech32_VersionToConsts.f v = some K := by
    rcases hv2 with rfl | rfl
    · exact ⟨1, rfl⟩
    · exact ⟨734539939, rfl⟩
  have HK := Aside0.mk hK
  have HDD := Aside0.mk HD
  have HBB := Aside0.mk hB
  have HLL := Aside0.mk hl
  clear hN hK HD hB hl hv2 hg HR
  go_enter Tryd.func20, Tryd.ntmps20
  go_wp2_with fail
  go_at_call 28
  refine (bech32_VersionToConsts.calls v K _ HK.out).mono ?_
  rintro e w' ⟨rfl, ⟨nd, rfl⟩⟩
  go_wp2_with fail
  go_at_call 24
  refine (HP.out nd).mono ?_
  rintro e w' ⟨rfl, rfl⟩
  go_wp2_with fail
  go_loopw [10, 11, 12] (fun v10 v11 v12 wr => ∃ (i : Nat) (l2 : List UInt8), i ≤ 6 ∧ v10 = .int .i64 i ∧ Aside0 (l2.length ≤ l.length + i) ∧ Aside0 (Bdr B b (Go.Lib.byteCells l2) wr) ∧ Aside0 (Below B w wr)) (fun v10 _ _ _ => 6 - (intOf v10).toNat)
  case atStart => exact ⟨0, l, by decide, rfl, ⟨by omega⟩, ⟨Bdr.drewN HDD.out _⟩, ⟨pw_below_drewN (Below.refl _ _) _⟩⟩
  case round =>
    obtain ⟨i, l2, hi, rfl, HL2, HD2, HB2⟩ := hrel
    have hi2 : i = 0 ∨ i = 1 ∨ i = 2 ∨ i = 3 ∨ i = 4 ∨ i = 5 ∨ i = 6 := by omega
    rcases hi2 with rfl | rfl | rfl | rfl | rfl | rfl | rfl
    iterate 6
      · go_wp2_with ((with_reducible refine at_dst (N := 33) rfl ?_); refine wpList_run rfl _ (index_opU _ (.tmp 32) rfl Tryd.underlying9 _ _ rfl rfl (and31u _ _ (by rfl))) ?_)
        go_at_call 29
        refine (writeByteC B b l2 _ (chZ_byte _ _).1 (chZ_byte _ _).2 _ HD2.out (by have := HL2.out; have := HLL.out; omega) (Nat.le_trans HBB.out HB2.out.size)).mono ?_
        rintro e w' ⟨rfl, hd3, hb3⟩
        have HD3 := Aside0.mk hd3
        have HB3 := Aside0.mk (HB2.out.trans hb3)
        have HL3 : Aside0 (∀ k (x : UInt8), l2.length ≤ l.length + k → (l2 ++ [x]).length ≤ l.length + (k + 1)) := ⟨fun k x hk => by rw [List.length_append, List.length_singleton]; omega⟩
        clear hd3 hb3
        go_wp2_with fail
        go_roundw
        case rel => exact ⟨_, _, (by omega), by rfl, ⟨HL3.out _ _ HL2.out⟩, HD3, HB3⟩
        case measure => simp [intOf]
    · go_wp2_with fail
      go_end0
      exact ⟨rfl, ⟨l2, HL2.out, HD2.out⟩, HB2.out⟩
end Go.Proofs.YtbbeedclkfcmeaaDoor.Snk

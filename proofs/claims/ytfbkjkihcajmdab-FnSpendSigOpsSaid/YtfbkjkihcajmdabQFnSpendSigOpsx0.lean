-- Made by a turned print (own tool turnprint.py over the kit print).
import Derived.Test.YtfbkjkihcajmdabProg
import Derived.Below
import Derived.Deep.Draws
import Derived.Deep.AppendLies
import Derived.Maps.AppendAt
import Derived.OwnWalk
import Derived.Laws.BytesArg
import Derived.Laws.MakeOwn
import Derived.Laws.OwnMore
import Derived.Deep.OwnRows
import Derived.Tactics
import Derived.Lib.ConvBytes
import Derived.Laws.Slices
import Derived.WalkKit
import Derived.KernelRfl
import Derived.RowKit3
import Derived.Deep.LoopGhost
import Derived.Deep.QuietTactic
import Derived.BigQuiet
import Derived.WideLaws
import Derived.Deep.DeepCutAuto
import Derived.Deep.CutBlock
import Derived.Deep.RegionHeld3
import Derived.Laws.Rows
import Derived.Lib.AppendStr
import Derived.ArgAppend
import Derived.Laws.IdiomCopy
import Derived.OrdersHeld
import Derived.Laws.BitsLemmas
import Derived.RowKit
import Derived.Test.YtfbkjkihcajmdabWWords
import Derived.Test.YtfbkjkihcajmdabWLast
import Derived.Test.YtfbkjkihcajmdabWTab
import Derived.Test.YtfbkjkihcajmdabWFour
import Derived.Test.YtfbkjkihcajmdabWQPut
import Derived.Test.YtfbkjkihcajmdabWApart
import Derived.Test.YtfbkjkihcajmdabWArr
import Derived.Test.YtfbkjkihcajmdabWZeros
import Derived.Test.YtfbkjkihcajmdabWFoot
import Derived.Test.YtfbkjkihcajmdabWKept
import Derived.Test.YtfbkjkihcajmdabWShare
import Derived.Test.YtfbkjkihcajmdabWN
import Derived.Test.YtfbkjkihcajmdabWFootNe
import Derived.Test.YtfbkjkihcajmdabWAt
import Derived.Test.YtfbkjkihcajmdabWEqStruct
import Derived.Test.YtfbkjkihcajmdabWRepsOne
import Derived.Test.YtfbkjkihcajmdabWInv
import Derived.Test.YtfbkjkihcajmdabWInvWords
import Derived.Test.YtfbkjkihcajmdabWGuard
import Derived.Test.YtfbkjkihcajmdabWNEv
import Derived.Test.YtfbkjkihcajmdabWMore
import Derived.Test.YtfbkjkihcajmdabTurn
namespace Go.Proofs.Ytfbkjkihcajmdab.QFnSpendSigOps
open Go.RowKit Go.Proofs.YtfbkjkihcajmdabW.PrintWords Go.Proofs.YtfbkjkihcajmdabW.PrintLast Go.Proofs.YtfbkjkihcajmdabW.PrintMore
attribute [local go_sem] nn_mod256 nn_mod65536 nn_mod32 max2_int min2_int max_two min_two max_three min_three max_four min_four   -- for this text's walks alone
set_option linter.unusedVariables false
set_option linter.unusedSimpArgs false



def errW : Option Int → Value
  | none => .nilIface
  | some c => .iface (c.toNat + 0 * 0) (.agg #[])
theorem errW_none : errW none = .nilIface := rfl
theorem errW_some (c : Int) : errW (some c) = .iface (c.toNat + 0 * 0) (.agg #[]) := rfl

theorem info5 : (Try.prog.info? 5).map (fun i => (i.zero, i.size, i.bytes)) = some (some (.int .u8 0), 1, 1) := by kernel_rfl
theorem info34 : (Try.prog.info? 34).map (fun i => (i.zero, i.size, i.bytes)) = some (some (.agg #[(.int .i64 0), (.slice none 0 0), (.int .i64 0)]), 3, 40) := by kernel_rfl
-- the values' own types
def rd_L2 (xs : List (List Int)) (i : Int) : (List Int) := xs.getD i.toNat ([] : List Int)
theorem at_L2 {w : World} {A : Option Addr} {n : Nat} {xs : List (List Int)} (h : Kd.C (Kd.slice 5 (Kd.int .u8)) w A n xs) (i : Int) (h0 : 0 ≤ i) (h1 : i < n) : ∃ ad A0 c0, A = some ad ∧ w.cell? (ad.add i.toNat) = some (.slice A0 (rd_L2 xs i).length c0) ∧ (rd_L2 xs i).length ≤ c0 ∧ (Kd.int .u8).C w A0 (rd_L2 xs i).length (rd_L2 xs i) := by
  obtain ⟨ad, c, e, _, hK, hc0⟩ := Kd.C_get h ([] : List Int) i h0 h1
  have hc : ∀ j u, c[j]? = some u → w.cell? (ad.add (i.toNat * 1 + j)) = some u := hc0
  obtain ⟨A0, c0, rfl, l0, g0⟩ := hK
  exact ⟨ad, A0, c0, e, by have hq := hc 0 _ rfl; rwa [Nat.mul_one, Nat.add_zero] at hq, l0, g0⟩

/-! #### struct type 34 -/
structure S34 where
  f0 : Int
  f1 : (List Int)
  f2 : Int
def z34 : S34 := ⟨(0 : Int), ([] : List Int), (0 : Int)⟩
def k34 : Kd S34 := Kd.iso (Kd.pair (Kd.int .i64) (Kd.pair (Kd.slice 5 (Kd.int .u8)) (Kd.int .i64))) (fun x : S34 => (x.f0, x.f1, x.f2))
theorem k34_heap : Kd.Heap k34 := Kd.heap_iso _ (Kd.heap_pair (Kd.heap_int .i64) (Kd.heap_pair (Kd.heap_slice 5 (Kd.heap_int .u8)) (Kd.heap_int .i64)))
theorem k34_open {w : World} {x : S34} {cs : List Value} (h : k34.K w x cs) : ∃ A1 c1, cs = [.int .i64 x.f0, .slice A1 x.f1.length c1, .int .i64 x.f2] ∧ x.f1.length ≤ c1 ∧ (Kd.int .u8).C w A1 x.f1.length x.f1 := by
  obtain ⟨_, _, rfl, rfl, ⟨_, _, rfl, ⟨A1, c1, rfl, l1, g1⟩, rfl⟩⟩ := h
  exact ⟨A1, c1, rfl, l1, g1⟩
theorem k34_openM {w : World} {base : Nat} {ok : Nat → Prop} {x : S34} {cs : List Value} (h : k34.M w base ok x cs) : ∃ v1, cs = [.int .i64 x.f0, v1, .int .i64 x.f2] ∧ (Kd.int .u8).R 5 w base ok v1 x.f1 := by
  obtain ⟨_, _, rfl, rfl, ⟨_, _, rfl, ⟨v1, rfl, g1⟩, rfl⟩⟩ := h
  exact ⟨v1, rfl, g1⟩
theorem k34_mk (w : World) (x : S34) {A1 : Option Addr} {c1 : Nat} (l1 : x.f1.length ≤ c1) (g1 : (Kd.int .u8).C w A1 x.f1.length x.f1) : k34.K w x [.int .i64 x.f0, .slice A1 x.f1.length c1, .int .i64 x.f2] := ⟨[.int .i64 x.f0], [.slice A1 x.f1.length c1, .int .i64 x.f2], rfl, rfl, ⟨[.slice A1 x.f1.length c1], [.int .i64 x.f2], rfl, ⟨A1, c1, rfl, l1, g1⟩, rfl⟩⟩
theorem k34_mkM (w : World) (base : Nat) (ok : Nat → Prop) (x : S34) {v1 : Value} (g1 : (Kd.int .u8).R 5 w base ok v1 x.f1) : k34.M w base ok x [.int .i64 x.f0, v1, .int .i64 x.f2] := ⟨[.int .i64 x.f0], [v1, .int .i64 x.f2], rfl, rfl, ⟨[v1], [.int .i64 x.f2], rfl, ⟨v1, rfl, g1⟩, rfl⟩⟩
theorem k34_openF {W : World} {ok : Nat → Prop} {x : S34} {cs : List Value} (h : Kd.FK k34 W ok x cs) : ∃ A1 c1, cs = [.int .i64 x.f0, .slice A1 x.f1.length c1, .int .i64 x.f2] ∧ x.f1.length ≤ c1 ∧ Kd.F (Kd.int .u8) W ok A1 x.f1.length x.f1 := by
  obtain ⟨A1, c1, rfl, l1, _⟩ := k34_open (Kd.FK_now h)
  exact ⟨A1, c1, rfl, l1, (fun W' hW => by obtain ⟨A1_, c1_, he, l1_, g1_⟩ := k34_open (h W' hW); injection (Option.some.inj (show some (Value.slice A1 x.f1.length c1) = some (Value.slice A1_ x.f1.length c1_) from congrArg (fun l => l[1]?) he)) with ha_ _ _; rw [ha_]; exact g1_)⟩
theorem k34_mkF (W : World) (ok : Nat → Prop) (x : S34) {A1 : Option Addr} {c1 : Nat} (l1 : x.f1.length ≤ c1) (g1 : Kd.F (Kd.int .u8) W ok A1 x.f1.length x.f1) : Kd.FK k34 W ok x [.int .i64 x.f0, .slice A1 x.f1.length c1, .int .i64 x.f2] := fun W2 hW => k34_mk W2 x l1 (g1 W2 hW)
def rd_T34 (xs : List S34) (i : Int) : S34 := xs.getD i.toNat z34
theorem at_T34 {w : World} {A : Option Addr} {n : Nat} {xs : List S34} (h : Kd.C k34 w A n xs) (i : Int) (h0 : 0 ≤ i) (h1 : i < n) : ∃ ad A1 c1, A = some ad ∧ w.cell? (ad.add (i.toNat * 3)) = some (.int .i64 (rd_T34 xs i).f0) ∧ w.cell? ⟨(ad.add (i.toNat * 3)).block, (ad.add (i.toNat * 3)).off + 1, none⟩ = some (.slice A1 (rd_T34 xs i).f1.length c1) ∧ w.cell? ⟨(ad.add (i.toNat * 3)).block, (ad.add (i.toNat * 3)).off + 2, none⟩ = some (.int .i64 (rd_T34 xs i).f2) ∧ (rd_T34 xs i).f1.length ≤ c1 ∧ (Kd.int .u8).C w A1 (rd_T34 xs i).f1.length (rd_T34 xs i).f1 := by
  obtain ⟨ad, c, e, _, hK, hc0⟩ := Kd.C_get h z34 i h0 h1
  have hc : ∀ j u, c[j]? = some u → w.cell? (ad.add (i.toNat * 3 + j)) = some u := hc0
  obtain ⟨A1, c1, rfl, l1, g1⟩ := k34_open hK
  exact ⟨ad, A1, c1, e, hc 0 _ rfl, by rw [← add_field _ _ 1 (by omega)]; exact hc 1 _ rfl, by rw [← add_field _ _ 2 (by omega)]; exact hc 2 _ rfl, l1, g1⟩

end Go.Proofs.Ytfbkjkihcajmdab.QFnSpendSigOps

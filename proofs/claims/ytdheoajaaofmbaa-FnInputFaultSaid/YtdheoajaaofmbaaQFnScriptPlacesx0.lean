-- Made by a turned print (own tool turnprint.py over the kit print).
import Derived.Test.YtdheoajaaofmbaaProg
import Derived.Below
import Derived.Deep.Draws
import Derived.Deep.AppendLies
import Derived.Maps.AppendAt
import Derived.OwnWalk
import Derived.Laws.BytesArg
import Derived.Laws.MakeOwn
import Derived.Laws.OwnMore
import Derived.Deep.OwnRows
import Derived.Tactics
import Derived.Lib.ConvBytes
import Derived.Laws.Slices
import Derived.WalkKit
import Derived.KernelRfl
import Derived.RowKit3
import Derived.Deep.LoopGhost
import Derived.Deep.QuietTactic
import Derived.BigQuiet
import Derived.WideLaws
import Derived.Deep.DeepCutAuto
import Derived.Deep.CutBlock
import Derived.Deep.RegionHeld3
import Derived.Laws.Rows
import Derived.Lib.AppendStr
import Derived.ArgAppend
import Derived.Laws.IdiomCopy
import Derived.OrdersHeld
import Derived.Laws.BitsLemmas
import Derived.RowKit
import Derived.Test.YtdheoajaaofmbaaWWords
import Derived.Test.YtdheoajaaofmbaaWLast
import Derived.Test.YtdheoajaaofmbaaWTab
import Derived.Test.YtdheoajaaofmbaaWFour
import Derived.Test.YtdheoajaaofmbaaWQPut
import Derived.Test.YtdheoajaaofmbaaWApart
import Derived.Test.YtdheoajaaofmbaaWArr
import Derived.Test.YtdheoajaaofmbaaWZeros
import Derived.Test.YtdheoajaaofmbaaWFoot
import Derived.Test.YtdheoajaaofmbaaWKept
import Derived.Test.YtdheoajaaofmbaaWShare
import Derived.Test.YtdheoajaaofmbaaWN
import Derived.Test.YtdheoajaaofmbaaWFootNe
import Derived.Test.YtdheoajaaofmbaaWAt
import Derived.Test.YtdheoajaaofmbaaWEqStruct
import Derived.Test.YtdheoajaaofmbaaWRepsOne
import Derived.Test.YtdheoajaaofmbaaWInv
import Derived.Test.YtdheoajaaofmbaaWInvWords
import Derived.Test.YtdheoajaaofmbaaWGuard
import Derived.Test.YtdheoajaaofmbaaWNEv
import Derived.Test.YtdheoajaaofmbaaWMore
import Derived.Test.YtdheoajaaofmbaaTurn
namespace Go.Proofs.Ytdheoajaaofmbaa.QFnScriptPlaces
open Go.RowKit Go.Proofs.YtdheoajaaofmbaaW.PrintWords Go.Proofs.YtdheoajaaofmbaaW.PrintLast Go.Proofs.YtdheoajaaofmbaaW.PrintMore
attribute [local go_sem] nn_mod256 nn_mod65536 nn_mod32 max2_int min2_int max_two min_two max_three min_three max_four min_four   -- for this text's walks alone
set_option linter.unusedVariables false
set_option linter.unusedSimpArgs false



def errW : Option Int → Value
  | none => .nilIface
  | some c => .iface (c.toNat + 0 * 0) (.agg #[])
theorem errW_none : errW none = .nilIface := rfl
theorem errW_some (c : Int) : errW (some c) = .iface (c.toNat + 0 * 0) (.agg #[]) := rfl

theorem info5 : (Try.prog.info? 5).map (fun i => (i.zero, i.size, i.bytes)) = some (some (.int .u8 0), 1, 1) := by kernel_rfl
theorem info32 : (Try.prog.info? 32).map (fun i => (i.zero, i.size, i.bytes)) = some (some (.slice none 0 0), 1, 24) := by kernel_rfl
-- the values' own types
def rd_L1 (xs : List (List Int)) (i : Int) : (List Int) := xs.getD i.toNat ([] : List Int)
theorem at_L1 {w : World} {A : Option Addr} {n : Nat} {xs : List (List Int)} (h : Kd.C (Kd.slice 5 (Kd.int .u8)) w A n xs) (i : Int) (h0 : 0 ≤ i) (h1 : i < n) : ∃ ad A0 c0, A = some ad ∧ w.cell? (ad.add i.toNat) = some (.slice A0 (rd_L1 xs i).length c0) ∧ (rd_L1 xs i).length ≤ c0 ∧ (Kd.int .u8).C w A0 (rd_L1 xs i).length (rd_L1 xs i) := by
  obtain ⟨ad, c, e, _, hK, hc0⟩ := Kd.C_get h ([] : List Int) i h0 h1
  have hc : ∀ j u, c[j]? = some u → w.cell? (ad.add (i.toNat * 1 + j)) = some u := hc0
  obtain ⟨A0, c0, rfl, l0, g0⟩ := hK
  exact ⟨ad, A0, c0, e, by have hq := hc 0 _ rfl; rwa [Nat.mul_one, Nat.add_zero] at hq, l0, g0⟩

/-! #### struct type 41 -/
structure S41 where
  f0 : Int
  f1 : (List Int)
def z41 : S41 := ⟨(0 : Int), ([] : List Int)⟩
def k41 : Kd S41 := Kd.iso (Kd.pair (Kd.int .i64) (Kd.slice 5 (Kd.int .u8))) (fun x : S41 => (x.f0, x.f1))
theorem k41_open {w : World} {x : S41} {cs : List Value} (h : k41.K w x cs) : ∃ A1 c1, cs = [.int .i64 x.f0, .slice A1 x.f1.length c1] ∧ x.f1.length ≤ c1 ∧ (Kd.int .u8).C w A1 x.f1.length x.f1 := by
  obtain ⟨_, _, rfl, rfl, ⟨A1, c1, rfl, l1, g1⟩⟩ := h
  exact ⟨A1, c1, rfl, l1, g1⟩
theorem k41_openM {w : World} {base : Nat} {ok : Nat → Prop} {x : S41} {cs : List Value} (h : k41.M w base ok x cs) : ∃ v1, cs = [.int .i64 x.f0, v1] ∧ (Kd.int .u8).R 5 w base ok v1 x.f1 := by
  obtain ⟨_, _, rfl, rfl, ⟨v1, rfl, g1⟩⟩ := h
  exact ⟨v1, rfl, g1⟩
theorem k41_mk (w : World) (x : S41) {A1 : Option Addr} {c1 : Nat} (l1 : x.f1.length ≤ c1) (g1 : (Kd.int .u8).C w A1 x.f1.length x.f1) : k41.K w x [.int .i64 x.f0, .slice A1 x.f1.length c1] := ⟨[.int .i64 x.f0], [.slice A1 x.f1.length c1], rfl, rfl, ⟨A1, c1, rfl, l1, g1⟩⟩
theorem k41_mkM (w : World) (base : Nat) (ok : Nat → Prop) (x : S41) {v1 : Value} (g1 : (Kd.int .u8).R 5 w base ok v1 x.f1) : k41.M w base ok x [.int .i64 x.f0, v1] := ⟨[.int .i64 x.f0], [v1], rfl, rfl, ⟨v1, rfl, g1⟩⟩
def rd_T41 (xs : List S41) (i : Int) : S41 := xs.getD i.toNat z41
theorem at_T41 {w : World} {A : Option Addr} {n : Nat} {xs : List S41} (h : Kd.C k41 w A n xs) (i : Int) (h0 : 0 ≤ i) (h1 : i < n) : ∃ ad A1 c1, A = some ad ∧ w.cell? (ad.add (i.toNat * 2)) = some (.int .i64 (rd_T41 xs i).f0) ∧ w.cell? ⟨(ad.add (i.toNat * 2)).block, (ad.add (i.toNat * 2)).off + 1, none⟩ = some (.slice A1 (rd_T41 xs i).f1.length c1) ∧ (rd_T41 xs i).f1.length ≤ c1 ∧ (Kd.int .u8).C w A1 (rd_T41 xs i).f1.length (rd_T41 xs i).f1 := by
  obtain ⟨ad, c, e, _, hK, hc0⟩ := Kd.C_get h z41 i h0 h1
  have hc : ∀ j u, c[j]? = some u → w.cell? (ad.add (i.toNat * 2 + j)) = some u := hc0
  obtain ⟨A1, c1, rfl, l1, g1⟩ := k41_open hK
  exact ⟨ad, A1, c1, e, hc 0 _ rfl, by rw [← add_field _ _ 1 (by omega)]; exact hc 1 _ rfl, l1, g1⟩

end Go.Proofs.Ytdheoajaaofmbaa.QFnScriptPlaces

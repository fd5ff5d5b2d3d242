/- What the print takes stand-ins for, as it is. -/
import Derived.Test.YtbbeedclkfcmeaaDoorBl4
import Derived.Test.YtbbeedclkfcmeaaDoorRb1
namespace Go.Proofs.YtbbeedclkfcmeaaDoor.KFnReadBech32
open Go.RowKit Go.Proofs.YtbbeedclkfcmeaaDoorW.PrintWords Go.Proofs.YtbbeedclkfcmeaaDoorW.PrintLast Go.Proofs.YtbbeedclkfcmeaaDoorW.PrintMore Go.Proofs.YtbbeedclkfcmeaaDoor.Snk
set_option linter.unusedVariables false
set_option linter.unusedSimpArgs false
theorem bytesOf_byte (s : ByteArray) : ByteL (bytesOf s) := fun x hx => by
  unfold bytesOf at hx
  obtain ⟨b, _, rfl⟩ := List.mem_map.1 hx
  have := b.toNat_lt
  omega
theorem str_bytesOf (s : ByteArray) : strOfNums (bytesOf s) = s := by
  have h := nums_data (bytesOf_byte s)
  have h2 : (strOfNums (bytesOf s)).data.toList.map (fun b => (b.toNat : Int)) = s.data.toList.map (fun b => (b.toNat : Int)) := h
  have inj : ∀ a b : UInt8, (fun b : UInt8 => (b.toNat : Int)) a = (fun b : UInt8 => (b.toNat : Int)) b → a = b := fun a b e => by
    have : a.toNat = b.toNat := Int.ofNat.inj e
    exact UInt8.toNat_inj.1 this
  have h3 : (strOfNums (bytesOf s)).data.toList = s.data.toList := List.map_inj_right (f := fun b : UInt8 => (b.toNat : Int)) (fun a b => inj a b) |>.1 h2
  have h4 := Array.toList_inj.1 h3
  cases hs : strOfNums (bytesOf s); cases hs2 : s
  rw [hs, hs2] at h4
  simp only at h4
  rw [h4]
def spec_lower.f (a0 : ByteArray) : Option (ByteArray) := if a0.size ≤ 1000 then some (strOfNums ((bytesOf a0).map lowB)) else none
theorem spec_lower.calls (a0 : ByteArray) (r : ByteArray) (w : World) (h : spec_lower.f a0 = some r) :
    Calls Tryd.prog 8 #[.string a0] w fun e w' => e = .returned (.string r) ∧ Below w.heap.size w w' := by
  unfold spec_lower.f at h
  split at h
  · rename_i hs
    obtain rfl := Option.some.inj h
    have := lowerC (bytesOf a0) (bytesOf_byte a0) (by rw [bytesOf_length]; exact hs) w
    rwa [str_bytesOf] at this
  · cases h
def bech32_lower.f (a0 : ByteArray) : Option (ByteArray) := if a0.size ≤ 1000 then some (strOfNums ((bytesOf a0).map lowB)) else none
theorem bech32_lower.calls (a0 : ByteArray) (r : ByteArray) (w : World) (h : bech32_lower.f a0 = some r) :
    Calls Tryd.prog 15 #[.string a0] w fun e w' => e = .returned (.string r) ∧ Below w.heap.size w w' := by
  unfold bech32_lower.f at h
  split at h
  · rename_i hs
    obtain rfl := Option.some.inj h
    have := blowerC (bytesOf a0) (bytesOf_byte a0) (by rw [bytesOf_length]; exact hs) w
    rwa [str_bytesOf] at this
  · cases h
def strings_IndexByte.f (a0 : ByteArray) (a1 : Int) : Option (Int) := some (Go.Lib.indexByte a0.data.toList a1.toNat.toUInt8)
theorem strings_IndexByte.calls (a0 : ByteArray) (a1 : Int) (r : Int) (w : World) (h : strings_IndexByte.f a0 a1 = some r) :
    Calls Tryd.prog 23 #[.string a0, .int .u8 a1] w fun e w' => e = .returned (.int .i64 r) ∧ Drawn0 w w' := by
  obtain rfl := Option.some.inj h
  refine (Any.strings_IndexByte Tryd.lays137 a0 a1 w).mono ?_
  rintro e w' ⟨rfl, rfl⟩
  exact ⟨rfl, Drawn0.refl _⟩
instance byteDec (l : List Int) : Decidable (ByteL l) := by unfold ByteL; infer_instance
def bech32_bech32Polymod.f (a0 : ByteArray) (l1 : List Int) (l2 : List Int) : Option (Int) :=
  if a0.size ≤ 1000 ∧ l1.length ≤ 1000 ∧ l2.length = 6 ∧ ByteL l1 ∧ ByteL l2 then some (polyN (bytesOf a0) l1 (l2.map Int.toNat) : Nat) else none
def GenS (w : World) : Prop := ∃ G cap, GenH w G cap
theorem GenS.below {w w1 : World} (h : GenS w) (hb : Below w.heap.size w w1) : GenS w1 := by
  obtain ⟨G, cap, hv, hc⟩ := h
  refine ⟨G, cap, (World.cell?_of_block (w := w) (hb.block _ (World.block_lt_of_cell? w _ hv))).trans hv, fun j hj => ?_⟩
  have h1 := hc j hj
  exact (World.cell?_of_block (w := w) (hb.block _ (World.block_lt_of_cell? w _ h1))).trans h1
theorem GenS.drawn {w w1 : World} (h : GenS w) (hb : Drawn0 w w1) : GenS w1 := h.below hb.below
theorem bech32_bech32Polymod.calls (a0 : ByteArray) (A1 : Option Addr) (c1 : Nat) (l1 : List Int) (A2 : Option Addr) (c2 : Nat) (l2 : List Int) (r : Int) (w : World) (hr1 : Kd.C (Kd.int .u8) w A1 l1.length l1) (hc1 : l1.length ≤ c1) (hr2 : Kd.C (Kd.int .u8) w A2 l2.length l2) (hc2 : l2.length ≤ c2) (h : bech32_bech32Polymod.f a0 l1 l2 = some r) (HG : GenS w) :
    Calls Tryd.prog 24 #[.string a0, .slice A1 l1.length c1, .slice A2 l2.length c2] w fun e w' => e = .returned (.int .i64 r) ∧ Drawn0 w w' := by
  unfold bech32_bech32Polymod.f at h
  split at h
  · rename_i hs
    obtain ⟨h1, h2, h3, h4, h5⟩ := hs
    obtain rfl := Option.some.inj h
    obtain ⟨G, cap, hg⟩ := HG
    have r2 : ReadsInt w .u8 A2 l2.length l2 := Kd.reads_of_C hr2
    obtain ⟨ad2, rfl, _⟩ := r2.2.2 (by omega)
    have := polySC (bytesOf a0) l1 (bytesOf_byte a0) (by rw [bytesOf_length]; exact h1) h4 l1.length rfl h2 A1 c1 l2 h5 l2.length rfl (by omega) ad2 c2 w r2 G cap hg (Kd.reads_of_C hr1)
    rw [str_bytesOf] at this
    refine this.mono ?_
    rintro e w' ⟨rfl, rfl⟩
    exact ⟨rfl, Drawn0.refl _⟩
  · cases h
end Go.Proofs.YtbbeedclkfcmeaaDoor.KFnReadBech32

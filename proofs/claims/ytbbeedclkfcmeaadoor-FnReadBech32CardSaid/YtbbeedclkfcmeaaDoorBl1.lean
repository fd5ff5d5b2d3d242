/- bech32.lower. -/
import Derived.Test.YtbbeedclkfcmeaaDoorStr
namespace Go.Proofs.YtbbeedclkfcmeaaDoor.Snk
open Go.RowKit Go.Proofs.YtbbeedclkfcmeaaDoorW.PrintWords Go.Proofs.YtbbeedclkfcmeaaDoorW.PrintLast Go.Proofs.YtbbeedclkfcmeaaDoorW.PrintMore
set_option linter.unusedVariables false
set_option linter.unusedSimpArgs false
set_option maxRecDepth 100000 in
set_option maxHeartbeats 4000000 in
theorem blowerC (l : List Int) (hl : ByteL l) (hn : l.length ≤ 1000) (w : World) : Calls Tryd.prog 15 #[.string (strOfNums l)] w fun e w' => e = .returned (.string (strOfNums (l.map lowB))) ∧ Below w.heap.size w w' := by
  have HL := Aside0.mk hl
  have HN := Aside0.mk hn
  have HST : Aside0 (∀ w1 : World, ∃ g c W', (convert 9 22 (.string (strOfNums l))).run Tryd.prog w1 = .ok (.slice (some ⟨g, 0, none⟩) l.length c) W' ∧ BR W' g l ∧ l.length ≤ c ∧ w1.heap.size ≤ g ∧ Below w1.heap.size w1 W') := ⟨fun w1 => strBR hl hn w1⟩
  obtain ⟨g, c, w1, hcv, hbr, hcc, hgg, hbl⟩ := HST.out w
  have HCV := Aside0.mk hcv
  have HBR := Aside0.mk hbr
  have HGG := Aside0.mk hgg
  have HBL := Aside0.mk hbl
  obtain ⟨s, hs⟩ : ∃ s, strOfNums l = s := ⟨_, rfl⟩
  rw [hs] at HCV ⊢
  have hcs : Aside0 (strOfNums (l.map lowB) = strOfNums (low l.length l)) := ⟨by rw [low_all]⟩
  rw [hcs.out]
  clear hl hn HST hcv hbr hcc hgg hbl hs hcs
  go_enter Tryd.func15, Tryd.ntmps15
  go_upto_region 3 with ((with_reducible refine at_dst (N := 6) rfl ?_); refine wpList_run rfl _ (conv_op3 9 22 (.tmp 5) rfl rfl HCV.out) ?_)
  go_loopw [4] (fun v4 wr => ∃ i : Nat, i ≤ l.length ∧ v4 = .int .i64 i ∧ Aside0 (BR wr g (low i l)) ∧ Aside0 (Below w.heap.size w wr)) (fun v4 _ => l.length - (intOf v4).toNat)
  case atStart => exact ⟨0, Nat.zero_le _, rfl, ⟨by unfold low; exact HBR.out⟩, HBL⟩
  case round =>
    obtain ⟨i, hi, rfl, HB, HW⟩ := hrel
    by_cases hlt : i < l.length
    · have HLT := Aside0.mk hlt
      have hb := HL.out.at i
      have hc := HB.out.cell i (by rw [low_len]; exact hlt)
      have hf := HB.out.frozen i (by rw [low_len]; exact hlt)
      rw [low_at i l hlt] at hc
      have HSU := Aside0.mk (low_succ i l hlt)
      obtain ⟨x, hx⟩ : ∃ x, l.getD i 0 = x := ⟨_, rfl⟩
      rw [hx] at hc hb HSU
      have HXA := Aside0.mk hx
      have hlti : (i : Int) < (l.length : Int) := by omega
      have hi1 : (i : Int) + 1 ≤ 1000 := by have := HN.out; omega
      have HI1 : Aside0 (wrap64 ((i : Int) + 1) = (i : Int) + 1) := ⟨wrn _ (by omega) (by omega)⟩
      by_cases h65 : 65 ≤ x
      · by_cases h90 : x ≤ 90
        · have hu : IntKind.u8.wrap (x + 32) = x + 32 := u8wr (by omega) (by omega)
          have HE : Aside0 (lowB x = x + 32) := ⟨by unfold lowB; rw [if_pos ⟨h65, h90⟩]⟩
          have hi1' := HI1.out
          clear hi hlt hx
          go_wp2_with fail
          go_roundw
          case rel => exact ⟨i + 1, by have := HLT.out; omega, by go_num, ⟨by rw [← HSU.out, HE.out]; exact HB.out.set i _⟩, ⟨HW.out.trans ⟨rfl, rfl, rfl, by simp [World.setCell], fun k hk => ((Only.refl g wr).set _ _).block k (Nat.lt_of_lt_of_le hk HW.out.size) (by have := HGG.out; omega)⟩⟩⟩
          case measure => simp [intOf]; have := HLT.out; clear hi1' hu; omega
        · have HE : Aside0 (lowB x = x) := ⟨by unfold lowB; rw [if_neg (by omega)]⟩
          have HS : Aside0 (low (i + 1) l = low i l) := ⟨by
            rw [← HSU.out, HE.out]
            have e := low_at i l HLT.out
            rw [hx] at e
            refine List.ext_getElem? fun t => ?_
            rw [List.getElem?_set]
            split
            · rename_i h1; subst h1
              rw [if_pos (by rw [low_len]; exact HLT.out)]
              rw [List.getD_eq_getElem?_getD, List.getElem?_eq_getElem (by rw [low_len]; exact HLT.out)] at e
              rw [List.getElem?_eq_getElem (by rw [low_len]; exact HLT.out)]
              exact congrArg some e.symm
            · rfl⟩
          have hi1' := HI1.out
          clear hi hlt hx
          go_wp2_with fail
          go_roundw
          case rel => exact ⟨i + 1, by have := HLT.out; omega, by go_num, ⟨by rw [HS.out]; exact HB.out⟩, HW⟩
          case measure => simp [intOf]; have := HLT.out; clear hi1'; omega
      · have HE : Aside0 (lowB x = x) := ⟨by unfold lowB; rw [if_neg (by omega)]⟩
        have HS : Aside0 (low (i + 1) l = low i l) := ⟨by
            rw [← HSU.out, HE.out]
            have e := low_at i l HLT.out
            rw [hx] at e
            refine List.ext_getElem? fun t => ?_
            rw [List.getElem?_set]
            split
            · rename_i h1; subst h1
              rw [if_pos (by rw [low_len]; exact HLT.out)]
              rw [List.getD_eq_getElem?_getD, List.getElem?_eq_getElem (by rw [low_len]; exact HLT.out)] at e
              rw [List.getElem?_eq_getElem (by rw [low_len]; exact HLT.out)]
              exact congrArg some e.symm
            · rfl⟩
        have hi1' := HI1.out
        clear hi hlt hx
        go_wp2_with fail
        go_roundw
        case rel => exact ⟨i + 1, by have := HLT.out; omega, by go_num, ⟨by rw [HS.out]; exact HB.out⟩, HW⟩
        case measure => simp [intOf]; have := HLT.out; clear hi1'; omega
    · obtain rfl : i = l.length := by omega
      have hge : ¬ (l.length : Int) < (l.length : Int) := by omega
      have HRD : Aside0 (ReadsInt wr .u8 (some ⟨g, 0, none⟩) l.length (low l.length l)) := ⟨by have q := HB.out.reads (by rw [low_len]; have := HN.out; omega); rw [low_len] at q; exact q⟩
      clear hi hlt
      go_wp2_with ((with_reducible refine at_dst (N := 32) rfl ?_); refine wpList_run rfl _ (conv_op3 22 9 (.tmp 31) rfl rfl (string_of_reads Tryd.underlying22 Tryd.underlying5 Tryd.underlying9 HRD.out)) ?_)
      go_ret
      exact ⟨rfl, HW.out⟩
end Go.Proofs.YtbbeedclkfcmeaaDoor.Snk

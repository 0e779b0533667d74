/-
  THE ROW of FnReaderU32IsFourBytesLowFirst, and the tied card. After the guide's MapyProofs, MapyCard and the shell for slices of integers.
-/
import Derived.Test.Qxb6613453aDoorWalkD
import Derived.Test.Qxb6613453aDoorTie
import Derived.Test.Qxb6613453aDoorCards
import Derived.ProofKit
import Derived.LaidMore
import Derived.OpenShut
import Derived.Stop.Joined
import Derived.SevenTiedAt
import Derived.MakeChecks
import Derived.ChangeVars
import Derived.RowKitTokens
namespace Go.Proofs.Qxb6613453aDoor
open Go.ChangeShapes Go.WideShapes Go.ChangeAt Go.RowKit

theorem own : ownKnob Tryd.prog.godebug = none := by kernel_rfl
theorem laidOut : laidOutB Tryd.prog = true := by kernel_rfl
theorem gErr : Tryd.prog.globalNamed "example.com/coverweave/coverweave/internal/covdata.errEnd" = some 0 := by kernel_rfl
theorem tErr : (Tryd.prog.globals[0]?).map (·.type) = some 32 := by kernel_rfl

abbrev laid1 : List (String × DataW Unit) := Rows.fnReaderU32IsFourBytesLowFirstRow.laid

theorem door_met (os : Os) (args : Array Value) : laidMetH Tryd.prog laid1 ((World.doorLaid Tryd.prog 28 os).forCall (fun _ _ => 0) ⟨#[], args, []⟩).memory :=
  laidMetH_of_parts3 (fuel := 8) (laidMet_of_run' 8 (by kernel_rfl) (by kernel_rfl)) (by kernel_rfl) (by kernel_rfl)

/-- WHAT THE CONDITION GIVES THE WALK: errEnd holds an error. -/
theorem of_laid {W : World} (h : laidMetH Tryd.prog laid1 W) : ∃ T v, W.cell? ⟨0, 0, none⟩ = some (.iface T v) := by
  rw [MakeChecks.laidMetH_plain _ _ _ (by kernel_rfl)] at h
  obtain ⟨ps, ⟨g, t, cs, fuel, p, q, hg, ht, hv, hd, _, _⟩, _, _⟩ := h
  obtain rfl := Option.some.inj (gErr.symm.trans hg)
  obtain rfl := Option.some.inj (tErr.symm.trans ht)
  obtain ⟨_, u, x, hcs, _, _⟩ := iface_of_trod Tryd.underlying32 hd
  refine ⟨u, x, ?_⟩
  have := World.var?_cell hg hv 0
  obtain ⟨l⟩ := cs
  have hl : l = [.iface u x] := hcs
  subst hl
  simpa using this

set_option maxRecDepth 100000 in
theorem lifted (os : Os) (started : os.Started) (H : Type) (enc : TypeId × Value → H) :
    ReturnsInHanded {} Tryd.checked os 3 .any (fun w args => (Rows.fnReaderU32IsFourBytesLowFirstSpec.pre enc Tryd.prog Tryd.f3 [] false w args ∧ laidMetH Tryd.prog laid1 w) ∧ sizedMet enc Tryd.prog Tryd.f3 (OpenSpec.ofChange Rows.fnReaderU32IsFourBytesLowFirstSpec) false w args)
      (Rows.fnReaderU32IsFourBytesLowFirstSpec.post enc Tryd.prog Tryd.f3 false true false false) := by
  refine returnsInHanded_of_change_and (C := Tryd.checked) (X := fun w _ => laidMetH Tryd.prog laid1 w) (fun _ _ _ hh h => h.of_heap hh) own started (by kernel_rfl) Tryd.func3
    (ChangeSpec.witness_shaped (enc := enc) (C := Tryd.checked) (os := os) (X := fun w _ => laidMetH Tryd.prog laid1 w) false (World.doorLaid Tryd.prog 28 os) #[.slice none 0 0, .int .i64 0] 8 rfl (World.shaped_of_RefB (by kernel_rfl) (by kernel_rfl)) (by kernel_rfl) (by kernel_rfl) (by kernel_rfl) (door_met os _)) ?_
  intro W base args ds gs before hval0 hW _ _ hL _
  have hval : ∀ (j : Nat) t v, Tryd.f3.params[j]? = some t → args[j]? = some v → Value.okWide Tryd.prog W .any base t v := hval0
  have hW' := hW
  obtain ⟨p, q, hA0, hV0, rfl, hfz, hnd⟩ := hW
  have hA : DataW.TrodAll enc Tryd.prog W 0 (fun _ => true) true Tryd.f3.params.toList args.toList ds p := hA0
  have hV : DataW.TrodVars enc Tryd.prog W (fun _ => true) ["example.com/coverweave/coverweave/internal/covdata.errEnd"] gs q := hV0
  rw [Tryd.params3] at hA hval
  obtain ⟨v0, vs0, d0, ds0, p0, q0, hargs, rfl, rfl, h0, r0⟩ := trodAll_cons hA
  obtain ⟨v1, vs1, d1, ds1, p1, q1, rfl, rfl, rfl, h1, r1⟩ := trodAll_cons r0
  obtain ⟨rfl, rfl, rfl⟩ := trodAll_nil r1
  obtain rfl : args = #[v0, v1] := by cases args; simp_all
  obtain ⟨g, t, cs, fuel, dv, pv, rfl, hg, ht, hvar, hvt, rfl⟩ := trodVars_one hV
  obtain rfl := Option.some.inj (gErr.symm.trans hg)
  obtain rfl := Option.some.inj (tErr.symm.trans ht)
  obtain ⟨x, rfl, hx, rfl, rfl, hcx⟩ := token_of hg Tryd.underlying32 hvar hvt
  have hlt0 : 0 < W.heap.size := by
    by_cases hl : 0 < W.heap.size
    · exact hl
    · have : W.heap[0]? = none := Array.getElem?_eq_none (by omega)
      simp [World.cell?, this] at hcx
  obtain ⟨A, len, cap, rfl⟩ := okWide_slice Tryd.underlying22 (hval 0 22 v0 rfl rfl)
  have k0 := h0
  have lt0 : ∀ x ∈ p0, x.block < W.heap.size := by obtain ⟨m, hm⟩ := k0; exact DataW.trod_lt m _ _ _ hm
  obtain ⟨f, hsrc⟩ : ∃ f, Src W A len cap f := by
    obtain ⟨fuel, hf⟩ := h0
    rcases open_ints Tryd.underlying22 Tryd.underlying5 (by kernel_rfl) hf with ⟨hcs, _⟩ | ⟨x, l, c, zs, hcs, _, hl, hm, hz, _, hcell, hwz⟩
    · simp [Value.cells] at hcs
      obtain ⟨rfl, rfl, rfl⟩ := hcs
      exact ⟨fun _ => 0, .inl ⟨rfl, rfl, rfl⟩⟩
    · simp [Value.cells] at hcs
      obtain ⟨rfl, rfl, rfl⟩ := hcs
      by_cases hz0 : len = 0
      · exact ⟨fun _ => 0, .inr (.inl ⟨x, rfl, hz0⟩)⟩
      · obtain ⟨b, off, spot⟩ := x
        have hzl : zs.length = cap := by simpa using hz
        have hc0 := hcell 0 (by omega)
        have hspot : spot = none := by simpa [Addr.add] using World.cell?_spot hc0
        subst hspot
        refine ⟨fun i => zs.getD i 0, .inr (.inr ⟨b, off, rfl, ?_, fun i hi => ?_⟩)⟩
        · have hc1 : W.cell? ⟨b, off, none⟩ = some (.int .u8 (zs.getD 0 0)) := by simpa [Addr.add] using hc0
          exact block_lt_of_cell hc1
        · have e : (⟨b, off, none⟩ : Addr).add i = ⟨b, off + i, none⟩ := by unfold Addr.add; split <;> simp_all
          rw [← e]
          exact hcell i (by omega)
  obtain ⟨a1, rfl, rfl, rfl, w1⟩ := open_int Tryd.underlying3 (hval 1 3 v1 rfl rfl) h1
  obtain ⟨T, v, ce⟩ := of_laid hL
  clear hA0 hval0
  refine (law_any A len cap f a1 T v W hsrc ce hlt0).mono fun e W' ⟨he, bel⟩ => ?_
  subst he
  have hxc : x.cells.toList = [x] := by cases x <;> simp only [IsIface] at hx <;> rfl
  obtain ⟨m, hm⟩ := shut_held (enc := enc) (P := Tryd.prog) Tryd.underlying32 (W := W') (base := 0) (sp := fun b => decide (b < W.heap.size)) hx
  rw [hxc] at hm
  have vv : DataW.TrodVars enc Tryd.prog W' (fun b => decide (b < W.heap.size)) ["example.com/coverweave/coverweave/internal/covdata.errEnd"] [tok enc x] (MemPlace.row ⟨0, 0, none⟩ (#[x] : Array Value).size ++ []) :=
    trodVars_mk1 hg ht (var?_below bel hg hlt0 hvar) hm
  exact ⟨_, rfl, _, _, _, [], _, _, hW', trodAll_mk1 (shut_bool Tryd.underlying4 _), (trodAll_cons_mk (Below.trod laidOut (by kernel_rfl) (of_decide_eq_true (by kernel_rfl)) k0 bel lt0) (trodAll_cons_mk (shut_int Tryd.underlying3 w1) trodAll_mk0)), vv, bel.frame _, fun h => by cases h⟩

theorem fnReaderU32IsFourBytesLowFirst_row : Rows.FnReaderU32IsFourBytesLowFirstSaid :=
  OpenClaim.holds_of_wide 3 Tryd.f3 rfl rfl rfl rfl rfl rfl rfl ⟨rfl, rfl, rfl, rfl, rfl⟩ rfl rfl rfl rfl rfl (by kernel_rfl) Tryd.func3 (by kernel_rfl)
    (of_decide_eq_true (by kernel_rfl)) (by unfold Func.isWrapper; first | (rw [if_pos (by decide +kernel)]; kernel_rfl) | (rw [if_neg (by decide +kernel)]; exact ⟨rfl, rfl⟩))
    (fun os started H enc _ => lifted os started H enc)

theorem fnReaderU32IsFourBytesLowFirst_card : Rows.FnReaderU32IsFourBytesLowFirstCardSaid :=
  Claim7.holds_tied_plain_at .later [] [.sentinel] true (true, "953cdba449c1e199c7a8cdb1a201dcb30868d56c7722038c24724bbc1a6e277a") false
    fnReaderU32IsFourBytesLowFirst_row (fun _ h => by cases h) (by kernel_rfl) (fun _ h => by cases h) fnReaderU32IsFourBytesLowFirst_row_tie rfl ⟨rfl, rfl⟩ (by kernel_rfl) rfl
    (fun f fn hf hfn => by
      obtain rfl : f = 3 := Option.some.inj ((show Tryd.prog.funcNamed Rows.fnReaderU32IsFourBytesLowFirstRow.func = some 3 by kernel_rfl).symm.trans hf) |>.symm
      obtain rfl : fn = Tryd.f3 := (Option.some.inj (Tryd.func3.symm.trans hfn)).symm
      exact ⟨by kernel_rfl, fun j t ht => by
        rw [Tryd.params3] at ht
        have hm : t ∈ [22, 3] := by simpa using Array.mem_of_getElem? ht
        have hall : ([22, 3].all fun u => !Tryd.prog.wantsStandIn u) = true := by kernel_rfl
        exact (show Tryd.prog.wantsStandIn t = false by simpa using List.all_eq_true.1 hall t hm)⟩)
    (by kernel_rfl)
end Go.Proofs.Qxb6613453aDoor

/-
  THE WALK of member.fix.
-/
import Derived.Test.Qxb6613283aMem
import Derived.Test.Qxb6613283aTreeA
import Derived.Deep.RegionWith
import Derived.Deep.DeepCutAuto
namespace Go.Proofs.Qxb6613283a
open Go.RowKit

/-- Where fix's walk stands: the member's block, and that no other block has turned. -/
structure FixSt (w W : World) (b ep : Nat) (c sz fm : Int) (l r : Value) (me sm : Int) : Prop where
  hb : W.heap[b]? = some (.cells (MC ep c sz fm l r me sm) 51)
  upd : Upd b w W
  hs : W.heap.size = w.heap.size

/-- A child: nil, or a member elsewhere with its four sums. -/
def Kid (w : World) (b : Nat) (v : Option Addr) (sz fm me sm : Int) : Prop :=
  (v = none ∧ sz = 0 ∧ fm = 0 ∧ me = 9223372036854775807 ∧ sm = 0) ∨
  ∃ x, v = some ⟨x, 0, none⟩ ∧ x ≠ b ∧ x < w.heap.size ∧ w.cell? ⟨x, 2, none⟩ = some (.int .i32 sz) ∧ w.cell? ⟨x, 3, none⟩ = some (.int .i32 fm) ∧ w.cell? ⟨x, 6, none⟩ = some (.int .i64 me) ∧ w.cell? ⟨x, 7, none⟩ = some (.int .u64 sm)

theorem FixSt.cell {w W : World} {b ep : Nat} {c sz fm : Int} {l r : Value} {me sm : Int} (h : FixSt w W b ep c sz fm l r me sm) {k o : Nat} (hk : k < w.heap.size) (hne : k ≠ b) : W.cell? ⟨k, o, none⟩ = w.cell? ⟨k, o, none⟩ :=
  World.cell?_of_block (h.upd.block k hk hne)

theorem minI_lt {a b : Int} (h : b < a) : minI a b = b := by unfold minI; rw [if_pos h]
theorem minI_ge {a b : Int} (h : a ≤ b) : minI a b = a := by unfold minI; rw [if_neg (by omega)]
theorem ix0 (a b : Option Addr) (w : World) : (Instr.index 78 (.agg #[.pointer a, .pointer b]) (.int .i64 0)).run Try.prog w = .ok (.pointer a) w := by kernel_rfl
theorem ix1 (a b : Option Addr) (w : World) : (Instr.index 78 (.agg #[.pointer a, .pointer b]) (.int .i64 1)).run Try.prog w = .ok (.pointer b) w := by kernel_rfl
theorem addM_zero {a : Int} (h : 0 ≤ a ∧ a < MP) : addM a 0 = a := by unfold addM; rw [Int.add_zero]; exact Int.emod_eq_of_lt h.1 h.2
theorem minI_max {a : Int} (h : a ≤ 9223372036854775807) : minI a 9223372036854775807 = a := by unfold minI; rw [if_neg (by omega)]

set_option maxHeartbeats 4000000 in
set_option maxRecDepth 100000 in
theorem fix_32 (w : World) (b ep : Nat) (c : Nat) (sz fm : Int) (lo ro : Option Addr) (me sm fin : Int) (hv : Nat) (pend : Bool) (sl fl ml ul sr fr mr ur : Int) (hb : w.heap[b]? = some (.cells (MC ep c sz fm (.pointer lo) (.pointer ro) me sm) 51))
    (hne : ep ≠ b) (hep : ep < w.heap.size) (e5 : w.cell? ⟨ep, 5, none⟩ = some (.int .i64 fin)) (e6 : w.cell? ⟨ep, 6, none⟩ = some (.bool pend)) (e7 : w.cell? ⟨ep, 7, none⟩ = some (.int .u64 hv))
    (hhv : hv < 2305843009213693951) (hkl : Kid w b lo sl fl ml ul) (hkr : Kid w b ro sr fr mr ur)
    (hbl : 0 ≤ sl ∧ 0 ≤ fl ∧ 0 ≤ sr ∧ 0 ≤ fr ∧ c + sl + sr ≤ 1048576 ∧ c + fl + fr ≤ 1048576 ∧ fin ≤ 9223372036854775807) (hu : 0 ≤ ul ∧ ul < MP ∧ 0 ≤ ur ∧ ur < MP) (hml : ml ≤ 9223372036854775807) :
    Calls Try.prog 32 #[.pointer (some ⟨b, 0, none⟩)] w fun e w' => e = .returned (.pointer (some ⟨b, 0, none⟩)) ∧
      FixSt w w' b ep c (c + sl + sr) ((if pend then 0 else (c : Int)) + fl + fr) (.pointer lo) (.pointer ro) (minI (minI (if pend then 9223372036854775807 else fin) ml) mr) (addM (addM (((hv : Int) * c) % MP) ul) ur) := by
  have HE : Hid (w.cell? ⟨ep, 5, none⟩ = some (.int .i64 fin) ∧ w.cell? ⟨ep, 6, none⟩ = some (.bool pend) ∧ w.cell? ⟨ep, 7, none⟩ = some (.int .u64 hv)) := ⟨e5, e6, e7⟩
  have HS : Hid (FixSt w w b ep c sz fm (.pointer lo) (.pointer ro) me sm) := ⟨hb, Upd.refl _ _, rfl⟩
  have HK : Hid (Kid w b lo sl fl ml ul ∧ Kid w b ro sr fr mr ur) := ⟨hkl, hkr⟩
  have hwc : IntKind.u64.wrap (c : Int) = (c : Int) := by rw [IntKind.wrap_u64]; omega
  have hmm := fun W => mulMod_46 hv c hhv (by omega) W
  obtain ⟨u0, hu0⟩ : ∃ u0, u0 = ((hv : Int) * c) % MP := ⟨_, rfl⟩
  have hu0r : 0 ≤ u0 ∧ u0 < MP := by rw [hu0]; exact ⟨Int.emod_nonneg _ (by unfold MP; omega), Int.emod_lt_of_pos _ (by unfold MP; omega)⟩
  rw [← hu0] at hmm ⊢
  have hu1r : 0 ≤ addM u0 ul ∧ addM u0 ul < MP := ⟨Int.emod_nonneg _ (by unfold MP; omega), Int.emod_lt_of_pos _ (by unfold MP; omega)⟩
  clear hb e5 e6 e7 hkl hkr hhv hu0
  have c0 : w.cell? ⟨b, 0, none⟩ = some (.pointer (some ⟨ep, 0, none⟩)) := by rw [bcell HS.out.hb]; rfl
  have c1 : w.cell? ⟨b, 1, none⟩ = some (.int .i32 c) := by rw [bcell HS.out.hb]; rfl
  have c2 : w.cell? ⟨b, 2, none⟩ = some (.int .i32 sz) := by rw [bcell HS.out.hb]; rfl
  have c3 : w.cell? ⟨b, 3, none⟩ = some (.int .i32 fm) := by rw [bcell HS.out.hb]; rfl
  have c4 : w.cell? ⟨b, 4, none⟩ = some (.pointer lo) := by rw [bcell HS.out.hb]; rfl
  have c5 : w.cell? ⟨b, 5, none⟩ = some (.pointer ro) := by rw [bcell HS.out.hb]; rfl
  have c6 : w.cell? ⟨b, 6, none⟩ = some (.int .i64 me) := by rw [bcell HS.out.hb]; rfl
  have c7 : w.cell? ⟨b, 7, none⟩ = some (.int .u64 sm) := by rw [bcell HS.out.hb]; rfl
  have f2 : w.frozen? ⟨b, 2, none⟩ = false := bfz HS.out.hb 2
  have f3 : w.frozen? ⟨b, 3, none⟩ = false := bfz HS.out.hb 3
  have f6 : w.frozen? ⟨b, 6, none⟩ = false := bfz HS.out.hb 6
  have f7 : w.frozen? ⟨b, 7, none⟩ = false := bfz HS.out.hb 7
  have e5 : w.cell? ⟨ep, 5, none⟩ = some (.int .i64 fin) := (HS.out.cell hep hne).trans HE.out.1
  have e6 : w.cell? ⟨ep, 6, none⟩ = some (.bool pend) := (HS.out.cell hep hne).trans HE.out.2.1
  have e7 : w.cell? ⟨ep, 7, none⟩ = some (.int .u64 hv) := (HS.out.cell hep hne).trans HE.out.2.2
  go_enter Try.func32, Try.ntmps32
  go_wp2_with fail
  go_region
  clear c0 c1 c2 c3 c4 c5 c6 c7 f2 f3 f6 f7 e5 e6 e7
  obtain ⟨W1, hW⟩ : ∃ W1, W1 = (((w.setCell ⟨b, 2, none⟩ (.int .i32 c)).setCell ⟨b, 3, none⟩ (.int .i32 c)).setCell ⟨b, 6, none⟩ (.int .i64 fin)).drew := ⟨_, rfl⟩
  have HS1 : Hid (FixSt w W1 b ep c c c (.pointer lo) (.pointer ro) fin sm) := by
    rw [hW]
    exact ⟨bset6 (bset3 (bset2 HS.out.hb _) _) _, (((HS.out.upd.setCell 2 _).setCell 3 _).setCell 6 _).drew _, by simp [World.setCell, World.drew]⟩
  rw [← hW]
  clear hW HS
  have c0 : W1.cell? ⟨b, 0, none⟩ = some (.pointer (some ⟨ep, 0, none⟩)) := by rw [bcell HS1.out.hb]; rfl
  have c1 : W1.cell? ⟨b, 1, none⟩ = some (.int .i32 c) := by rw [bcell HS1.out.hb]; rfl
  have c2 : W1.cell? ⟨b, 2, none⟩ = some (.int .i32 c) := by rw [bcell HS1.out.hb]; rfl
  have c3 : W1.cell? ⟨b, 3, none⟩ = some (.int .i32 c) := by rw [bcell HS1.out.hb]; rfl
  have c4 : W1.cell? ⟨b, 4, none⟩ = some (.pointer lo) := by rw [bcell HS1.out.hb]; rfl
  have c5 : W1.cell? ⟨b, 5, none⟩ = some (.pointer ro) := by rw [bcell HS1.out.hb]; rfl
  have c6 : W1.cell? ⟨b, 6, none⟩ = some (.int .i64 fin) := by rw [bcell HS1.out.hb]; rfl
  have c7 : W1.cell? ⟨b, 7, none⟩ = some (.int .u64 sm) := by rw [bcell HS1.out.hb]; rfl
  have f2 : W1.frozen? ⟨b, 2, none⟩ = false := bfz HS1.out.hb 2
  have f3 : W1.frozen? ⟨b, 3, none⟩ = false := bfz HS1.out.hb 3
  have f6 : W1.frozen? ⟨b, 6, none⟩ = false := bfz HS1.out.hb 6
  have f7 : W1.frozen? ⟨b, 7, none⟩ = false := bfz HS1.out.hb 7
  have e5 : W1.cell? ⟨ep, 5, none⟩ = some (.int .i64 fin) := (HS1.out.cell hep hne).trans HE.out.1
  have e6 : W1.cell? ⟨ep, 6, none⟩ = some (.bool pend) := (HS1.out.cell hep hne).trans HE.out.2.1
  have e7 : W1.cell? ⟨ep, 7, none⟩ = some (.int .u64 hv) := (HS1.out.cell hep hne).trans HE.out.2.2
  cases pend with
  | false =>

    go_wp2_with fail
    go_cut [] (fun wx => wx = (W1.setCell ⟨b, 7, none⟩ (.int .u64 u0)).drew)
    case first =>
      go_region_with (go_at_call 46; refine (hmm _).mono ?_; rintro e w' ⟨rfl, rfl⟩)
      all_goals (go_wp2_with fail; go_meet; rfl)
    case rest =>
      subst hcut
      clear c0 c1 c2 c3 c4 c5 c6 c7 f2 f3 f6 f7 e5 e6 e7
      obtain ⟨W2, hW⟩ : ∃ W2, W2 = (W1.setCell ⟨b, 7, none⟩ (.int .u64 u0)).drew := ⟨_, rfl⟩
      obtain ⟨fm0, hfm⟩ : ∃ fm0, fm0 = (c : Int) := ⟨_, rfl⟩
      obtain ⟨me0, hme⟩ : ∃ me0, me0 = fin := ⟨_, rfl⟩
      have hfb : 0 ≤ fm0 ∧ fm0 ≤ c := by omega
      have hmb : me0 ≤ 9223372036854775807 := by omega
      have HFM : Hid (fm0 = (c : Int) ∧ me0 = fin) := ⟨hfm, hme⟩
      have HS2 : Hid (FixSt w W2 b ep c c fm0 (.pointer lo) (.pointer ro) me0 u0) := by
        rw [hW, hfm, hme]
        exact ⟨bset7 HS1.out.hb _, (HS1.out.upd.setCell _ _).drew _, by have := HS1.out.hs; simpa [World.setCell, World.drew] using this⟩
      rw [← hW]
      clear hW HS1 hmm hwc hfm hme
      have c0 : W2.cell? ⟨b, 0, none⟩ = some (.pointer (some ⟨ep, 0, none⟩)) := by rw [bcell HS2.out.hb]; rfl
      have c1 : W2.cell? ⟨b, 1, none⟩ = some (.int .i32 c) := by rw [bcell HS2.out.hb]; rfl
      have c2 : W2.cell? ⟨b, 2, none⟩ = some (.int .i32 c) := by rw [bcell HS2.out.hb]; rfl
      have c3 : W2.cell? ⟨b, 3, none⟩ = some (.int .i32 fm0) := by rw [bcell HS2.out.hb]; rfl
      have c4 : W2.cell? ⟨b, 4, none⟩ = some (.pointer lo) := by rw [bcell HS2.out.hb]; rfl
      have c5 : W2.cell? ⟨b, 5, none⟩ = some (.pointer ro) := by rw [bcell HS2.out.hb]; rfl
      have c6 : W2.cell? ⟨b, 6, none⟩ = some (.int .i64 me0) := by rw [bcell HS2.out.hb]; rfl
      have c7 : W2.cell? ⟨b, 7, none⟩ = some (.int .u64 u0) := by rw [bcell HS2.out.hb]; rfl
      have f2 : W2.frozen? ⟨b, 2, none⟩ = false := bfz HS2.out.hb 2
      have f3 : W2.frozen? ⟨b, 3, none⟩ = false := bfz HS2.out.hb 3
      have f6 : W2.frozen? ⟨b, 6, none⟩ = false := bfz HS2.out.hb 6
      have f7 : W2.frozen? ⟨b, 7, none⟩ = false := bfz HS2.out.hb 7
      have e5 : W2.cell? ⟨ep, 5, none⟩ = some (.int .i64 fin) := (HS2.out.cell hep hne).trans HE.out.1
      have e6 : W2.cell? ⟨ep, 6, none⟩ = some (.bool false) := (HS2.out.cell hep hne).trans HE.out.2.1
      have e7 : W2.cell? ⟨ep, 7, none⟩ = some (.int .u64 hv) := (HS2.out.cell hep hne).trans HE.out.2.2
      go_wp2_with fail
      go_quiet (fail)
      clear c0 c1 c2 c3 c4 c5 c6 c7 f2 f3 f6 f7 e5 e6 e7
      obtain ⟨W3, hW⟩ : ∃ W3, W3 = W2.drewN nq := ⟨_, rfl⟩
      have HS3 : Hid (FixSt w W3 b ep c c fm0 (.pointer lo) (.pointer ro) me0 u0) := by
        rw [hW]
        exact ⟨HS2.out.hb, HS2.out.upd.drew _, HS2.out.hs⟩
      rw [← hW]
      clear hW HS2
      go_wp2_with fail
      go_loopg [67] 2 (fun gf iv wr => (gf = 2 ∧ iv = .int .i64 0 ∧ FixSt w wr b ep c c fm0 (.pointer lo) (.pointer ro) me0 u0) ∨ (gf = 1 ∧ iv = .int .i64 1 ∧ FixSt w wr b ep c (c + sl) (fm0 + fl) (.pointer lo) (.pointer ro) (minI me0 ml) (addM u0 ul)) ∨ (gf = 0 ∧ iv = .int .i64 2 ∧ FixSt w wr b ep c (c + sl + sr) (fm0 + fl + fr) (.pointer lo) (.pointer ro) (minI (minI me0 ml) mr) (addM (addM u0 ul) ur)))
      case atStart => exact .inl ⟨rfl, rfl, HS3.out⟩
      case round =>
        clear HS3
        rcases hrel with ⟨hg, rfl, hst⟩ | ⟨hg, rfl, hst⟩ | ⟨hg, rfl, hst⟩
        · have HR : Hid (FixSt w wr b ep c c fm0 (.pointer lo) (.pointer ro) me0 u0) := hst
          have HG : Hid (gk = 2) := hg
          clear hst hg
          have hix := ix0 lo ro
          rcases HK.out.1 with ⟨rfl, rfl, rfl, rfl, rfl⟩ | ⟨x, rfl, x1, x2, x3, x4, x5, x6⟩
          · go_wp2_with fail
            go_roundg 1
            case rel => exact .inr (.inl ⟨rfl, by go_num, by have h := HR.out; simp only [addM_zero hu0r, minI_max (show me0 ≤ 9223372036854775807 by omega), Int.add_zero]; exact h⟩)
            case measure => have := HG.out; omega
          · have HX : Hid (x ≠ b ∧ x < w.heap.size ∧ w.cell? ⟨x, 2, none⟩ = some (.int .i32 sl) ∧ w.cell? ⟨x, 3, none⟩ = some (.int .i32 fl) ∧ w.cell? ⟨x, 6, none⟩ = some (.int .i64 ml) ∧ w.cell? ⟨x, 7, none⟩ = some (.int .u64 ul)) := ⟨x1, x2, x3, x4, x5, x6⟩
            clear x1 x2 x3 x4 x5 x6
            have c0 : wr.cell? ⟨b, 0, none⟩ = some (.pointer (some ⟨ep, 0, none⟩)) := by rw [bcell HR.out.hb]; rfl
            have c1 : wr.cell? ⟨b, 1, none⟩ = some (.int .i32 c) := by rw [bcell HR.out.hb]; rfl
            have c2 : wr.cell? ⟨b, 2, none⟩ = some (.int .i32 c) := by rw [bcell HR.out.hb]; rfl
            have c3 : wr.cell? ⟨b, 3, none⟩ = some (.int .i32 fm0) := by rw [bcell HR.out.hb]; rfl
            have c4 : wr.cell? ⟨b, 4, none⟩ = some (.pointer (some ⟨x, 0, none⟩)) := by rw [bcell HR.out.hb]; rfl
            have c5 : wr.cell? ⟨b, 5, none⟩ = some (.pointer ro) := by rw [bcell HR.out.hb]; rfl
            have c6 : wr.cell? ⟨b, 6, none⟩ = some (.int .i64 me0) := by rw [bcell HR.out.hb]; rfl
            have c7 : wr.cell? ⟨b, 7, none⟩ = some (.int .u64 u0) := by rw [bcell HR.out.hb]; rfl
            have f2 : wr.frozen? ⟨b, 2, none⟩ = false := bfz HR.out.hb 2
            have f3 : wr.frozen? ⟨b, 3, none⟩ = false := bfz HR.out.hb 3
            have f6 : wr.frozen? ⟨b, 6, none⟩ = false := bfz HR.out.hb 6
            have f7 : wr.frozen? ⟨b, 7, none⟩ = false := bfz HR.out.hb 7
            have e5 : wr.cell? ⟨ep, 5, none⟩ = some (.int .i64 fin) := (HR.out.cell hep hne).trans HE.out.1
            have e6 : wr.cell? ⟨ep, 6, none⟩ = some (.bool false) := (HR.out.cell hep hne).trans HE.out.2.1
            have e7 : wr.cell? ⟨ep, 7, none⟩ = some (.int .u64 hv) := (HR.out.cell hep hne).trans HE.out.2.2
            have k2 : wr.cell? ⟨x, 2, none⟩ = some (.int .i32 sl) := (HR.out.cell HX.out.2.1 HX.out.1).trans HX.out.2.2.1
            have k3 : wr.cell? ⟨x, 3, none⟩ = some (.int .i32 fl) := (HR.out.cell HX.out.2.1 HX.out.1).trans HX.out.2.2.2.1
            have k6 : wr.cell? ⟨x, 6, none⟩ = some (.int .i64 ml) := (HR.out.cell HX.out.2.1 HX.out.1).trans HX.out.2.2.2.2.1
            have k7 : wr.cell? ⟨x, 7, none⟩ = some (.int .u64 ul) := (HR.out.cell HX.out.2.1 HX.out.1).trans HX.out.2.2.2.2.2
            have hws : IntKind.i32.wrap (c + sl) = c + sl := by rw [IntKind.wrap_i32]; omega
            have hwf : IntKind.i32.wrap (fm0 + fl) = fm0 + fl := by rw [IntKind.wrap_i32]; omega
            go_wp2_with fail
            go_region
            clear c0 c1 c2 c3 c4 c5 c6 c7 f2 f3 f6 f7 e5 e6 e7
            clear k2 k3 k6 k7
            obtain ⟨V1, hV⟩ : ∃ V1, V1 = (wr.setCell ⟨b, 2, none⟩ (.int .i32 (c + sl))).drew := ⟨_, rfl⟩
            have HV1 : Hid (FixSt w V1 b ep c (c + sl) fm0 (.pointer (some ⟨x, 0, none⟩)) (.pointer ro) me0 u0) := by
              rw [hV]
              exact ⟨bset2 HR.out.hb _, (HR.out.upd.setCell _ _).drew _, ((by simp [World.setCell, World.drew] : ((wr.setCell ⟨b, 2, none⟩ (.int .i32 (c + sl))).drew).heap.size = wr.heap.size)).trans HR.out.hs⟩
            rw [← hV]
            clear hV
            have c0 : V1.cell? ⟨b, 0, none⟩ = some (.pointer (some ⟨ep, 0, none⟩)) := by rw [bcell HV1.out.hb]; rfl
            have c1 : V1.cell? ⟨b, 1, none⟩ = some (.int .i32 c) := by rw [bcell HV1.out.hb]; rfl
            have c2 : V1.cell? ⟨b, 2, none⟩ = some (.int .i32 (c + sl)) := by rw [bcell HV1.out.hb]; rfl
            have c3 : V1.cell? ⟨b, 3, none⟩ = some (.int .i32 fm0) := by rw [bcell HV1.out.hb]; rfl
            have c4 : V1.cell? ⟨b, 4, none⟩ = some (.pointer (some ⟨x, 0, none⟩)) := by rw [bcell HV1.out.hb]; rfl
            have c5 : V1.cell? ⟨b, 5, none⟩ = some (.pointer ro) := by rw [bcell HV1.out.hb]; rfl
            have c6 : V1.cell? ⟨b, 6, none⟩ = some (.int .i64 me0) := by rw [bcell HV1.out.hb]; rfl
            have c7 : V1.cell? ⟨b, 7, none⟩ = some (.int .u64 u0) := by rw [bcell HV1.out.hb]; rfl
            have f2 : V1.frozen? ⟨b, 2, none⟩ = false := bfz HV1.out.hb 2
            have f3 : V1.frozen? ⟨b, 3, none⟩ = false := bfz HV1.out.hb 3
            have f6 : V1.frozen? ⟨b, 6, none⟩ = false := bfz HV1.out.hb 6
            have f7 : V1.frozen? ⟨b, 7, none⟩ = false := bfz HV1.out.hb 7
            have e5 : V1.cell? ⟨ep, 5, none⟩ = some (.int .i64 fin) := (HV1.out.cell hep hne).trans HE.out.1
            have e6 : V1.cell? ⟨ep, 6, none⟩ = some (.bool false) := (HV1.out.cell hep hne).trans HE.out.2.1
            have e7 : V1.cell? ⟨ep, 7, none⟩ = some (.int .u64 hv) := (HV1.out.cell hep hne).trans HE.out.2.2
            have k2 : V1.cell? ⟨x, 2, none⟩ = some (.int .i32 sl) := (HV1.out.cell HX.out.2.1 HX.out.1).trans HX.out.2.2.1
            have k3 : V1.cell? ⟨x, 3, none⟩ = some (.int .i32 fl) := (HV1.out.cell HX.out.2.1 HX.out.1).trans HX.out.2.2.2.1
            have k6 : V1.cell? ⟨x, 6, none⟩ = some (.int .i64 ml) := (HV1.out.cell HX.out.2.1 HX.out.1).trans HX.out.2.2.2.2.1
            have k7 : V1.cell? ⟨x, 7, none⟩ = some (.int .u64 ul) := (HV1.out.cell HX.out.2.1 HX.out.1).trans HX.out.2.2.2.2.2
            go_wp2_with fail
            go_region
            clear c0 c1 c2 c3 c4 c5 c6 c7 f2 f3 f6 f7 e5 e6 e7
            clear k2 k3 k6 k7
            obtain ⟨V2, hV⟩ : ∃ V2, V2 = (V1.setCell ⟨b, 3, none⟩ (.int .i32 (fm0 + fl))).drew := ⟨_, rfl⟩
            have HV2 : Hid (FixSt w V2 b ep c (c + sl) (fm0 + fl) (.pointer (some ⟨x, 0, none⟩)) (.pointer ro) me0 u0) := by
              rw [hV]
              exact ⟨bset3 HV1.out.hb _, (HV1.out.upd.setCell _ _).drew _, ((by simp [World.setCell, World.drew] : ((V1.setCell ⟨b, 3, none⟩ (.int .i32 (fm0 + fl))).drew).heap.size = V1.heap.size)).trans HV1.out.hs⟩
            rw [← hV]
            clear hV
            have c0 : V2.cell? ⟨b, 0, none⟩ = some (.pointer (some ⟨ep, 0, none⟩)) := by rw [bcell HV2.out.hb]; rfl
            have c1 : V2.cell? ⟨b, 1, none⟩ = some (.int .i32 c) := by rw [bcell HV2.out.hb]; rfl
            have c2 : V2.cell? ⟨b, 2, none⟩ = some (.int .i32 (c + sl)) := by rw [bcell HV2.out.hb]; rfl
            have c3 : V2.cell? ⟨b, 3, none⟩ = some (.int .i32 (fm0 + fl)) := by rw [bcell HV2.out.hb]; rfl
            have c4 : V2.cell? ⟨b, 4, none⟩ = some (.pointer (some ⟨x, 0, none⟩)) := by rw [bcell HV2.out.hb]; rfl
            have c5 : V2.cell? ⟨b, 5, none⟩ = some (.pointer ro) := by rw [bcell HV2.out.hb]; rfl
            have c6 : V2.cell? ⟨b, 6, none⟩ = some (.int .i64 me0) := by rw [bcell HV2.out.hb]; rfl
            have c7 : V2.cell? ⟨b, 7, none⟩ = some (.int .u64 u0) := by rw [bcell HV2.out.hb]; rfl
            have f2 : V2.frozen? ⟨b, 2, none⟩ = false := bfz HV2.out.hb 2
            have f3 : V2.frozen? ⟨b, 3, none⟩ = false := bfz HV2.out.hb 3
            have f6 : V2.frozen? ⟨b, 6, none⟩ = false := bfz HV2.out.hb 6
            have f7 : V2.frozen? ⟨b, 7, none⟩ = false := bfz HV2.out.hb 7
            have e5 : V2.cell? ⟨ep, 5, none⟩ = some (.int .i64 fin) := (HV2.out.cell hep hne).trans HE.out.1
            have e6 : V2.cell? ⟨ep, 6, none⟩ = some (.bool false) := (HV2.out.cell hep hne).trans HE.out.2.1
            have e7 : V2.cell? ⟨ep, 7, none⟩ = some (.int .u64 hv) := (HV2.out.cell hep hne).trans HE.out.2.2
            have k2 : V2.cell? ⟨x, 2, none⟩ = some (.int .i32 sl) := (HV2.out.cell HX.out.2.1 HX.out.1).trans HX.out.2.2.1
            have k3 : V2.cell? ⟨x, 3, none⟩ = some (.int .i32 fl) := (HV2.out.cell HX.out.2.1 HX.out.1).trans HX.out.2.2.2.1
            have k6 : V2.cell? ⟨x, 6, none⟩ = some (.int .i64 ml) := (HV2.out.cell HX.out.2.1 HX.out.1).trans HX.out.2.2.2.2.1
            have k7 : V2.cell? ⟨x, 7, none⟩ = some (.int .u64 ul) := (HV2.out.cell HX.out.2.1 HX.out.1).trans HX.out.2.2.2.2.2
            go_wp2_with fail
            go_cut [] (fun wx => wx = (V2.setCell ⟨b, 6, none⟩ (.int .i64 (minI me0 ml))).drew)
            case first =>
              by_cases hmm : ml < me0
              · go_region
                go_wp2_with fail
                go_meet
                rw [minI_lt (show ml < me0 by omega)]
              · go_region
                go_wp2_with fail
                go_meet
                rw [minI_ge (show me0 ≤ ml by omega)]
            case rest =>
              subst hcut
              clear c0 c1 c2 c3 c4 c5 c6 c7 f2 f3 f6 f7 e5 e6 e7
              clear k2 k3 k6 k7
              obtain ⟨V3, hV⟩ : ∃ V3, V3 = (V2.setCell ⟨b, 6, none⟩ (.int .i64 (minI me0 ml))).drew := ⟨_, rfl⟩
              have HV3 : Hid (FixSt w V3 b ep c (c + sl) (fm0 + fl) (.pointer (some ⟨x, 0, none⟩)) (.pointer ro) (minI me0 ml) u0) := by
                rw [hV]
                exact ⟨bset6 HV2.out.hb _, (HV2.out.upd.setCell _ _).drew _, ((by simp [World.setCell, World.drew] : ((V2.setCell ⟨b, 6, none⟩ (.int .i64 (minI me0 ml))).drew).heap.size = V2.heap.size)).trans HV2.out.hs⟩
              rw [← hV]
              clear hV
              have c0 : V3.cell? ⟨b, 0, none⟩ = some (.pointer (some ⟨ep, 0, none⟩)) := by rw [bcell HV3.out.hb]; rfl
              have c1 : V3.cell? ⟨b, 1, none⟩ = some (.int .i32 c) := by rw [bcell HV3.out.hb]; rfl
              have c2 : V3.cell? ⟨b, 2, none⟩ = some (.int .i32 (c + sl)) := by rw [bcell HV3.out.hb]; rfl
              have c3 : V3.cell? ⟨b, 3, none⟩ = some (.int .i32 (fm0 + fl)) := by rw [bcell HV3.out.hb]; rfl
              have c4 : V3.cell? ⟨b, 4, none⟩ = some (.pointer (some ⟨x, 0, none⟩)) := by rw [bcell HV3.out.hb]; rfl
              have c5 : V3.cell? ⟨b, 5, none⟩ = some (.pointer ro) := by rw [bcell HV3.out.hb]; rfl
              have c6 : V3.cell? ⟨b, 6, none⟩ = some (.int .i64 (minI me0 ml)) := by rw [bcell HV3.out.hb]; rfl
              have c7 : V3.cell? ⟨b, 7, none⟩ = some (.int .u64 u0) := by rw [bcell HV3.out.hb]; rfl
              have f2 : V3.frozen? ⟨b, 2, none⟩ = false := bfz HV3.out.hb 2
              have f3 : V3.frozen? ⟨b, 3, none⟩ = false := bfz HV3.out.hb 3
              have f6 : V3.frozen? ⟨b, 6, none⟩ = false := bfz HV3.out.hb 6
              have f7 : V3.frozen? ⟨b, 7, none⟩ = false := bfz HV3.out.hb 7
              have e5 : V3.cell? ⟨ep, 5, none⟩ = some (.int .i64 fin) := (HV3.out.cell hep hne).trans HE.out.1
              have e6 : V3.cell? ⟨ep, 6, none⟩ = some (.bool false) := (HV3.out.cell hep hne).trans HE.out.2.1
              have e7 : V3.cell? ⟨ep, 7, none⟩ = some (.int .u64 hv) := (HV3.out.cell hep hne).trans HE.out.2.2
              have k2 : V3.cell? ⟨x, 2, none⟩ = some (.int .i32 sl) := (HV3.out.cell HX.out.2.1 HX.out.1).trans HX.out.2.2.1
              have k3 : V3.cell? ⟨x, 3, none⟩ = some (.int .i32 fl) := (HV3.out.cell HX.out.2.1 HX.out.1).trans HX.out.2.2.2.1
              have k6 : V3.cell? ⟨x, 6, none⟩ = some (.int .i64 ml) := (HV3.out.cell HX.out.2.1 HX.out.1).trans HX.out.2.2.2.2.1
              have k7 : V3.cell? ⟨x, 7, none⟩ = some (.int .u64 ul) := (HV3.out.cell HX.out.2.1 HX.out.1).trans HX.out.2.2.2.2.2
              have hadd := fun W => addMod_47 u0 ul (by omega) (by omega) W
              go_wp2_with fail
              go_region_with (go_at_call 47; refine (hadd _).mono ?_; rintro e w' ⟨rfl, rfl⟩)
              all_goals
                clear c0 c1 c2 c3 c4 c5 c6 c7 f2 f3 f6 f7 e5 e6 e7
                clear k2 k3 k6 k7
                obtain ⟨V4, hV⟩ : ∃ V4, V4 = (V3.setCell ⟨b, 7, none⟩ (.int .u64 (addM u0 ul))).drew := ⟨_, rfl⟩
                have HV4 : Hid (FixSt w V4 b ep c (c + sl) (fm0 + fl) (.pointer (some ⟨x, 0, none⟩)) (.pointer ro) (minI me0 ml) (addM u0 ul)) := by
                  rw [hV]
                  exact ⟨bset7 HV3.out.hb _, (HV3.out.upd.setCell _ _).drew _, ((by simp [World.setCell, World.drew] : ((V3.setCell ⟨b, 7, none⟩ (.int .u64 (addM u0 ul))).drew).heap.size = V3.heap.size)).trans HV3.out.hs⟩
                rw [← hV]
                clear hV
                clear HV1 HV2 HV3 hws hwf hadd
                go_wp2_with fail
                go_roundg 1
                case rel => exact .inr (.inl ⟨rfl, by go_num, HV4.out⟩)
                case measure => have := HG.out; omega
        · have HR : Hid (FixSt w wr b ep c (c + sl) (fm0 + fl) (.pointer lo) (.pointer ro) (minI me0 ml) (addM u0 ul)) := hst
          have HG : Hid (gk = 1) := hg
          clear hst hg
          have hix := ix1 lo ro
          have hm1 : minI me0 ml ≤ 9223372036854775807 := by unfold minI; split <;> omega
          rcases HK.out.2 with ⟨rfl, rfl, rfl, rfl, rfl⟩ | ⟨x, rfl, x1, x2, x3, x4, x5, x6⟩
          · go_wp2_with fail
            go_roundg 0
            case rel => exact .inr (.inr ⟨rfl, by go_num, by have h := HR.out; simp only [addM_zero hu1r, minI_max hm1, Int.add_zero]; exact h⟩)
            case measure => have := HG.out; omega
          · have HX : Hid (x ≠ b ∧ x < w.heap.size ∧ w.cell? ⟨x, 2, none⟩ = some (.int .i32 sr) ∧ w.cell? ⟨x, 3, none⟩ = some (.int .i32 fr) ∧ w.cell? ⟨x, 6, none⟩ = some (.int .i64 mr) ∧ w.cell? ⟨x, 7, none⟩ = some (.int .u64 ur)) := ⟨x1, x2, x3, x4, x5, x6⟩
            clear x1 x2 x3 x4 x5 x6
            have c0 : wr.cell? ⟨b, 0, none⟩ = some (.pointer (some ⟨ep, 0, none⟩)) := by rw [bcell HR.out.hb]; rfl
            have c1 : wr.cell? ⟨b, 1, none⟩ = some (.int .i32 c) := by rw [bcell HR.out.hb]; rfl
            have c2 : wr.cell? ⟨b, 2, none⟩ = some (.int .i32 (c + sl)) := by rw [bcell HR.out.hb]; rfl
            have c3 : wr.cell? ⟨b, 3, none⟩ = some (.int .i32 (fm0 + fl)) := by rw [bcell HR.out.hb]; rfl
            have c4 : wr.cell? ⟨b, 4, none⟩ = some (.pointer lo) := by rw [bcell HR.out.hb]; rfl
            have c5 : wr.cell? ⟨b, 5, none⟩ = some (.pointer (some ⟨x, 0, none⟩)) := by rw [bcell HR.out.hb]; rfl
            have c6 : wr.cell? ⟨b, 6, none⟩ = some (.int .i64 (minI me0 ml)) := by rw [bcell HR.out.hb]; rfl
            have c7 : wr.cell? ⟨b, 7, none⟩ = some (.int .u64 (addM u0 ul)) := by rw [bcell HR.out.hb]; rfl
            have f2 : wr.frozen? ⟨b, 2, none⟩ = false := bfz HR.out.hb 2
            have f3 : wr.frozen? ⟨b, 3, none⟩ = false := bfz HR.out.hb 3
            have f6 : wr.frozen? ⟨b, 6, none⟩ = false := bfz HR.out.hb 6
            have f7 : wr.frozen? ⟨b, 7, none⟩ = false := bfz HR.out.hb 7
            have e5 : wr.cell? ⟨ep, 5, none⟩ = some (.int .i64 fin) := (HR.out.cell hep hne).trans HE.out.1
            have e6 : wr.cell? ⟨ep, 6, none⟩ = some (.bool false) := (HR.out.cell hep hne).trans HE.out.2.1
            have e7 : wr.cell? ⟨ep, 7, none⟩ = some (.int .u64 hv) := (HR.out.cell hep hne).trans HE.out.2.2
            have k2 : wr.cell? ⟨x, 2, none⟩ = some (.int .i32 sr) := (HR.out.cell HX.out.2.1 HX.out.1).trans HX.out.2.2.1
            have k3 : wr.cell? ⟨x, 3, none⟩ = some (.int .i32 fr) := (HR.out.cell HX.out.2.1 HX.out.1).trans HX.out.2.2.2.1
            have k6 : wr.cell? ⟨x, 6, none⟩ = some (.int .i64 mr) := (HR.out.cell HX.out.2.1 HX.out.1).trans HX.out.2.2.2.2.1
            have k7 : wr.cell? ⟨x, 7, none⟩ = some (.int .u64 ur) := (HR.out.cell HX.out.2.1 HX.out.1).trans HX.out.2.2.2.2.2
            have hws : IntKind.i32.wrap ((c + sl) + sr) = (c + sl) + sr := by rw [IntKind.wrap_i32]; omega
            have hwf : IntKind.i32.wrap ((fm0 + fl) + fr) = (fm0 + fl) + fr := by rw [IntKind.wrap_i32]; omega
            go_wp2_with fail
            go_region
            clear c0 c1 c2 c3 c4 c5 c6 c7 f2 f3 f6 f7 e5 e6 e7
            clear k2 k3 k6 k7
            obtain ⟨V1, hV⟩ : ∃ V1, V1 = (wr.setCell ⟨b, 2, none⟩ (.int .i32 ((c + sl) + sr))).drew := ⟨_, rfl⟩
            have HV1 : Hid (FixSt w V1 b ep c ((c + sl) + sr) (fm0 + fl) (.pointer lo) (.pointer (some ⟨x, 0, none⟩)) (minI me0 ml) (addM u0 ul)) := by
              rw [hV]
              exact ⟨bset2 HR.out.hb _, (HR.out.upd.setCell _ _).drew _, ((by simp [World.setCell, World.drew] : ((wr.setCell ⟨b, 2, none⟩ (.int .i32 ((c + sl) + sr))).drew).heap.size = wr.heap.size)).trans HR.out.hs⟩
            rw [← hV]
            clear hV
            have c0 : V1.cell? ⟨b, 0, none⟩ = some (.pointer (some ⟨ep, 0, none⟩)) := by rw [bcell HV1.out.hb]; rfl
            have c1 : V1.cell? ⟨b, 1, none⟩ = some (.int .i32 c) := by rw [bcell HV1.out.hb]; rfl
            have c2 : V1.cell? ⟨b, 2, none⟩ = some (.int .i32 ((c + sl) + sr)) := by rw [bcell HV1.out.hb]; rfl
            have c3 : V1.cell? ⟨b, 3, none⟩ = some (.int .i32 (fm0 + fl)) := by rw [bcell HV1.out.hb]; rfl
            have c4 : V1.cell? ⟨b, 4, none⟩ = some (.pointer lo) := by rw [bcell HV1.out.hb]; rfl
            have c5 : V1.cell? ⟨b, 5, none⟩ = some (.pointer (some ⟨x, 0, none⟩)) := by rw [bcell HV1.out.hb]; rfl
            have c6 : V1.cell? ⟨b, 6, none⟩ = some (.int .i64 (minI me0 ml)) := by rw [bcell HV1.out.hb]; rfl
            have c7 : V1.cell? ⟨b, 7, none⟩ = some (.int .u64 (addM u0 ul)) := by rw [bcell HV1.out.hb]; rfl
            have f2 : V1.frozen? ⟨b, 2, none⟩ = false := bfz HV1.out.hb 2
            have f3 : V1.frozen? ⟨b, 3, none⟩ = false := bfz HV1.out.hb 3
            have f6 : V1.frozen? ⟨b, 6, none⟩ = false := bfz HV1.out.hb 6
            have f7 : V1.frozen? ⟨b, 7, none⟩ = false := bfz HV1.out.hb 7
            have e5 : V1.cell? ⟨ep, 5, none⟩ = some (.int .i64 fin) := (HV1.out.cell hep hne).trans HE.out.1
            have e6 : V1.cell? ⟨ep, 6, none⟩ = some (.bool false) := (HV1.out.cell hep hne).trans HE.out.2.1
            have e7 : V1.cell? ⟨ep, 7, none⟩ = some (.int .u64 hv) := (HV1.out.cell hep hne).trans HE.out.2.2
            have k2 : V1.cell? ⟨x, 2, none⟩ = some (.int .i32 sr) := (HV1.out.cell HX.out.2.1 HX.out.1).trans HX.out.2.2.1
            have k3 : V1.cell? ⟨x, 3, none⟩ = some (.int .i32 fr) := (HV1.out.cell HX.out.2.1 HX.out.1).trans HX.out.2.2.2.1
            have k6 : V1.cell? ⟨x, 6, none⟩ = some (.int .i64 mr) := (HV1.out.cell HX.out.2.1 HX.out.1).trans HX.out.2.2.2.2.1
            have k7 : V1.cell? ⟨x, 7, none⟩ = some (.int .u64 ur) := (HV1.out.cell HX.out.2.1 HX.out.1).trans HX.out.2.2.2.2.2
            go_wp2_with fail
            go_region
            clear c0 c1 c2 c3 c4 c5 c6 c7 f2 f3 f6 f7 e5 e6 e7
            clear k2 k3 k6 k7
            obtain ⟨V2, hV⟩ : ∃ V2, V2 = (V1.setCell ⟨b, 3, none⟩ (.int .i32 ((fm0 + fl) + fr))).drew := ⟨_, rfl⟩
            have HV2 : Hid (FixSt w V2 b ep c ((c + sl) + sr) ((fm0 + fl) + fr) (.pointer lo) (.pointer (some ⟨x, 0, none⟩)) (minI me0 ml) (addM u0 ul)) := by
              rw [hV]
              exact ⟨bset3 HV1.out.hb _, (HV1.out.upd.setCell _ _).drew _, ((by simp [World.setCell, World.drew] : ((V1.setCell ⟨b, 3, none⟩ (.int .i32 ((fm0 + fl) + fr))).drew).heap.size = V1.heap.size)).trans HV1.out.hs⟩
            rw [← hV]
            clear hV
            have c0 : V2.cell? ⟨b, 0, none⟩ = some (.pointer (some ⟨ep, 0, none⟩)) := by rw [bcell HV2.out.hb]; rfl
            have c1 : V2.cell? ⟨b, 1, none⟩ = some (.int .i32 c) := by rw [bcell HV2.out.hb]; rfl
            have c2 : V2.cell? ⟨b, 2, none⟩ = some (.int .i32 ((c + sl) + sr)) := by rw [bcell HV2.out.hb]; rfl
            have c3 : V2.cell? ⟨b, 3, none⟩ = some (.int .i32 ((fm0 + fl) + fr)) := by rw [bcell HV2.out.hb]; rfl
            have c4 : V2.cell? ⟨b, 4, none⟩ = some (.pointer lo) := by rw [bcell HV2.out.hb]; rfl
            have c5 : V2.cell? ⟨b, 5, none⟩ = some (.pointer (some ⟨x, 0, none⟩)) := by rw [bcell HV2.out.hb]; rfl
            have c6 : V2.cell? ⟨b, 6, none⟩ = some (.int .i64 (minI me0 ml)) := by rw [bcell HV2.out.hb]; rfl
            have c7 : V2.cell? ⟨b, 7, none⟩ = some (.int .u64 (addM u0 ul)) := by rw [bcell HV2.out.hb]; rfl
            have f2 : V2.frozen? ⟨b, 2, none⟩ = false := bfz HV2.out.hb 2
            have f3 : V2.frozen? ⟨b, 3, none⟩ = false := bfz HV2.out.hb 3
            have f6 : V2.frozen? ⟨b, 6, none⟩ = false := bfz HV2.out.hb 6
            have f7 : V2.frozen? ⟨b, 7, none⟩ = false := bfz HV2.out.hb 7
            have e5 : V2.cell? ⟨ep, 5, none⟩ = some (.int .i64 fin) := (HV2.out.cell hep hne).trans HE.out.1
            have e6 : V2.cell? ⟨ep, 6, none⟩ = some (.bool false) := (HV2.out.cell hep hne).trans HE.out.2.1
            have e7 : V2.cell? ⟨ep, 7, none⟩ = some (.int .u64 hv) := (HV2.out.cell hep hne).trans HE.out.2.2
            have k2 : V2.cell? ⟨x, 2, none⟩ = some (.int .i32 sr) := (HV2.out.cell HX.out.2.1 HX.out.1).trans HX.out.2.2.1
            have k3 : V2.cell? ⟨x, 3, none⟩ = some (.int .i32 fr) := (HV2.out.cell HX.out.2.1 HX.out.1).trans HX.out.2.2.2.1
            have k6 : V2.cell? ⟨x, 6, none⟩ = some (.int .i64 mr) := (HV2.out.cell HX.out.2.1 HX.out.1).trans HX.out.2.2.2.2.1
            have k7 : V2.cell? ⟨x, 7, none⟩ = some (.int .u64 ur) := (HV2.out.cell HX.out.2.1 HX.out.1).trans HX.out.2.2.2.2.2
            go_wp2_with fail
            go_cut [] (fun wx => wx = (V2.setCell ⟨b, 6, none⟩ (.int .i64 (minI (minI me0 ml) mr))).drew)
            case first =>
              by_cases hmm : mr < (minI me0 ml)
              · go_region
                go_wp2_with fail
                go_meet
                rw [minI_lt (show mr < (minI me0 ml) by omega)]
              · go_region
                go_wp2_with fail
                go_meet
                rw [minI_ge (show (minI me0 ml) ≤ mr by omega)]
            case rest =>
              subst hcut
              clear c0 c1 c2 c3 c4 c5 c6 c7 f2 f3 f6 f7 e5 e6 e7
              clear k2 k3 k6 k7
              obtain ⟨V3, hV⟩ : ∃ V3, V3 = (V2.setCell ⟨b, 6, none⟩ (.int .i64 (minI (minI me0 ml) mr))).drew := ⟨_, rfl⟩
              have HV3 : Hid (FixSt w V3 b ep c ((c + sl) + sr) ((fm0 + fl) + fr) (.pointer lo) (.pointer (some ⟨x, 0, none⟩)) (minI (minI me0 ml) mr) (addM u0 ul)) := by
                rw [hV]
                exact ⟨bset6 HV2.out.hb _, (HV2.out.upd.setCell _ _).drew _, ((by simp [World.setCell, World.drew] : ((V2.setCell ⟨b, 6, none⟩ (.int .i64 (minI (minI me0 ml) mr))).drew).heap.size = V2.heap.size)).trans HV2.out.hs⟩
              rw [← hV]
              clear hV
              have c0 : V3.cell? ⟨b, 0, none⟩ = some (.pointer (some ⟨ep, 0, none⟩)) := by rw [bcell HV3.out.hb]; rfl
              have c1 : V3.cell? ⟨b, 1, none⟩ = some (.int .i32 c) := by rw [bcell HV3.out.hb]; rfl
              have c2 : V3.cell? ⟨b, 2, none⟩ = some (.int .i32 ((c + sl) + sr)) := by rw [bcell HV3.out.hb]; rfl
              have c3 : V3.cell? ⟨b, 3, none⟩ = some (.int .i32 ((fm0 + fl) + fr)) := by rw [bcell HV3.out.hb]; rfl
              have c4 : V3.cell? ⟨b, 4, none⟩ = some (.pointer lo) := by rw [bcell HV3.out.hb]; rfl
              have c5 : V3.cell? ⟨b, 5, none⟩ = some (.pointer (some ⟨x, 0, none⟩)) := by rw [bcell HV3.out.hb]; rfl
              have c6 : V3.cell? ⟨b, 6, none⟩ = some (.int .i64 (minI (minI me0 ml) mr)) := by rw [bcell HV3.out.hb]; rfl
              have c7 : V3.cell? ⟨b, 7, none⟩ = some (.int .u64 (addM u0 ul)) := by rw [bcell HV3.out.hb]; rfl
              have f2 : V3.frozen? ⟨b, 2, none⟩ = false := bfz HV3.out.hb 2
              have f3 : V3.frozen? ⟨b, 3, none⟩ = false := bfz HV3.out.hb 3
              have f6 : V3.frozen? ⟨b, 6, none⟩ = false := bfz HV3.out.hb 6
              have f7 : V3.frozen? ⟨b, 7, none⟩ = false := bfz HV3.out.hb 7
              have e5 : V3.cell? ⟨ep, 5, none⟩ = some (.int .i64 fin) := (HV3.out.cell hep hne).trans HE.out.1
              have e6 : V3.cell? ⟨ep, 6, none⟩ = some (.bool false) := (HV3.out.cell hep hne).trans HE.out.2.1
              have e7 : V3.cell? ⟨ep, 7, none⟩ = some (.int .u64 hv) := (HV3.out.cell hep hne).trans HE.out.2.2
              have k2 : V3.cell? ⟨x, 2, none⟩ = some (.int .i32 sr) := (HV3.out.cell HX.out.2.1 HX.out.1).trans HX.out.2.2.1
              have k3 : V3.cell? ⟨x, 3, none⟩ = some (.int .i32 fr) := (HV3.out.cell HX.out.2.1 HX.out.1).trans HX.out.2.2.2.1
              have k6 : V3.cell? ⟨x, 6, none⟩ = some (.int .i64 mr) := (HV3.out.cell HX.out.2.1 HX.out.1).trans HX.out.2.2.2.2.1
              have k7 : V3.cell? ⟨x, 7, none⟩ = some (.int .u64 ur) := (HV3.out.cell HX.out.2.1 HX.out.1).trans HX.out.2.2.2.2.2
              have hadd := fun W => addMod_47 (addM u0 ul) ur (by omega) (by omega) W
              go_wp2_with fail
              go_region_with (go_at_call 47; refine (hadd _).mono ?_; rintro e w' ⟨rfl, rfl⟩)
              all_goals
                clear c0 c1 c2 c3 c4 c5 c6 c7 f2 f3 f6 f7 e5 e6 e7
                clear k2 k3 k6 k7
                obtain ⟨V4, hV⟩ : ∃ V4, V4 = (V3.setCell ⟨b, 7, none⟩ (.int .u64 (addM (addM u0 ul) ur))).drew := ⟨_, rfl⟩
                have HV4 : Hid (FixSt w V4 b ep c ((c + sl) + sr) ((fm0 + fl) + fr) (.pointer lo) (.pointer (some ⟨x, 0, none⟩)) (minI (minI me0 ml) mr) (addM (addM u0 ul) ur)) := by
                  rw [hV]
                  exact ⟨bset7 HV3.out.hb _, (HV3.out.upd.setCell _ _).drew _, ((by simp [World.setCell, World.drew] : ((V3.setCell ⟨b, 7, none⟩ (.int .u64 (addM (addM u0 ul) ur))).drew).heap.size = V3.heap.size)).trans HV3.out.hs⟩
                rw [← hV]
                clear hV
                clear HV1 HV2 HV3 hws hwf hadd
                go_wp2_with fail
                go_roundg 0
                case rel => exact .inr (.inr ⟨rfl, by go_num, HV4.out⟩)
                case measure => have := HG.out; omega
        · have HR : Hid (FixSt w wr b ep c (c + sl + sr) (fm0 + fl + fr) (.pointer lo) (.pointer ro) (minI (minI me0 ml) mr) (addM (addM u0 ul) ur)) := hst
          clear hst
          go_wp2_with fail
          go_ret
          exact ⟨rfl, by have h := HR.out; rw [HFM.out.1, HFM.out.2] at h; simpa using h⟩
  | true =>
    go_wp2_with fail
    go_cut [] (fun wx => wx = (((W1.setCell ⟨b, 3, none⟩ (.int .i32 0)).setCell ⟨b, 6, none⟩ (.int .i64 9223372036854775807)).setCell ⟨b, 7, none⟩ (.int .u64 u0)).drew)
    case first =>
      go_region_with (go_at_call 46; refine (hmm _).mono ?_; rintro e w' ⟨rfl, rfl⟩)
      all_goals (go_wp2_with fail; go_meet; rfl)
    case rest =>
      subst hcut
      clear c0 c1 c2 c3 c4 c5 c6 c7 f2 f3 f6 f7 e5 e6 e7
      obtain ⟨W2, hW⟩ : ∃ W2, W2 = (((W1.setCell ⟨b, 3, none⟩ (.int .i32 0)).setCell ⟨b, 6, none⟩ (.int .i64 9223372036854775807)).setCell ⟨b, 7, none⟩ (.int .u64 u0)).drew := ⟨_, rfl⟩
      obtain ⟨fm0, hfm⟩ : ∃ fm0, fm0 = (0 : Int) := ⟨_, rfl⟩
      obtain ⟨me0, hme⟩ : ∃ me0, me0 = (9223372036854775807 : Int) := ⟨_, rfl⟩
      have hfb : 0 ≤ fm0 ∧ fm0 ≤ c := by omega
      have hmb : me0 ≤ 9223372036854775807 := by omega
      have HFM : Hid (fm0 = (0 : Int) ∧ me0 = (9223372036854775807 : Int)) := ⟨hfm, hme⟩
      have HS2 : Hid (FixSt w W2 b ep c c fm0 (.pointer lo) (.pointer ro) me0 u0) := by
        rw [hW, hfm, hme]
        exact ⟨bset7 (bset6 (bset3 HS1.out.hb _) _) _, (((HS1.out.upd.setCell _ _).setCell _ _).setCell _ _).drew _, by have := HS1.out.hs; simpa [World.setCell, World.drew] using this⟩
      rw [← hW]
      clear hW HS1 hmm hwc hfm hme
      have c0 : W2.cell? ⟨b, 0, none⟩ = some (.pointer (some ⟨ep, 0, none⟩)) := by rw [bcell HS2.out.hb]; rfl
      have c1 : W2.cell? ⟨b, 1, none⟩ = some (.int .i32 c) := by rw [bcell HS2.out.hb]; rfl
      have c2 : W2.cell? ⟨b, 2, none⟩ = some (.int .i32 c) := by rw [bcell HS2.out.hb]; rfl
      have c3 : W2.cell? ⟨b, 3, none⟩ = some (.int .i32 fm0) := by rw [bcell HS2.out.hb]; rfl
      have c4 : W2.cell? ⟨b, 4, none⟩ = some (.pointer lo) := by rw [bcell HS2.out.hb]; rfl
      have c5 : W2.cell? ⟨b, 5, none⟩ = some (.pointer ro) := by rw [bcell HS2.out.hb]; rfl
      have c6 : W2.cell? ⟨b, 6, none⟩ = some (.int .i64 me0) := by rw [bcell HS2.out.hb]; rfl
      have c7 : W2.cell? ⟨b, 7, none⟩ = some (.int .u64 u0) := by rw [bcell HS2.out.hb]; rfl
      have f2 : W2.frozen? ⟨b, 2, none⟩ = false := bfz HS2.out.hb 2
      have f3 : W2.frozen? ⟨b, 3, none⟩ = false := bfz HS2.out.hb 3
      have f6 : W2.frozen? ⟨b, 6, none⟩ = false := bfz HS2.out.hb 6
      have f7 : W2.frozen? ⟨b, 7, none⟩ = false := bfz HS2.out.hb 7
      have e5 : W2.cell? ⟨ep, 5, none⟩ = some (.int .i64 fin) := (HS2.out.cell hep hne).trans HE.out.1
      have e6 : W2.cell? ⟨ep, 6, none⟩ = some (.bool true) := (HS2.out.cell hep hne).trans HE.out.2.1
      have e7 : W2.cell? ⟨ep, 7, none⟩ = some (.int .u64 hv) := (HS2.out.cell hep hne).trans HE.out.2.2
      go_wp2_with fail
      go_quiet (fail)
      clear c0 c1 c2 c3 c4 c5 c6 c7 f2 f3 f6 f7 e5 e6 e7
      obtain ⟨W3, hW⟩ : ∃ W3, W3 = W2.drewN nq := ⟨_, rfl⟩
      have HS3 : Hid (FixSt w W3 b ep c c fm0 (.pointer lo) (.pointer ro) me0 u0) := by
        rw [hW]
        exact ⟨HS2.out.hb, HS2.out.upd.drew _, HS2.out.hs⟩
      rw [← hW]
      clear hW HS2
      go_wp2_with fail
      go_loopg [67] 2 (fun gf iv wr => (gf = 2 ∧ iv = .int .i64 0 ∧ FixSt w wr b ep c c fm0 (.pointer lo) (.pointer ro) me0 u0) ∨ (gf = 1 ∧ iv = .int .i64 1 ∧ FixSt w wr b ep c (c + sl) (fm0 + fl) (.pointer lo) (.pointer ro) (minI me0 ml) (addM u0 ul)) ∨ (gf = 0 ∧ iv = .int .i64 2 ∧ FixSt w wr b ep c (c + sl + sr) (fm0 + fl + fr) (.pointer lo) (.pointer ro) (minI (minI me0 ml) mr) (addM (addM u0 ul) ur)))
      case atStart => exact .inl ⟨rfl, rfl, HS3.out⟩
      case round =>
        clear HS3
        rcases hrel with ⟨hg, rfl, hst⟩ | ⟨hg, rfl, hst⟩ | ⟨hg, rfl, hst⟩
        · have HR : Hid (FixSt w wr b ep c c fm0 (.pointer lo) (.pointer ro) me0 u0) := hst
          have HG : Hid (gk = 2) := hg
          clear hst hg
          have hix := ix0 lo ro
          rcases HK.out.1 with ⟨rfl, rfl, rfl, rfl, rfl⟩ | ⟨x, rfl, x1, x2, x3, x4, x5, x6⟩
          · go_wp2_with fail
            go_roundg 1
            case rel => exact .inr (.inl ⟨rfl, by go_num, by have h := HR.out; simp only [addM_zero hu0r, minI_max (show me0 ≤ 9223372036854775807 by omega), Int.add_zero]; exact h⟩)
            case measure => have := HG.out; omega
          · have HX : Hid (x ≠ b ∧ x < w.heap.size ∧ w.cell? ⟨x, 2, none⟩ = some (.int .i32 sl) ∧ w.cell? ⟨x, 3, none⟩ = some (.int .i32 fl) ∧ w.cell? ⟨x, 6, none⟩ = some (.int .i64 ml) ∧ w.cell? ⟨x, 7, none⟩ = some (.int .u64 ul)) := ⟨x1, x2, x3, x4, x5, x6⟩
            clear x1 x2 x3 x4 x5 x6
            have c0 : wr.cell? ⟨b, 0, none⟩ = some (.pointer (some ⟨ep, 0, none⟩)) := by rw [bcell HR.out.hb]; rfl
            have c1 : wr.cell? ⟨b, 1, none⟩ = some (.int .i32 c) := by rw [bcell HR.out.hb]; rfl
            have c2 : wr.cell? ⟨b, 2, none⟩ = some (.int .i32 c) := by rw [bcell HR.out.hb]; rfl
            have c3 : wr.cell? ⟨b, 3, none⟩ = some (.int .i32 fm0) := by rw [bcell HR.out.hb]; rfl
            have c4 : wr.cell? ⟨b, 4, none⟩ = some (.pointer (some ⟨x, 0, none⟩)) := by rw [bcell HR.out.hb]; rfl
            have c5 : wr.cell? ⟨b, 5, none⟩ = some (.pointer ro) := by rw [bcell HR.out.hb]; rfl
            have c6 : wr.cell? ⟨b, 6, none⟩ = some (.int .i64 me0) := by rw [bcell HR.out.hb]; rfl
            have c7 : wr.cell? ⟨b, 7, none⟩ = some (.int .u64 u0) := by rw [bcell HR.out.hb]; rfl
            have f2 : wr.frozen? ⟨b, 2, none⟩ = false := bfz HR.out.hb 2
            have f3 : wr.frozen? ⟨b, 3, none⟩ = false := bfz HR.out.hb 3
            have f6 : wr.frozen? ⟨b, 6, none⟩ = false := bfz HR.out.hb 6
            have f7 : wr.frozen? ⟨b, 7, none⟩ = false := bfz HR.out.hb 7
            have e5 : wr.cell? ⟨ep, 5, none⟩ = some (.int .i64 fin) := (HR.out.cell hep hne).trans HE.out.1
            have e6 : wr.cell? ⟨ep, 6, none⟩ = some (.bool true) := (HR.out.cell hep hne).trans HE.out.2.1
            have e7 : wr.cell? ⟨ep, 7, none⟩ = some (.int .u64 hv) := (HR.out.cell hep hne).trans HE.out.2.2
            have k2 : wr.cell? ⟨x, 2, none⟩ = some (.int .i32 sl) := (HR.out.cell HX.out.2.1 HX.out.1).trans HX.out.2.2.1
            have k3 : wr.cell? ⟨x, 3, none⟩ = some (.int .i32 fl) := (HR.out.cell HX.out.2.1 HX.out.1).trans HX.out.2.2.2.1
            have k6 : wr.cell? ⟨x, 6, none⟩ = some (.int .i64 ml) := (HR.out.cell HX.out.2.1 HX.out.1).trans HX.out.2.2.2.2.1
            have k7 : wr.cell? ⟨x, 7, none⟩ = some (.int .u64 ul) := (HR.out.cell HX.out.2.1 HX.out.1).trans HX.out.2.2.2.2.2
            have hws : IntKind.i32.wrap (c + sl) = c + sl := by rw [IntKind.wrap_i32]; omega
            have hwf : IntKind.i32.wrap (fm0 + fl) = fm0 + fl := by rw [IntKind.wrap_i32]; omega
            go_wp2_with fail
            go_region
            clear c0 c1 c2 c3 c4 c5 c6 c7 f2 f3 f6 f7 e5 e6 e7
            clear k2 k3 k6 k7
            obtain ⟨V1, hV⟩ : ∃ V1, V1 = (wr.setCell ⟨b, 2, none⟩ (.int .i32 (c + sl))).drew := ⟨_, rfl⟩
            have HV1 : Hid (FixSt w V1 b ep c (c + sl) fm0 (.pointer (some ⟨x, 0, none⟩)) (.pointer ro) me0 u0) := by
              rw [hV]
              exact ⟨bset2 HR.out.hb _, (HR.out.upd.setCell _ _).drew _, ((by simp [World.setCell, World.drew] : ((wr.setCell ⟨b, 2, none⟩ (.int .i32 (c + sl))).drew).heap.size = wr.heap.size)).trans HR.out.hs⟩
            rw [← hV]
            clear hV
            have c0 : V1.cell? ⟨b, 0, none⟩ = some (.pointer (some ⟨ep, 0, none⟩)) := by rw [bcell HV1.out.hb]; rfl
            have c1 : V1.cell? ⟨b, 1, none⟩ = some (.int .i32 c) := by rw [bcell HV1.out.hb]; rfl
            have c2 : V1.cell? ⟨b, 2, none⟩ = some (.int .i32 (c + sl)) := by rw [bcell HV1.out.hb]; rfl
            have c3 : V1.cell? ⟨b, 3, none⟩ = some (.int .i32 fm0) := by rw [bcell HV1.out.hb]; rfl
            have c4 : V1.cell? ⟨b, 4, none⟩ = some (.pointer (some ⟨x, 0, none⟩)) := by rw [bcell HV1.out.hb]; rfl
            have c5 : V1.cell? ⟨b, 5, none⟩ = some (.pointer ro) := by rw [bcell HV1.out.hb]; rfl
            have c6 : V1.cell? ⟨b, 6, none⟩ = some (.int .i64 me0) := by rw [bcell HV1.out.hb]; rfl
            have c7 : V1.cell? ⟨b, 7, none⟩ = some (.int .u64 u0) := by rw [bcell HV1.out.hb]; rfl
            have f2 : V1.frozen? ⟨b, 2, none⟩ = false := bfz HV1.out.hb 2
            have f3 : V1.frozen? ⟨b, 3, none⟩ = false := bfz HV1.out.hb 3
            have f6 : V1.frozen? ⟨b, 6, none⟩ = false := bfz HV1.out.hb 6
            have f7 : V1.frozen? ⟨b, 7, none⟩ = false := bfz HV1.out.hb 7
            have e5 : V1.cell? ⟨ep, 5, none⟩ = some (.int .i64 fin) := (HV1.out.cell hep hne).trans HE.out.1
            have e6 : V1.cell? ⟨ep, 6, none⟩ = some (.bool true) := (HV1.out.cell hep hne).trans HE.out.2.1
            have e7 : V1.cell? ⟨ep, 7, none⟩ = some (.int .u64 hv) := (HV1.out.cell hep hne).trans HE.out.2.2
            have k2 : V1.cell? ⟨x, 2, none⟩ = some (.int .i32 sl) := (HV1.out.cell HX.out.2.1 HX.out.1).trans HX.out.2.2.1
            have k3 : V1.cell? ⟨x, 3, none⟩ = some (.int .i32 fl) := (HV1.out.cell HX.out.2.1 HX.out.1).trans HX.out.2.2.2.1
            have k6 : V1.cell? ⟨x, 6, none⟩ = some (.int .i64 ml) := (HV1.out.cell HX.out.2.1 HX.out.1).trans HX.out.2.2.2.2.1
            have k7 : V1.cell? ⟨x, 7, none⟩ = some (.int .u64 ul) := (HV1.out.cell HX.out.2.1 HX.out.1).trans HX.out.2.2.2.2.2
            go_wp2_with fail
            go_region
            clear c0 c1 c2 c3 c4 c5 c6 c7 f2 f3 f6 f7 e5 e6 e7
            clear k2 k3 k6 k7
            obtain ⟨V2, hV⟩ : ∃ V2, V2 = (V1.setCell ⟨b, 3, none⟩ (.int .i32 (fm0 + fl))).drew := ⟨_, rfl⟩
            have HV2 : Hid (FixSt w V2 b ep c (c + sl) (fm0 + fl) (.pointer (some ⟨x, 0, none⟩)) (.pointer ro) me0 u0) := by
              rw [hV]
              exact ⟨bset3 HV1.out.hb _, (HV1.out.upd.setCell _ _).drew _, ((by simp [World.setCell, World.drew] : ((V1.setCell ⟨b, 3, none⟩ (.int .i32 (fm0 + fl))).drew).heap.size = V1.heap.size)).trans HV1.out.hs⟩
            rw [← hV]
            clear hV
            have c0 : V2.cell? ⟨b, 0, none⟩ = some (.pointer (some ⟨ep, 0, none⟩)) := by rw [bcell HV2.out.hb]; rfl
            have c1 : V2.cell? ⟨b, 1, none⟩ = some (.int .i32 c) := by rw [bcell HV2.out.hb]; rfl
            have c2 : V2.cell? ⟨b, 2, none⟩ = some (.int .i32 (c + sl)) := by rw [bcell HV2.out.hb]; rfl
            have c3 : V2.cell? ⟨b, 3, none⟩ = some (.int .i32 (fm0 + fl)) := by rw [bcell HV2.out.hb]; rfl
            have c4 : V2.cell? ⟨b, 4, none⟩ = some (.pointer (some ⟨x, 0, none⟩)) := by rw [bcell HV2.out.hb]; rfl
            have c5 : V2.cell? ⟨b, 5, none⟩ = some (.pointer ro) := by rw [bcell HV2.out.hb]; rfl
            have c6 : V2.cell? ⟨b, 6, none⟩ = some (.int .i64 me0) := by rw [bcell HV2.out.hb]; rfl
            have c7 : V2.cell? ⟨b, 7, none⟩ = some (.int .u64 u0) := by rw [bcell HV2.out.hb]; rfl
            have f2 : V2.frozen? ⟨b, 2, none⟩ = false := bfz HV2.out.hb 2
            have f3 : V2.frozen? ⟨b, 3, none⟩ = false := bfz HV2.out.hb 3
            have f6 : V2.frozen? ⟨b, 6, none⟩ = false := bfz HV2.out.hb 6
            have f7 : V2.frozen? ⟨b, 7, none⟩ = false := bfz HV2.out.hb 7
            have e5 : V2.cell? ⟨ep, 5, none⟩ = some (.int .i64 fin) := (HV2.out.cell hep hne).trans HE.out.1
            have e6 : V2.cell? ⟨ep, 6, none⟩ = some (.bool true) := (HV2.out.cell hep hne).trans HE.out.2.1
            have e7 : V2.cell? ⟨ep, 7, none⟩ = some (.int .u64 hv) := (HV2.out.cell hep hne).trans HE.out.2.2
            have k2 : V2.cell? ⟨x, 2, none⟩ = some (.int .i32 sl) := (HV2.out.cell HX.out.2.1 HX.out.1).trans HX.out.2.2.1
            have k3 : V2.cell? ⟨x, 3, none⟩ = some (.int .i32 fl) := (HV2.out.cell HX.out.2.1 HX.out.1).trans HX.out.2.2.2.1
            have k6 : V2.cell? ⟨x, 6, none⟩ = some (.int .i64 ml) := (HV2.out.cell HX.out.2.1 HX.out.1).trans HX.out.2.2.2.2.1
            have k7 : V2.cell? ⟨x, 7, none⟩ = some (.int .u64 ul) := (HV2.out.cell HX.out.2.1 HX.out.1).trans HX.out.2.2.2.2.2
            go_wp2_with fail
            go_cut [] (fun wx => wx = (V2.setCell ⟨b, 6, none⟩ (.int .i64 (minI me0 ml))).drew)
            case first =>
              by_cases hmm : ml < me0
              · go_region
                go_wp2_with fail
                go_meet
                rw [minI_lt (show ml < me0 by omega)]
              · go_region
                go_wp2_with fail
                go_meet
                rw [minI_ge (show me0 ≤ ml by omega)]
            case rest =>
              subst hcut
              clear c0 c1 c2 c3 c4 c5 c6 c7 f2 f3 f6 f7 e5 e6 e7
              clear k2 k3 k6 k7
              obtain ⟨V3, hV⟩ : ∃ V3, V3 = (V2.setCell ⟨b, 6, none⟩ (.int .i64 (minI me0 ml))).drew := ⟨_, rfl⟩
              have HV3 : Hid (FixSt w V3 b ep c (c + sl) (fm0 + fl) (.pointer (some ⟨x, 0, none⟩)) (.pointer ro) (minI me0 ml) u0) := by
                rw [hV]
                exact ⟨bset6 HV2.out.hb _, (HV2.out.upd.setCell _ _).drew _, ((by simp [World.setCell, World.drew] : ((V2.setCell ⟨b, 6, none⟩ (.int .i64 (minI me0 ml))).drew).heap.size = V2.heap.size)).trans HV2.out.hs⟩
              rw [← hV]
              clear hV
              have c0 : V3.cell? ⟨b, 0, none⟩ = some (.pointer (some ⟨ep, 0, none⟩)) := by rw [bcell HV3.out.hb]; rfl
              have c1 : V3.cell? ⟨b, 1, none⟩ = some (.int .i32 c) := by rw [bcell HV3.out.hb]; rfl
              have c2 : V3.cell? ⟨b, 2, none⟩ = some (.int .i32 (c + sl)) := by rw [bcell HV3.out.hb]; rfl
              have c3 : V3.cell? ⟨b, 3, none⟩ = some (.int .i32 (fm0 + fl)) := by rw [bcell HV3.out.hb]; rfl
              have c4 : V3.cell? ⟨b, 4, none⟩ = some (.pointer (some ⟨x, 0, none⟩)) := by rw [bcell HV3.out.hb]; rfl
              have c5 : V3.cell? ⟨b, 5, none⟩ = some (.pointer ro) := by rw [bcell HV3.out.hb]; rfl
              have c6 : V3.cell? ⟨b, 6, none⟩ = some (.int .i64 (minI me0 ml)) := by rw [bcell HV3.out.hb]; rfl
              have c7 : V3.cell? ⟨b, 7, none⟩ = some (.int .u64 u0) := by rw [bcell HV3.out.hb]; rfl
              have f2 : V3.frozen? ⟨b, 2, none⟩ = false := bfz HV3.out.hb 2
              have f3 : V3.frozen? ⟨b, 3, none⟩ = false := bfz HV3.out.hb 3
              have f6 : V3.frozen? ⟨b, 6, none⟩ = false := bfz HV3.out.hb 6
              have f7 : V3.frozen? ⟨b, 7, none⟩ = false := bfz HV3.out.hb 7
              have e5 : V3.cell? ⟨ep, 5, none⟩ = some (.int .i64 fin) := (HV3.out.cell hep hne).trans HE.out.1
              have e6 : V3.cell? ⟨ep, 6, none⟩ = some (.bool true) := (HV3.out.cell hep hne).trans HE.out.2.1
              have e7 : V3.cell? ⟨ep, 7, none⟩ = some (.int .u64 hv) := (HV3.out.cell hep hne).trans HE.out.2.2
              have k2 : V3.cell? ⟨x, 2, none⟩ = some (.int .i32 sl) := (HV3.out.cell HX.out.2.1 HX.out.1).trans HX.out.2.2.1
              have k3 : V3.cell? ⟨x, 3, none⟩ = some (.int .i32 fl) := (HV3.out.cell HX.out.2.1 HX.out.1).trans HX.out.2.2.2.1
              have k6 : V3.cell? ⟨x, 6, none⟩ = some (.int .i64 ml) := (HV3.out.cell HX.out.2.1 HX.out.1).trans HX.out.2.2.2.2.1
              have k7 : V3.cell? ⟨x, 7, none⟩ = some (.int .u64 ul) := (HV3.out.cell HX.out.2.1 HX.out.1).trans HX.out.2.2.2.2.2
              have hadd := fun W => addMod_47 u0 ul (by omega) (by omega) W
              go_wp2_with fail
              go_region_with (go_at_call 47; refine (hadd _).mono ?_; rintro e w' ⟨rfl, rfl⟩)
              all_goals
                clear c0 c1 c2 c3 c4 c5 c6 c7 f2 f3 f6 f7 e5 e6 e7
                clear k2 k3 k6 k7
                obtain ⟨V4, hV⟩ : ∃ V4, V4 = (V3.setCell ⟨b, 7, none⟩ (.int .u64 (addM u0 ul))).drew := ⟨_, rfl⟩
                have HV4 : Hid (FixSt w V4 b ep c (c + sl) (fm0 + fl) (.pointer (some ⟨x, 0, none⟩)) (.pointer ro) (minI me0 ml) (addM u0 ul)) := by
                  rw [hV]
                  exact ⟨bset7 HV3.out.hb _, (HV3.out.upd.setCell _ _).drew _, ((by simp [World.setCell, World.drew] : ((V3.setCell ⟨b, 7, none⟩ (.int .u64 (addM u0 ul))).drew).heap.size = V3.heap.size)).trans HV3.out.hs⟩
                rw [← hV]
                clear hV
                clear HV1 HV2 HV3 hws hwf hadd
                go_wp2_with fail
                go_roundg 1
                case rel => exact .inr (.inl ⟨rfl, by go_num, HV4.out⟩)
                case measure => have := HG.out; omega
        · have HR : Hid (FixSt w wr b ep c (c + sl) (fm0 + fl) (.pointer lo) (.pointer ro) (minI me0 ml) (addM u0 ul)) := hst
          have HG : Hid (gk = 1) := hg
          clear hst hg
          have hix := ix1 lo ro
          have hm1 : minI me0 ml ≤ 9223372036854775807 := by unfold minI; split <;> omega
          rcases HK.out.2 with ⟨rfl, rfl, rfl, rfl, rfl⟩ | ⟨x, rfl, x1, x2, x3, x4, x5, x6⟩
          · go_wp2_with fail
            go_roundg 0
            case rel => exact .inr (.inr ⟨rfl, by go_num, by have h := HR.out; simp only [addM_zero hu1r, minI_max hm1, Int.add_zero]; exact h⟩)
            case measure => have := HG.out; omega
          · have HX : Hid (x ≠ b ∧ x < w.heap.size ∧ w.cell? ⟨x, 2, none⟩ = some (.int .i32 sr) ∧ w.cell? ⟨x, 3, none⟩ = some (.int .i32 fr) ∧ w.cell? ⟨x, 6, none⟩ = some (.int .i64 mr) ∧ w.cell? ⟨x, 7, none⟩ = some (.int .u64 ur)) := ⟨x1, x2, x3, x4, x5, x6⟩
            clear x1 x2 x3 x4 x5 x6
            have c0 : wr.cell? ⟨b, 0, none⟩ = some (.pointer (some ⟨ep, 0, none⟩)) := by rw [bcell HR.out.hb]; rfl
            have c1 : wr.cell? ⟨b, 1, none⟩ = some (.int .i32 c) := by rw [bcell HR.out.hb]; rfl
            have c2 : wr.cell? ⟨b, 2, none⟩ = some (.int .i32 (c + sl)) := by rw [bcell HR.out.hb]; rfl
            have c3 : wr.cell? ⟨b, 3, none⟩ = some (.int .i32 (fm0 + fl)) := by rw [bcell HR.out.hb]; rfl
            have c4 : wr.cell? ⟨b, 4, none⟩ = some (.pointer lo) := by rw [bcell HR.out.hb]; rfl
            have c5 : wr.cell? ⟨b, 5, none⟩ = some (.pointer (some ⟨x, 0, none⟩)) := by rw [bcell HR.out.hb]; rfl
            have c6 : wr.cell? ⟨b, 6, none⟩ = some (.int .i64 (minI me0 ml)) := by rw [bcell HR.out.hb]; rfl
            have c7 : wr.cell? ⟨b, 7, none⟩ = some (.int .u64 (addM u0 ul)) := by rw [bcell HR.out.hb]; rfl
            have f2 : wr.frozen? ⟨b, 2, none⟩ = false := bfz HR.out.hb 2
            have f3 : wr.frozen? ⟨b, 3, none⟩ = false := bfz HR.out.hb 3
            have f6 : wr.frozen? ⟨b, 6, none⟩ = false := bfz HR.out.hb 6
            have f7 : wr.frozen? ⟨b, 7, none⟩ = false := bfz HR.out.hb 7
            have e5 : wr.cell? ⟨ep, 5, none⟩ = some (.int .i64 fin) := (HR.out.cell hep hne).trans HE.out.1
            have e6 : wr.cell? ⟨ep, 6, none⟩ = some (.bool true) := (HR.out.cell hep hne).trans HE.out.2.1
            have e7 : wr.cell? ⟨ep, 7, none⟩ = some (.int .u64 hv) := (HR.out.cell hep hne).trans HE.out.2.2
            have k2 : wr.cell? ⟨x, 2, none⟩ = some (.int .i32 sr) := (HR.out.cell HX.out.2.1 HX.out.1).trans HX.out.2.2.1
            have k3 : wr.cell? ⟨x, 3, none⟩ = some (.int .i32 fr) := (HR.out.cell HX.out.2.1 HX.out.1).trans HX.out.2.2.2.1
            have k6 : wr.cell? ⟨x, 6, none⟩ = some (.int .i64 mr) := (HR.out.cell HX.out.2.1 HX.out.1).trans HX.out.2.2.2.2.1
            have k7 : wr.cell? ⟨x, 7, none⟩ = some (.int .u64 ur) := (HR.out.cell HX.out.2.1 HX.out.1).trans HX.out.2.2.2.2.2
            have hws : IntKind.i32.wrap ((c + sl) + sr) = (c + sl) + sr := by rw [IntKind.wrap_i32]; omega
            have hwf : IntKind.i32.wrap ((fm0 + fl) + fr) = (fm0 + fl) + fr := by rw [IntKind.wrap_i32]; omega
            go_wp2_with fail
            go_region
            clear c0 c1 c2 c3 c4 c5 c6 c7 f2 f3 f6 f7 e5 e6 e7
            clear k2 k3 k6 k7
            obtain ⟨V1, hV⟩ : ∃ V1, V1 = (wr.setCell ⟨b, 2, none⟩ (.int .i32 ((c + sl) + sr))).drew := ⟨_, rfl⟩
            have HV1 : Hid (FixSt w V1 b ep c ((c + sl) + sr) (fm0 + fl) (.pointer lo) (.pointer (some ⟨x, 0, none⟩)) (minI me0 ml) (addM u0 ul)) := by
              rw [hV]
              exact ⟨bset2 HR.out.hb _, (HR.out.upd.setCell _ _).drew _, ((by simp [World.setCell, World.drew] : ((wr.setCell ⟨b, 2, none⟩ (.int .i32 ((c + sl) + sr))).drew).heap.size = wr.heap.size)).trans HR.out.hs⟩
            rw [← hV]
            clear hV
            have c0 : V1.cell? ⟨b, 0, none⟩ = some (.pointer (some ⟨ep, 0, none⟩)) := by rw [bcell HV1.out.hb]; rfl
            have c1 : V1.cell? ⟨b, 1, none⟩ = some (.int .i32 c) := by rw [bcell HV1.out.hb]; rfl
            have c2 : V1.cell? ⟨b, 2, none⟩ = some (.int .i32 ((c + sl) + sr)) := by rw [bcell HV1.out.hb]; rfl
            have c3 : V1.cell? ⟨b, 3, none⟩ = some (.int .i32 (fm0 + fl)) := by rw [bcell HV1.out.hb]; rfl
            have c4 : V1.cell? ⟨b, 4, none⟩ = some (.pointer lo) := by rw [bcell HV1.out.hb]; rfl
            have c5 : V1.cell? ⟨b, 5, none⟩ = some (.pointer (some ⟨x, 0, none⟩)) := by rw [bcell HV1.out.hb]; rfl
            have c6 : V1.cell? ⟨b, 6, none⟩ = some (.int .i64 (minI me0 ml)) := by rw [bcell HV1.out.hb]; rfl
            have c7 : V1.cell? ⟨b, 7, none⟩ = some (.int .u64 (addM u0 ul)) := by rw [bcell HV1.out.hb]; rfl
            have f2 : V1.frozen? ⟨b, 2, none⟩ = false := bfz HV1.out.hb 2
            have f3 : V1.frozen? ⟨b, 3, none⟩ = false := bfz HV1.out.hb 3
            have f6 : V1.frozen? ⟨b, 6, none⟩ = false := bfz HV1.out.hb 6
            have f7 : V1.frozen? ⟨b, 7, none⟩ = false := bfz HV1.out.hb 7
            have e5 : V1.cell? ⟨ep, 5, none⟩ = some (.int .i64 fin) := (HV1.out.cell hep hne).trans HE.out.1
            have e6 : V1.cell? ⟨ep, 6, none⟩ = some (.bool true) := (HV1.out.cell hep hne).trans HE.out.2.1
            have e7 : V1.cell? ⟨ep, 7, none⟩ = some (.int .u64 hv) := (HV1.out.cell hep hne).trans HE.out.2.2
            have k2 : V1.cell? ⟨x, 2, none⟩ = some (.int .i32 sr) := (HV1.out.cell HX.out.2.1 HX.out.1).trans HX.out.2.2.1
            have k3 : V1.cell? ⟨x, 3, none⟩ = some (.int .i32 fr) := (HV1.out.cell HX.out.2.1 HX.out.1).trans HX.out.2.2.2.1
            have k6 : V1.cell? ⟨x, 6, none⟩ = some (.int .i64 mr) := (HV1.out.cell HX.out.2.1 HX.out.1).trans HX.out.2.2.2.2.1
            have k7 : V1.cell? ⟨x, 7, none⟩ = some (.int .u64 ur) := (HV1.out.cell HX.out.2.1 HX.out.1).trans HX.out.2.2.2.2.2
            go_wp2_with fail
            go_region
            clear c0 c1 c2 c3 c4 c5 c6 c7 f2 f3 f6 f7 e5 e6 e7
            clear k2 k3 k6 k7
            obtain ⟨V2, hV⟩ : ∃ V2, V2 = (V1.setCell ⟨b, 3, none⟩ (.int .i32 ((fm0 + fl) + fr))).drew := ⟨_, rfl⟩
            have HV2 : Hid (FixSt w V2 b ep c ((c + sl) + sr) ((fm0 + fl) + fr) (.pointer lo) (.pointer (some ⟨x, 0, none⟩)) (minI me0 ml) (addM u0 ul)) := by
              rw [hV]
              exact ⟨bset3 HV1.out.hb _, (HV1.out.upd.setCell _ _).drew _, ((by simp [World.setCell, World.drew] : ((V1.setCell ⟨b, 3, none⟩ (.int .i32 ((fm0 + fl) + fr))).drew).heap.size = V1.heap.size)).trans HV1.out.hs⟩
            rw [← hV]
            clear hV
            have c0 : V2.cell? ⟨b, 0, none⟩ = some (.pointer (some ⟨ep, 0, none⟩)) := by rw [bcell HV2.out.hb]; rfl
            have c1 : V2.cell? ⟨b, 1, none⟩ = some (.int .i32 c) := by rw [bcell HV2.out.hb]; rfl
            have c2 : V2.cell? ⟨b, 2, none⟩ = some (.int .i32 ((c + sl) + sr)) := by rw [bcell HV2.out.hb]; rfl
            have c3 : V2.cell? ⟨b, 3, none⟩ = some (.int .i32 ((fm0 + fl) + fr)) := by rw [bcell HV2.out.hb]; rfl
            have c4 : V2.cell? ⟨b, 4, none⟩ = some (.pointer lo) := by rw [bcell HV2.out.hb]; rfl
            have c5 : V2.cell? ⟨b, 5, none⟩ = some (.pointer (some ⟨x, 0, none⟩)) := by rw [bcell HV2.out.hb]; rfl
            have c6 : V2.cell? ⟨b, 6, none⟩ = some (.int .i64 (minI me0 ml)) := by rw [bcell HV2.out.hb]; rfl
            have c7 : V2.cell? ⟨b, 7, none⟩ = some (.int .u64 (addM u0 ul)) := by rw [bcell HV2.out.hb]; rfl
            have f2 : V2.frozen? ⟨b, 2, none⟩ = false := bfz HV2.out.hb 2
            have f3 : V2.frozen? ⟨b, 3, none⟩ = false := bfz HV2.out.hb 3
            have f6 : V2.frozen? ⟨b, 6, none⟩ = false := bfz HV2.out.hb 6
            have f7 : V2.frozen? ⟨b, 7, none⟩ = false := bfz HV2.out.hb 7
            have e5 : V2.cell? ⟨ep, 5, none⟩ = some (.int .i64 fin) := (HV2.out.cell hep hne).trans HE.out.1
            have e6 : V2.cell? ⟨ep, 6, none⟩ = some (.bool true) := (HV2.out.cell hep hne).trans HE.out.2.1
            have e7 : V2.cell? ⟨ep, 7, none⟩ = some (.int .u64 hv) := (HV2.out.cell hep hne).trans HE.out.2.2
            have k2 : V2.cell? ⟨x, 2, none⟩ = some (.int .i32 sr) := (HV2.out.cell HX.out.2.1 HX.out.1).trans HX.out.2.2.1
            have k3 : V2.cell? ⟨x, 3, none⟩ = some (.int .i32 fr) := (HV2.out.cell HX.out.2.1 HX.out.1).trans HX.out.2.2.2.1
            have k6 : V2.cell? ⟨x, 6, none⟩ = some (.int .i64 mr) := (HV2.out.cell HX.out.2.1 HX.out.1).trans HX.out.2.2.2.2.1
            have k7 : V2.cell? ⟨x, 7, none⟩ = some (.int .u64 ur) := (HV2.out.cell HX.out.2.1 HX.out.1).trans HX.out.2.2.2.2.2
            go_wp2_with fail
            go_cut [] (fun wx => wx = (V2.setCell ⟨b, 6, none⟩ (.int .i64 (minI (minI me0 ml) mr))).drew)
            case first =>
              by_cases hmm : mr < (minI me0 ml)
              · go_region
                go_wp2_with fail
                go_meet
                rw [minI_lt (show mr < (minI me0 ml) by omega)]
              · go_region
                go_wp2_with fail
                go_meet
                rw [minI_ge (show (minI me0 ml) ≤ mr by omega)]
            case rest =>
              subst hcut
              clear c0 c1 c2 c3 c4 c5 c6 c7 f2 f3 f6 f7 e5 e6 e7
              clear k2 k3 k6 k7
              obtain ⟨V3, hV⟩ : ∃ V3, V3 = (V2.setCell ⟨b, 6, none⟩ (.int .i64 (minI (minI me0 ml) mr))).drew := ⟨_, rfl⟩
              have HV3 : Hid (FixSt w V3 b ep c ((c + sl) + sr) ((fm0 + fl) + fr) (.pointer lo) (.pointer (some ⟨x, 0, none⟩)) (minI (minI me0 ml) mr) (addM u0 ul)) := by
                rw [hV]
                exact ⟨bset6 HV2.out.hb _, (HV2.out.upd.setCell _ _).drew _, ((by simp [World.setCell, World.drew] : ((V2.setCell ⟨b, 6, none⟩ (.int .i64 (minI (minI me0 ml) mr))).drew).heap.size = V2.heap.size)).trans HV2.out.hs⟩
              rw [← hV]
              clear hV
              have c0 : V3.cell? ⟨b, 0, none⟩ = some (.pointer (some ⟨ep, 0, none⟩)) := by rw [bcell HV3.out.hb]; rfl
              have c1 : V3.cell? ⟨b, 1, none⟩ = some (.int .i32 c) := by rw [bcell HV3.out.hb]; rfl
              have c2 : V3.cell? ⟨b, 2, none⟩ = some (.int .i32 ((c + sl) + sr)) := by rw [bcell HV3.out.hb]; rfl
              have c3 : V3.cell? ⟨b, 3, none⟩ = some (.int .i32 ((fm0 + fl) + fr)) := by rw [bcell HV3.out.hb]; rfl
              have c4 : V3.cell? ⟨b, 4, none⟩ = some (.pointer lo) := by rw [bcell HV3.out.hb]; rfl
              have c5 : V3.cell? ⟨b, 5, none⟩ = some (.pointer (some ⟨x, 0, none⟩)) := by rw [bcell HV3.out.hb]; rfl
              have c6 : V3.cell? ⟨b, 6, none⟩ = some (.int .i64 (minI (minI me0 ml) mr)) := by rw [bcell HV3.out.hb]; rfl
              have c7 : V3.cell? ⟨b, 7, none⟩ = some (.int .u64 (addM u0 ul)) := by rw [bcell HV3.out.hb]; rfl
              have f2 : V3.frozen? ⟨b, 2, none⟩ = false := bfz HV3.out.hb 2
              have f3 : V3.frozen? ⟨b, 3, none⟩ = false := bfz HV3.out.hb 3
              have f6 : V3.frozen? ⟨b, 6, none⟩ = false := bfz HV3.out.hb 6
              have f7 : V3.frozen? ⟨b, 7, none⟩ = false := bfz HV3.out.hb 7
              have e5 : V3.cell? ⟨ep, 5, none⟩ = some (.int .i64 fin) := (HV3.out.cell hep hne).trans HE.out.1
              have e6 : V3.cell? ⟨ep, 6, none⟩ = some (.bool true) := (HV3.out.cell hep hne).trans HE.out.2.1
              have e7 : V3.cell? ⟨ep, 7, none⟩ = some (.int .u64 hv) := (HV3.out.cell hep hne).trans HE.out.2.2
              have k2 : V3.cell? ⟨x, 2, none⟩ = some (.int .i32 sr) := (HV3.out.cell HX.out.2.1 HX.out.1).trans HX.out.2.2.1
              have k3 : V3.cell? ⟨x, 3, none⟩ = some (.int .i32 fr) := (HV3.out.cell HX.out.2.1 HX.out.1).trans HX.out.2.2.2.1
              have k6 : V3.cell? ⟨x, 6, none⟩ = some (.int .i64 mr) := (HV3.out.cell HX.out.2.1 HX.out.1).trans HX.out.2.2.2.2.1
              have k7 : V3.cell? ⟨x, 7, none⟩ = some (.int .u64 ur) := (HV3.out.cell HX.out.2.1 HX.out.1).trans HX.out.2.2.2.2.2
              have hadd := fun W => addMod_47 (addM u0 ul) ur (by omega) (by omega) W
              go_wp2_with fail
              go_region_with (go_at_call 47; refine (hadd _).mono ?_; rintro e w' ⟨rfl, rfl⟩)
              all_goals
                clear c0 c1 c2 c3 c4 c5 c6 c7 f2 f3 f6 f7 e5 e6 e7
                clear k2 k3 k6 k7
                obtain ⟨V4, hV⟩ : ∃ V4, V4 = (V3.setCell ⟨b, 7, none⟩ (.int .u64 (addM (addM u0 ul) ur))).drew := ⟨_, rfl⟩
                have HV4 : Hid (FixSt w V4 b ep c ((c + sl) + sr) ((fm0 + fl) + fr) (.pointer lo) (.pointer (some ⟨x, 0, none⟩)) (minI (minI me0 ml) mr) (addM (addM u0 ul) ur)) := by
                  rw [hV]
                  exact ⟨bset7 HV3.out.hb _, (HV3.out.upd.setCell _ _).drew _, ((by simp [World.setCell, World.drew] : ((V3.setCell ⟨b, 7, none⟩ (.int .u64 (addM (addM u0 ul) ur))).drew).heap.size = V3.heap.size)).trans HV3.out.hs⟩
                rw [← hV]
                clear hV
                clear HV1 HV2 HV3 hws hwf hadd
                go_wp2_with fail
                go_roundg 0
                case rel => exact .inr (.inr ⟨rfl, by go_num, HV4.out⟩)
                case measure => have := HG.out; omega
        · have HR : Hid (FixSt w wr b ep c (c + sl + sr) (fm0 + fl + fr) (.pointer lo) (.pointer ro) (minI (minI me0 ml) mr) (addM (addM u0 ul) ur)) := hst
          clear hst
          go_wp2_with fail
          go_ret
          exact ⟨rfl, by have h := HR.out; rw [HFM.out.1, HFM.out.2] at h; simpa using h⟩
end Go.Proofs.Qxb6613283a

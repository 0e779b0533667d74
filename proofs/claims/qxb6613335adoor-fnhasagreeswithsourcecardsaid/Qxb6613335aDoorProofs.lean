/-
  THE ROW of FnHasAgreesWithSource: from 'laid' to the three cells that the walk wants; the row; the tied card. After the guide's MapyProofs, MapyCard.
-/
import Derived.Test.Qxb6613335aDoorWalkE
import Derived.Test.Qxb6613335aDoorTie
import Derived.Test.Qxb6613335aDoorCards
import Derived.ProofKit
import Derived.LaidMore
import Derived.OpenShut
import Derived.Stop.Joined
import Derived.SevenTiedAt
import Derived.MakeChecks
namespace Go.Proofs.Qxb6613335aDoor
open Go.ChangeShapes Go.WideShapes Go.ChangeAt Go.RowKit

theorem own : ownKnob Tryd.prog.godebug = none := by kernel_rfl
theorem laidOut : laidOutB Tryd.prog = true := by kernel_rfl
theorem gZ4 : Tryd.prog.globalNamed "net/netip.z4" = some 0 := by kernel_rfl
theorem gZ6 : Tryd.prog.globalNamed "net/netip.z6noz" = some 1 := by kernel_rfl
theorem gZ0 : Tryd.prog.globalNamed "net/netip.z0" = some 2 := by kernel_rfl
theorem tZ4 : (Tryd.prog.globals[0]?).map (·.type) = some 29 := by kernel_rfl
theorem tZ6 : (Tryd.prog.globals[1]?).map (·.type) = some 29 := by kernel_rfl
theorem tZ0 : (Tryd.prog.globals[2]?).map (·.type) = some 29 := by kernel_rfl
theorem cells27 : Tryd.prog.cellsOf 27 = 1 := by kernel_rfl
theorem cells29 : Tryd.prog.cellsOf 29 = 1 := by kernel_rfl
theorem cells102 : Tryd.prog.cellsOf 102 = 2 := by kernel_rfl
theorem cells5 : Tryd.prog.cellsOf 5 = 1 := by kernel_rfl
theorem cells22 : Tryd.prog.cellsOf 22 = 16 := by kernel_rfl

abbrev laid6 : List (String × DataW Unit) := Rows.fnHasAgreesWithSourceRow.laid

/-- The door's own heap meets the condition; its blocks of the model's own (6 to 10: the door's run writes into one, unique.Make's) as a start has them. -/
theorem door_met (os : Os) (args : Array Value) : laidMetH Tryd.prog laid6 (({ World.doorLaid Tryd.prog 36 os with heap := ((World.doorLaid Tryd.prog 36 os).heap.toList.take 6 ++ (begin Tryd.prog (fun _ _ => 0) default).world.heap.toList.drop 6 ++ (World.doorLaid Tryd.prog 36 os).heap.toList.drop 11).toArray } : World).forCall (fun _ _ => 0) ⟨#[], args, []⟩).memory :=
  laidMetH_of_parts3 (fuel := 8) (laidMet_of_run' 8 (by kernel_rfl) (by kernel_rfl)) (by kernel_rfl) (by kernel_rfl)

theorem one_cell {cs : Array Value} (hl : cs.toList.length = 1) : ∃ c, cs = #[c] := by
  obtain ⟨l⟩ := cs
  match l, hl with
  | [c], _ => exact ⟨c, rfl⟩

/-- A handle that reads as a pointer: its one cell, and the place to which it leads. -/
theorem handle_ptr {W : World} {fuel : Nat} {cs : Array Value} {d : DataW Unit} {p : List MemPlace} (h : DataW.trod (fun _ => ()) Tryd.prog W 0 (fun _ => true) false fuel 29 cs.toList = some (.agg [.ptr d], p)) :
    ∃ a : Addr, cs = #[.pointer (some a)] ∧ MemPlace.cell a.block a.off ∈ p := by
  obtain ⟨y0, n, hx, hl, h0⟩ := trod_struct1 Tryd.underlying29 h
  rw [cells29] at hl
  obtain ⟨c, rfl⟩ := one_cell hl
  simp only [Prod.mk.injEq, DataW.agg.injEq, List.cons.injEq, and_true] at hx
  obtain ⟨hx1, hx2⟩ := hx
  have e0 : y0 = (.ptr d, p) := Prod.ext hx1.symm hx2.symm
  rw [e0, cells27] at h0
  obtain ⟨f', a, cs', q, e1, e2, _, e4⟩ := ptr_of_trod Tryd.underlying27 h0
  simp at e1
  subst e1
  refine ⟨a, rfl, ?_⟩
  rw [e4, cells102]
  simp [MemPlace.row, List.range_succ]

/-- A handle that reads as nil. -/
theorem handle_nil {W : World} {fuel : Nat} {cs : Array Value} {p : List MemPlace} (h : DataW.trod (fun _ => ()) Tryd.prog W 0 (fun _ => true) false fuel 29 cs.toList = some (.agg [.nil], p)) :
    cs = #[.pointer none] := by
  obtain ⟨y0, n, hx, hl, h0⟩ := trod_struct1 Tryd.underlying29 h
  rw [cells29] at hl
  obtain ⟨c, rfl⟩ := one_cell hl
  simp only [Prod.mk.injEq, DataW.agg.injEq, List.cons.injEq, and_true] at hx
  obtain ⟨hx1, hx2⟩ := hx
  have e0 : y0 = (.nil, p) := Prod.ext hx1.symm hx2.symm
  rw [e0, cells27] at h0
  have h1 : DataW.trod (fun _ => ()) Tryd.prog W 0 (fun _ => true) false n 27 [c] = some (.nil, p) := h0
  cases n with
  | zero => simp [DataW.trod] at h1
  | succ n =>
    cases c <;> simp [DataW.trod, Tryd.underlying27] at h1
    rename_i o
    cases o with
    | none => rfl
    | some a =>
      simp only [Option.bind_eq_some_iff, Function.comp, Option.map_eq_some_iff, Prod.mk.injEq] at h1
      obtain ⟨_, _, _, _, hh, _⟩ := h1
      cases hh

/-- WHAT THE CONDITION GIVES THE WALK. -/
theorem of_laid {W : World} (h : laidMetH Tryd.prog laid6 W) : ∃ a4 a6, NF a4 a6 W := by
  rw [MakeChecks.laidMetH_plain _ _ _ (by kernel_rfl)] at h
  obtain ⟨ps, ⟨_, _, _, _, _, q0, _, _, _, _, ⟨_, _, _, _, _, q1, _, _, _, _, ⟨_, _, _, _, _, q2, _, _, _, _, ⟨g4, t4, c4, f4, p4, q4, hg4, ht4, hv4, hd4, ⟨g6, t6, c6, f6, p6, q6, hg6, ht6, hv6, hd6, ⟨g0, t0, c0, f0, p0, q00, hg0, ht0, hv0, hd0, _, _⟩, e6⟩, e4⟩, e3⟩, e2⟩, e1⟩, hnd, hall⟩ := h
  obtain rfl := Option.some.inj (gZ4.symm.trans hg4)
  obtain rfl := Option.some.inj (gZ6.symm.trans hg6)
  obtain rfl := Option.some.inj (gZ0.symm.trans hg0)
  obtain rfl := Option.some.inj (tZ4.symm.trans ht4)
  obtain rfl := Option.some.inj (tZ6.symm.trans ht6)
  obtain rfl := Option.some.inj (tZ0.symm.trans ht0)
  obtain ⟨a4, rfl, m4⟩ := handle_ptr hd4
  obtain ⟨a6, rfl, m6⟩ := handle_ptr hd6
  obtain rfl := handle_nil hd0
  have i6 : MemPlace.cell a6.block a6.off ∈ q4 := by rw [e6]; simp [m6]
  have hsub : ∀ x, x ∈ q2 → x ∈ ps := fun x hx => by rw [e1, e2, e3]; simp [hx]
  have j4 : MemPlace.cell a4.block a4.off ∈ ps := hsub _ (by rw [e4]; simp [m4])
  have j6 : MemPlace.cell a6.block a6.off ∈ ps := hsub _ (by rw [e4]; simp [i6])
  have hn2 : q2.Nodup := by
    rw [e1, e2, e3] at hnd
    exact (List.nodup_append.1 (List.nodup_append.1 (List.nodup_append.1 hnd).2.1).2.1).2.1
  refine ⟨a4, a6, ?_, ?_, ?_, ?_, (hall _ _ j4).1, (hall _ _ j6).1⟩
  · simpa using World.var?_cell hg4 hv4 0
  · simpa using World.var?_cell hg6 hv6 0
  · simpa using World.var?_cell hg0 hv0 0
  · intro e
    subst e
    rw [e4] at hn2
    have := (List.nodup_append.1 hn2).2.2
    exact this _ (by simp [m4]) _ i6 rfl

/-- An array of sixteen bytes, by value. -/
theorem open_bytes16 {H : Type} {enc : TypeId × Value → H} {W : World} {base : Nat} {v : Value} {d : DataW H} {p : List MemPlace} (hv : Value.okWide Tryd.prog W .any base 22 v) (h : DataW.Trod enc Tryd.prog W 0 (fun _ => true) true 22 v d p) :
    ∃ A : Array Value, v = .agg A ∧ A.size = 16 ∧ Bytes16 A := by
  unfold Value.okWide at hv
  rw [Tryd.underlying22] at hv
  obtain ⟨A, rfl, hs, _⟩ := hv
  rw [cells22] at hs
  refine ⟨A, rfl, hs, fun i hi => ?_⟩
  obtain ⟨fuel, hf⟩ := h
  obtain ⟨xs, m, _, _, _, hlen, hel⟩ := DataW.trod_array Tryd.underlying22 hf
  have h1 := hel i hi
  rw [List.getElem?_eq_getElem (by omega), cells5] at h1
  obtain ⟨k, e1, _, _⟩ := DataW.trod_int Tryd.underlying5 h1
  refine ⟨k, ?_⟩
  have e2 : (A.toList.drop i).take 1 = [.int .u8 k] := by simpa [Value.cells] using e1
  have e3 : A.toList[i]? = some (.int .u8 k) := by
    have := congrArg (·[0]?) e2
    simpa using this
  simpa using e3

set_option maxRecDepth 100000 in
theorem lifted (os : Os) (started : os.Started) (H : Type) (enc : TypeId × Value → H) :
    ReturnsInHanded {} Tryd.checked os 3 .any (fun w args => (Rows.fnHasAgreesWithSourceSpec.pre enc Tryd.prog Tryd.f3 [] false w args ∧ laidMetH Tryd.prog laid6 w) ∧ sizedMet enc Tryd.prog Tryd.f3 (OpenSpec.ofChange Rows.fnHasAgreesWithSourceSpec) false w args)
      (Rows.fnHasAgreesWithSourceSpec.post enc Tryd.prog Tryd.f3 false true false false) := by
  refine returnsInHanded_of_change_and (C := Tryd.checked) (X := fun w _ => laidMetH Tryd.prog laid6 w) (fun _ _ _ hh h => h.of_heap hh) own started (by kernel_rfl) Tryd.func3
    (ChangeSpec.witness_shaped (enc := enc) (C := Tryd.checked) (os := os) (X := fun w _ => laidMetH Tryd.prog laid6 w) false ({ World.doorLaid Tryd.prog 36 os with heap := ((World.doorLaid Tryd.prog 36 os).heap.toList.take 6 ++ (begin Tryd.prog (fun _ _ => 0) default).world.heap.toList.drop 6 ++ (World.doorLaid Tryd.prog 36 os).heap.toList.drop 11).toArray } : World) #[.int .i64 0, .bool false, .agg #[.int .u8 0, .int .u8 0, .int .u8 0, .int .u8 0, .int .u8 0, .int .u8 0, .int .u8 0, .int .u8 0, .int .u8 0, .int .u8 0, .int .u8 0, .int .u8 0, .int .u8 0, .int .u8 0, .int .u8 0, .int .u8 0], .int .u16 0] 8 rfl (World.shaped_of_RefB (by kernel_rfl) (by kernel_rfl)) (by kernel_rfl) (by kernel_rfl) (by kernel_rfl) (door_met os _)) ?_
  intro W base args ds gs before hval0 hW _ _ hL _
  have hval : ∀ (j : Nat) t v, Tryd.f3.params[j]? = some t → args[j]? = some v → Value.okWide Tryd.prog W .any base t v := hval0
  have hW' := hW
  obtain ⟨p, q, hA0, hV, rfl, hfz, hnd⟩ := hW
  have hA : DataW.TrodAll enc Tryd.prog W 0 (fun _ => true) true Tryd.f3.params.toList args.toList ds p := hA0
  rw [Tryd.params3] at hA hval
  obtain ⟨v0, vs0, d0, ds0, p0, q0, hargs, rfl, rfl, h0, r0⟩ := trodAll_cons hA
  obtain ⟨v1, vs1, d1, ds1, p1, q1, rfl, rfl, rfl, h1, r1⟩ := trodAll_cons r0
  obtain ⟨v2, vs2, d2, ds2, p2, q2, rfl, rfl, rfl, h2, r2⟩ := trodAll_cons r1
  obtain ⟨v3, vs3, d3, ds3, p3, q3, rfl, rfl, rfl, h3, r3⟩ := trodAll_cons r2
  obtain ⟨rfl, rfl, rfl⟩ := trodAll_nil r3
  obtain rfl : args = #[v0, v1, v2, v3] := by cases args; simp_all
  obtain ⟨rfl, rfl⟩ := trodVars_none hV
  obtain ⟨a0, rfl, rfl, rfl, w0⟩ := open_int Tryd.underlying3 (hval 0 3 v0 rfl rfl) h0
  obtain ⟨a1, rfl, rfl, rfl⟩ := open_bool Tryd.underlying4 (hval 1 4 v1 rfl rfl) h1
  have k2 := h2
  have lt2 : ∀ x ∈ p2, x.block < W.heap.size := by obtain ⟨m, hm⟩ := k2; exact DataW.trod_lt m _ _ _ hm
  obtain ⟨A, rfl, hsz, hby⟩ := open_bytes16 (hval 2 22 v2 rfl rfl) h2
  obtain ⟨a3, rfl, rfl, rfl, w3⟩ := open_int Tryd.underlying23 (hval 3 23 v3 rfl rfl) h3
  obtain ⟨a4, a6, hF⟩ := of_laid hL
  clear hA0 hval0
  refine (law_any a0 a1 A hsz hby a3 W hF).mono fun e W' ⟨he, bel⟩ => ?_
  subst he
  exact ⟨_, rfl, _, _, _, [], _, [], hW', trodAll_mk1 (shut_bool Tryd.underlying4 _), (trodAll_cons_mk (shut_int Tryd.underlying3 w0) (trodAll_cons_mk (shut_bool Tryd.underlying4 _) (trodAll_cons_mk (Below.trod laidOut (by kernel_rfl) (of_decide_eq_true (by kernel_rfl)) k2 bel lt2) (trodAll_cons_mk (shut_int Tryd.underlying23 w3) trodAll_mk0)))), rfl, bel.frame _, fun h => by cases h⟩

theorem fnHasAgreesWithSource_row : Rows.FnHasAgreesWithSourceSaid :=
  OpenClaim.holds_of_wide 3 Tryd.f3 rfl rfl rfl rfl rfl rfl rfl ⟨rfl, rfl, rfl, rfl, rfl⟩ rfl rfl rfl rfl rfl (by kernel_rfl) Tryd.func3 (by kernel_rfl)
    (of_decide_eq_true (by kernel_rfl)) (by unfold Func.isWrapper; first | (rw [if_pos (by decide +kernel)]; kernel_rfl) | (rw [if_neg (by decide +kernel)]; exact ⟨rfl, rfl⟩))
    (fun os started H enc _ => lifted os started H enc)

theorem fnHasAgreesWithSource_card : Rows.FnHasAgreesWithSourceCardSaid :=
  Claim7.holds_tied_plain_at .later [] [.data, .data, .data, .called, .called, .zero] true (true, "8f83386e33ce11d906d06062776eb8e0405f940392ee2ac87f4d9359168b89b1") false
    fnHasAgreesWithSource_row (fun _ h => by cases h) (by kernel_rfl) (fun _ h => by cases h) fnHasAgreesWithSource_row_tie rfl ⟨rfl, rfl⟩ (by kernel_rfl) rfl
    (fun f fn hf hfn => by
      obtain rfl : f = 3 := Option.some.inj ((show Tryd.prog.funcNamed Rows.fnHasAgreesWithSourceRow.func = some 3 by kernel_rfl).symm.trans hf) |>.symm
      obtain rfl : fn = Tryd.f3 := (Option.some.inj (Tryd.func3.symm.trans hfn)).symm
      exact ⟨by kernel_rfl, fun j t ht => by
        rw [Tryd.params3] at ht
        have hm : t ∈ [3, 4, 22, 23] := by simpa using Array.mem_of_getElem? ht
        have hall : ([3, 4, 22, 23].all fun u => !Tryd.prog.wantsStandIn u) = true := by kernel_rfl
        exact (show Tryd.prog.wantsStandIn t = false by simpa using List.all_eq_true.1 hall t hm)⟩)
    (by kernel_rfl)
end Go.Proofs.Qxb6613335aDoor

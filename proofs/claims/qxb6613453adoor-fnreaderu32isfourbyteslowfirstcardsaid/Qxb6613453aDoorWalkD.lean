/-
  THE WALK of FnReaderU32IsFourBytesLowFirst, a case at a time.
-/
import Derived.Test.Qxb6613453aDoorWalkC
namespace Go.Proofs.Qxb6613453aDoor
open Go.RowKit
theorem dat_lo {lo lo' : Nat} {w : World} {A : Option Addr} {n : Nat} {f : Nat → Int} (h : Dat lo w A n f) (hl : lo' ≤ lo) : Dat lo' w A n f := by
  rcases h with h | ⟨D, rfl, hlo, hr⟩
  · exact .inl h
  · exact .inr ⟨D, rfl, by omega, hr⟩
theorem u32_dat {w : World} {R lo n : Nat} {A : Option Addr} {f : Nat → Int} {kk : Nat} (h : RdAt w R (.slice A n n) kk .nilIface) (hd : Dat lo w A n f) (hne : ∀ D, A = some ⟨D, 0, none⟩ → D ≠ R) (hk : kk + 4 ≤ n) (hl : n ≤ 1048576) :
    Calls Tryd.prog 8 #[.pointer (some ⟨R, 0, none⟩)] w fun e w' => e = .returned (.int .u32 (le32 (f kk) (f (kk + 1)) (f (kk + 2)) (f (kk + 3)))) ∧ (RdAt w' R (.slice A n n) ((kk : Int) + 4) .nilIface ∧ Upd R w w') := by
  rcases hd with ⟨_, hn⟩ | ⟨D, rfl, _, hr⟩
  · omega
  · exact zzU32 R _ w _ (u32_ok R D n kk _ _ _ _ w h hk hl hr.lt (hne D rfl) (hr.cell (by omega)) (hr.cell (by omega)) (hr.cell (by omega)) (hr.cell (by omega)))
theorem st_start {w W : World} {A0 A2 : Option Addr} {n : Nat} {f : Nat → Int} {R : Nat} {o : Int} {er : Value} {gs : Array Value} (d0 : Dat w.heap.size W A0 n f) (d2 : Dat w.heap.size W A2 n f) (hb : Below w.heap.size w W) (hr : RdAt W R (.slice A2 n n) o er)
    (hn : w.heap.size ≤ R ∧ (∀ D, A0 = some ⟨D, 0, none⟩ → D ≠ R) ∧ (∀ D, A2 = some ⟨D, 0, none⟩ → D ≠ R)) : St w (W.alloc (.cells gs 34)) A0 A2 n f R W.heap.size o er gs := by
  have hB := (Below.refl W.heap.size W).alloc (Nat.le_refl _) (.cells gs 34)
  exact ⟨hb.trans (hB.mono hb.size), d0.below hB, d2.below hB, (hB.block R hr.lt).trans hr, (MapKept.heap_alloc W _).1, Nat.ne_of_lt hr.lt, hn.1, hb.size, fun D hD => ⟨hn.2.1 D hD, Nat.ne_of_lt (d0.lt D hD)⟩, fun D hD => ⟨hn.2.2 D hD, Nat.ne_of_lt (d2.lt D hD)⟩⟩
theorem bel_drewN {B : Nat} {a w : World} (h : Below B a w) (q : Nat) : Below B a (w.drewN q) := ⟨h.os, h.tape, h.output, h.size, h.block⟩
theorem eqA (W : World) : (Op.equalIn 10000 34 (.agg #[.int .u8 0, .int .u8 0, .int .u8 0, .int .u8 0]) (.agg #[.int .u8 0, .int .u8 0, .int .u8 0, .int .u8 0])).run Tryd.prog W = .ok true W := by kernel_rfl
theorem dat_some {lo : Nat} {w : World} {A : Option Addr} {n : Nat} {f : Nat → Int} (h : Dat lo w A n f) (hn : 0 < n) : ∃ D, A = some ⟨D, 0, none⟩ ∧ w.rowIs D 5 n (fun i => .int .u8 (f i)) := by
  rcases h with ⟨_, h0⟩ | ⟨D, rfl, _, hr⟩
  · omega
  · exact ⟨D, rfl, hr⟩
theorem dat_at {lo : Nat} {w : World} {A : Option Addr} {n : Nat} {f : Nat → Int} (h : Dat lo w A n f) {kk : Nat} (hk : kk + 4 ≤ n) : ∃ D, A = some ⟨D, 0, none⟩ ∧ w.cell? ⟨D, kk, none⟩ = some (.int .u8 (f kk)) ∧ w.cell? ⟨D, kk + 1, none⟩ = some (.int .u8 (f (kk + 1))) ∧ w.cell? ⟨D, kk + 2, none⟩ = some (.int .u8 (f (kk + 2))) ∧ w.cell? ⟨D, kk + 3, none⟩ = some (.int .u8 (f (kk + 3))) := by
  obtain ⟨D, hA, hr⟩ := dat_some h (by omega)
  exact ⟨D, hA, hr.cell (by omega), hr.cell (by omega), hr.cell (by omega), hr.cell (by omega)⟩
set_option maxRecDepth 100000 in
set_option maxHeartbeats 4000000 in
theorem law_a (A : Option Addr) (n c : Nat) (f : Nat → Int) (k : Int) (hk : k < 0 ∨ (n : Int) < k) (T : TypeId) (v : Value) (w : World) (hn : n ≤ 1048576) (hs : Src w A n c f) (ce : w.cell? ⟨0, 0, none⟩ = some (.iface T v)) (h0 : 0 < w.heap.size) :
    Calls Tryd.prog 3 #[.slice A n c, .int .i64 k] w fun e w' => e = .returned (.bool true) ∧ Below w.heap.size w w' := by
  have HS : Hid (Src w A n c f) := hs
  have HK : Hid (k < 0 ∨ (n : Int) < k) := hk
  have CE : Hid (∀ W, Below w.heap.size w W → W.cell? ⟨0, 0, none⟩ = some (.iface T v)) := fun W hW => (hW.cell (p := ⟨0, 0, none⟩) h0).trans ce
  clear hs ce hk
  go_enter Tryd.func3, Tryd.ntmps3
  go_wp2_with fail
  refine (bytes_yes _ _ _ _ _ hn).mono ?_
  rintro e w0 ⟨rfl, hw0⟩
  subst hw0
  go_wp2_with fail
  refine (clone_any A n c f _ hn HS.out).mono ?_
  rintro e w1 ⟨A0, rfl, hd0, hb1⟩
  have D0 : Hid (Dat w0.heap.size w1 A0 n f ∧ Below w0.heap.size w0 w1) := ⟨hd0, hb1⟩
  clear hd0 hb1
  go_wp2_with fail
  refine (clone_any A0 n n f _ hn D0.out.1.src).mono ?_
  rintro e w2 ⟨A1, rfl, hd1, hb2⟩
  have D1 : Hid (Dat w0.heap.size w2 A0 n f ∧ Dat w1.heap.size w2 A1 n f ∧ Below w0.heap.size w0 w2) := ⟨D0.out.1.below hb2, hd1, D0.out.2.trans (hb2.mono D0.out.2.size)⟩
  clear hd1 hb2 D0
  go_wp2_with fail
  refine (new_any A1 n n _).mono ?_
  rintro e w3 ⟨rfl, hw3⟩
  have hr3 := rd_new w2 (.slice A1 n n)
  have hb3 := (Below.refl w2.heap.size w2).alloc (Nat.le_refl _) (.cells #[.slice A1 n n, .int .i64 0, .nilIface] 38)
  rw [← hw3] at hr3 hb3
  have D3 : Hid (Dat w0.heap.size w3 A0 n f ∧ Dat w1.heap.size w3 A1 n f ∧ Below w0.heap.size w0 w3 ∧ RdAt w3 w2.heap.size (.slice A1 n n) 0 .nilIface ∧ w0.heap.size ≤ w2.heap.size ∧ (∀ D, A0 = some ⟨D, 0, none⟩ → D ≠ w2.heap.size) ∧ (∀ D, A1 = some ⟨D, 0, none⟩ → D ≠ w2.heap.size)) :=
    ⟨D1.out.1.below hb3, D1.out.2.1.below hb3, D1.out.2.2.trans (hb3.mono D1.out.2.2.size), hr3, D1.out.2.2.size, fun D hD => Nat.ne_of_lt (D1.out.1.lt D hD), fun D hD => Nat.ne_of_lt (D1.out.2.1.lt D hD)⟩
  clear hr3 hb3 hw3 D1
  generalize w2.heap.size = R1 at *
  go_wp2_with fail
  refine (nextA R1 k T v A1 n _ D3.out.2.2.2.1 (CE.out _ D3.out.2.2.1) hn HK.out).mono ?_
  rintro e w4 ⟨⟨x4, rfl⟩, hr4, hu4⟩
  have D4 : Hid (Dat w0.heap.size w4 A0 n f ∧ Dat w1.heap.size w4 A1 n f ∧ Below w0.heap.size w0 w4 ∧ RdAt w4 R1 (.slice A1 n n) 0 (.iface T v) ∧ w0.heap.size ≤ R1 ∧ (∀ D, A0 = some ⟨D, 0, none⟩ → D ≠ R1) ∧ (∀ D, A1 = some ⟨D, 0, none⟩ → D ≠ R1)) :=
    ⟨D3.out.1.upd hu4 D3.out.2.2.2.2.2.1, D3.out.2.1.upd hu4 D3.out.2.2.2.2.2.2, bel_upd D3.out.2.2.1 D3.out.2.2.2.2.1 D3.out.2.2.1.size hu4, hr4, D3.out.2.2.2.2⟩
  clear hr4 hu4 D3
  go_wp2_with fail
  refine (zzU32 R1 0 _ (fun w' => RdAt w' R1 (.slice A1 n n) 0 (.iface T v) ∧ Upd R1 w4 w') ((u32_err R1 T v _ 0 w4 D4.out.2.2.2.1).mono fun _ _ ⟨he, hw⟩ => ⟨he, hw ▸ D4.out.2.2.2.1, hw ▸ Upd.refl _ _⟩)).mono ?_
  rintro e w5 ⟨rfl, hr5, hu5⟩
  have D5 : Hid (Dat w0.heap.size w5 A0 n f ∧ Below w0.heap.size w0 w5 ∧ RdAt w5 R1 (.slice A1 n n) 0 (.iface T v)) :=
    ⟨D4.out.1.upd hu5 D4.out.2.2.2.2.2.1, bel_upd D4.out.2.2.1 D4.out.2.2.2.2.1 D4.out.2.2.1.size hu5, hr5⟩
  clear hr5 hu5 D4
  go_wp2_with fail
  refine (off_any R1 _ _ _ _ D5.out.2.2).mono ?_
  rintro e w5' ⟨rfl, hw5⟩
  subst hw5
  go_wp2_with fail
  refine (err_any R1 _ T v _ _ D5.out.2.2).mono ?_
  rintro e w5'' ⟨rfl, hw5⟩
  subst hw5
  go_wp2_with fail
  refine (clone_any A0 n n f _ hn D5.out.1.src).mono ?_
  rintro e w6 ⟨A2, rfl, hd2, hb6⟩
  have D6 : Hid (Dat w0.heap.size w6 A0 n f ∧ Dat w0.heap.size w6 A2 n f ∧ Below w0.heap.size w0 w6) := ⟨D5.out.1.below hb6, dat_lo hd2 D5.out.2.1.size, D5.out.2.1.trans (hb6.mono D5.out.2.1.size)⟩
  clear hd2 hb6 D5
  go_wp2_with fail
  refine (new_any A2 n n _).mono ?_
  rintro e w7 ⟨rfl, hw7⟩
  have hr7 := rd_new w6 (.slice A2 n n)
  have hb7 := (Below.refl w6.heap.size w6).alloc (Nat.le_refl _) (.cells #[.slice A2 n n, .int .i64 0, .nilIface] 38)
  rw [← hw7] at hr7 hb7
  have D7 : Hid (Dat w0.heap.size w7 A0 n f ∧ Dat w0.heap.size w7 A2 n f ∧ Below w0.heap.size w0 w7 ∧ RdAt w7 w6.heap.size (.slice A2 n n) 0 .nilIface ∧ w0.heap.size ≤ w6.heap.size ∧ (∀ D, A0 = some ⟨D, 0, none⟩ → D ≠ w6.heap.size) ∧ (∀ D, A2 = some ⟨D, 0, none⟩ → D ≠ w6.heap.size)) :=
    ⟨D6.out.1.below hb7, D6.out.2.1.below hb7, D6.out.2.2.trans (hb7.mono D6.out.2.2.size), hr7, D6.out.2.2.size, fun D hD => Nat.ne_of_lt (D6.out.1.lt D hD), fun D hD => Nat.ne_of_lt (D6.out.2.1.lt D hD)⟩
  clear hr7 hb7 hw7 D6
  generalize w6.heap.size = R2 at *
  go_wp2_with fail
  refine (nextA R2 k T v A2 n _ D7.out.2.2.2.1 (CE.out _ D7.out.2.2.1) hn HK.out).mono ?_
  rintro e w8 ⟨⟨x8, rfl⟩, hr8, hu8⟩
  have S0 : Hid (St w0 (w8.alloc (.cells #[.int .u8 0, .int .u8 0, .int .u8 0, .int .u8 0] 34)) A0 A2 n f R2 w8.heap.size 0 (.iface T v) #[.int .u8 0, .int .u8 0, .int .u8 0, .int .u8 0]) :=
    st_start (D7.out.1.upd hu8 D7.out.2.2.2.2.2.1) (D7.out.2.1.upd hu8 D7.out.2.2.2.2.2.2) (bel_upd D7.out.2.2.1 D7.out.2.2.2.2.1 D7.out.2.2.1.size hu8) hr8 D7.out.2.2.2.2
  clear hr8 hu8 D7
  go_wp2_with fail
  generalize w8.heap.size = G at *
  generalize w8.alloc (.cells #[.int .u8 0, .int .u8 0, .int .u8 0, .int .u8 0] 34) = v0 at *
  refine wp_loop_rounds 5 ?_
  rw [rounds_succ]
  go_wp2_with fail
  have T0 := S0.out
  refine (r8_err T0).mono ?_
  rintro e u0 ⟨rfl, hr, hu⟩
  have hgc := gcell (T0.g1 hu) 0
  have hgf := gfz (T0.g1 hu) 0
  simp only [List.getElem?_toArray, List.getElem?_cons_zero] at hgc
  have S1 : Hid (St w0 (u0.setCell ⟨G, 0, none⟩ (.int .u8 0)) A0 A2 n f R2 G _ (.iface T v) #[.int .u8 0, .int .u8 0, .int .u8 0, .int .u8 0]) := T0.step hu hr 0 (.int .u8 0)
  clear hr hu T0 S0
  go_wp2_with fail
  clear hgc hgf
  generalize u0.setCell ⟨G, 0, none⟩ (.int .u8 0) = v1 at *
  rw [rounds_succ]
  go_wp2_with fail
  have T1 := S1.out
  refine (r8_err T1).mono ?_
  rintro e u1 ⟨rfl, hr, hu⟩
  have hgc := gcell (T1.g1 hu) 1
  have hgf := gfz (T1.g1 hu) 1
  simp only [List.getElem?_toArray, List.getElem?_cons_zero, List.getElem?_cons_succ] at hgc
  have S2 : Hid (St w0 (u1.setCell ⟨G, 1, none⟩ (.int .u8 0)) A0 A2 n f R2 G _ (.iface T v) #[.int .u8 0, .int .u8 0, .int .u8 0, .int .u8 0]) := T1.step hu hr 1 (.int .u8 0)
  clear hr hu T1 S1
  go_wp2_with fail
  clear hgc hgf
  generalize u1.setCell ⟨G, 1, none⟩ (.int .u8 0) = v2 at *
  rw [rounds_succ]
  go_wp2_with fail
  have T2 := S2.out
  refine (r8_err T2).mono ?_
  rintro e u2 ⟨rfl, hr, hu⟩
  have hgc := gcell (T2.g1 hu) 2
  have hgf := gfz (T2.g1 hu) 2
  simp only [List.getElem?_toArray, List.getElem?_cons_zero, List.getElem?_cons_succ] at hgc
  have S3 : Hid (St w0 (u2.setCell ⟨G, 2, none⟩ (.int .u8 0)) A0 A2 n f R2 G _ (.iface T v) #[.int .u8 0, .int .u8 0, .int .u8 0, .int .u8 0]) := T2.step hu hr 2 (.int .u8 0)
  clear hr hu T2 S2
  go_wp2_with fail
  clear hgc hgf
  generalize u2.setCell ⟨G, 2, none⟩ (.int .u8 0) = v3 at *
  rw [rounds_succ]
  go_wp2_with fail
  have T3 := S3.out
  refine (r8_err T3).mono ?_
  rintro e u3 ⟨rfl, hr, hu⟩
  have hgc := gcell (T3.g1 hu) 3
  have hgf := gfz (T3.g1 hu) 3
  simp only [List.getElem?_toArray, List.getElem?_cons_zero, List.getElem?_cons_succ] at hgc
  have S4 : Hid (St w0 (u3.setCell ⟨G, 3, none⟩ (.int .u8 0)) A0 A2 n f R2 G _ (.iface T v) #[.int .u8 0, .int .u8 0, .int .u8 0, .int .u8 0]) := T3.step hu hr 3 (.int .u8 0)
  clear hr hu T3 S3
  go_wp2_with fail
  clear hgc hgf
  generalize u3.setCell ⟨G, 3, none⟩ (.int .u8 0) = v4 at *
  rw [rounds_succ]
  go_wp2_with fail
  have SF := S4.out.cast (o' := 0) (by omega)
  refine (off_any R2 _ _ _ _ SF.rd).mono ?_
  rintro e v4' ⟨rfl, hw⟩
  subst hw
  go_wp2_with fail
  refine (err_any R2 _ T v _ _ SF.rd).mono ?_
  rintro e v4'' ⟨rfl, hw⟩
  subst hw
  have m0 := gcell SF.gg 0
  have m1 := gcell SF.gg 1
  have m2 := gcell SF.gg 2
  have m3 := gcell SF.gg 3
  simp only [List.getElem?_toArray, List.getElem?_cons_zero, List.getElem?_cons_succ] at m0 m1 m2 m3
  have hbF : Hid (Below w0.heap.size w0 v4'') := SF.bel
  clear SF S4
  have eqa := eqA
  rcases HK.out with hk | hk
  · go_wp2_with fail
    go_ret
    exact ⟨rfl, hbF.out⟩
  · have hd : decide (k < 0) = false := by simp; omega
    go_wp2_with fail
    go_ret
    exact ⟨rfl, hbF.out⟩
set_option maxRecDepth 100000 in
set_option maxHeartbeats 4000000 in
theorem law_b (A : Option Addr) (n c : Nat) (f : Nat → Int) (kk : Nat) (hk : kk + 4 ≤ n) (T : TypeId) (v : Value) (w : World) (hn : n ≤ 1048576) (hs : Src w A n c f) (ce : w.cell? ⟨0, 0, none⟩ = some (.iface T v)) (h0 : 0 < w.heap.size) :
    Calls Tryd.prog 3 #[.slice A n c, .int .i64 (kk : Int)] w fun e w' => e = .returned (.bool true) ∧ Below w.heap.size w w' := by
  have HS : Hid (Src w A n c f) := hs
  have CE : Hid (∀ W, Below w.heap.size w W → W.cell? ⟨0, 0, none⟩ = some (.iface T v)) := fun W hW => (hW.cell (p := ⟨0, 0, none⟩) h0).trans ce
  clear hs ce
  go_enter Tryd.func3, Tryd.ntmps3
  go_wp2_with fail
  refine (bytes_yes _ _ _ _ _ hn).mono ?_
  rintro e w0 ⟨rfl, hw0⟩
  subst hw0
  go_wp2_with fail
  refine (clone_any A n c f _ hn HS.out).mono ?_
  rintro e w1 ⟨A0, rfl, hd0, hb1⟩
  have D0 : Hid (Dat w0.heap.size w1 A0 n f ∧ Below w0.heap.size w0 w1) := ⟨hd0, hb1⟩
  clear hd0 hb1
  go_wp2_with fail
  refine (clone_any A0 n n f _ hn D0.out.1.src).mono ?_
  rintro e w2 ⟨A1, rfl, hd1, hb2⟩
  have D1 : Hid (Dat w0.heap.size w2 A0 n f ∧ Dat w1.heap.size w2 A1 n f ∧ Below w0.heap.size w0 w2) := ⟨D0.out.1.below hb2, hd1, D0.out.2.trans (hb2.mono D0.out.2.size)⟩
  clear hd1 hb2 D0
  go_wp2_with fail
  refine (new_any A1 n n _).mono ?_
  rintro e w3 ⟨rfl, hw3⟩
  have hr3 := rd_new w2 (.slice A1 n n)
  have hb3 := (Below.refl w2.heap.size w2).alloc (Nat.le_refl _) (.cells #[.slice A1 n n, .int .i64 0, .nilIface] 38)
  rw [← hw3] at hr3 hb3
  have D3 : Hid (Dat w0.heap.size w3 A0 n f ∧ Dat w1.heap.size w3 A1 n f ∧ Below w0.heap.size w0 w3 ∧ RdAt w3 w2.heap.size (.slice A1 n n) 0 .nilIface ∧ w0.heap.size ≤ w2.heap.size ∧ (∀ D, A0 = some ⟨D, 0, none⟩ → D ≠ w2.heap.size) ∧ (∀ D, A1 = some ⟨D, 0, none⟩ → D ≠ w2.heap.size)) :=
    ⟨D1.out.1.below hb3, D1.out.2.1.below hb3, D1.out.2.2.trans (hb3.mono D1.out.2.2.size), hr3, D1.out.2.2.size, fun D hD => Nat.ne_of_lt (D1.out.1.lt D hD), fun D hD => Nat.ne_of_lt (D1.out.2.1.lt D hD)⟩
  clear hr3 hb3 hw3 D1
  generalize w2.heap.size = R1 at *
  go_wp2_with fail
  refine (nextB R1 kk A1 _ n f _ D3.out.2.2.2.1 D3.out.2.1 hn (by omega)).mono ?_
  rintro e w4 ⟨⟨x4, rfl⟩, hr4, hu4⟩
  have D4 : Hid (Dat w0.heap.size w4 A0 n f ∧ Dat w1.heap.size w4 A1 n f ∧ Below w0.heap.size w0 w4 ∧ RdAt w4 R1 (.slice A1 n n) kk .nilIface ∧ w0.heap.size ≤ R1 ∧ (∀ D, A0 = some ⟨D, 0, none⟩ → D ≠ R1) ∧ (∀ D, A1 = some ⟨D, 0, none⟩ → D ≠ R1)) :=
    ⟨D3.out.1.upd hu4 D3.out.2.2.2.2.2.1, D3.out.2.1.upd hu4 D3.out.2.2.2.2.2.2, bel_upd D3.out.2.2.1 D3.out.2.2.2.2.1 D3.out.2.2.1.size hu4, hr4, D3.out.2.2.2.2⟩
  clear hr4 hu4 D3
  go_wp2_with fail
  refine (u32_dat D4.out.2.2.2.1 D4.out.2.1 D4.out.2.2.2.2.2.2 hk hn).mono ?_
  rintro e w5 ⟨rfl, hr5, hu5⟩
  have D5 : Hid (Dat w0.heap.size w5 A0 n f ∧ Below w0.heap.size w0 w5 ∧ RdAt w5 R1 (.slice A1 n n) ((kk : Int) + 4) .nilIface) :=
    ⟨D4.out.1.upd hu5 D4.out.2.2.2.2.2.1, bel_upd D4.out.2.2.1 D4.out.2.2.2.2.1 D4.out.2.2.1.size hu5, hr5⟩
  clear hr5 hu5 D4
  generalize hWv : le32 (f kk) (f (kk + 1)) (f (kk + 2)) (f (kk + 3)) = WV
  have HW : Hid (le32 (f kk) (f (kk + 1)) (f (kk + 2)) (f (kk + 3)) = WV) := hWv
  clear hWv
  go_wp2_with fail
  refine (off_any R1 _ _ _ _ D5.out.2.2).mono ?_
  rintro e w5' ⟨rfl, hw5⟩
  subst hw5
  go_wp2_with fail
  refine (err_nil R1 _ _ _ D5.out.2.2).mono ?_
  rintro e w5'' ⟨rfl, hw5⟩
  subst hw5
  go_wp2_with fail
  refine (clone_any A0 n n f _ hn D5.out.1.src).mono ?_
  rintro e w6 ⟨A2, rfl, hd2, hb6⟩
  have D6 : Hid (Dat w0.heap.size w6 A0 n f ∧ Dat w0.heap.size w6 A2 n f ∧ Below w0.heap.size w0 w6) := ⟨D5.out.1.below hb6, dat_lo hd2 D5.out.2.1.size, D5.out.2.1.trans (hb6.mono D5.out.2.1.size)⟩
  clear hd2 hb6 D5
  go_wp2_with fail
  refine (new_any A2 n n _).mono ?_
  rintro e w7 ⟨rfl, hw7⟩
  have hr7 := rd_new w6 (.slice A2 n n)
  have hb7 := (Below.refl w6.heap.size w6).alloc (Nat.le_refl _) (.cells #[.slice A2 n n, .int .i64 0, .nilIface] 38)
  rw [← hw7] at hr7 hb7
  have D7 : Hid (Dat w0.heap.size w7 A0 n f ∧ Dat w0.heap.size w7 A2 n f ∧ Below w0.heap.size w0 w7 ∧ RdAt w7 w6.heap.size (.slice A2 n n) 0 .nilIface ∧ w0.heap.size ≤ w6.heap.size ∧ (∀ D, A0 = some ⟨D, 0, none⟩ → D ≠ w6.heap.size) ∧ (∀ D, A2 = some ⟨D, 0, none⟩ → D ≠ w6.heap.size)) :=
    ⟨D6.out.1.below hb7, D6.out.2.1.below hb7, D6.out.2.2.trans (hb7.mono D6.out.2.2.size), hr7, D6.out.2.2.size, fun D hD => Nat.ne_of_lt (D6.out.1.lt D hD), fun D hD => Nat.ne_of_lt (D6.out.2.1.lt D hD)⟩
  clear hr7 hb7 hw7 D6
  generalize w6.heap.size = R2 at *
  go_wp2_with fail
  refine (nextB R2 kk A2 _ n f _ D7.out.2.2.2.1 D7.out.2.1 hn (by omega)).mono ?_
  rintro e w8 ⟨⟨x8, rfl⟩, hr8, hu8⟩
  have S0 : Hid (St w0 (w8.alloc (.cells #[.int .u8 0, .int .u8 0, .int .u8 0, .int .u8 0] 34)) A0 A2 n f R2 w8.heap.size kk .nilIface #[.int .u8 0, .int .u8 0, .int .u8 0, .int .u8 0]) :=
    st_start (D7.out.1.upd hu8 D7.out.2.2.2.2.2.1) (D7.out.2.1.upd hu8 D7.out.2.2.2.2.2.2) (bel_upd D7.out.2.2.1 D7.out.2.2.2.2.1 D7.out.2.2.1.size hu8) hr8 D7.out.2.2.2.2
  clear hr8 hu8 D7
  go_wp2_with fail
  generalize w8.heap.size = G at *
  generalize w8.alloc (.cells #[.int .u8 0, .int .u8 0, .int .u8 0, .int .u8 0] 34) = v0 at *
  refine wp_loop_rounds 5 ?_
  rw [rounds_succ]
  go_wp2_with fail
  have T0 := S0.out.cast (o' := ((kk + 0 : Nat) : Int)) (by omega)
  refine (r8_ok T0 (by omega) hn).mono ?_
  rintro e u0 ⟨rfl, hr, hu⟩
  have hgc := gcell (T0.g1 hu) 0
  have hgf := gfz (T0.g1 hu) 0
  simp only [List.getElem?_toArray, List.getElem?_cons_zero] at hgc
  have S1 : Hid (St w0 (u0.setCell ⟨G, 0, none⟩ (.int .u8 (f (kk + 0)))) A0 A2 n f R2 G (((kk + 0 : Nat) : Int) + 1) .nilIface #[.int .u8 (f (kk + 0)), .int .u8 0, .int .u8 0, .int .u8 0]) := T0.step hu hr 0 (.int .u8 (f (kk + 0)))
  clear hr hu T0 S0
  go_wp2_with fail
  clear hgc hgf
  generalize u0.setCell ⟨G, 0, none⟩ (.int .u8 (f (kk + 0))) = v1 at *
  rw [rounds_succ]
  go_wp2_with fail
  have T1 := S1.out.cast (o' := ((kk + 1 : Nat) : Int)) (by omega)
  refine (r8_ok T1 (by omega) hn).mono ?_
  rintro e u1 ⟨rfl, hr, hu⟩
  have hgc := gcell (T1.g1 hu) 1
  have hgf := gfz (T1.g1 hu) 1
  simp only [List.getElem?_toArray, List.getElem?_cons_zero, List.getElem?_cons_succ] at hgc
  have S2 : Hid (St w0 (u1.setCell ⟨G, 1, none⟩ (.int .u8 (f (kk + 1)))) A0 A2 n f R2 G (((kk + 1 : Nat) : Int) + 1) .nilIface #[.int .u8 (f (kk + 0)), .int .u8 (f (kk + 1)), .int .u8 0, .int .u8 0]) := T1.step hu hr 1 (.int .u8 (f (kk + 1)))
  clear hr hu T1 S1
  go_wp2_with fail
  clear hgc hgf
  generalize u1.setCell ⟨G, 1, none⟩ (.int .u8 (f (kk + 1))) = v2 at *
  rw [rounds_succ]
  go_wp2_with fail
  have T2 := S2.out.cast (o' := ((kk + 2 : Nat) : Int)) (by omega)
  refine (r8_ok T2 (by omega) hn).mono ?_
  rintro e u2 ⟨rfl, hr, hu⟩
  have hgc := gcell (T2.g1 hu) 2
  have hgf := gfz (T2.g1 hu) 2
  simp only [List.getElem?_toArray, List.getElem?_cons_zero, List.getElem?_cons_succ] at hgc
  have S3 : Hid (St w0 (u2.setCell ⟨G, 2, none⟩ (.int .u8 (f (kk + 2)))) A0 A2 n f R2 G (((kk + 2 : Nat) : Int) + 1) .nilIface #[.int .u8 (f (kk + 0)), .int .u8 (f (kk + 1)), .int .u8 (f (kk + 2)), .int .u8 0]) := T2.step hu hr 2 (.int .u8 (f (kk + 2)))
  clear hr hu T2 S2
  go_wp2_with fail
  clear hgc hgf
  generalize u2.setCell ⟨G, 2, none⟩ (.int .u8 (f (kk + 2))) = v3 at *
  rw [rounds_succ]
  go_wp2_with fail
  have T3 := S3.out.cast (o' := ((kk + 3 : Nat) : Int)) (by omega)
  refine (r8_ok T3 (by omega) hn).mono ?_
  rintro e u3 ⟨rfl, hr, hu⟩
  have hgc := gcell (T3.g1 hu) 3
  have hgf := gfz (T3.g1 hu) 3
  simp only [List.getElem?_toArray, List.getElem?_cons_zero, List.getElem?_cons_succ] at hgc
  have S4 : Hid (St w0 (u3.setCell ⟨G, 3, none⟩ (.int .u8 (f (kk + 3)))) A0 A2 n f R2 G (((kk + 3 : Nat) : Int) + 1) .nilIface #[.int .u8 (f (kk + 0)), .int .u8 (f (kk + 1)), .int .u8 (f (kk + 2)), .int .u8 (f (kk + 3))]) := T3.step hu hr 3 (.int .u8 (f (kk + 3)))
  clear hr hu T3 S3
  go_wp2_with fail
  clear hgc hgf
  generalize u3.setCell ⟨G, 3, none⟩ (.int .u8 (f (kk + 3))) = v4 at *
  rw [rounds_succ]
  go_wp2_with fail
  have SF := S4.out.cast (o' := ((kk : Int) + 4)) (by omega)
  refine (off_any R2 _ _ _ _ SF.rd).mono ?_
  rintro e v4' ⟨rfl, hw⟩
  subst hw
  go_wp2_with fail
  refine (err_nil R2 _ _ _ SF.rd).mono ?_
  rintro e v4'' ⟨rfl, hw⟩
  subst hw
  have m0 := gcell SF.gg 0
  have m1 := gcell SF.gg 1
  have m2 := gcell SF.gg 2
  have m3 := gcell SF.gg 3
  simp only [List.getElem?_toArray, List.getElem?_cons_zero, List.getElem?_cons_succ] at m0 m1 m2 m3
  have hbF : Hid (Below w0.heap.size w0 v4'') := SF.bel
  obtain ⟨D, hA0, p0, p1, p2, p3⟩ := dat_at SF.d0 hk
  subst hA0
  clear SF S4
  have hd1 : decide ((kk : Int) < 0) = false := by simp
  have hd2 : decide ((n : Int) < kk) = false := by simp; omega
  have hwv : (WV == bits BinOp.or IntKind.u32 (bits BinOp.or IntKind.u32 (bits BinOp.or IntKind.u32 (f kk % 4294967296) (f (kk + 1) % 4294967296 * 256 % 4294967296)) (f (kk + 2) % 4294967296 * 65536 % 4294967296)) (f (kk + 3) % 4294967296 * 16777216 % 4294967296)) = true := by rw [← HW.out]; unfold le32; simp
  go_wp2_with fail
  go_quiet (fail)
  go_wp2_with fail
  go_ret
  exact ⟨rfl, bel_drewN hbF.out _⟩
set_option maxRecDepth 100000 in
set_option maxHeartbeats 4000000 in
theorem law_c0 (A : Option Addr) (n c : Nat) (f : Nat → Int) (kk : Nat) (hk : kk + 0 ≤ n) (hk2 : n ≤ kk + 0) (T : TypeId) (v : Value) (w : World) (hn : n ≤ 1048576) (hs : Src w A n c f) (ce : w.cell? ⟨0, 0, none⟩ = some (.iface T v)) (h0 : 0 < w.heap.size) :
    Calls Tryd.prog 3 #[.slice A n c, .int .i64 (kk : Int)] w fun e w' => e = .returned (.bool true) ∧ Below w.heap.size w w' := by
  have HS : Hid (Src w A n c f) := hs
  have CE : Hid (∀ W, Below w.heap.size w W → W.cell? ⟨0, 0, none⟩ = some (.iface T v)) := fun W hW => (hW.cell (p := ⟨0, 0, none⟩) h0).trans ce
  clear hs ce
  go_enter Tryd.func3, Tryd.ntmps3
  go_wp2_with fail
  refine (bytes_yes _ _ _ _ _ hn).mono ?_
  rintro e w0 ⟨rfl, hw0⟩
  subst hw0
  go_wp2_with fail
  refine (clone_any A n c f _ hn HS.out).mono ?_
  rintro e w1 ⟨A0, rfl, hd0, hb1⟩
  have D0 : Hid (Dat w0.heap.size w1 A0 n f ∧ Below w0.heap.size w0 w1) := ⟨hd0, hb1⟩
  clear hd0 hb1
  go_wp2_with fail
  refine (clone_any A0 n n f _ hn D0.out.1.src).mono ?_
  rintro e w2 ⟨A1, rfl, hd1, hb2⟩
  have D1 : Hid (Dat w0.heap.size w2 A0 n f ∧ Dat w1.heap.size w2 A1 n f ∧ Below w0.heap.size w0 w2) := ⟨D0.out.1.below hb2, hd1, D0.out.2.trans (hb2.mono D0.out.2.size)⟩
  clear hd1 hb2 D0
  go_wp2_with fail
  refine (new_any A1 n n _).mono ?_
  rintro e w3 ⟨rfl, hw3⟩
  have hr3 := rd_new w2 (.slice A1 n n)
  have hb3 := (Below.refl w2.heap.size w2).alloc (Nat.le_refl _) (.cells #[.slice A1 n n, .int .i64 0, .nilIface] 38)
  rw [← hw3] at hr3 hb3
  have D3 : Hid (Dat w0.heap.size w3 A0 n f ∧ Dat w1.heap.size w3 A1 n f ∧ Below w0.heap.size w0 w3 ∧ RdAt w3 w2.heap.size (.slice A1 n n) 0 .nilIface ∧ w0.heap.size ≤ w2.heap.size ∧ (∀ D, A0 = some ⟨D, 0, none⟩ → D ≠ w2.heap.size) ∧ (∀ D, A1 = some ⟨D, 0, none⟩ → D ≠ w2.heap.size)) :=
    ⟨D1.out.1.below hb3, D1.out.2.1.below hb3, D1.out.2.2.trans (hb3.mono D1.out.2.2.size), hr3, D1.out.2.2.size, fun D hD => Nat.ne_of_lt (D1.out.1.lt D hD), fun D hD => Nat.ne_of_lt (D1.out.2.1.lt D hD)⟩
  clear hr3 hb3 hw3 D1
  generalize w2.heap.size = R1 at *
  go_wp2_with fail
  refine (nextB R1 kk A1 _ n f _ D3.out.2.2.2.1 D3.out.2.1 hn (by omega)).mono ?_
  rintro e w4 ⟨⟨x4, rfl⟩, hr4, hu4⟩
  have D4 : Hid (Dat w0.heap.size w4 A0 n f ∧ Dat w1.heap.size w4 A1 n f ∧ Below w0.heap.size w0 w4 ∧ RdAt w4 R1 (.slice A1 n n) kk .nilIface ∧ w0.heap.size ≤ R1 ∧ (∀ D, A0 = some ⟨D, 0, none⟩ → D ≠ R1) ∧ (∀ D, A1 = some ⟨D, 0, none⟩ → D ≠ R1)) :=
    ⟨D3.out.1.upd hu4 D3.out.2.2.2.2.2.1, D3.out.2.1.upd hu4 D3.out.2.2.2.2.2.2, bel_upd D3.out.2.2.1 D3.out.2.2.2.2.1 D3.out.2.2.1.size hu4, hr4, D3.out.2.2.2.2⟩
  clear hr4 hu4 D3
  go_wp2_with fail
  refine (zzU32 R1 0 _ (fun w' => RdAt w' R1 (.slice A1 n n) kk (.iface T v) ∧ Upd R1 w4 w') (u32_end R1 T v A1 n n kk w4 D4.out.2.2.2.1 (CE.out _ D4.out.2.2.1) hn (by omega) (by omega))).mono ?_
  rintro e w5 ⟨rfl, hr5, hu5⟩
  have D5 : Hid (Dat w0.heap.size w5 A0 n f ∧ Below w0.heap.size w0 w5 ∧ RdAt w5 R1 (.slice A1 n n) kk (.iface T v)) :=
    ⟨D4.out.1.upd hu5 D4.out.2.2.2.2.2.1, bel_upd D4.out.2.2.1 D4.out.2.2.2.2.1 D4.out.2.2.1.size hu5, hr5⟩
  clear hr5 hu5 D4
  go_wp2_with fail
  refine (off_any R1 _ _ _ _ D5.out.2.2).mono ?_
  rintro e w5' ⟨rfl, hw5⟩
  subst hw5
  go_wp2_with fail
  refine (err_any R1 _ T v _ _ D5.out.2.2).mono ?_
  rintro e w5'' ⟨rfl, hw5⟩
  subst hw5
  go_wp2_with fail
  refine (clone_any A0 n n f _ hn D5.out.1.src).mono ?_
  rintro e w6 ⟨A2, rfl, hd2, hb6⟩
  have D6 : Hid (Dat w0.heap.size w6 A0 n f ∧ Dat w0.heap.size w6 A2 n f ∧ Below w0.heap.size w0 w6) := ⟨D5.out.1.below hb6, dat_lo hd2 D5.out.2.1.size, D5.out.2.1.trans (hb6.mono D5.out.2.1.size)⟩
  clear hd2 hb6 D5
  go_wp2_with fail
  refine (new_any A2 n n _).mono ?_
  rintro e w7 ⟨rfl, hw7⟩
  have hr7 := rd_new w6 (.slice A2 n n)
  have hb7 := (Below.refl w6.heap.size w6).alloc (Nat.le_refl _) (.cells #[.slice A2 n n, .int .i64 0, .nilIface] 38)
  rw [← hw7] at hr7 hb7
  have D7 : Hid (Dat w0.heap.size w7 A0 n f ∧ Dat w0.heap.size w7 A2 n f ∧ Below w0.heap.size w0 w7 ∧ RdAt w7 w6.heap.size (.slice A2 n n) 0 .nilIface ∧ w0.heap.size ≤ w6.heap.size ∧ (∀ D, A0 = some ⟨D, 0, none⟩ → D ≠ w6.heap.size) ∧ (∀ D, A2 = some ⟨D, 0, none⟩ → D ≠ w6.heap.size)) :=
    ⟨D6.out.1.below hb7, D6.out.2.1.below hb7, D6.out.2.2.trans (hb7.mono D6.out.2.2.size), hr7, D6.out.2.2.size, fun D hD => Nat.ne_of_lt (D6.out.1.lt D hD), fun D hD => Nat.ne_of_lt (D6.out.2.1.lt D hD)⟩
  clear hr7 hb7 hw7 D6
  generalize w6.heap.size = R2 at *
  go_wp2_with fail
  refine (nextB R2 kk A2 _ n f _ D7.out.2.2.2.1 D7.out.2.1 hn (by omega)).mono ?_
  rintro e w8 ⟨⟨x8, rfl⟩, hr8, hu8⟩
  have S0 : Hid (St w0 (w8.alloc (.cells #[.int .u8 0, .int .u8 0, .int .u8 0, .int .u8 0] 34)) A0 A2 n f R2 w8.heap.size kk .nilIface #[.int .u8 0, .int .u8 0, .int .u8 0, .int .u8 0]) :=
    st_start (D7.out.1.upd hu8 D7.out.2.2.2.2.2.1) (D7.out.2.1.upd hu8 D7.out.2.2.2.2.2.2) (bel_upd D7.out.2.2.1 D7.out.2.2.2.2.1 D7.out.2.2.1.size hu8) hr8 D7.out.2.2.2.2
  clear hr8 hu8 D7
  go_wp2_with fail
  generalize w8.heap.size = G at *
  generalize w8.alloc (.cells #[.int .u8 0, .int .u8 0, .int .u8 0, .int .u8 0] 34) = v0 at *
  refine wp_loop_rounds 5 ?_
  rw [rounds_succ]
  go_wp2_with fail
  have T0 := S0.out.cast (o' := (n : Int)) (by omega)
  refine (r8_end T0 (CE.out _ S0.out.bel) hn).mono ?_
  rintro e u0 ⟨rfl, hr, hu⟩
  have hgc := gcell (T0.g1 hu) 0
  have hgf := gfz (T0.g1 hu) 0
  simp only [List.getElem?_toArray, List.getElem?_cons_zero] at hgc
  have S1 : Hid (St w0 (u0.setCell ⟨G, 0, none⟩ (.int .u8 0)) A0 A2 n f R2 G (n : Int) (.iface T v) #[.int .u8 0, .int .u8 0, .int .u8 0, .int .u8 0]) := T0.step hu hr 0 (.int .u8 0)
  clear hr hu T0 S0
  go_wp2_with fail
  clear hgc hgf
  generalize u0.setCell ⟨G, 0, none⟩ (.int .u8 0) = v1 at *
  rw [rounds_succ]
  go_wp2_with fail
  have T1 := S1.out
  refine (r8_err T1).mono ?_
  rintro e u1 ⟨rfl, hr, hu⟩
  have hgc := gcell (T1.g1 hu) 1
  have hgf := gfz (T1.g1 hu) 1
  simp only [List.getElem?_toArray, List.getElem?_cons_zero, List.getElem?_cons_succ] at hgc
  have S2 : Hid (St w0 (u1.setCell ⟨G, 1, none⟩ (.int .u8 0)) A0 A2 n f R2 G _ (.iface T v) #[.int .u8 0, .int .u8 0, .int .u8 0, .int .u8 0]) := T1.step hu hr 1 (.int .u8 0)
  clear hr hu T1 S1
  go_wp2_with fail
  clear hgc hgf
  generalize u1.setCell ⟨G, 1, none⟩ (.int .u8 0) = v2 at *
  rw [rounds_succ]
  go_wp2_with fail
  have T2 := S2.out
  refine (r8_err T2).mono ?_
  rintro e u2 ⟨rfl, hr, hu⟩
  have hgc := gcell (T2.g1 hu) 2
  have hgf := gfz (T2.g1 hu) 2
  simp only [List.getElem?_toArray, List.getElem?_cons_zero, List.getElem?_cons_succ] at hgc
  have S3 : Hid (St w0 (u2.setCell ⟨G, 2, none⟩ (.int .u8 0)) A0 A2 n f R2 G _ (.iface T v) #[.int .u8 0, .int .u8 0, .int .u8 0, .int .u8 0]) := T2.step hu hr 2 (.int .u8 0)
  clear hr hu T2 S2
  go_wp2_with fail
  clear hgc hgf
  generalize u2.setCell ⟨G, 2, none⟩ (.int .u8 0) = v3 at *
  rw [rounds_succ]
  go_wp2_with fail
  have T3 := S3.out
  refine (r8_err T3).mono ?_
  rintro e u3 ⟨rfl, hr, hu⟩
  have hgc := gcell (T3.g1 hu) 3
  have hgf := gfz (T3.g1 hu) 3
  simp only [List.getElem?_toArray, List.getElem?_cons_zero, List.getElem?_cons_succ] at hgc
  have S4 : Hid (St w0 (u3.setCell ⟨G, 3, none⟩ (.int .u8 0)) A0 A2 n f R2 G _ (.iface T v) #[.int .u8 0, .int .u8 0, .int .u8 0, .int .u8 0]) := T3.step hu hr 3 (.int .u8 0)
  clear hr hu T3 S3
  go_wp2_with fail
  clear hgc hgf
  generalize u3.setCell ⟨G, 3, none⟩ (.int .u8 0) = v4 at *
  rw [rounds_succ]
  go_wp2_with fail
  have SF := S4.out.cast (o' := (n : Int)) (by omega)
  refine (off_any R2 _ _ _ _ SF.rd).mono ?_
  rintro e v4' ⟨rfl, hw⟩
  subst hw
  go_wp2_with fail
  refine (err_any R2 _ T v _ _ SF.rd).mono ?_
  rintro e v4'' ⟨rfl, hw⟩
  subst hw
  have m0 := gcell SF.gg 0
  have m1 := gcell SF.gg 1
  have m2 := gcell SF.gg 2
  have m3 := gcell SF.gg 3
  simp only [List.getElem?_toArray, List.getElem?_cons_zero, List.getElem?_cons_succ] at m0 m1 m2 m3
  have hbF : Hid (Below w0.heap.size w0 v4'') := SF.bel
  clear SF S4
  have hd1 : decide ((kk : Int) < 0) = false := by simp
  have hd2 : decide ((n : Int) < kk) = false := by simp; omega
  go_wp2_with fail
  refine wp_loop_rounds 5 ?_
  rw [rounds_succ]
  go_wp2_with fail
  rw [rounds_succ]
  go_wp2_with fail
  rw [rounds_succ]
  go_wp2_with fail
  rw [rounds_succ]
  go_wp2_with fail
  rw [rounds_succ]
  go_wp2_with fail
  go_ret
  exact ⟨rfl, hbF.out⟩
set_option maxRecDepth 100000 in
set_option maxHeartbeats 4000000 in
theorem law_c1 (A : Option Addr) (n c : Nat) (f : Nat → Int) (kk : Nat) (hk : kk + 1 ≤ n) (hk2 : n ≤ kk + 1) (T : TypeId) (v : Value) (w : World) (hn : n ≤ 1048576) (hs : Src w A n c f) (ce : w.cell? ⟨0, 0, none⟩ = some (.iface T v)) (h0 : 0 < w.heap.size) :
    Calls Tryd.prog 3 #[.slice A n c, .int .i64 (kk : Int)] w fun e w' => e = .returned (.bool true) ∧ Below w.heap.size w w' := by
  have HS : Hid (Src w A n c f) := hs
  have CE : Hid (∀ W, Below w.heap.size w W → W.cell? ⟨0, 0, none⟩ = some (.iface T v)) := fun W hW => (hW.cell (p := ⟨0, 0, none⟩) h0).trans ce
  clear hs ce
  go_enter Tryd.func3, Tryd.ntmps3
  go_wp2_with fail
  refine (bytes_yes _ _ _ _ _ hn).mono ?_
  rintro e w0 ⟨rfl, hw0⟩
  subst hw0
  go_wp2_with fail
  refine (clone_any A n c f _ hn HS.out).mono ?_
  rintro e w1 ⟨A0, rfl, hd0, hb1⟩
  have D0 : Hid (Dat w0.heap.size w1 A0 n f ∧ Below w0.heap.size w0 w1) := ⟨hd0, hb1⟩
  clear hd0 hb1
  go_wp2_with fail
  refine (clone_any A0 n n f _ hn D0.out.1.src).mono ?_
  rintro e w2 ⟨A1, rfl, hd1, hb2⟩
  have D1 : Hid (Dat w0.heap.size w2 A0 n f ∧ Dat w1.heap.size w2 A1 n f ∧ Below w0.heap.size w0 w2) := ⟨D0.out.1.below hb2, hd1, D0.out.2.trans (hb2.mono D0.out.2.size)⟩
  clear hd1 hb2 D0
  go_wp2_with fail
  refine (new_any A1 n n _).mono ?_
  rintro e w3 ⟨rfl, hw3⟩
  have hr3 := rd_new w2 (.slice A1 n n)
  have hb3 := (Below.refl w2.heap.size w2).alloc (Nat.le_refl _) (.cells #[.slice A1 n n, .int .i64 0, .nilIface] 38)
  rw [← hw3] at hr3 hb3
  have D3 : Hid (Dat w0.heap.size w3 A0 n f ∧ Dat w1.heap.size w3 A1 n f ∧ Below w0.heap.size w0 w3 ∧ RdAt w3 w2.heap.size (.slice A1 n n) 0 .nilIface ∧ w0.heap.size ≤ w2.heap.size ∧ (∀ D, A0 = some ⟨D, 0, none⟩ → D ≠ w2.heap.size) ∧ (∀ D, A1 = some ⟨D, 0, none⟩ → D ≠ w2.heap.size)) :=
    ⟨D1.out.1.below hb3, D1.out.2.1.below hb3, D1.out.2.2.trans (hb3.mono D1.out.2.2.size), hr3, D1.out.2.2.size, fun D hD => Nat.ne_of_lt (D1.out.1.lt D hD), fun D hD => Nat.ne_of_lt (D1.out.2.1.lt D hD)⟩
  clear hr3 hb3 hw3 D1
  generalize w2.heap.size = R1 at *
  go_wp2_with fail
  refine (nextB R1 kk A1 _ n f _ D3.out.2.2.2.1 D3.out.2.1 hn (by omega)).mono ?_
  rintro e w4 ⟨⟨x4, rfl⟩, hr4, hu4⟩
  have D4 : Hid (Dat w0.heap.size w4 A0 n f ∧ Dat w1.heap.size w4 A1 n f ∧ Below w0.heap.size w0 w4 ∧ RdAt w4 R1 (.slice A1 n n) kk .nilIface ∧ w0.heap.size ≤ R1 ∧ (∀ D, A0 = some ⟨D, 0, none⟩ → D ≠ R1) ∧ (∀ D, A1 = some ⟨D, 0, none⟩ → D ≠ R1)) :=
    ⟨D3.out.1.upd hu4 D3.out.2.2.2.2.2.1, D3.out.2.1.upd hu4 D3.out.2.2.2.2.2.2, bel_upd D3.out.2.2.1 D3.out.2.2.2.2.1 D3.out.2.2.1.size hu4, hr4, D3.out.2.2.2.2⟩
  clear hr4 hu4 D3
  go_wp2_with fail
  refine (zzU32 R1 0 _ (fun w' => RdAt w' R1 (.slice A1 n n) kk (.iface T v) ∧ Upd R1 w4 w') (u32_end R1 T v A1 n n kk w4 D4.out.2.2.2.1 (CE.out _ D4.out.2.2.1) hn (by omega) (by omega))).mono ?_
  rintro e w5 ⟨rfl, hr5, hu5⟩
  have D5 : Hid (Dat w0.heap.size w5 A0 n f ∧ Below w0.heap.size w0 w5 ∧ RdAt w5 R1 (.slice A1 n n) kk (.iface T v)) :=
    ⟨D4.out.1.upd hu5 D4.out.2.2.2.2.2.1, bel_upd D4.out.2.2.1 D4.out.2.2.2.2.1 D4.out.2.2.1.size hu5, hr5⟩
  clear hr5 hu5 D4
  go_wp2_with fail
  refine (off_any R1 _ _ _ _ D5.out.2.2).mono ?_
  rintro e w5' ⟨rfl, hw5⟩
  subst hw5
  go_wp2_with fail
  refine (err_any R1 _ T v _ _ D5.out.2.2).mono ?_
  rintro e w5'' ⟨rfl, hw5⟩
  subst hw5
  go_wp2_with fail
  refine (clone_any A0 n n f _ hn D5.out.1.src).mono ?_
  rintro e w6 ⟨A2, rfl, hd2, hb6⟩
  have D6 : Hid (Dat w0.heap.size w6 A0 n f ∧ Dat w0.heap.size w6 A2 n f ∧ Below w0.heap.size w0 w6) := ⟨D5.out.1.below hb6, dat_lo hd2 D5.out.2.1.size, D5.out.2.1.trans (hb6.mono D5.out.2.1.size)⟩
  clear hd2 hb6 D5
  go_wp2_with fail
  refine (new_any A2 n n _).mono ?_
  rintro e w7 ⟨rfl, hw7⟩
  have hr7 := rd_new w6 (.slice A2 n n)
  have hb7 := (Below.refl w6.heap.size w6).alloc (Nat.le_refl _) (.cells #[.slice A2 n n, .int .i64 0, .nilIface] 38)
  rw [← hw7] at hr7 hb7
  have D7 : Hid (Dat w0.heap.size w7 A0 n f ∧ Dat w0.heap.size w7 A2 n f ∧ Below w0.heap.size w0 w7 ∧ RdAt w7 w6.heap.size (.slice A2 n n) 0 .nilIface ∧ w0.heap.size ≤ w6.heap.size ∧ (∀ D, A0 = some ⟨D, 0, none⟩ → D ≠ w6.heap.size) ∧ (∀ D, A2 = some ⟨D, 0, none⟩ → D ≠ w6.heap.size)) :=
    ⟨D6.out.1.below hb7, D6.out.2.1.below hb7, D6.out.2.2.trans (hb7.mono D6.out.2.2.size), hr7, D6.out.2.2.size, fun D hD => Nat.ne_of_lt (D6.out.1.lt D hD), fun D hD => Nat.ne_of_lt (D6.out.2.1.lt D hD)⟩
  clear hr7 hb7 hw7 D6
  generalize w6.heap.size = R2 at *
  go_wp2_with fail
  refine (nextB R2 kk A2 _ n f _ D7.out.2.2.2.1 D7.out.2.1 hn (by omega)).mono ?_
  rintro e w8 ⟨⟨x8, rfl⟩, hr8, hu8⟩
  have S0 : Hid (St w0 (w8.alloc (.cells #[.int .u8 0, .int .u8 0, .int .u8 0, .int .u8 0] 34)) A0 A2 n f R2 w8.heap.size kk .nilIface #[.int .u8 0, .int .u8 0, .int .u8 0, .int .u8 0]) :=
    st_start (D7.out.1.upd hu8 D7.out.2.2.2.2.2.1) (D7.out.2.1.upd hu8 D7.out.2.2.2.2.2.2) (bel_upd D7.out.2.2.1 D7.out.2.2.2.2.1 D7.out.2.2.1.size hu8) hr8 D7.out.2.2.2.2
  clear hr8 hu8 D7
  go_wp2_with fail
  generalize w8.heap.size = G at *
  generalize w8.alloc (.cells #[.int .u8 0, .int .u8 0, .int .u8 0, .int .u8 0] 34) = v0 at *
  refine wp_loop_rounds 5 ?_
  rw [rounds_succ]
  go_wp2_with fail
  have T0 := S0.out.cast (o' := ((kk + 0 : Nat) : Int)) (by omega)
  refine (r8_ok T0 (by omega) hn).mono ?_
  rintro e u0 ⟨rfl, hr, hu⟩
  have hgc := gcell (T0.g1 hu) 0
  have hgf := gfz (T0.g1 hu) 0
  simp only [List.getElem?_toArray, List.getElem?_cons_zero] at hgc
  have S1 : Hid (St w0 (u0.setCell ⟨G, 0, none⟩ (.int .u8 (f (kk + 0)))) A0 A2 n f R2 G (((kk + 0 : Nat) : Int) + 1) .nilIface #[.int .u8 (f (kk + 0)), .int .u8 0, .int .u8 0, .int .u8 0]) := T0.step hu hr 0 (.int .u8 (f (kk + 0)))
  clear hr hu T0 S0
  go_wp2_with fail
  clear hgc hgf
  generalize u0.setCell ⟨G, 0, none⟩ (.int .u8 (f (kk + 0))) = v1 at *
  rw [rounds_succ]
  go_wp2_with fail
  have T1 := S1.out.cast (o' := (n : Int)) (by omega)
  refine (r8_end T1 (CE.out _ S1.out.bel) hn).mono ?_
  rintro e u1 ⟨rfl, hr, hu⟩
  have hgc := gcell (T1.g1 hu) 1
  have hgf := gfz (T1.g1 hu) 1
  simp only [List.getElem?_toArray, List.getElem?_cons_zero, List.getElem?_cons_succ] at hgc
  have S2 : Hid (St w0 (u1.setCell ⟨G, 1, none⟩ (.int .u8 0)) A0 A2 n f R2 G (n : Int) (.iface T v) #[.int .u8 (f (kk + 0)), .int .u8 0, .int .u8 0, .int .u8 0]) := T1.step hu hr 1 (.int .u8 0)
  clear hr hu T1 S1
  go_wp2_with fail
  clear hgc hgf
  generalize u1.setCell ⟨G, 1, none⟩ (.int .u8 0) = v2 at *
  rw [rounds_succ]
  go_wp2_with fail
  have T2 := S2.out
  refine (r8_err T2).mono ?_
  rintro e u2 ⟨rfl, hr, hu⟩
  have hgc := gcell (T2.g1 hu) 2
  have hgf := gfz (T2.g1 hu) 2
  simp only [List.getElem?_toArray, List.getElem?_cons_zero, List.getElem?_cons_succ] at hgc
  have S3 : Hid (St w0 (u2.setCell ⟨G, 2, none⟩ (.int .u8 0)) A0 A2 n f R2 G _ (.iface T v) #[.int .u8 (f (kk + 0)), .int .u8 0, .int .u8 0, .int .u8 0]) := T2.step hu hr 2 (.int .u8 0)
  clear hr hu T2 S2
  go_wp2_with fail
  clear hgc hgf
  generalize u2.setCell ⟨G, 2, none⟩ (.int .u8 0) = v3 at *
  rw [rounds_succ]
  go_wp2_with fail
  have T3 := S3.out
  refine (r8_err T3).mono ?_
  rintro e u3 ⟨rfl, hr, hu⟩
  have hgc := gcell (T3.g1 hu) 3
  have hgf := gfz (T3.g1 hu) 3
  simp only [List.getElem?_toArray, List.getElem?_cons_zero, List.getElem?_cons_succ] at hgc
  have S4 : Hid (St w0 (u3.setCell ⟨G, 3, none⟩ (.int .u8 0)) A0 A2 n f R2 G _ (.iface T v) #[.int .u8 (f (kk + 0)), .int .u8 0, .int .u8 0, .int .u8 0]) := T3.step hu hr 3 (.int .u8 0)
  clear hr hu T3 S3
  go_wp2_with fail
  clear hgc hgf
  generalize u3.setCell ⟨G, 3, none⟩ (.int .u8 0) = v4 at *
  rw [rounds_succ]
  go_wp2_with fail
  have SF := S4.out.cast (o' := (n : Int)) (by omega)
  refine (off_any R2 _ _ _ _ SF.rd).mono ?_
  rintro e v4' ⟨rfl, hw⟩
  subst hw
  go_wp2_with fail
  refine (err_any R2 _ T v _ _ SF.rd).mono ?_
  rintro e v4'' ⟨rfl, hw⟩
  subst hw
  have m0 := gcell SF.gg 0
  have m1 := gcell SF.gg 1
  have m2 := gcell SF.gg 2
  have m3 := gcell SF.gg 3
  simp only [List.getElem?_toArray, List.getElem?_cons_zero, List.getElem?_cons_succ] at m0 m1 m2 m3
  have hbF : Hid (Below w0.heap.size w0 v4'') := SF.bel
  obtain ⟨D, hA0, hrow⟩ := dat_some SF.d0 (by omega)
  subst hA0
  have p0 := hrow.cell (i := kk + 0) (by omega)
  clear hrow
  rw [Nat.add_zero] at p0
  clear SF S4
  have hd1 : decide ((kk : Int) < 0) = false := by simp
  have hd2 : decide ((n : Int) < kk) = false := by simp; omega
  go_wp2_with fail
  refine wp_loop_rounds 5 ?_
  rw [rounds_succ]
  go_wp2_with fail
  rw [rounds_succ]
  go_wp2_with fail
  rw [rounds_succ]
  go_wp2_with fail
  rw [rounds_succ]
  go_wp2_with fail
  rw [rounds_succ]
  go_wp2_with fail
  go_ret
  exact ⟨rfl, hbF.out⟩
set_option maxRecDepth 100000 in
set_option maxHeartbeats 4000000 in
theorem law_c2 (A : Option Addr) (n c : Nat) (f : Nat → Int) (kk : Nat) (hk : kk + 2 ≤ n) (hk2 : n ≤ kk + 2) (T : TypeId) (v : Value) (w : World) (hn : n ≤ 1048576) (hs : Src w A n c f) (ce : w.cell? ⟨0, 0, none⟩ = some (.iface T v)) (h0 : 0 < w.heap.size) :
    Calls Tryd.prog 3 #[.slice A n c, .int .i64 (kk : Int)] w fun e w' => e = .returned (.bool true) ∧ Below w.heap.size w w' := by
  have HS : Hid (Src w A n c f) := hs
  have CE : Hid (∀ W, Below w.heap.size w W → W.cell? ⟨0, 0, none⟩ = some (.iface T v)) := fun W hW => (hW.cell (p := ⟨0, 0, none⟩) h0).trans ce
  clear hs ce
  go_enter Tryd.func3, Tryd.ntmps3
  go_wp2_with fail
  refine (bytes_yes _ _ _ _ _ hn).mono ?_
  rintro e w0 ⟨rfl, hw0⟩
  subst hw0
  go_wp2_with fail
  refine (clone_any A n c f _ hn HS.out).mono ?_
  rintro e w1 ⟨A0, rfl, hd0, hb1⟩
  have D0 : Hid (Dat w0.heap.size w1 A0 n f ∧ Below w0.heap.size w0 w1) := ⟨hd0, hb1⟩
  clear hd0 hb1
  go_wp2_with fail
  refine (clone_any A0 n n f _ hn D0.out.1.src).mono ?_
  rintro e w2 ⟨A1, rfl, hd1, hb2⟩
  have D1 : Hid (Dat w0.heap.size w2 A0 n f ∧ Dat w1.heap.size w2 A1 n f ∧ Below w0.heap.size w0 w2) := ⟨D0.out.1.below hb2, hd1, D0.out.2.trans (hb2.mono D0.out.2.size)⟩
  clear hd1 hb2 D0
  go_wp2_with fail
  refine (new_any A1 n n _).mono ?_
  rintro e w3 ⟨rfl, hw3⟩
  have hr3 := rd_new w2 (.slice A1 n n)
  have hb3 := (Below.refl w2.heap.size w2).alloc (Nat.le_refl _) (.cells #[.slice A1 n n, .int .i64 0, .nilIface] 38)
  rw [← hw3] at hr3 hb3
  have D3 : Hid (Dat w0.heap.size w3 A0 n f ∧ Dat w1.heap.size w3 A1 n f ∧ Below w0.heap.size w0 w3 ∧ RdAt w3 w2.heap.size (.slice A1 n n) 0 .nilIface ∧ w0.heap.size ≤ w2.heap.size ∧ (∀ D, A0 = some ⟨D, 0, none⟩ → D ≠ w2.heap.size) ∧ (∀ D, A1 = some ⟨D, 0, none⟩ → D ≠ w2.heap.size)) :=
    ⟨D1.out.1.below hb3, D1.out.2.1.below hb3, D1.out.2.2.trans (hb3.mono D1.out.2.2.size), hr3, D1.out.2.2.size, fun D hD => Nat.ne_of_lt (D1.out.1.lt D hD), fun D hD => Nat.ne_of_lt (D1.out.2.1.lt D hD)⟩
  clear hr3 hb3 hw3 D1
  generalize w2.heap.size = R1 at *
  go_wp2_with fail
  refine (nextB R1 kk A1 _ n f _ D3.out.2.2.2.1 D3.out.2.1 hn (by omega)).mono ?_
  rintro e w4 ⟨⟨x4, rfl⟩, hr4, hu4⟩
  have D4 : Hid (Dat w0.heap.size w4 A0 n f ∧ Dat w1.heap.size w4 A1 n f ∧ Below w0.heap.size w0 w4 ∧ RdAt w4 R1 (.slice A1 n n) kk .nilIface ∧ w0.heap.size ≤ R1 ∧ (∀ D, A0 = some ⟨D, 0, none⟩ → D ≠ R1) ∧ (∀ D, A1 = some ⟨D, 0, none⟩ → D ≠ R1)) :=
    ⟨D3.out.1.upd hu4 D3.out.2.2.2.2.2.1, D3.out.2.1.upd hu4 D3.out.2.2.2.2.2.2, bel_upd D3.out.2.2.1 D3.out.2.2.2.2.1 D3.out.2.2.1.size hu4, hr4, D3.out.2.2.2.2⟩
  clear hr4 hu4 D3
  go_wp2_with fail
  refine (zzU32 R1 0 _ (fun w' => RdAt w' R1 (.slice A1 n n) kk (.iface T v) ∧ Upd R1 w4 w') (u32_end R1 T v A1 n n kk w4 D4.out.2.2.2.1 (CE.out _ D4.out.2.2.1) hn (by omega) (by omega))).mono ?_
  rintro e w5 ⟨rfl, hr5, hu5⟩
  have D5 : Hid (Dat w0.heap.size w5 A0 n f ∧ Below w0.heap.size w0 w5 ∧ RdAt w5 R1 (.slice A1 n n) kk (.iface T v)) :=
    ⟨D4.out.1.upd hu5 D4.out.2.2.2.2.2.1, bel_upd D4.out.2.2.1 D4.out.2.2.2.2.1 D4.out.2.2.1.size hu5, hr5⟩
  clear hr5 hu5 D4
  go_wp2_with fail
  refine (off_any R1 _ _ _ _ D5.out.2.2).mono ?_
  rintro e w5' ⟨rfl, hw5⟩
  subst hw5
  go_wp2_with fail
  refine (err_any R1 _ T v _ _ D5.out.2.2).mono ?_
  rintro e w5'' ⟨rfl, hw5⟩
  subst hw5
  go_wp2_with fail
  refine (clone_any A0 n n f _ hn D5.out.1.src).mono ?_
  rintro e w6 ⟨A2, rfl, hd2, hb6⟩
  have D6 : Hid (Dat w0.heap.size w6 A0 n f ∧ Dat w0.heap.size w6 A2 n f ∧ Below w0.heap.size w0 w6) := ⟨D5.out.1.below hb6, dat_lo hd2 D5.out.2.1.size, D5.out.2.1.trans (hb6.mono D5.out.2.1.size)⟩
  clear hd2 hb6 D5
  go_wp2_with fail
  refine (new_any A2 n n _).mono ?_
  rintro e w7 ⟨rfl, hw7⟩
  have hr7 := rd_new w6 (.slice A2 n n)
  have hb7 := (Below.refl w6.heap.size w6).alloc (Nat.le_refl _) (.cells #[.slice A2 n n, .int .i64 0, .nilIface] 38)
  rw [← hw7] at hr7 hb7
  have D7 : Hid (Dat w0.heap.size w7 A0 n f ∧ Dat w0.heap.size w7 A2 n f ∧ Below w0.heap.size w0 w7 ∧ RdAt w7 w6.heap.size (.slice A2 n n) 0 .nilIface ∧ w0.heap.size ≤ w6.heap.size ∧ (∀ D, A0 = some ⟨D, 0, none⟩ → D ≠ w6.heap.size) ∧ (∀ D, A2 = some ⟨D, 0, none⟩ → D ≠ w6.heap.size)) :=
    ⟨D6.out.1.below hb7, D6.out.2.1.below hb7, D6.out.2.2.trans (hb7.mono D6.out.2.2.size), hr7, D6.out.2.2.size, fun D hD => Nat.ne_of_lt (D6.out.1.lt D hD), fun D hD => Nat.ne_of_lt (D6.out.2.1.lt D hD)⟩
  clear hr7 hb7 hw7 D6
  generalize w6.heap.size = R2 at *
  go_wp2_with fail
  refine (nextB R2 kk A2 _ n f _ D7.out.2.2.2.1 D7.out.2.1 hn (by omega)).mono ?_
  rintro e w8 ⟨⟨x8, rfl⟩, hr8, hu8⟩
  have S0 : Hid (St w0 (w8.alloc (.cells #[.int .u8 0, .int .u8 0, .int .u8 0, .int .u8 0] 34)) A0 A2 n f R2 w8.heap.size kk .nilIface #[.int .u8 0, .int .u8 0, .int .u8 0, .int .u8 0]) :=
    st_start (D7.out.1.upd hu8 D7.out.2.2.2.2.2.1) (D7.out.2.1.upd hu8 D7.out.2.2.2.2.2.2) (bel_upd D7.out.2.2.1 D7.out.2.2.2.2.1 D7.out.2.2.1.size hu8) hr8 D7.out.2.2.2.2
  clear hr8 hu8 D7
  go_wp2_with fail
  generalize w8.heap.size = G at *
  generalize w8.alloc (.cells #[.int .u8 0, .int .u8 0, .int .u8 0, .int .u8 0] 34) = v0 at *
  refine wp_loop_rounds 5 ?_
  rw [rounds_succ]
  go_wp2_with fail
  have T0 := S0.out.cast (o' := ((kk + 0 : Nat) : Int)) (by omega)
  refine (r8_ok T0 (by omega) hn).mono ?_
  rintro e u0 ⟨rfl, hr, hu⟩
  have hgc := gcell (T0.g1 hu) 0
  have hgf := gfz (T0.g1 hu) 0
  simp only [List.getElem?_toArray, List.getElem?_cons_zero] at hgc
  have S1 : Hid (St w0 (u0.setCell ⟨G, 0, none⟩ (.int .u8 (f (kk + 0)))) A0 A2 n f R2 G (((kk + 0 : Nat) : Int) + 1) .nilIface #[.int .u8 (f (kk + 0)), .int .u8 0, .int .u8 0, .int .u8 0]) := T0.step hu hr 0 (.int .u8 (f (kk + 0)))
  clear hr hu T0 S0
  go_wp2_with fail
  clear hgc hgf
  generalize u0.setCell ⟨G, 0, none⟩ (.int .u8 (f (kk + 0))) = v1 at *
  rw [rounds_succ]
  go_wp2_with fail
  have T1 := S1.out.cast (o' := ((kk + 1 : Nat) : Int)) (by omega)
  refine (r8_ok T1 (by omega) hn).mono ?_
  rintro e u1 ⟨rfl, hr, hu⟩
  have hgc := gcell (T1.g1 hu) 1
  have hgf := gfz (T1.g1 hu) 1
  simp only [List.getElem?_toArray, List.getElem?_cons_zero, List.getElem?_cons_succ] at hgc
  have S2 : Hid (St w0 (u1.setCell ⟨G, 1, none⟩ (.int .u8 (f (kk + 1)))) A0 A2 n f R2 G (((kk + 1 : Nat) : Int) + 1) .nilIface #[.int .u8 (f (kk + 0)), .int .u8 (f (kk + 1)), .int .u8 0, .int .u8 0]) := T1.step hu hr 1 (.int .u8 (f (kk + 1)))
  clear hr hu T1 S1
  go_wp2_with fail
  clear hgc hgf
  generalize u1.setCell ⟨G, 1, none⟩ (.int .u8 (f (kk + 1))) = v2 at *
  rw [rounds_succ]
  go_wp2_with fail
  have T2 := S2.out.cast (o' := (n : Int)) (by omega)
  refine (r8_end T2 (CE.out _ S2.out.bel) hn).mono ?_
  rintro e u2 ⟨rfl, hr, hu⟩
  have hgc := gcell (T2.g1 hu) 2
  have hgf := gfz (T2.g1 hu) 2
  simp only [List.getElem?_toArray, List.getElem?_cons_zero, List.getElem?_cons_succ] at hgc
  have S3 : Hid (St w0 (u2.setCell ⟨G, 2, none⟩ (.int .u8 0)) A0 A2 n f R2 G (n : Int) (.iface T v) #[.int .u8 (f (kk + 0)), .int .u8 (f (kk + 1)), .int .u8 0, .int .u8 0]) := T2.step hu hr 2 (.int .u8 0)
  clear hr hu T2 S2
  go_wp2_with fail
  clear hgc hgf
  generalize u2.setCell ⟨G, 2, none⟩ (.int .u8 0) = v3 at *
  rw [rounds_succ]
  go_wp2_with fail
  have T3 := S3.out
  refine (r8_err T3).mono ?_
  rintro e u3 ⟨rfl, hr, hu⟩
  have hgc := gcell (T3.g1 hu) 3
  have hgf := gfz (T3.g1 hu) 3
  simp only [List.getElem?_toArray, List.getElem?_cons_zero, List.getElem?_cons_succ] at hgc
  have S4 : Hid (St w0 (u3.setCell ⟨G, 3, none⟩ (.int .u8 0)) A0 A2 n f R2 G _ (.iface T v) #[.int .u8 (f (kk + 0)), .int .u8 (f (kk + 1)), .int .u8 0, .int .u8 0]) := T3.step hu hr 3 (.int .u8 0)
  clear hr hu T3 S3
  go_wp2_with fail
  clear hgc hgf
  generalize u3.setCell ⟨G, 3, none⟩ (.int .u8 0) = v4 at *
  rw [rounds_succ]
  go_wp2_with fail
  have SF := S4.out.cast (o' := (n : Int)) (by omega)
  refine (off_any R2 _ _ _ _ SF.rd).mono ?_
  rintro e v4' ⟨rfl, hw⟩
  subst hw
  go_wp2_with fail
  refine (err_any R2 _ T v _ _ SF.rd).mono ?_
  rintro e v4'' ⟨rfl, hw⟩
  subst hw
  have m0 := gcell SF.gg 0
  have m1 := gcell SF.gg 1
  have m2 := gcell SF.gg 2
  have m3 := gcell SF.gg 3
  simp only [List.getElem?_toArray, List.getElem?_cons_zero, List.getElem?_cons_succ] at m0 m1 m2 m3
  have hbF : Hid (Below w0.heap.size w0 v4'') := SF.bel
  obtain ⟨D, hA0, hrow⟩ := dat_some SF.d0 (by omega)
  subst hA0
  have p0 := hrow.cell (i := kk + 0) (by omega)
  have p1 := hrow.cell (i := kk + 1) (by omega)
  clear hrow
  rw [Nat.add_zero] at p0
  clear SF S4
  have hd1 : decide ((kk : Int) < 0) = false := by simp
  have hd2 : decide ((n : Int) < kk) = false := by simp; omega
  go_wp2_with fail
  refine wp_loop_rounds 5 ?_
  rw [rounds_succ]
  go_wp2_with fail
  rw [rounds_succ]
  go_wp2_with fail
  rw [rounds_succ]
  go_wp2_with fail
  rw [rounds_succ]
  go_wp2_with fail
  rw [rounds_succ]
  go_wp2_with fail
  go_ret
  exact ⟨rfl, hbF.out⟩
set_option maxRecDepth 100000 in
set_option maxHeartbeats 4000000 in
theorem law_c3 (A : Option Addr) (n c : Nat) (f : Nat → Int) (kk : Nat) (hk : kk + 3 ≤ n) (hk2 : n ≤ kk + 3) (T : TypeId) (v : Value) (w : World) (hn : n ≤ 1048576) (hs : Src w A n c f) (ce : w.cell? ⟨0, 0, none⟩ = some (.iface T v)) (h0 : 0 < w.heap.size) :
    Calls Tryd.prog 3 #[.slice A n c, .int .i64 (kk : Int)] w fun e w' => e = .returned (.bool true) ∧ Below w.heap.size w w' := by
  have HS : Hid (Src w A n c f) := hs
  have CE : Hid (∀ W, Below w.heap.size w W → W.cell? ⟨0, 0, none⟩ = some (.iface T v)) := fun W hW => (hW.cell (p := ⟨0, 0, none⟩) h0).trans ce
  clear hs ce
  go_enter Tryd.func3, Tryd.ntmps3
  go_wp2_with fail
  refine (bytes_yes _ _ _ _ _ hn).mono ?_
  rintro e w0 ⟨rfl, hw0⟩
  subst hw0
  go_wp2_with fail
  refine (clone_any A n c f _ hn HS.out).mono ?_
  rintro e w1 ⟨A0, rfl, hd0, hb1⟩
  have D0 : Hid (Dat w0.heap.size w1 A0 n f ∧ Below w0.heap.size w0 w1) := ⟨hd0, hb1⟩
  clear hd0 hb1
  go_wp2_with fail
  refine (clone_any A0 n n f _ hn D0.out.1.src).mono ?_
  rintro e w2 ⟨A1, rfl, hd1, hb2⟩
  have D1 : Hid (Dat w0.heap.size w2 A0 n f ∧ Dat w1.heap.size w2 A1 n f ∧ Below w0.heap.size w0 w2) := ⟨D0.out.1.below hb2, hd1, D0.out.2.trans (hb2.mono D0.out.2.size)⟩
  clear hd1 hb2 D0
  go_wp2_with fail
  refine (new_any A1 n n _).mono ?_
  rintro e w3 ⟨rfl, hw3⟩
  have hr3 := rd_new w2 (.slice A1 n n)
  have hb3 := (Below.refl w2.heap.size w2).alloc (Nat.le_refl _) (.cells #[.slice A1 n n, .int .i64 0, .nilIface] 38)
  rw [← hw3] at hr3 hb3
  have D3 : Hid (Dat w0.heap.size w3 A0 n f ∧ Dat w1.heap.size w3 A1 n f ∧ Below w0.heap.size w0 w3 ∧ RdAt w3 w2.heap.size (.slice A1 n n) 0 .nilIface ∧ w0.heap.size ≤ w2.heap.size ∧ (∀ D, A0 = some ⟨D, 0, none⟩ → D ≠ w2.heap.size) ∧ (∀ D, A1 = some ⟨D, 0, none⟩ → D ≠ w2.heap.size)) :=
    ⟨D1.out.1.below hb3, D1.out.2.1.below hb3, D1.out.2.2.trans (hb3.mono D1.out.2.2.size), hr3, D1.out.2.2.size, fun D hD => Nat.ne_of_lt (D1.out.1.lt D hD), fun D hD => Nat.ne_of_lt (D1.out.2.1.lt D hD)⟩
  clear hr3 hb3 hw3 D1
  generalize w2.heap.size = R1 at *
  go_wp2_with fail
  refine (nextB R1 kk A1 _ n f _ D3.out.2.2.2.1 D3.out.2.1 hn (by omega)).mono ?_
  rintro e w4 ⟨⟨x4, rfl⟩, hr4, hu4⟩
  have D4 : Hid (Dat w0.heap.size w4 A0 n f ∧ Dat w1.heap.size w4 A1 n f ∧ Below w0.heap.size w0 w4 ∧ RdAt w4 R1 (.slice A1 n n) kk .nilIface ∧ w0.heap.size ≤ R1 ∧ (∀ D, A0 = some ⟨D, 0, none⟩ → D ≠ R1) ∧ (∀ D, A1 = some ⟨D, 0, none⟩ → D ≠ R1)) :=
    ⟨D3.out.1.upd hu4 D3.out.2.2.2.2.2.1, D3.out.2.1.upd hu4 D3.out.2.2.2.2.2.2, bel_upd D3.out.2.2.1 D3.out.2.2.2.2.1 D3.out.2.2.1.size hu4, hr4, D3.out.2.2.2.2⟩
  clear hr4 hu4 D3
  go_wp2_with fail
  refine (zzU32 R1 0 _ (fun w' => RdAt w' R1 (.slice A1 n n) kk (.iface T v) ∧ Upd R1 w4 w') (u32_end R1 T v A1 n n kk w4 D4.out.2.2.2.1 (CE.out _ D4.out.2.2.1) hn (by omega) (by omega))).mono ?_
  rintro e w5 ⟨rfl, hr5, hu5⟩
  have D5 : Hid (Dat w0.heap.size w5 A0 n f ∧ Below w0.heap.size w0 w5 ∧ RdAt w5 R1 (.slice A1 n n) kk (.iface T v)) :=
    ⟨D4.out.1.upd hu5 D4.out.2.2.2.2.2.1, bel_upd D4.out.2.2.1 D4.out.2.2.2.2.1 D4.out.2.2.1.size hu5, hr5⟩
  clear hr5 hu5 D4
  go_wp2_with fail
  refine (off_any R1 _ _ _ _ D5.out.2.2).mono ?_
  rintro e w5' ⟨rfl, hw5⟩
  subst hw5
  go_wp2_with fail
  refine (err_any R1 _ T v _ _ D5.out.2.2).mono ?_
  rintro e w5'' ⟨rfl, hw5⟩
  subst hw5
  go_wp2_with fail
  refine (clone_any A0 n n f _ hn D5.out.1.src).mono ?_
  rintro e w6 ⟨A2, rfl, hd2, hb6⟩
  have D6 : Hid (Dat w0.heap.size w6 A0 n f ∧ Dat w0.heap.size w6 A2 n f ∧ Below w0.heap.size w0 w6) := ⟨D5.out.1.below hb6, dat_lo hd2 D5.out.2.1.size, D5.out.2.1.trans (hb6.mono D5.out.2.1.size)⟩
  clear hd2 hb6 D5
  go_wp2_with fail
  refine (new_any A2 n n _).mono ?_
  rintro e w7 ⟨rfl, hw7⟩
  have hr7 := rd_new w6 (.slice A2 n n)
  have hb7 := (Below.refl w6.heap.size w6).alloc (Nat.le_refl _) (.cells #[.slice A2 n n, .int .i64 0, .nilIface] 38)
  rw [← hw7] at hr7 hb7
  have D7 : Hid (Dat w0.heap.size w7 A0 n f ∧ Dat w0.heap.size w7 A2 n f ∧ Below w0.heap.size w0 w7 ∧ RdAt w7 w6.heap.size (.slice A2 n n) 0 .nilIface ∧ w0.heap.size ≤ w6.heap.size ∧ (∀ D, A0 = some ⟨D, 0, none⟩ → D ≠ w6.heap.size) ∧ (∀ D, A2 = some ⟨D, 0, none⟩ → D ≠ w6.heap.size)) :=
    ⟨D6.out.1.below hb7, D6.out.2.1.below hb7, D6.out.2.2.trans (hb7.mono D6.out.2.2.size), hr7, D6.out.2.2.size, fun D hD => Nat.ne_of_lt (D6.out.1.lt D hD), fun D hD => Nat.ne_of_lt (D6.out.2.1.lt D hD)⟩
  clear hr7 hb7 hw7 D6
  generalize w6.heap.size = R2 at *
  go_wp2_with fail
  refine (nextB R2 kk A2 _ n f _ D7.out.2.2.2.1 D7.out.2.1 hn (by omega)).mono ?_
  rintro e w8 ⟨⟨x8, rfl⟩, hr8, hu8⟩
  have S0 : Hid (St w0 (w8.alloc (.cells #[.int .u8 0, .int .u8 0, .int .u8 0, .int .u8 0] 34)) A0 A2 n f R2 w8.heap.size kk .nilIface #[.int .u8 0, .int .u8 0, .int .u8 0, .int .u8 0]) :=
    st_start (D7.out.1.upd hu8 D7.out.2.2.2.2.2.1) (D7.out.2.1.upd hu8 D7.out.2.2.2.2.2.2) (bel_upd D7.out.2.2.1 D7.out.2.2.2.2.1 D7.out.2.2.1.size hu8) hr8 D7.out.2.2.2.2
  clear hr8 hu8 D7
  go_wp2_with fail
  generalize w8.heap.size = G at *
  generalize w8.alloc (.cells #[.int .u8 0, .int .u8 0, .int .u8 0, .int .u8 0] 34) = v0 at *
  refine wp_loop_rounds 5 ?_
  rw [rounds_succ]
  go_wp2_with fail
  have T0 := S0.out.cast (o' := ((kk + 0 : Nat) : Int)) (by omega)
  refine (r8_ok T0 (by omega) hn).mono ?_
  rintro e u0 ⟨rfl, hr, hu⟩
  have hgc := gcell (T0.g1 hu) 0
  have hgf := gfz (T0.g1 hu) 0
  simp only [List.getElem?_toArray, List.getElem?_cons_zero] at hgc
  have S1 : Hid (St w0 (u0.setCell ⟨G, 0, none⟩ (.int .u8 (f (kk + 0)))) A0 A2 n f R2 G (((kk + 0 : Nat) : Int) + 1) .nilIface #[.int .u8 (f (kk + 0)), .int .u8 0, .int .u8 0, .int .u8 0]) := T0.step hu hr 0 (.int .u8 (f (kk + 0)))
  clear hr hu T0 S0
  go_wp2_with fail
  clear hgc hgf
  generalize u0.setCell ⟨G, 0, none⟩ (.int .u8 (f (kk + 0))) = v1 at *
  rw [rounds_succ]
  go_wp2_with fail
  have T1 := S1.out.cast (o' := ((kk + 1 : Nat) : Int)) (by omega)
  refine (r8_ok T1 (by omega) hn).mono ?_
  rintro e u1 ⟨rfl, hr, hu⟩
  have hgc := gcell (T1.g1 hu) 1
  have hgf := gfz (T1.g1 hu) 1
  simp only [List.getElem?_toArray, List.getElem?_cons_zero, List.getElem?_cons_succ] at hgc
  have S2 : Hid (St w0 (u1.setCell ⟨G, 1, none⟩ (.int .u8 (f (kk + 1)))) A0 A2 n f R2 G (((kk + 1 : Nat) : Int) + 1) .nilIface #[.int .u8 (f (kk + 0)), .int .u8 (f (kk + 1)), .int .u8 0, .int .u8 0]) := T1.step hu hr 1 (.int .u8 (f (kk + 1)))
  clear hr hu T1 S1
  go_wp2_with fail
  clear hgc hgf
  generalize u1.setCell ⟨G, 1, none⟩ (.int .u8 (f (kk + 1))) = v2 at *
  rw [rounds_succ]
  go_wp2_with fail
  have T2 := S2.out.cast (o' := ((kk + 2 : Nat) : Int)) (by omega)
  refine (r8_ok T2 (by omega) hn).mono ?_
  rintro e u2 ⟨rfl, hr, hu⟩
  have hgc := gcell (T2.g1 hu) 2
  have hgf := gfz (T2.g1 hu) 2
  simp only [List.getElem?_toArray, List.getElem?_cons_zero, List.getElem?_cons_succ] at hgc
  have S3 : Hid (St w0 (u2.setCell ⟨G, 2, none⟩ (.int .u8 (f (kk + 2)))) A0 A2 n f R2 G (((kk + 2 : Nat) : Int) + 1) .nilIface #[.int .u8 (f (kk + 0)), .int .u8 (f (kk + 1)), .int .u8 (f (kk + 2)), .int .u8 0]) := T2.step hu hr 2 (.int .u8 (f (kk + 2)))
  clear hr hu T2 S2
  go_wp2_with fail
  clear hgc hgf
  generalize u2.setCell ⟨G, 2, none⟩ (.int .u8 (f (kk + 2))) = v3 at *
  rw [rounds_succ]
  go_wp2_with fail
  have T3 := S3.out.cast (o' := (n : Int)) (by omega)
  refine (r8_end T3 (CE.out _ S3.out.bel) hn).mono ?_
  rintro e u3 ⟨rfl, hr, hu⟩
  have hgc := gcell (T3.g1 hu) 3
  have hgf := gfz (T3.g1 hu) 3
  simp only [List.getElem?_toArray, List.getElem?_cons_zero, List.getElem?_cons_succ] at hgc
  have S4 : Hid (St w0 (u3.setCell ⟨G, 3, none⟩ (.int .u8 0)) A0 A2 n f R2 G (n : Int) (.iface T v) #[.int .u8 (f (kk + 0)), .int .u8 (f (kk + 1)), .int .u8 (f (kk + 2)), .int .u8 0]) := T3.step hu hr 3 (.int .u8 0)
  clear hr hu T3 S3
  go_wp2_with fail
  clear hgc hgf
  generalize u3.setCell ⟨G, 3, none⟩ (.int .u8 0) = v4 at *
  rw [rounds_succ]
  go_wp2_with fail
  have SF := S4.out.cast (o' := (n : Int)) (by omega)
  refine (off_any R2 _ _ _ _ SF.rd).mono ?_
  rintro e v4' ⟨rfl, hw⟩
  subst hw
  go_wp2_with fail
  refine (err_any R2 _ T v _ _ SF.rd).mono ?_
  rintro e v4'' ⟨rfl, hw⟩
  subst hw
  have m0 := gcell SF.gg 0
  have m1 := gcell SF.gg 1
  have m2 := gcell SF.gg 2
  have m3 := gcell SF.gg 3
  simp only [List.getElem?_toArray, List.getElem?_cons_zero, List.getElem?_cons_succ] at m0 m1 m2 m3
  have hbF : Hid (Below w0.heap.size w0 v4'') := SF.bel
  obtain ⟨D, hA0, hrow⟩ := dat_some SF.d0 (by omega)
  subst hA0
  have p0 := hrow.cell (i := kk + 0) (by omega)
  have p1 := hrow.cell (i := kk + 1) (by omega)
  have p2 := hrow.cell (i := kk + 2) (by omega)
  clear hrow
  rw [Nat.add_zero] at p0
  clear SF S4
  have hd1 : decide ((kk : Int) < 0) = false := by simp
  have hd2 : decide ((n : Int) < kk) = false := by simp; omega
  go_wp2_with fail
  refine wp_loop_rounds 5 ?_
  rw [rounds_succ]
  go_wp2_with fail
  rw [rounds_succ]
  go_wp2_with fail
  rw [rounds_succ]
  go_wp2_with fail
  rw [rounds_succ]
  go_wp2_with fail
  rw [rounds_succ]
  go_wp2_with fail
  go_ret
  exact ⟨rfl, hbF.out⟩
set_option maxHeartbeats 2000000 in
set_option maxRecDepth 100000 in
theorem law_long (A : Option Addr) (n c : Nat) (k : Int) (w : World) (hn : ¬ n ≤ 1048576) :
    Calls Tryd.prog 3 #[.slice A n c, .int .i64 k] w fun e w' => e = .returned (.bool true) ∧ Below w.heap.size w w' := by
  go_enter Tryd.func3, Tryd.ntmps3
  go_wp2_with fail
  refine (bytes_no _ _ _ _ _ hn).mono ?_
  rintro e w0 ⟨rfl, hw0⟩
  subst hw0
  go_wp2_with fail
  go_ret
  exact ⟨rfl, Below.refl _ _⟩
theorem law_any (A : Option Addr) (n c : Nat) (f : Nat → Int) (k : Int) (T : TypeId) (v : Value) (w : World) (hs : Src w A n c f) (ce : w.cell? ⟨0, 0, none⟩ = some (.iface T v)) (h0 : 0 < w.heap.size) :
    Calls Tryd.prog 3 #[.slice A n c, .int .i64 k] w fun e w' => e = .returned (.bool true) ∧ Below w.heap.size w w' := by
  by_cases hn : n ≤ 1048576
  · by_cases hk : k < 0 ∨ (n : Int) < k
    · exact law_a A n c f k hk T v w hn hs ce h0
    · obtain ⟨kk, rfl⟩ := Int.eq_ofNat_of_zero_le (show 0 ≤ k by omega)
      by_cases h4 : kk + 4 ≤ n
      · exact law_b A n c f kk h4 T v w hn hs ce h0
      · by_cases e0 : n = kk
        · exact law_c0 A n c f kk (by omega) (by omega) T v w hn hs ce h0
        · by_cases e1 : n = kk + 1
          · exact law_c1 A n c f kk (by omega) (by omega) T v w hn hs ce h0
          · by_cases e2 : n = kk + 2
            · exact law_c2 A n c f kk (by omega) (by omega) T v w hn hs ce h0
            · exact law_c3 A n c f kk (by omega) (by omega) T v w hn hs ce h0
  · exact law_long A n c k w hn
end Go.Proofs.Qxb6613453aDoor

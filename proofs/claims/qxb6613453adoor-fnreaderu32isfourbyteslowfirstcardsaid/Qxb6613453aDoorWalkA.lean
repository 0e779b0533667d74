/-
  THE WALKS of the reader's methods: next, u8, u32, and of the little shims over them.
-/
import Derived.Test.Qxb6613453aDoorRows
import Derived.WalkKit
import Derived.WalkSpells
import Derived.WalkLawsBesides
import Derived.Deep.QuietTactic
import Derived.BigQuiet
import Derived.Deep.OwnRows
import Derived.Deep.Draws
namespace Go.Proofs.Qxb6613453aDoor
open Go.RowKit

/-- A reader in block R: its data, its offset, its error. -/
def RdAt (w : World) (R : Nat) (dv : Value) (o : Int) (er : Value) : Prop := w.heap[R]? = some (.cells #[dv, .int .i64 o, er] 38)
/-- Block R alone has turned; blocks may be new. -/
structure Upd (R : Nat) (w w' : World) : Prop where
  os : w'.os = w.os
  tape : w'.tape = w.tape
  output : w'.output = w.output
  size : w.heap.size ≤ w'.heap.size
  block : ∀ k, k < w.heap.size → k ≠ R → w'.heap[k]? = w.heap[k]?

theorem Upd.refl (R : Nat) (w : World) : Upd R w w := ⟨rfl, rfl, rfl, Nat.le_refl _, fun _ _ _ => rfl⟩
theorem Upd.trans {R : Nat} {a b c : World} (h : Upd R a b) (k : Upd R b c) : Upd R a c :=
  ⟨k.os.trans h.os, k.tape.trans h.tape, k.output.trans h.output, Nat.le_trans h.size k.size, fun i hi hr => (k.block i (Nat.lt_of_lt_of_le hi h.size) hr).trans (h.block i hi hr)⟩
theorem Upd.drewN {R : Nat} {a b : World} (h : Upd R a b) (q : Nat) : Upd R a (b.drewN q) := ⟨h.os, h.tape, h.output, h.size, h.block⟩
theorem Upd.setCell {R : Nat} {a b : World} (h : Upd R a b) (o : Nat) (v : Value) : Upd R a (b.setCell ⟨R, o, none⟩ v) :=
  h.trans ⟨rfl, rfl, rfl, by simp [World.setCell], fun k _ hr => Below.heap_setCell _ _ _ _ hr⟩
theorem Upd.below {R : Nat} {w w' : World} (h : Below w.heap.size w w') : Upd R w w' := ⟨h.os, h.tape, h.output, h.size, fun k hk _ => h.block k hk⟩

theorem RdAt.c0 {w : World} {R : Nat} {dv er : Value} {o : Int} (h : RdAt w R dv o er) : w.cell? ⟨R, 0, none⟩ = some dv := by
  unfold RdAt at h; simp [World.cell?, h]
theorem RdAt.c1 {w : World} {R : Nat} {dv er : Value} {o : Int} (h : RdAt w R dv o er) : w.cell? ⟨R, 1, none⟩ = some (.int .i64 o) := by
  unfold RdAt at h; simp [World.cell?, h]
theorem RdAt.c2 {w : World} {R : Nat} {dv er : Value} {o : Int} (h : RdAt w R dv o er) : w.cell? ⟨R, 2, none⟩ = some er := by
  unfold RdAt at h; simp [World.cell?, h]
theorem RdAt.fz {w : World} {R : Nat} {dv er : Value} {o : Int} (h : RdAt w R dv o er) (i : Nat) : w.frozen? ⟨R, i, none⟩ = false := by
  unfold RdAt at h; simp [World.frozen?, h]
theorem RdAt.lt {w : World} {R : Nat} {dv er : Value} {o : Int} (h : RdAt w R dv o er) : R < w.heap.size := (Array.getElem?_eq_some_iff.1 h).1
theorem RdAt.drewN {w : World} {R : Nat} {dv er : Value} {o : Int} (h : RdAt w R dv o er) (q : Nat) : RdAt (w.drewN q) R dv o er := h
theorem RdAt.setOff {w : World} {R : Nat} {dv er : Value} {o : Int} (h : RdAt w R dv o er) (o' : Int) : RdAt (w.setCell ⟨R, 1, none⟩ (.int .i64 o')) R dv o' er := by
  unfold RdAt at *
  simp [World.setCell, Array.getElem?_modify, h]
theorem RdAt.setErr {w : World} {R : Nat} {dv er : Value} {o : Int} (h : RdAt w R dv o er) (er' : Value) : RdAt (w.setCell ⟨R, 2, none⟩ er') R dv o er' := by
  unfold RdAt at *
  simp [World.setCell, Array.getElem?_modify, h]
theorem RdAt.keep {w w' : World} {R R' : Nat} {dv er : Value} {o : Int} (h : RdAt w R dv o er) (u : Upd R' w w') (hne : R ≠ R') : RdAt w' R dv o er := (u.block R h.lt hne).trans h

def le32 (x0 x1 x2 x3 : Int) : Int :=
  bits BinOp.or IntKind.u32 (bits BinOp.or IntKind.u32 (bits BinOp.or IntKind.u32 (x0 % 4294967296) (x1 % 4294967296 * 256 % 4294967296)) (x2 % 4294967296 * 65536 % 4294967296)) (x3 % 4294967296 * 16777216 % 4294967296)

theorem cell_al {w : World} {b o : Nat} {v : Value} (c : w.cell? ⟨b, o, none⟩ = some v) (hb : b < w.heap.size) (x : Obj) : (w.alloc x).cell? ⟨b, o, none⟩ = some v :=
  (Below.cell (w := w) (w' := w.alloc x) (B := w.heap.size) ((Below.refl _ _).alloc (Nat.le_refl _) _) (p := ⟨b, o, none⟩) hb).trans c

set_option maxHeartbeats 1000000 in
theorem u32_15 (b off cap : Nat) (x0 x1 x2 x3 : Int) (w : World) (c0 : w.cell? ⟨b, off, none⟩ = some (.int .u8 x0)) (c1 : w.cell? ⟨b, off + 1, none⟩ = some (.int .u8 x1)) (c2 : w.cell? ⟨b, off + 2, none⟩ = some (.int .u8 x2)) (c3 : w.cell? ⟨b, off + 3, none⟩ = some (.int .u8 x3)) (hb : b < w.heap.size) :
    Calls Tryd.prog 15 #[.agg #[], .slice (some ⟨b, off, none⟩) 4 cap] w fun e w' => (e = .returned (.int .u32 (le32 x0 x1 x2 x3))) ∧ Below w.heap.size w w' := by
  have d0 := cell_al c0 hb
  have d1 := cell_al c1 hb
  have d2 := cell_al c2 hb
  have d3 := cell_al c3 hb
  go_enter Tryd.func15, Tryd.ntmps15
  go_wp2
  go_quiet (fail)
  go_wp2
  go_ret
  refine ⟨rfl, ?_⟩
  have := (Below.refl w.heap.size w).alloc (Nat.le_refl _) (Obj.cells #[] 43)
  exact ⟨this.os, this.tape, this.output, this.size, this.block⟩

set_option maxHeartbeats 1000000 in
theorem next_err (R : Nat) (n : Int) (T : TypeId) (v dv : Value) (o : Int) (w : World) (h : RdAt w R dv o (.iface T v)) :
    Calls Tryd.prog 12 #[.pointer (some ⟨R, 0, none⟩), .int .i64 n] w fun e w' => e = .returned (.slice none 0 0) ∧ w' = w := by
  have c2 := h.c2
  clear h
  go_enter Tryd.func12, Tryd.ntmps12
  go_wp2
  go_ret
  exact ⟨rfl, rfl⟩
set_option maxHeartbeats 1000000 in
theorem next_neg (R : Nat) (n : Int) (T : TypeId) (v dv : Value) (o : Int) (w : World) (h : RdAt w R dv o .nilIface) (ce : w.cell? ⟨0, 0, none⟩ = some (.iface T v)) (hn : n < 0) :
    Calls Tryd.prog 12 #[.pointer (some ⟨R, 0, none⟩), .int .i64 n] w fun e w' => e = .returned (.slice none 0 0) ∧ RdAt w' R dv o (.iface T v) ∧ Upd R w w' := by
  have c2 := h.c2
  have f2 := h.fz 2
  have H : Hid (RdAt w R dv o .nilIface) := h
  clear h
  go_enter Tryd.func12, Tryd.ntmps12
  go_wp2
  go_quiet (fail)
  go_wp2
  go_ret
  exact ⟨rfl, (H.out.drewN nq).setErr _, ((Upd.refl _ _).drewN nq).setCell _ _⟩
set_option maxHeartbeats 1000000 in
theorem next_big (R : Nat) (n : Int) (T : TypeId) (v : Value) (A : Option Addr) (len cap o : Nat) (w : World) (h : RdAt w R (.slice A len cap) o .nilIface) (ce : w.cell? ⟨0, 0, none⟩ = some (.iface T v)) (hn : 0 ≤ n) (hb : (len : Int) - o < n) (hl : len ≤ 1048576) (ho : o ≤ len) :
    Calls Tryd.prog 12 #[.pointer (some ⟨R, 0, none⟩), .int .i64 n] w fun e w' => e = .returned (.slice none 0 0) ∧ RdAt w' R (.slice A len cap) o (.iface T v) ∧ Upd R w w' := by
  have c0 := h.c0
  have c1 := h.c1
  have c2 := h.c2
  have f2 := h.fz 2
  have H : Hid (RdAt w R (.slice A len cap) o .nilIface) := h
  have hd : decide (n < 0) = false := by simpa using hn
  clear h
  go_enter Tryd.func12, Tryd.ntmps12
  go_wp2
  go_quiet (fail)
  go_wp2
  go_ret
  exact ⟨rfl, (H.out.drewN nq).setErr _, ((Upd.refl _ _).drewN nq).setCell _ _⟩
set_option maxHeartbeats 1000000 in
theorem next_ok (R D : Nat) (len o m : Nat) (w : World) (h : RdAt w R (.slice (some ⟨D, 0, none⟩) len len) o .nilIface) (hm : o + m ≤ len) (hl : len ≤ 1048576) :
    Calls Tryd.prog 12 #[.pointer (some ⟨R, 0, none⟩), .int .i64 m] w fun e w' => (∃ A c, e = .returned (.slice A m c) ∧ (o < len → A = some ⟨D, o, none⟩)) ∧ RdAt w' R (.slice (some ⟨D, 0, none⟩) len len) ((o : Int) + m) .nilIface ∧ Upd R w w' := by
  have c0 := h.c0
  have c1 := h.c1
  have c2 := h.c2
  have f1 := h.fz 1
  have H : Hid (RdAt w R (.slice (some ⟨D, 0, none⟩) len len) o .nilIface) := h
  have hd : decide ((m : Int) < 0) = false := by simp
  have hb : decide ((len : Int) - o < m) = false := by simp; omega
  have HA : Hid (o < len → (if len = o then some (⟨D, 0, none⟩ : Addr) else some ⟨D, o, none⟩) = some ⟨D, o, none⟩) := fun hlt => if_neg (by omega)
  clear h
  go_enter Tryd.func12, Tryd.ntmps12
  go_wp2
  go_quiet (fail)
  go_wp2
  go_quiet (fail)
  rw [Nat.add_sub_cancel_left]
  generalize (if len = o then some (⟨D, 0, none⟩ : Addr) else some ⟨D, o, none⟩) = A at *
  go_wp2
  go_ret
  exact ⟨⟨A, _, rfl, HA.out⟩, (H.out.drewN _).setOff _, ((Upd.refl _ _).drewN _).setCell _ _⟩
set_option maxHeartbeats 1000000 in
theorem next_nil (R : Nat) (w : World) (h : RdAt w R (.slice none 0 0) 0 .nilIface) :
    Calls Tryd.prog 12 #[.pointer (some ⟨R, 0, none⟩), .int .i64 0] w fun e w' => (∃ v, e = .returned v) ∧ RdAt w' R (.slice none 0 0) 0 .nilIface ∧ Upd R w w' := by
  have c0 := h.c0
  have c1 := h.c1
  have c2 := h.c2
  have f1 := h.fz 1
  have H : Hid (RdAt w R (.slice none 0 0) 0 .nilIface) := h
  clear h
  go_enter Tryd.func12, Tryd.ntmps12
  go_wp2
  go_quiet (fail)
  go_wp2
  go_quiet (fail)
  go_wp2
  go_ret
  exact ⟨⟨_, rfl⟩, (H.out.drewN _).setOff _, ((Upd.refl _ _).drewN _).setCell _ _⟩

/-! ### u8, u32 -/
set_option maxHeartbeats 1000000 in
theorem u8_err (R : Nat) (T : TypeId) (v dv : Value) (o : Int) (w : World) (h : RdAt w R dv o (.iface T v)) :
    Calls Tryd.prog 14 #[.pointer (some ⟨R, 0, none⟩)] w fun e w' => e = .returned (.int .u8 0) ∧ w' = w := by
  have H : Hid (RdAt w R dv o (.iface T v)) := h
  clear h
  go_enter Tryd.func14, Tryd.ntmps14
  go_wp2_with (go_at_call 12; refine (next_err R _ T v dv o _ H.out).mono ?_; rintro e w' ⟨rfl, rfl⟩)
  go_ret
  exact ⟨rfl, rfl⟩
set_option maxHeartbeats 1000000 in
theorem u8_end (R : Nat) (T : TypeId) (v : Value) (A : Option Addr) (len cap : Nat) (w : World) (h : RdAt w R (.slice A len cap) len .nilIface) (ce : w.cell? ⟨0, 0, none⟩ = some (.iface T v)) (hl : len ≤ 1048576) :
    Calls Tryd.prog 14 #[.pointer (some ⟨R, 0, none⟩)] w fun e w' => e = .returned (.int .u8 0) ∧ RdAt w' R (.slice A len cap) len (.iface T v) ∧ Upd R w w' := by
  have H : Hid (RdAt w R (.slice A len cap) len .nilIface) := h
  clear h
  go_enter Tryd.func14, Tryd.ntmps14
  go_wp2_with (go_at_call 12; refine (next_big R _ T v A len cap len _ H.out ce (by omega) (by omega) hl (Nat.le_refl _)).mono ?_; rintro e w' ⟨rfl, hr, hu⟩)
  go_ret
  exact ⟨rfl, hr, hu⟩
set_option maxHeartbeats 1000000 in
theorem u8_ok (R D : Nat) (len o : Nat) (x : Int) (w : World) (h : RdAt w R (.slice (some ⟨D, 0, none⟩) len len) o .nilIface) (hlt : o < len) (hl : len ≤ 1048576) (hD : D < w.heap.size) (hne : D ≠ R) (cx : w.cell? ⟨D, o, none⟩ = some (.int .u8 x)) :
    Calls Tryd.prog 14 #[.pointer (some ⟨R, 0, none⟩)] w fun e w' => e = .returned (.int .u8 x) ∧ RdAt w' R (.slice (some ⟨D, 0, none⟩) len len) ((o : Int) + 1) .nilIface ∧ Upd R w w' := by
  have H : Hid (RdAt w R (.slice (some ⟨D, 0, none⟩) len len) o .nilIface) := h
  clear h
  go_enter Tryd.func14, Tryd.ntmps14
  go_wp2_with fail
  refine (next_ok R D len o 1 _ H.out (by omega) hl).mono ?_
  rintro e w1 ⟨⟨A, c, rfl, hA⟩, hr, hu⟩
  obtain rfl := hA hlt
  have cx' : w1.cell? ⟨D, o, none⟩ = some (.int .u8 x) := (World.cell?_of_block (w := w) (hu.block D hD hne)).trans cx
  have HR : Hid (RdAt w1 R (.slice (some ⟨D, 0, none⟩) len len) ((o : Int) + 1) .nilIface ∧ Upd R w w1) := ⟨hr, hu⟩
  clear hr hu
  go_wp2_with fail
  go_ret
  exact ⟨rfl, HR.out.1, HR.out.2⟩
set_option maxHeartbeats 1000000 in
theorem u32_err (R : Nat) (T : TypeId) (v dv : Value) (o : Int) (w : World) (h : RdAt w R dv o (.iface T v)) :
    Calls Tryd.prog 13 #[.pointer (some ⟨R, 0, none⟩)] w fun e w' => e = .returned (.int .u32 0) ∧ w' = w := by
  have H : Hid (RdAt w R dv o (.iface T v)) := h
  clear h
  go_enter Tryd.func13, Tryd.ntmps13
  go_wp2_with (go_at_call 12; refine (next_err R _ T v dv o _ H.out).mono ?_; rintro e w' ⟨rfl, rfl⟩)
  go_ret
  exact ⟨rfl, rfl⟩
set_option maxHeartbeats 1000000 in
theorem u32_end (R : Nat) (T : TypeId) (v : Value) (A : Option Addr) (len cap o : Nat) (w : World) (h : RdAt w R (.slice A len cap) o .nilIface) (ce : w.cell? ⟨0, 0, none⟩ = some (.iface T v)) (hl : len ≤ 1048576) (ho : o ≤ len) (h4 : len < o + 4) :
    Calls Tryd.prog 13 #[.pointer (some ⟨R, 0, none⟩)] w fun e w' => e = .returned (.int .u32 0) ∧ RdAt w' R (.slice A len cap) o (.iface T v) ∧ Upd R w w' := by
  have H : Hid (RdAt w R (.slice A len cap) o .nilIface) := h
  clear h
  go_enter Tryd.func13, Tryd.ntmps13
  go_wp2_with (go_at_call 12; refine (next_big R _ T v A len cap o _ H.out ce (by omega) (by omega) hl ho).mono ?_; rintro e w' ⟨rfl, hr, hu⟩)
  go_ret
  exact ⟨rfl, hr, hu⟩
set_option maxHeartbeats 1000000 in
theorem u32_ok (R D : Nat) (len o : Nat) (x0 x1 x2 x3 : Int) (w : World) (h : RdAt w R (.slice (some ⟨D, 0, none⟩) len len) o .nilIface) (hlt : o + 4 ≤ len) (hl : len ≤ 1048576) (hD : D < w.heap.size) (hne : D ≠ R) (c0 : w.cell? ⟨D, o, none⟩ = some (.int .u8 x0)) (c1 : w.cell? ⟨D, o + 1, none⟩ = some (.int .u8 x1)) (c2 : w.cell? ⟨D, o + 2, none⟩ = some (.int .u8 x2)) (c3 : w.cell? ⟨D, o + 3, none⟩ = some (.int .u8 x3)) :
    Calls Tryd.prog 13 #[.pointer (some ⟨R, 0, none⟩)] w fun e w' => e = .returned (.int .u32 (le32 x0 x1 x2 x3)) ∧ RdAt w' R (.slice (some ⟨D, 0, none⟩) len len) ((o : Int) + 4) .nilIface ∧ Upd R w w' := by
  have H : Hid (RdAt w R (.slice (some ⟨D, 0, none⟩) len len) o .nilIface) := h
  clear h
  go_enter Tryd.func13, Tryd.ntmps13
  go_wp2_with fail
  refine (next_ok R D len o 4 _ H.out (by omega) hl).mono ?_
  rintro e w1 ⟨⟨A, c, rfl, hA⟩, hr, hu⟩
  obtain rfl := hA (by omega)
  have hb := World.cell?_of_block (w := w) (w' := w1) (a := ⟨D, o, none⟩) (hu.block D hD hne)
  have hb1 := World.cell?_of_block (w := w) (w' := w1) (a := ⟨D, o + 1, none⟩) (hu.block D hD hne)
  have hb2 := World.cell?_of_block (w := w) (w' := w1) (a := ⟨D, o + 2, none⟩) (hu.block D hD hne)
  have hb3 := World.cell?_of_block (w := w) (w' := w1) (a := ⟨D, o + 3, none⟩) (hu.block D hD hne)
  have HC : Hid (w1.cell? ⟨D, o, none⟩ = some (.int .u8 x0) ∧ w1.cell? ⟨D, o + 1, none⟩ = some (.int .u8 x1) ∧ w1.cell? ⟨D, o + 2, none⟩ = some (.int .u8 x2) ∧ w1.cell? ⟨D, o + 3, none⟩ = some (.int .u8 x3)) := ⟨hb.trans c0, hb1.trans c1, hb2.trans c2, hb3.trans c3⟩
  have HR : Hid (RdAt w1 R (.slice (some ⟨D, 0, none⟩) len len) ((o : Int) + 4) .nilIface ∧ Upd R w w1) := ⟨hr, hu⟩
  clear hr hu hb hb1 hb2 hb3
  go_wp2_with fail
  refine (u32_15 D o _ x0 x1 x2 x3 _ HC.out.1 HC.out.2.1 HC.out.2.2.1 HC.out.2.2.2 (Nat.lt_of_lt_of_le hD HR.out.2.size)).mono ?_
  rintro e w2 ⟨rfl, hb⟩
  go_wp2_with fail
  go_ret
  exact ⟨rfl, (hb.block R HR.out.1.lt).trans HR.out.1, HR.out.2.trans (Upd.below hb)⟩

/-! ### the shims -/
set_option maxHeartbeats 1000000 in
theorem off_any (R : Nat) (dv er : Value) (o : Int) (w : World) (h : RdAt w R dv o er) :
    Calls Tryd.prog 9 #[.pointer (some ⟨R, 0, none⟩)] w fun e w' => e = .returned (.int .i64 o) ∧ w' = w := by
  have c1 := h.c1
  clear h
  go_enter Tryd.func9, Tryd.ntmps9
  go_wp2
  go_ret
  exact ⟨rfl, rfl⟩
set_option maxHeartbeats 1000000 in
theorem err_any (R : Nat) (dv : Value) (T : TypeId) (v : Value) (o : Int) (w : World) (h : RdAt w R dv o (.iface T v)) :
    Calls Tryd.prog 10 #[.pointer (some ⟨R, 0, none⟩)] w fun e w' => e = .returned (.iface T v) ∧ w' = w := by
  have c2 := h.c2
  clear h
  go_enter Tryd.func10, Tryd.ntmps10
  go_wp2
  go_ret
  exact ⟨rfl, rfl⟩
set_option maxHeartbeats 1000000 in
theorem err_nil (R : Nat) (dv : Value) (o : Int) (w : World) (h : RdAt w R dv o .nilIface) :
    Calls Tryd.prog 10 #[.pointer (some ⟨R, 0, none⟩)] w fun e w' => e = .returned .nilIface ∧ w' = w := by
  have c2 := h.c2
  clear h
  go_enter Tryd.func10, Tryd.ntmps10
  go_wp2
  go_ret
  exact ⟨rfl, rfl⟩
set_option maxHeartbeats 1000000 in
theorem zzU32 (R : Nat) (x : Int) (w : World) (Q : World → Prop) (h : Calls Tryd.prog 13 #[.pointer (some ⟨R, 0, none⟩)] w fun e w' => e = .returned (.int .u32 x) ∧ Q w') :
    Calls Tryd.prog 8 #[.pointer (some ⟨R, 0, none⟩)] w fun e w' => e = .returned (.int .u32 x) ∧ Q w' := by
  have H := h
  go_enter Tryd.func8, Tryd.ntmps8
  go_wp2_with (go_at_call 13; refine H.mono ?_; rintro e w' ⟨rfl, hq⟩)
  go_ret
  exact ⟨rfl, hq⟩
set_option maxHeartbeats 1000000 in
theorem zzU8 (R : Nat) (x : Int) (w : World) (Q : World → Prop) (h : Calls Tryd.prog 14 #[.pointer (some ⟨R, 0, none⟩)] w fun e w' => e = .returned (.int .u8 x) ∧ Q w') :
    Calls Tryd.prog 11 #[.pointer (some ⟨R, 0, none⟩)] w fun e w' => e = .returned (.int .u8 x) ∧ Q w' := by
  have H := h
  go_enter Tryd.func11, Tryd.ntmps11
  go_wp2_with (go_at_call 14; refine H.mono ?_; rintro e w' ⟨rfl, hq⟩)
  go_ret
  exact ⟨rfl, hq⟩
set_option maxHeartbeats 1000000 in
theorem zzNext (R : Nat) (n : Int) (w : World) (Q : World → Prop) (h : Calls Tryd.prog 12 #[.pointer (some ⟨R, 0, none⟩), .int .i64 n] w fun e w' => ∃ x, e = .returned x ∧ Q w') :
    Calls Tryd.prog 7 #[.pointer (some ⟨R, 0, none⟩), .int .i64 n] w fun e w' => (∃ x, e = .returned x) ∧ Q w' := by
  have H := h
  go_enter Tryd.func7, Tryd.ntmps7
  go_wp2_with (go_at_call 12; refine H.mono ?_; rintro e w' ⟨x, rfl, hq⟩)
  go_ret
  exact ⟨⟨_, rfl⟩, hq⟩
set_option maxHeartbeats 1000000 in
theorem new_any (A : Option Addr) (n c : Nat) (w : World) :
    Calls Tryd.prog 6 #[.slice A n c] w fun e w' => e = .returned (.pointer (some ⟨w.heap.size, 0, none⟩)) ∧ w' = w.alloc (.cells #[.slice A n c, .int .i64 0, .nilIface] 38) := by
  go_enter Tryd.func6, Tryd.ntmps6
  go_wp2
  go_ret
  exact ⟨rfl, rfl⟩
theorem rd_new (w : World) (dv : Value) : RdAt (w.alloc (.cells #[dv, .int .i64 0, .nilIface] 38)) w.heap.size dv 0 .nilIface := (MapKept.heap_alloc w _).1
end Go.Proofs.Qxb6613453aDoor

/-
  WHAT THE LAW's OWN WALK CARRIES: data in memory, and how it stays.
-/
import Derived.Test.Qxb6613453aDoorWalkB
namespace Go.Proofs.Qxb6613453aDoor
open Go.RowKit

/-- A slice of bytes that may be read: nil, or empty, or n bytes from an address on. -/
def Src (w : World) (A : Option Addr) (n c : Nat) (f : Nat → Int) : Prop :=
  (A = none ∧ n = 0 ∧ c = 0) ∨ (∃ x, A = some x ∧ n = 0) ∨ ∃ b off, A = some ⟨b, off, none⟩ ∧ b < w.heap.size ∧ ∀ i, i < n → w.cell? ⟨b, off + i, none⟩ = some (.int .u8 (f i))
/-- A clone: nil, or a row of its own from block lo on. -/
def Dat (lo : Nat) (w : World) (A : Option Addr) (n : Nat) (f : Nat → Int) : Prop :=
  (A = none ∧ n = 0) ∨ ∃ D, A = some ⟨D, 0, none⟩ ∧ lo ≤ D ∧ w.rowIs D 5 n (fun i => .int .u8 (f i))

theorem Dat.src {lo : Nat} {w : World} {A : Option Addr} {n : Nat} {f : Nat → Int} (h : Dat lo w A n f) : Src w A n n f := by
  rcases h with ⟨rfl, rfl⟩ | ⟨D, rfl, _, hr⟩
  · exact .inl ⟨rfl, rfl, rfl⟩
  · exact .inr (.inr ⟨D, 0, rfl, hr.lt, fun i hi => by rw [Nat.zero_add]; exact hr.cell hi⟩)
theorem Dat.below {lo : Nat} {w w' : World} {A : Option Addr} {n : Nat} {f : Nat → Int} (h : Dat lo w A n f) (hb : Below w.heap.size w w') : Dat lo w' A n f := by
  rcases h with h | ⟨D, rfl, hl, hr⟩
  · exact .inl h
  · exact .inr ⟨D, rfl, hl, hr.of_block (hb.block D hr.lt)⟩
theorem Dat.upd {lo R : Nat} {w w' : World} {A : Option Addr} {n : Nat} {f : Nat → Int} (h : Dat lo w A n f) (hu : Upd R w w') (hne : ∀ D, A = some ⟨D, 0, none⟩ → D ≠ R) : Dat lo w' A n f := by
  rcases h with h | ⟨D, rfl, hl, hr⟩
  · exact .inl h
  · exact .inr ⟨D, rfl, hl, hr.of_block (hu.block D hr.lt (hne D rfl))⟩
theorem Dat.lt {lo : Nat} {w : World} {A : Option Addr} {n : Nat} {f : Nat → Int} (h : Dat lo w A n f) (D : Nat) (hA : A = some ⟨D, 0, none⟩) : D < w.heap.size := by
  rcases h with ⟨rfl, _⟩ | ⟨D', rfl, _, hr⟩
  · cases hA
  · cases hA; exact hr.lt
theorem Dat.lo {lo : Nat} {w : World} {A : Option Addr} {n : Nat} {f : Nat → Int} (h : Dat lo w A n f) (D : Nat) (hA : A = some ⟨D, 0, none⟩) : lo ≤ D := by
  rcases h with ⟨rfl, _⟩ | ⟨D', rfl, hl, _⟩
  · cases hA
  · cases hA; exact hl
theorem bel_upd {B R : Nat} {w W W' : World} (h : Below B w W) (hB : B ≤ R) (hs : B ≤ W.heap.size) (u : Upd R W W') : Below B w W' :=
  h.trans ⟨u.os, u.tape, u.output, u.size, fun k hk => u.block k (by omega) (by omega)⟩

theorem clone_any (A : Option Addr) (n c : Nat) (f : Nat → Int) (w : World) (hn : n ≤ 1048576) (h : Src w A n c f) :
    Calls Tryd.prog 5 #[.slice A n c] w fun e w' => ∃ A', e = .returned (.slice A' n n) ∧ Dat w.heap.size w' A' n f ∧ Below w.heap.size w w' := by
  rcases h with ⟨rfl, rfl, rfl⟩ | ⟨x, rfl, rfl⟩ | ⟨b, off, rfl, hb, hc⟩
  rotate_left
  · refine (clone_zero x c w).mono fun e w' ⟨he, hw⟩ => ⟨_, he, .inr ⟨_, rfl, Nat.le_refl _, ?_⟩, ?_⟩
    · rw [hw]; exact (World.rowIs_made w (.int .u8 0) 0 5).congr (fun i hi => by omega)
    · rw [hw]; exact (Below.refl _ _).alloc (Nat.le_refl _) _
  rotate_left
  · exact (clone_nil w).mono fun e w' ⟨he, hw⟩ => ⟨none, he, .inl ⟨rfl, rfl⟩, hw ▸ Below.refl _ _⟩
  · exact (clone_some b off n c f w hn hb hc).mono fun e w' ⟨he, hr, hbel⟩ => ⟨_, he, .inr ⟨_, rfl, Nat.le_refl _, hr⟩, hbel⟩

/-- ZZreaderNext at the start, k out of bounds. -/
theorem nextA (R : Nat) (k : Int) (T : TypeId) (v : Value) (A : Option Addr) (n : Nat) (w : World) (h : RdAt w R (.slice A n n) 0 .nilIface) (ce : w.cell? ⟨0, 0, none⟩ = some (.iface T v)) (hl : n ≤ 1048576) (hk : k < 0 ∨ (n : Int) < k) :
    Calls Tryd.prog 7 #[.pointer (some ⟨R, 0, none⟩), .int .i64 k] w fun e w' => (∃ x, e = .returned x) ∧ RdAt w' R (.slice A n n) 0 (.iface T v) ∧ Upd R w w' := by
  refine zzNext R k w (fun w' => RdAt w' R (.slice A n n) 0 (.iface T v) ∧ Upd R w w') ?_
  by_cases hneg : k < 0
  · exact (next_neg R k T v _ 0 w h ce hneg).mono fun e w' ⟨he, h1, h2⟩ => ⟨_, he, h1, h2⟩
  · exact (next_big R k T v A n n 0 w h ce (by omega) (by omega) hl (Nat.zero_le _)).mono fun e w' ⟨he, h1, h2⟩ => ⟨_, he, h1, h2⟩
/-- .. and within them. -/
theorem nextB (R : Nat) (k : Nat) (A : Option Addr) (lo n : Nat) (f : Nat → Int) (w : World) (h : RdAt w R (.slice A n n) 0 .nilIface) (hd : Dat lo w A n f) (hl : n ≤ 1048576) (hk : k ≤ n) :
    Calls Tryd.prog 7 #[.pointer (some ⟨R, 0, none⟩), .int .i64 k] w fun e w' => (∃ x, e = .returned x) ∧ RdAt w' R (.slice A n n) k .nilIface ∧ Upd R w w' := by
  refine zzNext R k w (fun w' => RdAt w' R (.slice A n n) k .nilIface ∧ Upd R w w') ?_
  rcases hd with ⟨rfl, rfl⟩ | ⟨D, rfl, _, hr⟩
  · obtain rfl : k = 0 := by omega
    exact (next_nil R w h).mono fun e w' ⟨⟨x, he⟩, h1, h2⟩ => ⟨_, he, h1, h2⟩
  · exact (next_ok R D n 0 k w h (by omega) hl).mono fun e w' ⟨⟨A, c, he, _⟩, h1, h2⟩ => ⟨_, he, by simpa using h1, h2⟩

/-- Where the law's walk stands: 'lo': the heap's size when the call began; the clone A0 that the law keeps, the second reader R2 over its clone A2, the four bytes got in block G. -/
structure St (w W : World) (A0 A2 : Option Addr) (n : Nat) (f : Nat → Int) (R G : Nat) (o : Int) (er : Value) (gs : Array Value) : Prop where
  bel : Below w.heap.size w W
  d0 : Dat w.heap.size W A0 n f
  d2 : Dat w.heap.size W A2 n f
  rd : RdAt W R (.slice A2 n n) o er
  gg : W.heap[G]? = some (.cells gs 34)
  rg : R ≠ G
  loR : w.heap.size ≤ R
  loG : w.heap.size ≤ G
  n0 : ∀ D, A0 = some ⟨D, 0, none⟩ → D ≠ R ∧ D ≠ G
  n2 : ∀ D, A2 = some ⟨D, 0, none⟩ → D ≠ R ∧ D ≠ G

theorem gcell {W : World} {G : Nat} {gs : Array Value} (h : W.heap[G]? = some (.cells gs 34)) (i : Nat) : W.cell? ⟨G, i, none⟩ = gs[i]? := by simp [World.cell?, h]
theorem gfz {W : World} {G : Nat} {gs : Array Value} (h : W.heap[G]? = some (.cells gs 34)) (i : Nat) : W.frozen? ⟨G, i, none⟩ = false := by simp [World.frozen?, h]

variable {w W W1 : World} {A0 A2 : Option Addr} {n : Nat} {f : Nat → Int} {R G : Nat} {o o' : Int} {er er' : Value} {gs : Array Value}
theorem St.g1 (h : St w W A0 A2 n f R G o er gs) (u : Upd R W W1) : W1.heap[G]? = some (.cells gs 34) :=
  (u.block G (Array.getElem?_eq_some_iff.1 h.gg).1 (Ne.symm h.rg)).trans h.gg
theorem St.step (h : St w W A0 A2 n f R G o er gs) (u : Upd R W W1) (hr : RdAt W1 R (.slice A2 n n) o' er') (i : Nat) (v : Value) :
    St w (W1.setCell ⟨G, i, none⟩ v) A0 A2 n f R G o' er' (gs.setIfInBounds i v) := by
  have hg := h.g1 u
  have hG : ∀ {k}, k ≠ G → (W1.setCell ⟨G, i, none⟩ v).heap[k]? = W1.heap[k]? := fun hk => Below.heap_setCell _ _ _ _ hk
  refine ⟨?_, ?_, ?_, ?_, ?_, h.rg, h.loR, h.loG, h.n0, h.n2⟩
  · exact (bel_upd h.bel h.loR h.bel.size u).setCell h.loG v
  · have d := h.d0.upd u (fun D hD => (h.n0 D hD).1)
    rcases d with d | ⟨D, rfl, hl, hrow⟩
    · exact .inl d
    · exact .inr ⟨D, rfl, hl, hrow.of_block (hG (h.n0 D rfl).2)⟩
  · have d := h.d2.upd u (fun D hD => (h.n2 D hD).1)
    rcases d with d | ⟨D, rfl, hl, hrow⟩
    · exact .inl d
    · exact .inr ⟨D, rfl, hl, hrow.of_block (hG (h.n2 D rfl).2)⟩
  · exact (hG h.rg).trans hr
  · simp [World.setCell, Array.getElem?_modify, hg]
theorem St.cast (h : St w W A0 A2 n f R G o er gs) (e : o = o') : St w W A0 A2 n f R G o' er gs := e ▸ h

/-! One round's call of ZZreaderU8, at each of the reader's states. -/
theorem r8_err {T : TypeId} {v : Value} (h : St w W A0 A2 n f R G o (.iface T v) gs) :
    Calls Tryd.prog 11 #[.pointer (some ⟨R, 0, none⟩)] W fun e w' => e = .returned (.int .u8 0) ∧ (RdAt w' R (.slice A2 n n) o (.iface T v) ∧ Upd R W w') :=
  zzU8 R 0 W _ ((u8_err R T v _ o W h.rd).mono fun _ _ ⟨he, hw⟩ => ⟨he, hw ▸ h.rd, hw ▸ Upd.refl _ _⟩)
theorem r8_end {T : TypeId} {v : Value} (h : St w W A0 A2 n f R G n .nilIface gs) (ce : W.cell? ⟨0, 0, none⟩ = some (.iface T v)) (hl : n ≤ 1048576) :
    Calls Tryd.prog 11 #[.pointer (some ⟨R, 0, none⟩)] W fun e w' => e = .returned (.int .u8 0) ∧ (RdAt w' R (.slice A2 n n) n (.iface T v) ∧ Upd R W w') :=
  zzU8 R 0 W _ (u8_end R T v A2 n n W h.rd ce hl)
theorem r8_ok {j : Nat} (h : St w W A0 A2 n f R G j .nilIface gs) (hj : j < n) (hl : n ≤ 1048576) :
    Calls Tryd.prog 11 #[.pointer (some ⟨R, 0, none⟩)] W fun e w' => e = .returned (.int .u8 (f j)) ∧ (RdAt w' R (.slice A2 n n) ((j : Int) + 1) .nilIface ∧ Upd R W w') := by
  have hr := h.rd
  rcases h.d2 with ⟨_, hn⟩ | ⟨D, rfl, hlo, hrow⟩
  · omega
  · exact zzU8 R (f j) W _ (u8_ok R D n j (f j) W hr hj hl hrow.lt (h.n2 D rfl).1 (hrow.cell hj))
end Go.Proofs.Qxb6613453aDoor

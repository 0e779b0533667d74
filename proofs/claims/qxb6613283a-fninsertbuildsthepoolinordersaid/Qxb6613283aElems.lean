/-
  ELEMENTS IN MEMORY, and the walks that compare them: cmpElem, element.compare.
-/
import Derived.Test.Qxb6613283aWalkD
import Derived.Test.Qxb6613283aWalkT
namespace Go.Proofs.Qxb6613283a
open Go.RowKit

/-- An element's eight cells. -/
def EIn (w : World) (S : Nat → Prop) (cs : Array Value) (e : El) : Prop :=
  ∃ (n : Nat) (k i : Int) (s : ByteArray) (A : Option Addr) (len cap : Nat), cs = #[.int .u8 k, .int .i64 i, .string s, .slice A len cap, .int .i64 e.start, .int .i64 e.fin, .bool e.pend, .int .u64 e.hv] ∧
    VIn w S lim n #[.int .u8 k, .int .i64 i, .string s, .slice A len cap] e.K e.F

theorem EIn.frame {w w' : World} {S S' : Nat → Prop} {cs : Array Value} {e : El} (hb : ∀ k, S k → w'.heap[k]? = w.heap[k]?) (hS : ∀ k, S k → S' k) (h : EIn w S cs e) : EIn w' S' cs e := by
  obtain ⟨n, k, i, s, A, len, cap, e1, hv⟩ := h
  exact ⟨n, k, i, s, A, len, cap, e1, VIn.frame hb hS (fun _ h => h) n _ _ _ hv⟩
/-- Two elements' keys: neither begins the other. -/
theorem EIn.pf {w w' : World} {S S' : Nat → Prop} {cs cs' : Array Value} {a b : El} (h : EIn w S cs a) (h' : EIn w' S' cs' b) : PF a.K b.K := by
  obtain ⟨n, k, i, s, A, len, cap, e1, hv⟩ := h
  obtain ⟨n', k', i', s', A', len', cap', e1', hv'⟩ := h'
  exact KeyN.pf n n' _ _ (VIn.keyN n _ _ _ hv).1 (VIn.keyN n' _ _ _ hv').1
theorem VIn.same {w w' : World} {S q : Nat → Prop} {n : Nat} {cs : Array Value} {K F : List Int} (hw : w'.heap = w.heap) (h : VIn w S q n cs K F) : VIn w' S q n cs K F :=
  VIn.frame (fun _ _ => by rw [hw]) (fun _ h => h) (fun _ h => h) n _ _ _ h

/-- The five ways in which two elements lie. -/
theorem cmpE_cases (a b : El) :
    (sgn a.start b.start ≠ 0 ∧ cmpE a b = sgn a.start b.start) ∨
    (sgn a.start b.start = 0 ∧ sgn a.fin b.fin ≠ 0 ∧ cmpE a b = sgn a.fin b.fin) ∨
    (sgn a.start b.start = 0 ∧ sgn a.fin b.fin = 0 ∧ lexS a.K b.K ≠ 0 ∧ cmpE a b = lexS a.K b.K) ∨
    (sgn a.start b.start = 0 ∧ sgn a.fin b.fin = 0 ∧ lexS a.K b.K = 0 ∧ a.pend = b.pend ∧ cmpE a b = 0) ∨
    (sgn a.start b.start = 0 ∧ sgn a.fin b.fin = 0 ∧ lexS a.K b.K = 0 ∧ a.pend = false ∧ b.pend = true ∧ cmpE a b = -1) ∨
    (sgn a.start b.start = 0 ∧ sgn a.fin b.fin = 0 ∧ lexS a.K b.K = 0 ∧ a.pend = true ∧ b.pend = false ∧ cmpE a b = 1) := by
  unfold cmpE
  by_cases h1 : sgn a.start b.start = 0
  · by_cases h2 : sgn a.fin b.fin = 0
    · by_cases h3 : lexS a.K b.K = 0
      · cases ha : a.pend <;> cases hb : b.pend <;> simp [h1, h2, h3]
      · simp [h1, h2, h3]
    · simp [h1, h2]
  · simp [h1]

set_option maxHeartbeats 2000000 in
set_option maxRecDepth 100000 in
theorem cmpElem_16 (w : World) (S : Nat → Prop) (cs cs' : Array Value) (a b : El) (ha : EIn w S cs a) (hb : EIn w S cs' b) (hS : ∀ k, S k → k < w.heap.size) :
    Calls Try.prog 16 #[.agg cs, .agg cs'] w fun r w' => r = .returned (.int .i64 (cmpE a b)) ∧ Below w.heap.size w w' := by
  obtain ⟨n, k, i, s, A, len, cap, e1, hv⟩ := ha
  obtain ⟨n', k', i', s', A', len', cap', e1', hv'⟩ := hb
  obtain ⟨sa, fa, pa, xa, Ka, Fa⟩ := a
  obtain ⟨sb, fb, pb, xb, Kb, Fb⟩ := b
  subst e1 e1'
  dsimp only at *
  have HV : Hid (VIn w S lim n #[.int .u8 k, .int .i64 i, .string s, .slice A len cap] Ka Fa ∧ VIn w S lim n' #[.int .u8 k', .int .i64 i', .string s', .slice A' len' cap'] Kb Fb) := ⟨hv, hv'⟩
  clear hv hv'
  have hal : ∀ o o', Below w.heap.size w ((w.alloc o).alloc o') := fun o o' => (alloc_below w o).alloc (by simp) o'
  have ha1 : ∀ o o', ((w.alloc o).alloc o').heap[w.heap.size]? = some o := fun o o' => (Below.heap_alloc _ _ _ (by simp)).trans (alloc_at w o)
  have ha2 : ∀ o o', ((w.alloc o).alloc o').heap[w.heap.size + 1]? = some o' := fun o o' => by have := alloc_at (w.alloc o) o'; simpa using this
  have hcv : ∀ o o', Calls Try.prog 31 #[.agg #[.int .u8 k, .int .i64 i, .string s, .slice A len cap], .agg #[.int .u8 k', .int .i64 i', .string s', .slice A' len' cap']] ((w.alloc o).alloc o') fun e w' => e = .returned (.int .i64 (lexS Ka Kb)) ∧ Below w.heap.size w w' ∧ w'.heap[w.heap.size]? = some o ∧ w'.heap[w.heap.size + 1]? = some o' := fun o o' =>
    (cmpVal_31 n ((w.alloc o).alloc o') S _ _ Ka Fa Kb Fb n' (VIn.frame (fun k hk => (hal o o').block k (hS k hk)) (fun _ h => h) (fun _ h => h) n _ _ _ HV.out.1) (VIn.frame (fun k hk => (hal o o').block k (hS k hk)) (fun _ h => h) (fun _ h => h) n' _ _ _ HV.out.2) (fun k hk => Nat.lt_of_lt_of_le (hS k hk) (hal o o').size)).mono fun e w' ⟨he, hb⟩ => ⟨he, (hal o o').trans (hb.mono (hal o o').size), (hb.block _ (by simp; omega)).trans (ha1 o o'), (hb.block _ (by simp)).trans (ha2 o o')⟩
  clear HV
  rcases cmpE_cases ⟨sa, fa, pa, xa, Ka, Fa⟩ ⟨sb, fb, pb, xb, Kb, Fb⟩ with ⟨h1, he⟩ | ⟨h1, h2, he⟩ | ⟨h1, h2, h3, he⟩ | ⟨h1, h2, h3, h4, he⟩ | ⟨h1, h2, h3, h4, h5, he⟩ | ⟨h1, h2, h3, h4, h5, he⟩ <;> rw [he] <;> clear he <;> dsimp only at *
  · have h1' : (sgn sa sb != 0) = true := by simpa using h1
    go_enter Try.func16, Try.ntmps16
    go_wp2_with (go_at_call 30; refine (cmpInt_30 _ _ _).mono ?_; rintro e w' ⟨rfl, rfl⟩)
    go_ret
    exact ⟨rfl, hal _ _⟩
  · have h2' : (sgn fa fb != 0) = true := by simpa using h2
    go_enter Try.func16, Try.ntmps16
    go_wp2_with (go_at_call 30; refine (cmpInt_30 _ _ _).mono ?_; rintro e w' ⟨rfl, rfl⟩)
    go_ret
    exact ⟨rfl, hal _ _⟩
  · have h3' : (lexS Ka Kb != 0) = true := by simpa using h3
    go_enter Try.func16, Try.ntmps16
    go_wp2_with (first | (go_at_call 30; refine (cmpInt_30 _ _ _).mono ?_; rintro e w' ⟨rfl, rfl⟩) | fail)
    refine (hcv _ _).mono ?_
    rintro e w2 ⟨rfl, hb, h1', h2'⟩
    clear hcv ha1 ha2
    go_wp2_with fail
    go_ret
    exact ⟨rfl, hb⟩
  · subst h4
    go_enter Try.func16, Try.ntmps16
    go_wp2_with (first | (go_at_call 30; refine (cmpInt_30 _ _ _).mono ?_; rintro e w' ⟨rfl, rfl⟩) | fail)
    refine (hcv _ _).mono ?_
    rintro e w2 ⟨rfl, hb, h1', h2'⟩
    have b1 : w2.cell? ⟨w.heap.size, 6, none⟩ = some (.bool pa) := by rw [bcell h1']; rfl
    have b2 : w2.cell? ⟨w.heap.size + 1, 6, none⟩ = some (.bool pa) := by rw [bcell h2']; rfl
    clear hcv ha1 ha2 h1' h2'
    go_wp2_with fail
    go_ret
    exact ⟨rfl, hb⟩
  · subst h4 h5
    go_enter Try.func16, Try.ntmps16
    go_wp2_with (first | (go_at_call 30; refine (cmpInt_30 _ _ _).mono ?_; rintro e w' ⟨rfl, rfl⟩) | fail)
    refine (hcv _ _).mono ?_
    rintro e w2 ⟨rfl, hb, h1', h2'⟩
    have b1 : w2.cell? ⟨w.heap.size, 6, none⟩ = some (.bool false) := by rw [bcell h1']; rfl
    have b2 : w2.cell? ⟨w.heap.size + 1, 6, none⟩ = some (.bool true) := by rw [bcell h2']; rfl
    clear hcv ha1 ha2 h1' h2'
    go_wp2_with fail
    go_ret
    exact ⟨rfl, hb⟩
  · subst h4 h5
    go_enter Try.func16, Try.ntmps16
    go_wp2_with (first | (go_at_call 30; refine (cmpInt_30 _ _ _).mono ?_; rintro e w' ⟨rfl, rfl⟩) | fail)
    refine (hcv _ _).mono ?_
    rintro e w2 ⟨rfl, hb, h1', h2'⟩
    have b1 : w2.cell? ⟨w.heap.size, 6, none⟩ = some (.bool true) := by rw [bcell h1']; rfl
    have b2 : w2.cell? ⟨w.heap.size + 1, 6, none⟩ = some (.bool false) := by rw [bcell h2']; rfl
    clear hcv ha1 ha2 h1' h2'
    go_wp2_with fail
    go_ret
    exact ⟨rfl, hb⟩

/-- An element in a block of its own. -/
def EAt (w : World) (S : Nat → Prop) (b : Nat) (e : El) : Prop := ∃ cs, w.heap[b]? = some (.cells cs 49) ∧ S b ∧ EIn w S cs e
theorem EAt.frame {w w' : World} {S S' : Nat → Prop} {b : Nat} {e : El} (hb : ∀ k, S k → w'.heap[k]? = w.heap[k]?) (hS : ∀ k, S k → S' k) (h : EAt w S b e) : EAt w' S' b e := by
  obtain ⟨cs, h1, h2, h3⟩ := h
  exact ⟨cs, (hb b h2).trans h1, hS b h2, h3.frame hb hS⟩
theorem EAt.pf {w w' : World} {S S' : Nat → Prop} {p p' : Nat} {a b : El} (h : EAt w S p a) (h' : EAt w' S' p' b) : PF a.K b.K := by
  obtain ⟨_, _, _, h⟩ := h
  obtain ⟨_, _, _, h'⟩ := h'
  exact h.pf h'

end Go.Proofs.Qxb6613283a

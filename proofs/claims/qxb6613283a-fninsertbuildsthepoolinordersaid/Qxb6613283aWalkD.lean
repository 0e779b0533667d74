/-
  THE WALK of Value.Compare: the order of the keys.
-/
import Derived.Test.Qxb6613283aWalkC
namespace Go.Proofs.Qxb6613283a
open Go.RowKit

set_option maxHeartbeats 2000000 in
set_option maxRecDepth 100000 in
theorem valCompare_51 : ∀ (n : Nat) (w : World) (S : Nat → Prop) (cs cs' : Array Value) (K F K' F' : List Int) (m : Nat), VIn w S lim n cs K F → VIn w S lim m cs' K' F' → (∀ k, S k → k < w.heap.size) →
    Calls Try.prog 51 #[.agg cs, .agg cs'] w fun e w' => e = .returned (.int .i64 (lexS K K')) ∧ Below w.heap.size w w'
  | 0, _, _, _, _, _, _, _, _, _, h, _, _ => h.elim
  | _ + 1, _, _, _, _, _, _, _, _, 0, _, h, _ => h.elim
  | n + 1, w, S, cs, cs', K, F, K', F', m + 1, ⟨k, i, s, A, len, cap, ks, fs, e1, e2, e3, l1, l2, q1, q2, h⟩, ⟨k', i', s', A', len', cap', ks', fs', e1', e2', e3', l1', l2', q1', q2', h'⟩, hS => by
    subst e1 e1' e2 e2'
    rw [cmpF_eq]
    have HV : Hid (∀ j, j < len → Item w S (VIn w S lim n) A ks fs j) := h
    have HV' : Hid (∀ j, j < len' → Item w S (VIn w S lim m) A' ks' fs' j) := h'
    have HL : Hid (ks.length = len ∧ ks'.length = len') := ⟨l1, l1'⟩
    have IH := fun w S cs cs' K F K' F' => valCompare_51 n w S cs cs' K F K' F' m
    unfold lim at q2 q2'
    have HPF : Hid (AllPF ks ks') := fun a ha b hb => by
      obtain ⟨j, hj, rfl⟩ := List.mem_iff_getElem.1 ha
      obtain ⟨j', hj', rfl⟩ := List.mem_iff_getElem.1 hb
      obtain ⟨D, off, c0, c1, c2, c3, kj, fj, eA, hD, d0, d1, d2, d3, ek, ef, hv⟩ := h j (by omega)
      obtain ⟨D', off', c0', c1', c2', c3', kj', fj', eA', hD', d0', d1', d2', d3', ek', ef', hv'⟩ := h' j' (by omega)
      rw [List.getElem?_eq_getElem hj] at ek
      rw [List.getElem?_eq_getElem hj'] at ek'
      cases ek
      cases ek'
      exact KeyN.pf n m _ _ (VIn.keyN n _ _ _ hv).1 (VIn.keyN m _ _ _ hv').1
    clear h h' e3 e3' l1 l2 l1' l2' q1 q1'
    have ha1 : ∀ o o', ((w.alloc o).alloc o').heap[w.heap.size]? = some o := fun o o' => (Below.heap_alloc _ _ _ (by simp)).trans (alloc_at w o)
    have ha2 : ∀ o o', ((w.alloc o).alloc o').heap[w.heap.size + 1]? = some o' := fun o o' => by have := alloc_at (w.alloc o) o'; simpa using this
    have hal : ∀ o o', Below w.heap.size w ((w.alloc o).alloc o') := fun o o' => (alloc_below w o).alloc (by simp) o'
    by_cases hk : k = k'
    · subst hk
      by_cases k1 : k = 1
      · subst k1
        have e : cmpF 1 i s.toList ks 1 i' s'.toList ks' = sgn i i' := by simp [cmpF]
        rw [e]
        go_enter Try.func51, Try.ntmps51
        go_wp2_with (go_at_call 54; refine (cmp_54 _ _ _).mono ?_; rintro e w' ⟨rfl, rfl⟩)
        go_ret
        exact ⟨rfl, hal _ _⟩
      · by_cases k2 : k = 2
        · subst k2
          have e : cmpF 2 i s.toList ks 2 i' s'.toList ks' = sgnS s.toList s'.toList := by simp [cmpF, sgnS]
          rw [e]
          go_enter Try.func51, Try.ntmps51
          go_wp2_with (go_at_call 55; refine (cmp_55 _ _ _).mono ?_; rintro e w' ⟨rfl, rfl⟩)
          go_ret
          exact ⟨rfl, hal _ _⟩
        · by_cases k3 : k = 3
          · subst k3
            have e : cmpF 3 i s.toList ks 3 i' s'.toList ks' = sgnS s.toList s'.toList := by simp [cmpF, sgnS]
            rw [e]
            go_enter Try.func51, Try.ntmps51
            go_wp2_with (go_at_call 55; refine (cmp_55 _ _ _).mono ?_; rintro e w' ⟨rfl, rfl⟩)
            go_ret
            exact ⟨rfl, hal _ _⟩
          · by_cases k4 : k = 4
            · subst k4
              have e : cmpF 4 i s.toList ks 4 i' s'.toList ks' = lexS (flatK ks) (flatK ks') := by simp [cmpF]
              rw [e]
              clear k1 k2 k3
              by_cases hlen : len' < len
              · have hlen' : (len' : Int) < len := by omega
                go_enter Try.func51, Try.ntmps51
                go_wp2_with fail
                go_loopg [43] len' (fun gf iv wr => ∃ j : Nat, j + gf = len' ∧ iv = .int .i64 j ∧ (∀ j', j' < j → ks[j']? = ks'[j']?) ∧ Below w.heap.size w wr ∧ wr.heap[w.heap.size]? = some (.cells #[.int .u8 4, .int .i64 i, .string s, .slice A len cap] 38) ∧ wr.heap[w.heap.size + 1]? = some (.cells #[.int .u8 4, .int .i64 i', .string s', .slice A' len' cap'] 38))
                case atStart => exact ⟨0, by omega, rfl, fun _ h => by omega, hal _ _, ha1 _ _, ha2 _ _⟩
                case round =>
                  obtain ⟨j, hj0, rfl, heq, hbel, hbox, hbox'⟩ := hrel
                  have HJ : Hid (j + gk = len') := hj0
                  have HI : Hid ((∀ j', j' < j → ks[j']? = ks'[j']?) ∧ Below w.heap.size w wr ∧ wr.heap[w.heap.size]? = some (.cells #[.int .u8 4, .int .i64 i, .string s, .slice A len cap] 38) ∧ wr.heap[w.heap.size + 1]? = some (.cells #[.int .u8 4, .int .i64 i', .string s', .slice A' len' cap'] 38)) := ⟨heq, hbel, hbox, hbox'⟩
                  have hjl : j ≤ len' := by omega
                  have b3 : wr.cell? ⟨w.heap.size, 3, none⟩ = some (.slice A len cap) := by rw [bcell hbox]; rfl
                  have b3' : wr.cell? ⟨w.heap.size + 1, 3, none⟩ = some (.slice A' len' cap') := by rw [bcell hbox']; rfl
                  clear hj0 heq hbel hbox hbox'
                  by_cases hlt : j < len'
                  · have hltA : j < len := by omega
                    have hltB : j < len' := by omega
                    have hiA : (0 : Int) ≤ (j : Int) ∧ (j : Int) < (len : Int) := by omega
                    have hiB : (0 : Int) ≤ (j : Int) ∧ (j : Int) < (len' : Int) := by omega
                    obtain ⟨D, off, c0, c1, c2, c3, kj, fj, rfl, hD, d0, d1, d2, d3, ek, ef, hv⟩ := HV.out j hltA
                    obtain ⟨D', off', c0', c1', c2', c3', kj', fj', rfl, hD', d0', d1', d2', d3', ek', ef', hv'⟩ := HV'.out j hltB
                    have hb := HI.out.2.1
                    have hc : ∀ o, wr.cell? ⟨D, o, none⟩ = w.cell? ⟨D, o, none⟩ := fun o => World.cell?_of_block (hb.block D (hS D hD))
                    have hc' : ∀ o, wr.cell? ⟨D', o, none⟩ = w.cell? ⟨D', o, none⟩ := fun o => World.cell?_of_block (hb.block D' (hS D' hD'))
                    have g0 := (hc _).trans d0
                    have g1 := (hc _).trans d1
                    have g2 := (hc _).trans d2
                    have g3 := (hc _).trans d3
                    have g0' := (hc' _).trans d0'
                    have g1' := (hc' _).trans d1'
                    have g2' := (hc' _).trans d2'
                    have g3' := (hc' _).trans d3'
                    have HX : Hid (VIn wr S lim n #[c0, c1, c2, c3] kj fj ∧ VIn wr S lim m #[c0', c1', c2', c3'] kj' fj' ∧ ks[j]? = some kj ∧ ks'[j]? = some kj') :=
                      ⟨VIn.frame (fun k hk => hb.block k (hS k hk)) (fun _ h => h) (fun _ h => h) n _ _ _ hv, VIn.frame (fun k hk => hb.block k (hS k hk)) (fun _ h => h) (fun _ h => h) m _ _ _ hv', ek, ek'⟩
                    have hSr : ∀ k, S k → k < wr.heap.size := fun k hk => Nat.lt_of_lt_of_le (hS k hk) hb.size
                    clear hv hv' ek ek' ef ef' d0 d1 d2 d3 d0' d1' d2' d3' hc hc' hb
                    go_wp2_with fail
                    go_still_tail 10, mixed
                    refine wpList_plain rfl fun K hK => ?_
                    go_simp
                    refine (IH { wr with drawn := wr.drawn + 1 } S _ _ kj fj kj' fj' HX.out.1.drawn HX.out.2.1.drawn hSr).mono ?_
                    rintro e w2 ⟨rfl, hb2⟩
                    refine hK _ _ ?_
                    clear hK K g0 g1 g2 g3 g0' g1' g2' g3' b3 b3'
                    have hb3 : Below w.heap.size w w2 := HI.out.2.1.trans ((show Below wr.heap.size wr w2 from ⟨hb2.os, hb2.tape, hb2.output, hb2.size, hb2.block⟩).mono HI.out.2.1.size)
                    have hbx := (hb2.block _ (blt HI.out.2.2.1)).trans HI.out.2.2.1
                    have hbx' := (hb2.block _ (blt HI.out.2.2.2)).trans HI.out.2.2.2
                    have HN : Hid (Below w.heap.size w w2 ∧ w2.heap[w.heap.size]? = some (.cells #[.int .u8 4, .int .i64 i, .string s, .slice (some ⟨D, off, none⟩) len cap] 38) ∧ w2.heap[w.heap.size + 1]? = some (.cells #[.int .u8 4, .int .i64 i', .string s', .slice (some ⟨D', off', none⟩) len' cap'] 38)) := ⟨hb3, hbx, hbx'⟩
                    clear hb2 hb3 hbx hbx'
                    by_cases hz : lexS kj kj' = 0
                    · have hz' : (lexS kj kj' != 0) = false := by simp [hz]
                      rw [hz]
                      go_wp2_with fail
                      go_roundg (gk - 1)
                      case rel =>
                        refine ⟨j + 1, by have := HJ.out; omega, by go_num, fun j' hj' => ?_, HN.out.1, HN.out.2.1, HN.out.2.2⟩
                        by_cases hjj : j' < j
                        · exact HI.out.1 j' hjj
                        · obtain rfl : j' = j := by omega
                          rw [HX.out.2.2.1, HX.out.2.2.2, lexS_eq _ _ hz]
                      case measure => have := HJ.out; omega
                    · have hfin : lexS (flatK ks) (flatK ks') = lexS kj kj' := by
                        have hl1 : j < ks.length := by have := HL.out.1; omega
                        have hl2 : j < ks'.length := by have := HL.out.2; omega
                        have q1 : ks[j] = kj := by have := HX.out.2.2.1; rw [List.getElem?_eq_getElem hl1] at this; exact Option.some.inj this
                        have q2 : ks'[j] = kj' := by have := HX.out.2.2.2; rw [List.getElem?_eq_getElem hl2] at this; exact Option.some.inj this
                        have := lexS_flatK_at j ks ks' hl1 hl2 HI.out.1 HPF.out (by rw [q1, q2]; exact hz)
                        rw [this, q1, q2]
                      have hfin' : Hid (lexS (flatK ks) (flatK ks') = lexS kj kj') := hfin
                      clear hfin
                      have hz' : (lexS kj kj' != 0) = true := by simp [hz]
                      go_wp2_with fail
                      go_ret
                      exact ⟨by rw [hfin'.out]; rfl, HN.out.1⟩
                  · obtain rfl : j = len' := by omega
                    have hfin : Hid (lexS (flatK ks) (flatK ks') = sgn ks.length ks'.length) := lexS_flatK_len ks ks' (fun j' hj' => HI.out.1 j' (by rw [HL.out.1, HL.out.2] at hj'; omega))
                    go_wp2_with (go_at_call 50; refine (cmp_50 _ _ _).mono ?_; rintro e w' ⟨rfl, rfl⟩)
                    go_ret
                    exact ⟨by rw [hfin.out, HL.out.1, HL.out.2]; rfl, HI.out.2.1⟩
              · have hlen' : ¬ (len' : Int) < len := by omega
                go_enter Try.func51, Try.ntmps51
                go_wp2_with fail
                go_loopg [43] len (fun gf iv wr => ∃ j : Nat, j + gf = len ∧ iv = .int .i64 j ∧ (∀ j', j' < j → ks[j']? = ks'[j']?) ∧ Below w.heap.size w wr ∧ wr.heap[w.heap.size]? = some (.cells #[.int .u8 4, .int .i64 i, .string s, .slice A len cap] 38) ∧ wr.heap[w.heap.size + 1]? = some (.cells #[.int .u8 4, .int .i64 i', .string s', .slice A' len' cap'] 38))
                case atStart => exact ⟨0, by omega, rfl, fun _ h => by omega, hal _ _, ha1 _ _, ha2 _ _⟩
                case round =>
                  obtain ⟨j, hj0, rfl, heq, hbel, hbox, hbox'⟩ := hrel
                  have HJ : Hid (j + gk = len) := hj0
                  have HI : Hid ((∀ j', j' < j → ks[j']? = ks'[j']?) ∧ Below w.heap.size w wr ∧ wr.heap[w.heap.size]? = some (.cells #[.int .u8 4, .int .i64 i, .string s, .slice A len cap] 38) ∧ wr.heap[w.heap.size + 1]? = some (.cells #[.int .u8 4, .int .i64 i', .string s', .slice A' len' cap'] 38)) := ⟨heq, hbel, hbox, hbox'⟩
                  have hjl : j ≤ len := by omega
                  have b3 : wr.cell? ⟨w.heap.size, 3, none⟩ = some (.slice A len cap) := by rw [bcell hbox]; rfl
                  have b3' : wr.cell? ⟨w.heap.size + 1, 3, none⟩ = some (.slice A' len' cap') := by rw [bcell hbox']; rfl
                  clear hj0 heq hbel hbox hbox'
                  by_cases hlt : j < len
                  · have hltA : j < len := by omega
                    have hltB : j < len' := by omega
                    have hiA : (0 : Int) ≤ (j : Int) ∧ (j : Int) < (len : Int) := by omega
                    have hiB : (0 : Int) ≤ (j : Int) ∧ (j : Int) < (len' : Int) := by omega
                    obtain ⟨D, off, c0, c1, c2, c3, kj, fj, rfl, hD, d0, d1, d2, d3, ek, ef, hv⟩ := HV.out j hltA
                    obtain ⟨D', off', c0', c1', c2', c3', kj', fj', rfl, hD', d0', d1', d2', d3', ek', ef', hv'⟩ := HV'.out j hltB
                    have hb := HI.out.2.1
                    have hc : ∀ o, wr.cell? ⟨D, o, none⟩ = w.cell? ⟨D, o, none⟩ := fun o => World.cell?_of_block (hb.block D (hS D hD))
                    have hc' : ∀ o, wr.cell? ⟨D', o, none⟩ = w.cell? ⟨D', o, none⟩ := fun o => World.cell?_of_block (hb.block D' (hS D' hD'))
                    have g0 := (hc _).trans d0
                    have g1 := (hc _).trans d1
                    have g2 := (hc _).trans d2
                    have g3 := (hc _).trans d3
                    have g0' := (hc' _).trans d0'
                    have g1' := (hc' _).trans d1'
                    have g2' := (hc' _).trans d2'
                    have g3' := (hc' _).trans d3'
                    have HX : Hid (VIn wr S lim n #[c0, c1, c2, c3] kj fj ∧ VIn wr S lim m #[c0', c1', c2', c3'] kj' fj' ∧ ks[j]? = some kj ∧ ks'[j]? = some kj') :=
                      ⟨VIn.frame (fun k hk => hb.block k (hS k hk)) (fun _ h => h) (fun _ h => h) n _ _ _ hv, VIn.frame (fun k hk => hb.block k (hS k hk)) (fun _ h => h) (fun _ h => h) m _ _ _ hv', ek, ek'⟩
                    have hSr : ∀ k, S k → k < wr.heap.size := fun k hk => Nat.lt_of_lt_of_le (hS k hk) hb.size
                    clear hv hv' ek ek' ef ef' d0 d1 d2 d3 d0' d1' d2' d3' hc hc' hb
                    go_wp2_with fail
                    go_still_tail 10, mixed
                    refine wpList_plain rfl fun K hK => ?_
                    go_simp
                    refine (IH { wr with drawn := wr.drawn + 1 } S _ _ kj fj kj' fj' HX.out.1.drawn HX.out.2.1.drawn hSr).mono ?_
                    rintro e w2 ⟨rfl, hb2⟩
                    refine hK _ _ ?_
                    clear hK K g0 g1 g2 g3 g0' g1' g2' g3' b3 b3'
                    have hb3 : Below w.heap.size w w2 := HI.out.2.1.trans ((show Below wr.heap.size wr w2 from ⟨hb2.os, hb2.tape, hb2.output, hb2.size, hb2.block⟩).mono HI.out.2.1.size)
                    have hbx := (hb2.block _ (blt HI.out.2.2.1)).trans HI.out.2.2.1
                    have hbx' := (hb2.block _ (blt HI.out.2.2.2)).trans HI.out.2.2.2
                    have HN : Hid (Below w.heap.size w w2 ∧ w2.heap[w.heap.size]? = some (.cells #[.int .u8 4, .int .i64 i, .string s, .slice (some ⟨D, off, none⟩) len cap] 38) ∧ w2.heap[w.heap.size + 1]? = some (.cells #[.int .u8 4, .int .i64 i', .string s', .slice (some ⟨D', off', none⟩) len' cap'] 38)) := ⟨hb3, hbx, hbx'⟩
                    clear hb2 hb3 hbx hbx'
                    by_cases hz : lexS kj kj' = 0
                    · have hz' : (lexS kj kj' != 0) = false := by simp [hz]
                      rw [hz]
                      go_wp2_with fail
                      go_roundg (gk - 1)
                      case rel =>
                        refine ⟨j + 1, by have := HJ.out; omega, by go_num, fun j' hj' => ?_, HN.out.1, HN.out.2.1, HN.out.2.2⟩
                        by_cases hjj : j' < j
                        · exact HI.out.1 j' hjj
                        · obtain rfl : j' = j := by omega
                          rw [HX.out.2.2.1, HX.out.2.2.2, lexS_eq _ _ hz]
                      case measure => have := HJ.out; omega
                    · have hfin : lexS (flatK ks) (flatK ks') = lexS kj kj' := by
                        have hl1 : j < ks.length := by have := HL.out.1; omega
                        have hl2 : j < ks'.length := by have := HL.out.2; omega
                        have q1 : ks[j] = kj := by have := HX.out.2.2.1; rw [List.getElem?_eq_getElem hl1] at this; exact Option.some.inj this
                        have q2 : ks'[j] = kj' := by have := HX.out.2.2.2; rw [List.getElem?_eq_getElem hl2] at this; exact Option.some.inj this
                        have := lexS_flatK_at j ks ks' hl1 hl2 HI.out.1 HPF.out (by rw [q1, q2]; exact hz)
                        rw [this, q1, q2]
                      have hfin' : Hid (lexS (flatK ks) (flatK ks') = lexS kj kj') := hfin
                      clear hfin
                      have hz' : (lexS kj kj' != 0) = true := by simp [hz]
                      go_wp2_with fail
                      go_ret
                      exact ⟨by rw [hfin'.out]; rfl, HN.out.1⟩
                  · obtain rfl : j = len := by omega
                    have hfin : Hid (lexS (flatK ks) (flatK ks') = sgn ks.length ks'.length) := lexS_flatK_len ks ks' (fun j' hj' => HI.out.1 j' (by rw [HL.out.1, HL.out.2] at hj'; omega))
                    go_wp2_with (go_at_call 50; refine (cmp_50 _ _ _).mono ?_; rintro e w' ⟨rfl, rfl⟩)
                    go_ret
                    exact ⟨by rw [hfin.out, HL.out.1, HL.out.2]; rfl, HI.out.2.1⟩
            · have e : cmpF k i s.toList ks k i' s'.toList ks' = 0 := by simp [cmpF, k1, k2, k3, k4]
              rw [e]
              go_enter Try.func51, Try.ntmps51
              go_wp2_with fail
              go_ret
              exact ⟨rfl, hal _ _⟩
    · have e : cmpF k i s.toList ks k' i' s'.toList ks' = sgn k k' := by simp [cmpF, hk]
      rw [e]
      go_enter Try.func51, Try.ntmps51
      go_wp2_with (go_at_call 53; refine (cmp_53 _ _ _).mono ?_; rintro e w' ⟨rfl, rfl⟩)
      go_ret
      exact ⟨rfl, hal _ _⟩
end Go.Proofs.Qxb6613283a

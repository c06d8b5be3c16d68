import Derived.Test.Qxb6616800aWalksB
namespace Go.Proofs.Qxb6616800a
open Go.RowKit

/-- A slice of n elements that the call itself has made: nil and empty, or a whole block. -/
def Own (w : World) (s : Option Addr) (n : Nat) (F : Nat → Wt) : Prop :=
  (s = none ∧ n = 0) ∨ ∃ B, s = some ⟨B, 0, none⟩ ∧ w.heap[B]? = some (.cells (rowW F n) 28 (0, 0))

theorem Own.rowAt {w : World} {s : Option Addr} {n : Nat} {F : Nat → Wt} (h : Own w s n F) : RowAt w s n F := by
  intro k hk
  rcases h with ⟨rfl, rfl⟩ | ⟨B, rfl, hB⟩
  · omega
  · exact ⟨B, 0, rfl, by rw [Nat.zero_add]; exact six_of_row hB hk⟩
theorem Own.below {w w' : World} {s : Option Addr} {n : Nat} {F : Nat → Wt} {X : Nat} (h : Own w s n F) (hb : Below X w w') (hX : w.heap.size ≤ X) : Own w' s n F := by
  rcases h with ⟨rfl, rfl⟩ | ⟨B, rfl, hB⟩
  · exact .inl ⟨rfl, rfl⟩
  · exact .inr ⟨B, rfl, (hb.block B (Nat.lt_of_lt_of_le (lt_of_block hB) hX)).trans hB⟩
theorem Six.below {w w' : World} {b o X : Nat} {x : Wt} (h : Six w b o x) (hb : Below X w w') (hX : w.heap.size ≤ X) : Six w' b o x := by
  have hlt : b < X := Nat.lt_of_lt_of_le (World.block_lt_of_cell? w _ h.1) hX
  exact ⟨(hb.cell (p := ⟨b, o, none⟩) hlt).trans h.1, (hb.cell (p := ⟨b, o + 1, none⟩) hlt).trans h.2.1, (hb.cell (p := ⟨b, o + 2, none⟩) hlt).trans h.2.2.1, (hb.cell (p := ⟨b, o + 3, none⟩) hlt).trans h.2.2.2.1, (hb.cell (p := ⟨b, o + 4, none⟩) hlt).trans h.2.2.2.2.1, (hb.cell (p := ⟨b, o + 5, none⟩) hlt).trans h.2.2.2.2.2⟩
theorem RowAt.below {w w' : World} {s : Option Addr} {n X : Nat} {F : Nat → Wt} (h : RowAt w s n F) (hb : Below X w w') (hX : w.heap.size ≤ X) : RowAt w' s n F := by
  intro k hk
  obtain ⟨b, o, hs, h6⟩ := h k hk
  exact ⟨b, o, hs, h6.below hb hX⟩
theorem RowAt.congr {w : World} {s : Option Addr} {n : Nat} {F G : Nat → Wt} (h : RowAt w s n F) (e : ∀ i, i < n → F i = G i) : RowAt w s n G := by
  intro k hk
  rw [← e k hk]
  exact h k hk

theorem w6u (s : Option Addr) (n c : Nat) (F : Nat → Wt) (w : World) (hn : n ≤ 4096) (ha : RowAt w s n F) (hs : s = none → n = 0 ∧ c = 0) :
    Calls Try.prog 6 #[.slice s n c] w fun e w' => ∃ s', e = .returned (.slice s' n n) ∧ Own w' s' n F ∧ Below w.heap.size w w' := by
  cases s with
  | none =>
    obtain ⟨rfl, rfl⟩ := hs rfl
    exact (w6_nil w).mono fun e w' ⟨h1, h2⟩ => ⟨_, h1, .inl ⟨rfl, rfl⟩, by rw [← h2]; exact Below.refl _ _⟩
  | some a =>
    by_cases h0 : n = 0
    · subst h0
      exact (w6_empty a c w).mono fun e w' ⟨h1, h2, h3⟩ => ⟨_, h1, .inr ⟨_, rfl, h2⟩, h3⟩
    · obtain ⟨b, off, e, h6⟩ := ha 0 (by omega)
      cases e
      exact (w6 b off n c F w hn (World.block_lt_of_cell? w _ h6.1) (fun k hk => by
        obtain ⟨b', off', e, h⟩ := ha k hk
        cases e
        exact h)).mono fun e w' ⟨h1, h2, h3⟩ => ⟨_, h1, .inr ⟨_, rfl, h2⟩, h3⟩

theorem w7u (s : Option Addr) (n : Nat) (F : Nat → Wt) (w : World) (hn : n ≤ 16384) (ha : Own w s n F) :
    Calls Try.prog 7 #[.slice s n n] w fun e w' => ∃ s', e = .returned (.slice s' (n - 1) (n - 1)) ∧ RowAt w s' (n - 1) (fun i => F (i + 1)) ∧ w = w' := by
  rcases ha with ⟨rfl, rfl⟩ | ⟨B, rfl, hB⟩
  · exact (w7_nil w).mono fun e w' ⟨h1, h2⟩ => ⟨_, h1, fun k hk => by omega, h2⟩
  · cases n with
    | zero => exact (w7_zero B w).mono fun e w' ⟨h1, h2⟩ => ⟨_, h1, fun k hk => by omega, h2⟩
    | succ m =>
      refine (w7_more B m (by omega) w).mono fun e w' ⟨h1, h2⟩ => ⟨_, h1, fun k hk => ?_, h2⟩
      refine ⟨B, offL m, rfl, ?_⟩
      have hk' : k < m := hk
      rw [offL_pos hk', show 6 + k * 6 = (k + 1) * 6 by omega]
      exact six_of_row hB (by omega)

theorem w7v (s : Option Addr) (n p : Nat) (hp : n = p + 1) (F : Nat → Wt) (w : World) (hn : n ≤ 16384) (ha : Own w s n F) :
    Calls Try.prog 7 #[.slice s n n] w fun e w' => ∃ s', e = .returned (.slice s' p p) ∧ RowAt w s' p (fun i => F (i + 1)) ∧ w = w' := by
  subst hp
  exact w7u s (p + 1) F w hn ha

theorem mkSum (a b : Nat) (h : a + b ≤ 16384) (x : Int) (hx : x = ((a + b : Nat) : Int)) (w : World) : (Instr.makeSlice 25 (.int .i64 x) (.int .i64 x)).run Try.prog w = .ok (.slice (some ⟨w.heap.size, 0, none⟩) (a + b) (a + b)) (w.alloc (.cells (rowW (fun _ => noWt) (a + b)) 28)) := by
  subst hx; exact mk25 (a + b) h w

/-- Loop 1 and loop 2 of the law, as a function of the rounds: a's elements, then b's. -/
def abF (F G : Nat → Wt) (n k : Nat) : Nat → Wt := fun i => if i < k then (if i < n then F i else G (i - n)) else noWt
theorem abF_step (F G : Nat → Wt) (n k N : Nat) (x : Wt) (hx : x = if k < n then F k else G (k - n)) : rowW (putW (abF F G n k) k x) N = rowW (abF F G n (k + 1)) N := by
  apply rowW_congr
  intro i _
  simp only [putW, abF]
  by_cases h : i = k
  · subst h; rw [if_pos rfl, if_pos (by omega)]; exact hx
  · rw [if_neg h]
    by_cases h2 : i < k
    · simp only [if_pos h2, if_pos (show i < k + 1 by omega)]
    · simp only [if_neg h2, if_neg (show ¬ i < k + 1 by omega)]
theorem abF_zero (F G : Nat → Wt) (n N : Nat) : rowW (fun _ => noWt) N = rowW (abF F G n 0) N := rowW_congr fun i _ => by simp [abF]

set_option maxHeartbeats 4000000 in
set_option maxRecDepth 100000 in
theorem walk_more (sa sb : Option Addr) (m ca nb cb : Nat) (F G : Nat → Wt) (w : World) (hm : m + 1 ≤ 4096) (hnb : nb ≤ 4096) (ha : RowAt w sa (m + 1) F) (hb : RowAt w sb nb G) (hsa : sa = none → m + 1 = 0 ∧ ca = 0) (hsb : sb = none → nb = 0 ∧ cb = 0) :
    Calls Try.prog 3 #[.slice sa (m + 1) ca, .slice sb nb cb] w fun e w' => e = .returned (.bool true) ∧ Below w.heap.size w w' := by
  have hmk1 := mkSum (m + 1) nb (by omega) ((m : Int) + 1 + nb) (by omega)
  have hmk2 := mkSum m nb (by omega) ((m : Int) + nb) (by omega)
  have hd1 : decide ((4096 : Int) < (m : Int) + 1) = false := decide_eq_false (by omega)
  have hd2 : decide ((4096 : Int) < (nb : Int)) = false := decide_eq_false (by omega)
  have hd3 : ((m : Int) + 1 == 0) = false := beq_eq_false_iff_ne.2 (by omega)
  go_enter Try.func3, Try.ntmps3
  go_wp2_with fail
  refine (w4 sa sb _ ca nb cb F G w ha hb).mono ?_
  rintro e w' ⟨⟨q, rfl⟩, rfl⟩
  cases q
  · go_wp2
    go_ret
    exact ⟨rfl, Below.refl _ _⟩
  go_wp2_with fail
  refine (w5 1048576 sa _ ca F w (by omega) (by omega) (by omega) ha).mono ?_
  rintro e w' ⟨⟨q1, rfl, hq10, hq11⟩, rfl⟩
  go_wp2_with fail
  refine (w5 q1 sb nb cb G w (by omega) (by omega) (by omega) hb).mono ?_
  rintro e w' ⟨⟨q2, rfl, hq20, hq21⟩, rfl⟩
  by_cases hneg : q2 < 0
  · go_wp2
    go_ret
    exact ⟨rfl, Below.refl _ _⟩
  have hdq : decide (q2 < 0) = false := decide_eq_false hneg
  go_wp2_with fail
  refine (w6u sa _ ca F w hm ha hsa).mono ?_
  rintro e w1 ⟨sa', rfl, HA1, hB1⟩
  go_wp2_with fail
  refine (w6u sb nb cb G w1 hnb (hb.below hB1 (Nat.le_refl _)) hsb).mono ?_
  rintro e w2 ⟨sb', rfl, HB, hB2⟩
  have HA := HA1.below hB2 (Nat.le_refl _)
  have hB : Below w.heap.size w w2 := hB1.trans (hB2.mono hB1.size)
  clear ha hb HA1 hB1 hB2 hsa hsb
  go_wp2_with fail
  go_loopw [8] (fun i wr => ∃ k : Nat, k ≤ m + 1 ∧ i = .int .i64 k ∧ wr.heap[w2.heap.size]? = some (.cells (rowW (abF F G (m + 1) k) (m + 1 + nb)) 28 (0, 0)) ∧ Below w2.heap.size w2 wr)
    (fun i _ => m + 1 - (intOf i).toNat)
  case atStart => exact ⟨0, Nat.zero_le _, rfl, by rw [← abF_zero]; exact heap_alloc_new _ _, (Below.refl _ _).alloc (Nat.le_refl _) _⟩
  case round =>
    obtain ⟨k, hk, rfl, h1, hbel⟩ := hrel
    have H1 : Hid (wr.heap[w2.heap.size]? = _) := h1
    clear h1
    by_cases hlt : k < m + 1
    · obtain ⟨b, off, hs, c0, c1, c2, c3, c4, c5⟩ := (HA.rowAt.below hbel (Nat.le_refl _)) k hlt
      subst hs
      obtain ⟨e0, e1, e2, e3, e4, e5⟩ := six_of_row H1.out (show k < m + 1 + nb by omega)
      have hfz := fun j => frozen_of_row wr w2.heap.size j _ _ H1.out
      have hlt' : (k : Int) < (m : Int) + 1 := by omega
      have hlt2 : (k : Int) < (m : Int) + 1 + nb := by omega
      clear HA HB
      go_wp2
      go_roundw
      case rel =>
        refine ⟨k + 1, by omega, by go_num, ?_, ?_⟩
        · refine (put6_row (F k) H1.out (by omega)).trans ?_
          rw [abF_step F G (m + 1) k _ (F k) (by rw [if_pos hlt])]
        · exact put6_below _ _ hbel (Nat.le_refl _)
      case measure => simp [intOf]; omega
    · obtain rfl : k = m + 1 := by omega
      go_wp2_with fail
      go_loopw [9] (fun i wr => ∃ k : Nat, k ≤ nb ∧ i = .int .i64 k ∧ wr.heap[w2.heap.size]? = some (.cells (rowW (abF F G (m + 1) (m + 1 + k)) (m + 1 + nb)) 28 (0, 0)) ∧ Below w2.heap.size w2 wr)
        (fun i _ => nb - (intOf i).toNat)
      case atStart => exact ⟨0, Nat.zero_le _, rfl, H1.out, hbel⟩
      case round =>
        obtain ⟨j, hj, rfl, h1, hbel⟩ := hrel
        have H1 : Hid (wr.heap[w2.heap.size]? = _) := h1
        clear h1
        by_cases hlt : j < nb
        · obtain ⟨b, off, hs, c0, c1, c2, c3, c4, c5⟩ := (HB.rowAt.below hbel (Nat.le_refl _)) j hlt
          subst hs
          obtain ⟨e0, e1, e2, e3, e4, e5⟩ := six_of_row H1.out (show m + 1 + j < m + 1 + nb by omega)
          have hfz := fun j => frozen_of_row wr w2.heap.size j _ _ H1.out
          have hlt' : (j : Int) < (nb : Int) := by omega
          have hlt2 : (m : Int) + 1 + j < (m : Int) + 1 + nb := by omega
          clear HA HB
          go_wp2
          go_roundw
          case rel =>
            refine ⟨j + 1, by omega, by go_num, ?_, ?_⟩
            · refine (put6_row (G j) H1.out (show m + 1 + j < m + 1 + nb by omega)).trans ?_
              rw [abF_step F G (m + 1) (m + 1 + j) _ (G j) (by rw [if_neg (by omega)]; congr 1; omega)]
              rfl
            · exact put6_below _ _ hbel (Nat.le_refl _)
          case measure => simp [intOf]; omega
        · obtain rfl : j = nb := by omega
          obtain ⟨w3, hw3⟩ : ∃ x, x = wr := ⟨_, rfl⟩
          subst hw3
          have HA3 := HA.below hbel (Nat.le_refl _)
          have HB3 := HB.below hbel (Nat.le_refl _)
          have hBel3 : Below w.heap.size w w3 := hB.trans (hbel.mono hB.size)
          clear HA HB hB
          go_wp2_with fail
          refine (w7v sa' (m + 1) m rfl F w3 (by omega) HA3).mono ?_
          rintro e w' ⟨sl, rfl, HL, rfl⟩
          go_wp2_with fail
          refine (w7v (some ⟨w2.heap.size, 0, none⟩) (m + 1 + j) (m + j) (by omega) (abF F G (m + 1) (m + 1 + j)) w3 (by omega) (.inr ⟨_, rfl, H1.out⟩)).mono ?_
          rintro e w' ⟨sw, rfl, HW, rfl⟩
          clear H1 hbel HA3
          go_wp2_with fail
          go_loopw [13] (fun i wr => ∃ k : Nat, k ≤ m ∧ i = .int .i64 k ∧ wr.heap[w3.heap.size]? = some (.cells (rowW (abF (fun i => F (i + 1)) G m k) (m + j)) 28 (0, 0)) ∧ Below w3.heap.size w3 wr)
            (fun i _ => m - (intOf i).toNat)
          case atStart => exact ⟨0, Nat.zero_le _, rfl, by rw [← abF_zero]; exact heap_alloc_new _ _, (Below.refl _ _).alloc (Nat.le_refl _) _⟩
          case round =>
            obtain ⟨k, hk, rfl, h1, hbel⟩ := hrel
            have H1 : Hid (wr.heap[w3.heap.size]? = _) := h1
            clear h1
            by_cases hlt : k < m
            · obtain ⟨b, off, hs, c0, c1, c2, c3, c4, c5⟩ := (HL.below hbel (Nat.le_refl _)) k hlt
              subst hs
              obtain ⟨e0, e1, e2, e3, e4, e5⟩ := six_of_row H1.out (show k < m + j by omega)
              have hfz := fun j => frozen_of_row wr w3.heap.size j _ _ H1.out
              have hlt' : (k : Int) < (m : Int) := by omega
              have hlt2 : (k : Int) < (m : Int) + j := by omega
              clear HL HW HB3
              go_wp2
              go_roundw
              case rel =>
                refine ⟨k + 1, by omega, by go_num, ?_, ?_⟩
                · refine (put6_row (F (k + 1)) H1.out (by omega)).trans ?_
                  rw [abF_step (fun i => F (i + 1)) G m k _ (F (k + 1)) (by rw [if_pos hlt])]
                · exact put6_below _ _ hbel (Nat.le_refl _)
              case measure => simp [intOf]; omega
            · obtain rfl : k = m := by omega
              go_wp2_with fail
              go_loopw [14] (fun i wr => ∃ t : Nat, t ≤ j ∧ i = .int .i64 t ∧ wr.heap[w3.heap.size]? = some (.cells (rowW (abF (fun i => F (i + 1)) G k (k + t)) (k + j)) 28 (0, 0)) ∧ Below w3.heap.size w3 wr)
                (fun i _ => j - (intOf i).toNat)
              case atStart => exact ⟨0, Nat.zero_le _, rfl, H1.out, hbel⟩
              case round =>
                obtain ⟨t, ht, rfl, h1, hbel⟩ := hrel
                have H1 : Hid (wr.heap[w3.heap.size]? = _) := h1
                clear h1
                by_cases hlt : t < j
                · obtain ⟨b, off, hs, c0, c1, c2, c3, c4, c5⟩ := (HB3.rowAt.below hbel (Nat.le_refl _)) t hlt
                  subst hs
                  obtain ⟨e0, e1, e2, e3, e4, e5⟩ := six_of_row H1.out (show k + t < k + j by omega)
                  have hfz := fun j => frozen_of_row wr w3.heap.size j _ _ H1.out
                  have hlt' : (t : Int) < (j : Int) := by omega
                  have hlt2 : (k : Int) + t < (k : Int) + j := by omega
                  clear HL HW HB3
                  go_wp2
                  go_roundw
                  case rel =>
                    refine ⟨t + 1, by omega, by go_num, ?_, ?_⟩
                    · refine (put6_row (G t) H1.out (show k + t < k + j by omega)).trans ?_
                      rw [abF_step (fun i => F (i + 1)) G k (k + t) _ (G t) (by rw [if_neg (by omega)]; congr 1; omega)]
                      rfl
                    · exact put6_below _ _ hbel (Nat.le_refl _)
                  case measure => simp [intOf]; omega
                · obtain rfl : t = j := by omega
                  have HJ : RowAt wr (some ⟨w3.heap.size, 0, none⟩) (k + t) (abF (fun i => F (i + 1)) G k (k + t)) := Own.rowAt (.inr ⟨_, rfl, H1.out⟩)
                  have HW' := (HW.below hbel (Nat.le_refl _)).congr (G := abF (fun i => F (i + 1)) G k (k + t)) (fun i hi => by
                    simp only [abF]
                    rw [if_pos (by omega), if_pos hi]
                    by_cases h : i < k
                    · rw [if_pos (by omega), if_pos h]
                    · rw [if_neg (by omega), if_neg h]; congr 1; omega)
                  clear HL HW HB3
                  go_wp2_with fail
                  refine (w8 sw (some ⟨w3.heap.size, 0, none⟩) (k + t) _ _ _ wr (by omega) HW' HJ).mono ?_
                  rintro e w5 ⟨rfl, hB5⟩
                  have hE : Below w.heap.size w w5 := (hBel3.trans (hbel.mono hBel3.size)).trans (hB5.mono (Nat.le_trans hBel3.size hbel.size))
                  clear HW' HJ H1
                  go_wp2
                  go_ret
                  exact ⟨rfl, hE⟩
end Go.Proofs.Qxb6616800a

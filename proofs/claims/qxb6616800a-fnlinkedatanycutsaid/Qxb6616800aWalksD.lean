import Derived.Test.Qxb6616800aWalksC
namespace Go.Proofs.Qxb6616800a
open Go.RowKit

set_option maxHeartbeats 4000000 in
set_option maxRecDepth 100000 in
theorem walk_zero (sa sb : Option Addr) (ca nb cb : Nat) (F G : Nat → Wt) (w : World) (hnb : nb ≤ 4096) (ha : RowAt w sa 0 F) (hb : RowAt w sb nb G) (hsa : sa = none → 0 = 0 ∧ ca = 0) (hsb : sb = none → nb = 0 ∧ cb = 0) :
    Calls Try.prog 3 #[.slice sa 0 ca, .slice sb nb cb] w fun e w' => e = .returned (.bool true) ∧ Below w.heap.size w w' := by
  have hmk1 := mk25 nb (by omega)
  have hd2 : decide ((4096 : Int) < (nb : Int)) = false := decide_eq_false (by omega)
  go_enter Try.func3, Try.ntmps3
  go_wp2_with fail
  refine (w4 sa sb 0 ca nb cb F G w ha hb).mono ?_
  rintro e w' ⟨⟨q, rfl⟩, rfl⟩
  cases q
  · go_wp2
    go_ret
    exact ⟨rfl, Below.refl _ _⟩
  go_wp2_with fail
  refine (w5 1048576 sa 0 ca F w (by omega) (by omega) (by omega) ha).mono ?_
  rintro e w' ⟨⟨q1, rfl, hq10, hq11⟩, rfl⟩
  go_wp2_with fail
  refine (w5 q1 sb nb cb G w (by omega) (by omega) (by omega) hb).mono ?_
  rintro e w' ⟨⟨q2, rfl, hq20, hq21⟩, rfl⟩
  by_cases hneg : q2 < 0
  · go_wp2
    go_ret
    exact ⟨rfl, Below.refl _ _⟩
  have hdq : decide (q2 < 0) = false := decide_eq_false hneg
  go_wp2_with fail
  refine (w6u sa 0 ca F w (by omega) ha (fun h => ⟨rfl, (hsa h).2⟩)).mono ?_
  rintro e w1 ⟨sa', rfl, HA1, hB1⟩
  go_wp2_with fail
  refine (w6u sb nb cb G w1 hnb (hb.below hB1 (Nat.le_refl _)) hsb).mono ?_
  rintro e w2 ⟨sb', rfl, HB, hB2⟩
  have HA := HA1.below hB2 (Nat.le_refl _)
  have hB : Below w.heap.size w w2 := hB1.trans (hB2.mono hB1.size)
  clear ha hb HA1 hB1 hB2 hsa hsb
  go_wp2_with fail
  refine wp_loop_rounds 1 ?_
  rw [rounds_succ]
  go_wp2_with fail
  go_loopw [9] (fun i wr => ∃ k : Nat, k ≤ nb ∧ i = .int .i64 k ∧ wr.heap[w2.heap.size]? = some (.cells (rowW (abF G G 0 k) nb) 28 (0, 0)) ∧ Below w2.heap.size w2 wr)
    (fun i _ => nb - (intOf i).toNat)
  case atStart => exact ⟨0, Nat.zero_le _, rfl, by rw [← abF_zero]; exact heap_alloc_new _ _, (Below.refl _ _).alloc (Nat.le_refl _) _⟩
  case round =>
    obtain ⟨j, hj, rfl, h1, hbel⟩ := hrel
    have H1 : Hid (wr.heap[w2.heap.size]? = _) := h1
    clear h1
    by_cases hlt : j < nb
    · obtain ⟨b, off, hs, c0, c1, c2, c3, c4, c5⟩ := (HB.rowAt.below hbel (Nat.le_refl _)) j hlt
      subst hs
      obtain ⟨e0, e1, e2, e3, e4, e5⟩ := six_of_row H1.out hlt
      have hfz := fun j => frozen_of_row wr w2.heap.size j _ _ H1.out
      have hlt' : (j : Int) < (nb : Int) := by omega
      clear HA HB
      go_wp2
      go_roundw
      case rel =>
        refine ⟨j + 1, by omega, by go_num, ?_, ?_⟩
        · refine (put6_row (G j) H1.out hlt).trans ?_
          rw [abF_step G G 0 j _ (G j) (by rw [if_neg (by omega)]; rfl)]
        · exact put6_below _ _ hbel (Nat.le_refl _)
      case measure => simp [intOf]; omega
    · obtain rfl : j = nb := by omega
      obtain ⟨w3, hw3⟩ : ∃ x, x = wr := ⟨_, rfl⟩
      subst hw3
      have HA3 := HA.below hbel (Nat.le_refl _)
      have HB3 := HB.below hbel (Nat.le_refl _)
      have hBel3 : Below w.heap.size w w3 := hB.trans (hbel.mono hB.size)
      clear HA HB hB
      go_wp2_with fail
      refine (w7u sa' 0 F w3 (by omega) HA3).mono ?_
      rintro e w' ⟨sl, rfl, HL, rfl⟩
      go_wp2_with fail
      refine (w7u (some ⟨w2.heap.size, 0, none⟩) j (abF G G 0 j) w3 (by omega) (.inr ⟨_, rfl, H1.out⟩)).mono ?_
      rintro e w' ⟨sw, rfl, HW0, rfl⟩
      have HW := HW0.congr (G := fun i => G (i + 1)) (fun i hi => by
        show (if i + 1 < j then (if i + 1 < 0 then G (i + 1) else G (i + 1 - 0)) else noWt) = G (i + 1)
        rw [if_pos (by omega), if_neg (by omega)]; rfl)
      clear H1 hbel HA3 HW0 HL
      go_wp2_with fail
      refine (w7u sb' j G w3 (by omega) HB3).mono ?_
      rintro e w' ⟨sc, rfl, HC, rfl⟩
      clear HB3
      go_wp2_with fail
      refine (w8 sw sc (j - 1) _ _ _ w3 (by omega) HW HC).mono ?_
      rintro e w5 ⟨rfl, hB5⟩
      have hE : Below w.heap.size w w5 := hBel3.trans (hB5.mono hBel3.size)
      clear HW HC
      go_wp2
      go_ret
      exact ⟨rfl, hE⟩

theorem walk_long (sa sb : Option Addr) (na ca nb cb : Nat) (F G : Nat → Wt) (w : World) (h : 4096 < na ∨ 4096 < nb) (ha : RowAt w sa na F) (hb : RowAt w sb nb G) :
    Calls Try.prog 3 #[.slice sa na ca, .slice sb nb cb] w fun e w' => e = .returned (.bool true) ∧ Below w.heap.size w w' := by
  by_cases h1 : 4096 < na
  · go_enter Try.func3, Try.ntmps3
    go_wp2_with fail
    refine (w4 sa sb na ca nb cb F G w ha hb).mono ?_
    rintro e w' ⟨⟨q, rfl⟩, rfl⟩
    cases q
    all_goals
      go_wp2
      go_ret
      exact ⟨rfl, Below.refl _ _⟩
  · have h2 : 4096 < nb := by omega
    have hd1 : decide ((4096 : Int) < (na : Int)) = false := decide_eq_false (by omega)
    go_enter Try.func3, Try.ntmps3
    go_wp2_with fail
    refine (w4 sa sb na ca nb cb F G w ha hb).mono ?_
    rintro e w' ⟨⟨q, rfl⟩, rfl⟩
    cases q
    all_goals
      go_wp2
      go_ret
      exact ⟨rfl, Below.refl _ _⟩

/-- THE WALK, for whatever two slices. -/
theorem walk (sa sb : Option Addr) (na ca nb cb : Nat) (F G : Nat → Wt) (w : World) (ha : RowAt w sa na F) (hb : RowAt w sb nb G) (hsa : sa = none → na = 0 ∧ ca = 0) (hsb : sb = none → nb = 0 ∧ cb = 0) :
    Calls Try.prog 3 #[.slice sa na ca, .slice sb nb cb] w fun e w' => e = .returned (.bool true) ∧ Below w.heap.size w w' := by
  by_cases h : 4096 < na ∨ 4096 < nb
  · exact walk_long sa sb na ca nb cb F G w h ha hb
  · cases na with
    | zero => exact walk_zero sa sb ca nb cb F G w (by omega) ha hb hsa hsb
    | succ m => exact walk_more sa sb m ca nb cb F G w (by omega) (by omega) ha hb hsa hsb
end Go.Proofs.Qxb6616800a

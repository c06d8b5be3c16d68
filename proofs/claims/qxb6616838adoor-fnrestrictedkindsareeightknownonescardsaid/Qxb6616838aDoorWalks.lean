import Derived.Test.Qxb6616838aDoorProg
import Derived.WalkKit
import Derived.WalkLawsBesides
import Derived.WalkSpells
import Derived.Below
import Derived.Outline
import Derived.RegionTactic
import Derived.Deep.QuietTactic
import Derived.BigQuiet
namespace Go.Proofs.Qxb6616838aDoor
open Go.RowKit

def knownB (k : Nat) : Bool := decide (1 ≤ k) && decide (k ≤ 15)
def restB (k : Nat) : Bool := k == 2 || k == 5 || k == 8 || k == 9 || k == 10 || k == 11 || k == 12 || k == 13
def cnt (f : Nat → Bool) : Nat → Nat
  | 0 => 0
  | k + 1 => cnt f k + if f k then 1 else 0
theorem restB_le {k : Nat} (h : restB k = true) : knownB k = true := by
  simp [restB, knownB] at h ⊢; omega
theorem cnt_rest (k : Nat) (h : 16 ≤ k) : cnt restB k = 8 := by
  induction k with
  | zero => omega
  | succ k ih =>
    by_cases e : 16 ≤ k
    · have hf : restB k = false := by
        cases hr : restB k with
        | false => rfl
        | true => simp [restB] at hr; omega
      simp [cnt, ih e, hf]
    · obtain rfl : k = 15 := by omega
      decide
theorem cnt_known (k : Nat) (h : 16 ≤ k) : cnt knownB k = 15 := by
  induction k with
  | zero => omega
  | succ k ih =>
    by_cases e : 16 ≤ k
    · have hf : knownB k = false := by simp [knownB]; omega
      simp [cnt, ih e, hf]
    · obtain rfl : k = 15 := by omega
      decide
theorem cnt_le (f : Nat → Bool) (k : Nat) : cnt f k ≤ k := by
  induction k with
  | zero => exact Nat.le_refl _
  | succ k ih => simp only [cnt]; split <;> omega

/-- The table's cells. -/
def Table (w : World) : Prop := ∀ j, j < 15 → w.cell? ⟨0, j * 3 + 2, none⟩ = some (.bool (restB (j + 1)))

theorem w6_yes (x : Int) (h1 : 1 ≤ x) (h2 : x ≤ 15) (w : World) : Calls Tryd.prog 6 #[.int .u16 x] w fun e w' => e = .returned (.bool true) ∧ w = w' := by
  have hd : decide (x ≤ 15) = true := decide_eq_true h2
  go_enter Tryd.func6, Tryd.ntmps6
  go_wp2
  go_ret
  exact ⟨rfl, rfl⟩
theorem w6_zero (w : World) : Calls Tryd.prog 6 #[.int .u16 0] w fun e w' => e = .returned (.bool false) ∧ w = w' := by
  go_enter Tryd.func6, Tryd.ntmps6
  go_wp2
  go_ret
  exact ⟨rfl, rfl⟩
theorem w6_great (x : Int) (h1 : 15 < x) (h2 : x < 65536) (w : World) : Calls Tryd.prog 6 #[.int .u16 x] w fun e w' => e = .returned (.bool false) ∧ w = w' := by
  have hd : decide (x ≤ 15) = false := decide_eq_false (by omega)
  go_enter Tryd.func6, Tryd.ntmps6
  go_wp2
  go_ret
  exact ⟨rfl, rfl⟩
theorem w6_no (x : Int) (h0 : 0 ≤ x) (h1 : x < 1 ∨ 15 < x) (h2 : x < 65536) (w : World) : Calls Tryd.prog 6 #[.int .u16 x] w fun e w' => e = .returned (.bool false) ∧ w = w' := by
  rcases h1 with h1 | h1
  · obtain rfl : x = 0 := by omega
    exact w6_zero w
  · exact w6_great x h1 h2 w
theorem w5_yes (x : Int) (h1 : 1 ≤ x) (h2 : x ≤ 15) (w : World) : Calls Tryd.prog 5 #[.int .u16 x] w fun e w' => e = .returned (.bool true) ∧ w = w' := by
  go_enter Tryd.func5, Tryd.ntmps5
  go_wp2_with (go_at_call 6; refine (w6_yes x h1 h2 _).mono ?_; rintro e w' ⟨rfl, rfl⟩)
  go_ret
  exact ⟨rfl, rfl⟩
theorem w5_no (x : Int) (h0 : 0 ≤ x) (h1 : x < 1 ∨ 15 < x) (h2 : x < 65536) (w : World) : Calls Tryd.prog 5 #[.int .u16 x] w fun e w' => e = .returned (.bool false) ∧ w = w' := by
  have H : Hid (x < 1 ∨ 15 < x) := h1
  clear h1
  go_enter Tryd.func5, Tryd.ntmps5
  go_wp2_with (go_at_call 6; refine (w6_no x h0 H.out h2 _).mono ?_; rintro e w' ⟨rfl, rfl⟩)
  go_ret
  exact ⟨rfl, rfl⟩
theorem w4_no (x : Int) (h0 : 0 ≤ x) (h1 : x < 1 ∨ 15 < x) (h2 : x < 65536) (w : World) : Calls Tryd.prog 4 #[.int .u16 x] w fun e w' => e = .returned (.bool false) ∧ w = w' := by
  have H : Hid (x < 1 ∨ 15 < x) := h1
  clear h1
  go_enter Tryd.func4, Tryd.ntmps4
  go_wp2_with (go_at_call 6; refine (w6_no x h0 H.out h2 _).mono ?_; rintro e w' ⟨rfl, rfl⟩)
  go_ret
  exact ⟨rfl, rfl⟩
theorem w4_yes (j : Nat) (hj : j < 15) (w : World) (hT : w.cell? ⟨0, j * 3 + 2, none⟩ = some (.bool (restB (j + 1)))) : Calls Tryd.prog 4 #[.int .u16 ((j : Int) + 1)] w fun e w' => e = .returned (.bool (restB (j + 1))) ∧ w = w' := by
  have hj' : (j : Int) < 15 := by omega
  go_enter Tryd.func4, Tryd.ntmps4
  go_wp2_with (go_at_call 6; refine (w6_yes ((j : Int) + 1) (by omega) (by omega) _).mono ?_; rintro e w' ⟨rfl, rfl⟩)
  go_ret
  exact ⟨rfl, rfl⟩

theorem cnt_yes {f : Nat → Bool} {k : Nat} (h : f k = true) : cnt f (k + 1) = cnt f k + 1 := by simp [cnt, h]
theorem cnt_no {f : Nat → Bool} {k : Nat} (h : f k = false) : cnt f (k + 1) = cnt f k := by simp [cnt, h]

theorem wrap16 (x : Int) (h0 : 0 ≤ x) (h1 : x < 65536) : IntKind.u16.wrap x = x := by
  rw [IntKind.wrap_u16]; omega
theorem cv (x : Int) (h0 : 0 ≤ x) (h1 : x < 65536) (w : World) : (convert 3 23 (.int .i64 x)).run Tryd.prog w = .ok (.int .u16 x) w := by
  have h := wrap16 x h0 h1
  clear h0 h1
  go_simp

def lim : Nat := 65536
theorem lim_eq : lim = 65536 := rfl

set_option maxHeartbeats 1000000 in
set_option maxRecDepth 100000 in
theorem walk (w : World) (hT : Table w) : Calls Tryd.prog 3 #[] w fun e w' => e = .returned (.bool true) ∧ w = w' := by
  go_enter Tryd.func3, Tryd.ntmps3
  go_wp2
  go_loop [1, 2, 3] (fun r n i => ∃ k : Nat, k ≤ lim ∧ i = .int .i64 k ∧ r = .int .i64 (cnt restB k : Nat) ∧ n = .int .i64 (cnt knownB k : Nat)) (fun _ _ i => lim - (intOf i).toNat)
  case atStart => exact ⟨0, Nat.zero_le _, rfl, rfl, rfl⟩
  case round =>
    obtain ⟨k, hk, rfl, rfl, rfl⟩ := hrel
    have hle := lim_eq
    have b1 := cnt_le restB k
    have b2 := cnt_le knownB k
    have b3 : ((cnt restB k : Nat) : Int) ≤ 65536 := by omega
    have b4 : ((cnt knownB k : Nat) : Int) ≤ 65536 := by omega
    by_cases hlt : k < 65536
    · have hd : decide ((k : Int) < 65536) = true := decide_eq_true (by omega)
      have hcv := cv k (by omega) (by omega)
      by_cases hkn : 1 ≤ k ∧ k ≤ 15
      · obtain ⟨j, hj⟩ : ∃ j, k = j + 1 := ⟨k - 1, by omega⟩
        have hjl : j < 15 := by omega
        have hc := hT j hjl
        have HB : Hid (knownB k = true) := by show knownB k = true; simp [knownB]; omega
        have hk1 : (1 : Int) ≤ (k : Int) := by omega
        have hk2 : (k : Int) ≤ 15 := by omega
        have C4 : Hid (Calls Tryd.prog 4 #[.int .u16 (k : Int)] w fun e w' => e = .returned (.bool (restB k)) ∧ w = w') := by
          subst hj
          have := w4_yes j hjl w hc
          exact (by simpa using this : Calls Tryd.prog 4 #[.int .u16 ((j + 1 : Nat) : Int)] w _)
        have C5 : Hid (Calls Tryd.prog 5 #[.int .u16 (k : Int)] w fun e w' => e = .returned (.bool true) ∧ w = w') := w5_yes k (by omega) (by omega) w
        have HK : Hid (k < 65536 ∧ k ≤ lim ∧ lim = 65536) := ⟨hlt, hk, hle⟩
        have hkI : (k : Int) ≤ 70000 := by omega
        clear hT hc hj hjl hkn hlt hk hle b1 b2 hk1 hk2
        cases hr : restB k
        · rw [hr] at C4
          have HR : Hid (restB k = false) := hr
          clear hr
          go_wp2_with (first | (go_at_call 4; refine C4.out.mono ?_; rintro e w' ⟨rfl, rfl⟩) | (go_at_call 5; refine C5.out.mono ?_; rintro e w' ⟨rfl, rfl⟩))
          obtain ⟨k1, k2, k3⟩ := HK.out
          go_round
          case rel => exact ⟨k + 1, by omega, by go_num, by rw [cnt_no HR.out], by rw [cnt_yes HB.out]; go_num⟩
          case measure => simp [intOf]; omega
        · rw [hr] at C4
          have HR : Hid (restB k = true) := hr
          clear hr
          go_wp2_with (first | (go_at_call 4; refine C4.out.mono ?_; rintro e w' ⟨rfl, rfl⟩) | (go_at_call 5; refine C5.out.mono ?_; rintro e w' ⟨rfl, rfl⟩))
          obtain ⟨k1, k2, k3⟩ := HK.out
          go_round
          case rel => exact ⟨k + 1, by omega, by go_num, by rw [cnt_yes HR.out]; go_num, by rw [cnt_yes HB.out]; go_num⟩
          case measure => simp [intOf]; omega
      · have HB : Hid (knownB k = false) := by show knownB k = false; simp [knownB]; omega
        have HR : Hid (restB k = false) := by
          show restB k = false
          cases hr : restB k with
          | false => rfl
          | true => exact absurd (restB_le hr) (by rw [HB.out]; simp)
        have C4 : Hid (Calls Tryd.prog 4 #[.int .u16 (k : Int)] w fun e w' => e = .returned (.bool false) ∧ w = w') := w4_no k (by omega) (by omega) (by omega) w
        have C5 : Hid (Calls Tryd.prog 5 #[.int .u16 (k : Int)] w fun e w' => e = .returned (.bool false) ∧ w = w') := w5_no k (by omega) (by omega) (by omega) w
        have HK : Hid (k < 65536 ∧ k ≤ lim ∧ lim = 65536) := ⟨hlt, hk, hle⟩
        have hkI : (k : Int) ≤ 70000 := by omega
        clear hT hkn hlt hk hle b1 b2
        go_wp2_with (first | (go_at_call 4; refine C4.out.mono ?_; rintro e w' ⟨rfl, rfl⟩) | (go_at_call 5; refine C5.out.mono ?_; rintro e w' ⟨rfl, rfl⟩))
        obtain ⟨k1, k2, k3⟩ := HK.out
        go_round
        case rel => exact ⟨k + 1, by omega, by go_num, by rw [cnt_no HR.out], by rw [cnt_no HB.out]⟩
        case measure => simp [intOf]; omega
    · have hd : decide ((k : Int) < 65536) = false := decide_eq_false (by omega)
      have e1 := cnt_rest k (by omega)
      have e2 := cnt_known k (by omega)
      rw [e1, e2]
      clear hT hlt hk hle b1 b2 b3 b4 e1 e2
      go_wp2
      go_ret
      exact ⟨rfl, rfl⟩
end Go.Proofs.Qxb6616838aDoor

import Derived.Test.Qxb6616867aWalksH
namespace Go.Proofs.Qxb6616867a
open Go.RowKit

set_option maxHeartbeats 2000000 in
set_option maxRecDepth 100000 in
theorem stable_long (sa sb : Option Addr) (na ca nb cb : Nat) (T : Nat → ByteArray) (w : World) (h : 1024 < na ∨ 1024 < nb) (ha : StrAt w sa na T) :
    Calls Try.prog 3 #[.slice sa na ca, .slice sb nb cb] w fun e w' => e = .returned (.bool true) ∧ Below w.heap.size w w' := by
  have HA : Hid (StrAt w sa na T) := ha
  clear ha
  by_cases h1 : 1024 < na
  · clear h
    go_enter Try.func3, Try.ntmps3
    go_wp2_with fail
    refine (w5 sa sb na ca nb cb T w HA.out).mono ?_
    rintro e w' ⟨⟨q, rfl⟩, rfl⟩
    cases q
    all_goals
      go_wp2
      go_ret
      exact ⟨rfl, Below.refl _ _⟩
  · have h2 : 1024 < nb := by omega
    have hd1 : decide ((1024 : Int) < (na : Int)) = false := decide_eq_false (by omega)
    clear h
    go_enter Try.func3, Try.ntmps3
    go_wp2_with fail
    refine (w5 sa sb na ca nb cb T w HA.out).mono ?_
    rintro e w' ⟨⟨q, rfl⟩, rfl⟩
    cases q
    all_goals
      go_wp2
      go_ret
      exact ⟨rfl, Below.refl _ _⟩

set_option maxHeartbeats 2000000 in
set_option maxRecDepth 100000 in
theorem stable_ne (sa sb : Option Addr) (na ca nb cb : Nat) (T : Nat → ByteArray) (w : World) (h1 : na ≤ 1024) (h2 : nb ≤ 1024) (hne : na ≠ nb) (ha : StrAt w sa na T) :
    Calls Try.prog 3 #[.slice sa na ca, .slice sb nb cb] w fun e w' => e = .returned (.bool true) ∧ Below w.heap.size w w' := by
  have HA : Hid (StrAt w sa na T) := ha
  have hd1 : decide ((1024 : Int) < (na : Int)) = false := decide_eq_false (by omega)
  have hd2 : decide ((1024 : Int) < (nb : Int)) = false := decide_eq_false (by omega)
  have hd3 : ((na : Int) != (nb : Int)) = true := by rw [bne_iff_ne]; omega
  clear ha hne
  go_enter Try.func3, Try.ntmps3
  go_wp2_with fail
  refine (w5 sa sb na ca nb cb T w HA.out).mono ?_
  rintro e w' ⟨⟨q, rfl⟩, rfl⟩
  cases q
  · go_wp2
    go_ret
    exact ⟨rfl, Below.refl _ _⟩
  go_wp2_with fail
  go_loop [5, 34] (fun t i => ∃ (k : Nat) (q : Int), k ≤ na ∧ i = .int .i64 k ∧ t = .int .i64 q) (fun _ i => na - (intOf i).toNat)
  case atStart => exact ⟨0, _, Nat.zero_le _, rfl, rfl⟩
  case round =>
    obtain ⟨k, q, hk, rfl, rfl⟩ := hrel
    by_cases hlt : k < na
    · obtain ⟨b, off, hs, c0, _⟩ := HA.out k hlt
      subst hs
      have hlt' : (k : Int) < (na : Int) := by omega
      clear HA
      go_wp2
      · go_ret
        exact ⟨rfl, Below.refl _ _⟩
      · go_round
        case rel => exact ⟨k + 1, _, by omega, by go_num, rfl⟩
        case measure => simp [intOf]; omega
    · clear HA
      go_wp2
      go_ret
      exact ⟨rfl, Below.refl _ _⟩

theorem stable (sa sb : Option Addr) (na ca nb cb : Nat) (T : Nat → ByteArray) (P : Nat → Bool) (w : World) (ha : StrAt w sa na T) (hb : BoolAt w sb nb P) :
    Calls Try.prog 3 #[.slice sa na ca, .slice sb nb cb] w fun e w' => e = .returned (.bool true) ∧ Below w.heap.size w w' := by
  by_cases h : 1024 < na ∨ 1024 < nb
  · exact stable_long sa sb na ca nb cb T w h ha
  · by_cases e : na = nb
    · subst e
      exact stable_in sa sb na ca cb T P w (by omega) ha hb
    · exact stable_ne sa sb na ca nb cb T w (by omega) (by omega) e ha
end Go.Proofs.Qxb6616867a

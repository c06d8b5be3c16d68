import Derived.Test.Qxb6616867aWalksK
namespace Go.Proofs.Qxb6616867a
open Go.RowKit

set_option maxHeartbeats 2000000 in
set_option maxRecDepth 100000 in
theorem agree_long (sa sb : Option Addr) (na ca nb cb : Nat) (T : Nat → ByteArray) (pr : ByteArray) (w : World) (h : 1024 < na ∨ 1024 < nb ∨ 1048576 < pr.size) (ha : StrAt w sa na T) :
    Calls Try.prog 4 #[.slice sa na ca, .slice sb nb cb, .string pr] w fun e w' => e = .returned (.bool true) ∧ Below w.heap.size w w' := by
  have HA : Hid (StrAt w sa na T) := ha
  clear ha
  by_cases h1 : 1024 < na
  · clear h
    go_enter Try.func4, Try.ntmps4
    go_wp2_with fail
    refine (w13 sa sb na ca nb cb T pr w HA.out).mono ?_
    rintro e w' ⟨⟨q, rfl⟩, rfl⟩
    cases q
    all_goals
      go_wp2
      go_ret
      exact ⟨rfl, Below.refl _ _⟩
  · have hd1 : decide ((1024 : Int) < (na : Int)) = false := decide_eq_false (by omega)
    by_cases h2 : 1024 < nb
    · clear h
      go_enter Try.func4, Try.ntmps4
      go_wp2_with fail
      refine (w13 sa sb na ca nb cb T pr w HA.out).mono ?_
      rintro e w' ⟨⟨q, rfl⟩, rfl⟩
      cases q
      all_goals
        go_wp2
        go_ret
        exact ⟨rfl, Below.refl _ _⟩
    · have hd2 : decide ((1024 : Int) < (nb : Int)) = false := decide_eq_false (by omega)
      have h3 : 1048576 < pr.size := by omega
      clear h
      go_enter Try.func4, Try.ntmps4
      go_wp2_with fail
      refine (w13 sa sb na ca nb cb T pr w HA.out).mono ?_
      rintro e w' ⟨⟨q, rfl⟩, rfl⟩
      cases q
      all_goals
        go_wp2
        go_ret
        exact ⟨rfl, Below.refl _ _⟩

set_option maxHeartbeats 2000000 in
set_option maxRecDepth 100000 in
theorem agree_ne (sa sb : Option Addr) (na ca nb cb : Nat) (T : Nat → ByteArray) (pr : ByteArray) (w : World) (h1 : na ≤ 1024) (h2 : nb ≤ 1024) (h3 : pr.size ≤ 1048576) (hne : na ≠ nb) (ha : StrAt w sa na T) :
    Calls Try.prog 4 #[.slice sa na ca, .slice sb nb cb, .string pr] w fun e w' => e = .returned (.bool true) ∧ Below w.heap.size w w' := by
  have HA : Hid (StrAt w sa na T) := ha
  have hd1 : decide ((1024 : Int) < (na : Int)) = false := decide_eq_false (by omega)
  have hd2 : decide ((1024 : Int) < (nb : Int)) = false := decide_eq_false (by omega)
  have hd4 : decide ((1048576 : Int) < (pr.size : Int)) = false := decide_eq_false (by omega)
  have hd3 : ((na : Int) != (nb : Int)) = true := by rw [bne_iff_ne]; omega
  clear ha hne
  go_enter Try.func4, Try.ntmps4
  go_wp2_with fail
  refine (w13 sa sb na ca nb cb T pr w HA.out).mono ?_
  rintro e w' ⟨⟨q, rfl⟩, rfl⟩
  cases q
  · go_wp2
    go_ret
    exact ⟨rfl, Below.refl _ _⟩
  go_wp2_with fail
  go_loop [7, 50] (fun t i => ∃ (k : Nat) (q : Int), k ≤ na ∧ i = .int .i64 k ∧ t = .int .i64 q) (fun _ i => na - (intOf i).toNat)
  case atStart => exact ⟨0, _, Nat.zero_le _, rfl, rfl⟩
  case round =>
    obtain ⟨k, q, hk, rfl, rfl⟩ := hrel
    by_cases hlt : k < na
    · obtain ⟨b, off, hs, c0, _⟩ := HA.out k hlt
      subst hs
      have hlt' : (k : Int) < (na : Int) := by omega
      clear HA
      go_wp2
      · go_ret
        exact ⟨rfl, Below.refl _ _⟩
      · go_round
        case rel => exact ⟨k + 1, _, by omega, by go_num, rfl⟩
        case measure => simp [intOf]; omega
    · clear HA
      by_cases hq : 1048576 < q
      · go_wp2
        go_ret
        exact ⟨rfl, Below.refl _ _⟩
      · have hdq : decide ((1048576 : Int) < q) = false := decide_eq_false hq
        clear hq
        go_wp2
        go_ret
        exact ⟨rfl, Below.refl _ _⟩

theorem agree (sa sb : Option Addr) (na ca nb cb : Nat) (T : Nat → ByteArray) (P : Nat → Bool) (pr : ByteArray) (w : World) (ha : StrAt w sa na T) (hb : BoolAt w sb nb P) :
    Calls Try.prog 4 #[.slice sa na ca, .slice sb nb cb, .string pr] w fun e w' => e = .returned (.bool true) ∧ Below w.heap.size w w' := by
  by_cases h : 1024 < na ∨ 1024 < nb ∨ 1048576 < pr.size
  · exact agree_long sa sb na ca nb cb T pr w h ha
  · by_cases e : na = nb
    · subst e
      exact agree_in sa sb na ca cb T P pr w (by omega) (by omega) ha hb
    · exact agree_ne sa sb na ca nb cb T pr w (by omega) (by omega) (by omega) e ha
end Go.Proofs.Qxb6616867a

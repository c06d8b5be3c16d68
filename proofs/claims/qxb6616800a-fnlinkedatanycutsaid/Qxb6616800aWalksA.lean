import Derived.Test.Qxb6616800aProg
import Derived.WalkKit
import Derived.WalkLawsBesides
import Derived.WalkSpells
import Derived.Below
import Derived.Outline
import Derived.RegionTactic
import Derived.Deep.QuietTactic
import Derived.BigQuiet
import Derived.WideLaws
namespace Go.Proofs.Qxb6616800a
open Go.RowKit

structure Wt where
  p : ByteArray
  b : ByteArray
  h : ByteArray
  d : Bool
  r : Bool
  l : Bool

def Six (w : World) (b o : Nat) (x : Wt) : Prop :=
  w.cell? ⟨b, o, none⟩ = some (.string x.p) ∧ w.cell? ⟨b, o + 1, none⟩ = some (.string x.b) ∧ w.cell? ⟨b, o + 2, none⟩ = some (.string x.h) ∧
  w.cell? ⟨b, o + 3, none⟩ = some (.bool x.d) ∧ w.cell? ⟨b, o + 4, none⟩ = some (.bool x.r) ∧ w.cell? ⟨b, o + 5, none⟩ = some (.bool x.l)

/-- What a walk asks of a slice of six-celled structs: an element that is there lies in memory. -/
def RowAt (w : World) (s : Option Addr) (n : Nat) (F : Nat → Wt) : Prop :=
  ∀ k, k < n → ∃ b off, s = some ⟨b, off, none⟩ ∧ Six w b (off + k * 6) (F k)

def roomV (r : Int) (n : Nat) : Int := if r < 0 ∨ r < n then -1 else r - n
theorem roomV_le (r : Int) (n : Nat) (h : r ≤ 1048576) : -1 ≤ roomV r n ∧ roomV r n ≤ 1048576 := by
  unfold roomV; split <;> omega

theorem w9 (r : Int) (s : ByteArray) (w : World) (h0 : -16 ≤ r) (h1 : r ≤ 1048576) :
    Calls Try.prog 9 #[.int .i64 r, .string s] w fun e w' => e = .returned (.int .i64 (roomV r s.size)) ∧ w = w' := by
  by_cases hr : r < 0
  · go_enter Try.func9, Try.ntmps9
    go_wp2
    go_ret
    exact ⟨by simp [roomV, hr], rfl⟩
  · by_cases h2 : r < s.size
    · have hd : decide (r < 0) = false := decide_eq_false hr
      go_enter Try.func9, Try.ntmps9
      go_wp2
      go_ret
      exact ⟨by simp [roomV, h2], rfl⟩
    · have hd : decide (r < 0) = false := decide_eq_false hr
      go_enter Try.func9, Try.ntmps9
      go_wp2
      go_ret
      exact ⟨by rw [roomV, if_neg (by omega)]; rfl, rfl⟩

set_option maxHeartbeats 1000000 in
set_option maxRecDepth 100000 in
theorem w5 (r : Int) (s : Option Addr) (n c : Nat) (F : Nat → Wt) (w : World) (h0 : -1 ≤ r) (h1 : r ≤ 1048576) (hn : n ≤ 4096) (ha : RowAt w s n F) :
    Calls Try.prog 5 #[.int .i64 r, .slice s n c] w fun e w' => (∃ q : Int, e = .returned (.int .i64 q) ∧ -1 ≤ q ∧ q ≤ 1048576) ∧ w = w' := by
  go_enter Try.func5, Try.ntmps5
  go_wp2
  go_loop [0, 5] (fun t i => ∃ (k : Nat) (q : Int), k ≤ n ∧ i = .int .i64 k ∧ t = .int .i64 q ∧ -1 ≤ q ∧ q ≤ 1048576) (fun _ i => n - (intOf i).toNat)
  case atStart => exact ⟨0, r, Nat.zero_le _, rfl, rfl, h0, h1⟩
  case round =>
    obtain ⟨k, q, hk, rfl, rfl, hq0, hq1⟩ := hrel
    by_cases hlt : k < n
    · obtain ⟨b, off, hs, c0, c1, c2, c3, c4, c5⟩ := ha k hlt
      subst hs
      have hlt' : (k : Int) < (n : Int) := by omega
      clear ha
      obtain ⟨x1, y1⟩ := roomV_le (q - 8) (F k).p.size (by omega)
      obtain ⟨x2, y2⟩ := roomV_le (roomV (q - 8) (F k).p.size) (F k).b.size (by omega)
      obtain ⟨x3, y3⟩ := roomV_le (roomV (roomV (q - 8) (F k).p.size) (F k).b.size) (F k).h.size (by omega)
      go_wp2_with (go_at_call 9; refine (w9 _ _ _ (by omega) (by omega)).mono ?_; rintro e w' ⟨rfl, rfl⟩)
      · go_ret
        exact ⟨⟨-1, rfl, by omega, by omega⟩, rfl⟩
      · go_round
        case rel => exact ⟨k + 1, _, by omega, by go_num, rfl, x3, y3⟩
        case measure => simp [intOf]; omega
    · go_wp2
      go_ret
      exact ⟨⟨q, rfl, hq0, hq1⟩, rfl⟩

def SomeBool (e : Ending) : Prop := ∃ q : Bool, e = .returned (.bool q)
theorem someBool (q : Bool) : SomeBool (.returned (.bool q)) := ⟨q, rfl⟩

set_option maxHeartbeats 4000000 in
set_option maxRecDepth 100000 in
theorem w4 (sa sb : Option Addr) (na ca nb cb : Nat) (F G : Nat → Wt) (w : World) (ha : RowAt w sa na F) (hb : RowAt w sb nb G) :
    Calls Try.prog 4 #[.slice sa na ca, .slice sb nb cb] w fun e w' => SomeBool e ∧ w = w' := by
  by_cases hna : na ≤ 1048576
  · go_enter Try.func4, Try.ntmps4
    go_wp2
    go_loop [5, 6] (fun t i => ∃ (k : Nat) (q : Int), k ≤ na ∧ i = .int .i64 k ∧ t = .int .i64 q ∧ 0 ≤ q ∧ q ≤ 1048576) (fun _ i => na - (intOf i).toNat)
    case atStart => exact ⟨0, na, Nat.zero_le _, rfl, rfl, by omega, by omega⟩
    case round =>
      obtain ⟨k, q, hk, rfl, rfl, hq0, hq1⟩ := hrel
      by_cases hlt : k < na
      · obtain ⟨b, off, hs, c0, c1, c2, c3, c4, c5⟩ := ha k hlt
        subst hs
        have hlt' : (k : Int) < (na : Int) := by omega
        clear ha hb
        go_wp2
        iterate 6 (go_ret; exact ⟨someBool false, rfl⟩)
        go_round
        case rel => exact ⟨k + 1, _, by omega, by go_num, rfl, by omega, by omega⟩
        case measure => simp [intOf]; omega
      · clear ha
        by_cases hnb : nb ≤ 1048576
        · by_cases hq2 : q + nb ≤ 1048576
          · go_wp2
            go_loop [5, 7] (fun t i => ∃ (k : Nat) (q : Int), k ≤ nb ∧ i = .int .i64 k ∧ t = .int .i64 q ∧ 0 ≤ q ∧ q ≤ 1048576) (fun _ i => nb - (intOf i).toNat)
            case atStart => exact ⟨0, q + nb, Nat.zero_le _, rfl, rfl, by omega, by omega⟩
            case round =>
              obtain ⟨j, t, hj, rfl, rfl, ht0, ht1⟩ := hrel
              by_cases hlt : j < nb
              · obtain ⟨b, off, hs, c0, c1, c2, c3, c4, c5⟩ := hb j hlt
                subst hs
                have hlt' : (j : Int) < (nb : Int) := by omega
                clear hb
                go_wp2
                iterate 6 (go_ret; exact ⟨someBool false, rfl⟩)
                go_round
                case rel => exact ⟨j + 1, _, by omega, by go_num, rfl, by omega, by omega⟩
                case measure => simp [intOf]; omega
              · go_wp2
                go_ret
                exact ⟨someBool true, rfl⟩
          · go_wp2
            go_ret
            exact ⟨someBool false, rfl⟩
        · go_wp2
          go_ret
          exact ⟨someBool false, rfl⟩
  · go_enter Try.func4, Try.ntmps4
    go_wp2
    go_ret
    exact ⟨someBool false, rfl⟩
end Go.Proofs.Qxb6616800a

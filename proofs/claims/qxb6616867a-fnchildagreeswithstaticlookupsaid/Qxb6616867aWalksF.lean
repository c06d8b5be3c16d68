import Derived.Test.Qxb6616867aWalksE
namespace Go.Proofs.Qxb6616867a
open Go.RowKit

/-- What a walk asks of a slice of strings: an element that is there lies in memory, and is no longer than a string can be. -/
def StrAt (w : World) (s : Option Addr) (n : Nat) (T : Nat → ByteArray) : Prop :=
  ∀ k, k < n → ∃ b off, s = some ⟨b, off, none⟩ ∧ w.cell? ⟨b, off + k, none⟩ = some (.string (T k)) ∧ (T k).size ≤ maxLen
def BoolAt (w : World) (s : Option Addr) (n : Nat) (P : Nat → Bool) : Prop :=
  ∀ k, k < n → ∃ b off, s = some ⟨b, off, none⟩ ∧ w.cell? ⟨b, off + k, none⟩ = some (.bool (P k))
theorem StrAt.below {w w' : World} {s : Option Addr} {n X : Nat} {T : Nat → ByteArray} (h : StrAt w s n T) (hb : Below X w w') (hX : w.heap.size ≤ X) : StrAt w' s n T := by
  intro k hk
  obtain ⟨b, off, hs, hc, hz⟩ := h k hk
  exact ⟨b, off, hs, (hb.cell (p := ⟨b, off + k, none⟩) (Nat.lt_of_lt_of_le (World.block_lt_of_cell? w _ hc) hX)).trans hc, hz⟩
theorem BoolAt.below {w w' : World} {s : Option Addr} {n X : Nat} {P : Nat → Bool} (h : BoolAt w s n P) (hb : Below X w w') (hX : w.heap.size ≤ X) : BoolAt w' s n P := by
  intro k hk
  obtain ⟨b, off, hs, hc⟩ := h k hk
  exact ⟨b, off, hs, (hb.cell (p := ⟨b, off + k, none⟩) (Nat.lt_of_lt_of_le (World.block_lt_of_cell? w _ hc) hX)).trans hc⟩

def SomeBool (e : Ending) : Prop := ∃ q : Bool, e = .returned (.bool q)
theorem someBool (q : Bool) : SomeBool (.returned (.bool q)) := ⟨q, rfl⟩

set_option maxHeartbeats 2000000 in
set_option maxRecDepth 100000 in
theorem w5 (sa sb : Option Addr) (na ca nb cb : Nat) (T : Nat → ByteArray) (w : World) (ha : StrAt w sa na T) :
    Calls Try.prog 5 #[.slice sa na ca, .slice sb nb cb] w fun e w' => SomeBool e ∧ w = w' := by
  by_cases hna : na ≤ 1048576
  · go_enter Try.func5, Try.ntmps5
    go_wp2
    go_loop [5, 6] (fun t i => ∃ (k : Nat) (q : Int), k ≤ na ∧ i = .int .i64 k ∧ t = .int .i64 q ∧ 0 ≤ q ∧ q ≤ 1048576) (fun _ i => na - (intOf i).toNat)
    case atStart => exact ⟨0, na, Nat.zero_le _, rfl, rfl, by omega, by omega⟩
    case round =>
      obtain ⟨k, q, hk, rfl, rfl, hq0, hq1⟩ := hrel
      by_cases hlt : k < na
      · obtain ⟨b, off, hs, c0, _⟩ := ha k hlt
        subst hs
        have hlt' : (k : Int) < (na : Int) := by omega
        clear ha
        go_wp2
        iterate 2 (go_ret; exact ⟨someBool false, rfl⟩)
        go_round
        case rel => exact ⟨k + 1, _, by omega, by go_num, rfl, by omega, by omega⟩
        case measure => simp [intOf]; omega
      · clear ha
        by_cases hnb : nb ≤ 1048576
        · by_cases hq2 : q + nb ≤ 1048576
          · go_wp2
            go_ret
            exact ⟨someBool true, rfl⟩
          · go_wp2
            go_ret
            exact ⟨someBool false, rfl⟩
        · go_wp2
          go_ret
          exact ⟨someBool false, rfl⟩
  · go_enter Try.func5, Try.ntmps5
    go_wp2
    go_ret
    exact ⟨someBool false, rfl⟩

set_option maxHeartbeats 2000000 in
set_option maxRecDepth 100000 in
theorem w13 (sa sb : Option Addr) (na ca nb cb : Nat) (T : Nat → ByteArray) (pr : ByteArray) (w : World) (ha : StrAt w sa na T) :
    Calls Try.prog 13 #[.slice sa na ca, .slice sb nb cb, .string pr] w fun e w' => SomeBool e ∧ w = w' := by
  by_cases hna : na ≤ 1048576
  · go_enter Try.func13, Try.ntmps13
    go_wp2
    go_loop [7, 8] (fun t i => ∃ (k : Nat) (q : Int), k ≤ na ∧ i = .int .i64 k ∧ t = .int .i64 q ∧ 0 ≤ q ∧ q ≤ 1048576) (fun _ i => na - (intOf i).toNat)
    case atStart => exact ⟨0, na, Nat.zero_le _, rfl, rfl, by omega, by omega⟩
    case round =>
      obtain ⟨k, q, hk, rfl, rfl, hq0, hq1⟩ := hrel
      by_cases hlt : k < na
      · obtain ⟨b, off, hs, c0, _⟩ := ha k hlt
        subst hs
        have hlt' : (k : Int) < (na : Int) := by omega
        clear ha
        go_wp2
        iterate 2 (go_ret; exact ⟨someBool false, rfl⟩)
        go_round
        case rel => exact ⟨k + 1, _, by omega, by go_num, rfl, by omega, by omega⟩
        case measure => simp [intOf]; omega
      · clear ha
        by_cases hnb : nb ≤ 1048576
        · by_cases hq2 : q + nb ≤ 1048576
          · by_cases hp : pr.size ≤ 1048576
            · by_cases hq3 : q + nb + pr.size ≤ 1048576
              · go_wp2
                go_ret
                exact ⟨someBool true, rfl⟩
              · go_wp2
                go_ret
                exact ⟨someBool false, rfl⟩
            · go_wp2
              go_ret
              exact ⟨someBool false, rfl⟩
          · go_wp2
            go_ret
            exact ⟨someBool false, rfl⟩
        · go_wp2
          go_ret
          exact ⟨someBool false, rfl⟩
  · go_enter Try.func13, Try.ntmps13
    go_wp2
    go_ret
    exact ⟨someBool false, rfl⟩

/-- The slice 'got', behind k rounds. -/
def gotA (g : Nat → Nat) (n k : Nat) : Array Value := ((List.range n).map fun i => if i < k then Value.pointer (some ⟨g i, 0, none⟩) else .pointer none).toArray
theorem gotA_get (g : Nat → Nat) (n k i : Nat) (hi : i < n) : (gotA g n k)[i]? = some (if i < k then Value.pointer (some ⟨g i, 0, none⟩) else .pointer none) := by simp [gotA, hi]
theorem gotA_size (g : Nat → Nat) (n k : Nat) : (gotA g n k).size = n := by simp [gotA]
theorem gotA_set (g : Nat → Nat) (n k c : Nat) : (gotA g n k).setIfInBounds k (.pointer (some ⟨c, 0, none⟩)) = gotA (fun i => if i = k then c else g i) n (k + 1) := by
  apply Array.ext_getElem?
  intro i
  by_cases hi : i < n
  · rw [gotA_get _ _ _ _ hi, Array.getElem?_setIfInBounds]
    by_cases hk : k = i
    · subst hk; simp [gotA_size, hi]
    · rw [if_neg hk, gotA_get _ _ _ _ hi]
      have hik : i ≠ k := fun e => hk e.symm
      simp only [if_neg hik]
      by_cases h1 : i < k
      · rw [if_pos h1, if_pos (by omega)]
      · rw [if_neg h1, if_neg (by omega)]
  · rw [Array.getElem?_eq_none (by simp [gotA_size]; omega), Array.getElem?_eq_none (by simp [gotA_size]; omega)]
theorem info25 : (Try.prog.info? 25).map (fun i => (i.zero, i.size, i.bytes)) = some (some (.pointer none), 1, 8) := by kernel_rfl
theorem mk27 (g : Nat → Nat) (n : Nat) (hn : n ≤ 1024) (w : World) : (Instr.makeSlice 27 (.int .i64 (n : Int)) (.int .i64 (n : Int))).run Try.prog w = .ok (.slice (some ⟨w.heap.size, 0, none⟩) n n) (w.alloc (.cells (gotA g n 0) 25)) := by
  obtain ⟨i0, hi, hz0, hz1, hz2⟩ := info_parts info25
  have h := run_make (P := Try.prog) (w := w) 27 25 i0 _ Try.underlying27 hi hz0 .i64 .i64 (n : Int) (n : Int) (by omega) (by omega) (by rw [hz2]; omega) (by omega)
  rw [Int.toNat_natCast, hz1] at h
  have e : madeCells (Value.pointer none).cells (n * 1) = gotA g n 0 := by
    apply Array.ext_getElem?
    intro i
    by_cases hi : i < n
    · rw [gotA_get _ _ _ _ hi]; simp [madeCells, Value.cells, hi, Nat.mod_one]
    · rw [Array.getElem?_eq_none (by simp [madeCells]; omega), Array.getElem?_eq_none (by simp [gotA_size]; omega)]
  rw [e] at h
  exact h

theorem inv_start (w : World) : Inv (w.alloc leafC) w.heap.size w.heap.size none [] :=
  ⟨⟨.slice none 0 0, .map none, heap_alloc_new _ _, .inl ⟨by simp, rfl, World.ownsRow_nil _ _ _ _⟩⟩, Nat.le_refl _, (fun c hc => by cases hc), (fun x hx => by cases hx), by simp, by simp, (fun c hc => by cases hc), (fun x hx => by cases hx)⟩
end Go.Proofs.Qxb6616867a

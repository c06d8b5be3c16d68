import Derived.Test.Qxb6616800aDoorProg
import Derived.WalkKit
import Derived.WalkLawsBesides
import Derived.WalkSpells
import Derived.Below
import Derived.Outline
import Derived.RegionTactic
import Derived.Deep.QuietTactic
import Derived.BigQuiet
import Derived.WideLaws
import Derived.Laws.IdiomStrings
namespace Go.Proofs.Qxb6616800aDoor
open Go.RowKit

/-- What a walk asks of a slice of strings: an element that is there lies in memory. -/
def StrAt (w : World) (s : Option Addr) (n : Nat) (F : Nat → ByteArray) : Prop :=
  ∀ k, k < n → ∃ b off, s = some ⟨b, off, none⟩ ∧ w.cell? ⟨b, off + k, none⟩ = some (.string (F k))

def SomeBool (e : Ending) : Prop := ∃ q : Bool, e = .returned (.bool q)
theorem someBool (q : Bool) : SomeBool (.returned (.bool q)) := ⟨q, rfl⟩

def roomV (r : Int) (n : Nat) : Int := if r < 0 ∨ r < n then -1 else r - n
theorem roomV_le (r : Int) (n : Nat) (h : r ≤ 1048576) : -1 ≤ roomV r n ∧ roomV r n ≤ 1048576 := by
  unfold roomV; split <;> omega

theorem w6 (r : Int) (s : ByteArray) (w : World) (h0 : -20 ≤ r) (h1 : r ≤ 1048576) :
    Calls Tryd.prog 6 #[.int .i64 r, .string s] w fun e w' => e = .returned (.int .i64 (roomV r s.size)) ∧ w = w' := by
  by_cases hr : r < 0
  · go_enter Tryd.func6, Tryd.ntmps6
    go_wp2
    go_ret
    exact ⟨by simp [roomV, hr], rfl⟩
  · by_cases h2 : r < s.size
    · have hd : decide (r < 0) = false := decide_eq_false hr
      go_enter Tryd.func6, Tryd.ntmps6
      go_wp2
      go_ret
      exact ⟨by simp [roomV, h2], rfl⟩
    · have hd : decide (r < 0) = false := decide_eq_false hr
      go_enter Tryd.func6, Tryd.ntmps6
      go_wp2
      go_ret
      exact ⟨by rw [roomV, if_neg (by omega)]; rfl, rfl⟩

set_option maxHeartbeats 1000000 in
set_option maxRecDepth 100000 in
theorem w5 (r : Int) (s : Option Addr) (n c : Nat) (F : Nat → ByteArray) (w : World) (h0 : -1 ≤ r) (h1 : r ≤ 1048576) (hn : n ≤ 4096) (ha : StrAt w s n F) :
    Calls Tryd.prog 5 #[.int .i64 r, .slice s n c] w fun e w' => (∃ q : Int, e = .returned (.int .i64 q) ∧ -1 ≤ q ∧ q ≤ 1048576) ∧ w = w' := by
  go_enter Tryd.func5, Tryd.ntmps5
  go_wp2
  go_loop [0, 5] (fun t i => ∃ (k : Nat) (q : Int), k ≤ n ∧ i = .int .i64 k ∧ t = .int .i64 q ∧ -1 ≤ q ∧ q ≤ 1048576) (fun _ i => n - (intOf i).toNat)
  case atStart => exact ⟨0, r, Nat.zero_le _, rfl, rfl, h0, h1⟩
  case round =>
    obtain ⟨k, q, hk, rfl, rfl, hq0, hq1⟩ := hrel
    by_cases hlt : k < n
    · obtain ⟨b, off, hs, c0⟩ := ha k hlt
      subst hs
      have hlt' : (k : Int) < (n : Int) := by omega
      clear ha
      obtain ⟨x1, y1⟩ := roomV_le (q - 16) (F k).size (by omega)
      go_wp2_with (go_at_call 6; refine (w6 _ _ _ (by omega) (by omega)).mono ?_; rintro e w' ⟨rfl, rfl⟩)
      · go_ret
        exact ⟨⟨-1, rfl, by omega, by omega⟩, rfl⟩
      · go_round
        case rel => exact ⟨k + 1, _, by omega, by go_num, rfl, x1, y1⟩
        case measure => simp [intOf]; omega
    · go_wp2
      go_ret
      exact ⟨⟨q, rfl, hq0, hq1⟩, rfl⟩

set_option maxHeartbeats 4000000 in
set_option maxRecDepth 100000 in
theorem w4 (so se : ByteArray) (st : Int) (sa : Option Addr) (n c : Nat) (F : Nat → ByteArray) (w : World) (ha : StrAt w sa n F) :
    Calls Tryd.prog 4 #[.string so, .string se, .int .i64 st, .slice sa n c] w fun e w' => SomeBool e ∧ w = w' := by
  by_cases h1 : so.size ≤ 1048576
  · by_cases h2 : se.size ≤ 1048576
    · by_cases h3 : so.size + se.size ≤ 1048576
      · by_cases h4 : n ≤ 1048576
        · by_cases h5 : so.size + se.size + n ≤ 1048576
          · go_enter Tryd.func4, Tryd.ntmps4
            go_wp2
            go_loop [9, 10] (fun t i => ∃ (k : Nat) (q : Int), k ≤ n ∧ i = .int .i64 k ∧ t = .int .i64 q ∧ 0 ≤ q ∧ q ≤ 1048576) (fun _ i => n - (intOf i).toNat)
            case atStart => exact ⟨0, _, Nat.zero_le _, rfl, rfl, by omega, by omega⟩
            case round =>
              obtain ⟨k, q, hk, rfl, rfl, hq0, hq1⟩ := hrel
              by_cases hlt : k < n
              · obtain ⟨b, off, hs, c0⟩ := ha k hlt
                subst hs
                have hlt' : (k : Int) < (n : Int) := by omega
                clear ha
                go_wp2
                iterate 2 (go_ret; exact ⟨someBool false, rfl⟩)
                go_round
                case rel => exact ⟨k + 1, _, by omega, by go_num, rfl, by omega, by omega⟩
                case measure => simp [intOf]; omega
              · go_wp2
                go_ret
                exact ⟨someBool true, rfl⟩
          · go_enter Tryd.func4, Tryd.ntmps4
            go_wp2
            go_ret
            exact ⟨someBool false, rfl⟩
        · go_enter Tryd.func4, Tryd.ntmps4
          go_wp2
          go_ret
          exact ⟨someBool false, rfl⟩
      · go_enter Tryd.func4, Tryd.ntmps4
        go_wp2
        go_ret
        exact ⟨someBool false, rfl⟩
    · go_enter Tryd.func4, Tryd.ntmps4
      go_wp2
      go_ret
      exact ⟨someBool false, rfl⟩
  · go_enter Tryd.func4, Tryd.ntmps4
    go_wp2
    go_ret
    exact ⟨someBool false, rfl⟩

/-! zzCloneStrings: what it hands back is looked into by nobody: only that it returns a slice, in new memory. -/
theorem nil22 (a : Addr) (n c : Nat) (w : World) : (binOp .eql 22 (.slice (some a) n c) (.slice none 0 0)).run Tryd.prog w = .ok (.bool false) w := by kernel_rfl
theorem nil22n (w : World) : (binOp .eql 22 (.slice none 0 0) (.slice none 0 0)).run Tryd.prog w = .ok (.bool true) w := by kernel_rfl
theorem info9 : (Tryd.prog.info? 9).map (fun i => (i.zero, i.size, i.bytes)) = some (some (.string ⟨#[]⟩), 1, 16) := by kernel_rfl
def rowS (F : Nat → ByteArray) (n : Nat) : Array Value := ((List.range n).map fun i => Value.string (F i)).toArray
theorem rowS_size (F : Nat → ByteArray) (n : Nat) : (rowS F n).size = n := by simp [rowS]
theorem rowS_get (F : Nat → ByteArray) (n k : Nat) (hk : k < n) : (rowS F n)[k]? = some (.string (F k)) := by simp [rowS, hk]
theorem rowS_ext {cs : Array Value} {F : Nat → ByteArray} {n : Nat} (hs : cs.size = n) (h : ∀ k, k < n → cs[k]? = some (.string (F k))) : cs = rowS F n := by
  apply Array.ext_getElem?
  intro i
  by_cases hi : i < n
  · rw [h i hi, rowS_get F n i hi]
  · rw [Array.getElem?_eq_none (by omega), Array.getElem?_eq_none (by rw [rowS_size]; omega)]
theorem rowS_set (F : Nat → ByteArray) (n k : Nat) (x : ByteArray) : (rowS F n).setIfInBounds k (.string x) = rowS (fun i => if i = k then x else F i) n := by
  apply rowS_ext (by simp [rowS_size])
  intro i hi
  rw [Array.getElem?_setIfInBounds]
  by_cases h : k = i
  · subst h; simp [rowS_size, hi]
  · rw [if_neg h, rowS_get F n i hi, if_neg (fun e => h e.symm)]
theorem mk22 (n : Nat) (hn : n ≤ 16384) (w : World) : (Instr.makeSlice 22 (.int .i64 (n : Int)) (.int .i64 (n : Int))).run Tryd.prog w = .ok (.slice (some ⟨w.heap.size, 0, none⟩) n n) (w.alloc (.cells (rowS (fun _ => ⟨#[]⟩) n) 9)) := by
  obtain ⟨i0, hi, hz0, hz1, hz2⟩ := info_parts info9
  have h := run_make (P := Tryd.prog) (w := w) 22 9 i0 _ Tryd.underlying22 hi hz0 .i64 .i64 (n : Int) (n : Int) (by omega) (by omega) (by rw [hz2]; omega) (by omega)
  rw [Int.toNat_natCast, hz1] at h
  have e : madeCells (Value.string ⟨#[]⟩).cells (n * 1) = rowS (fun _ => ⟨#[]⟩) n := by
    apply rowS_ext (by simp [size_madeCells])
    intro k hk
    simp [madeCells, Value.cells, hk, Nat.mod_one]
  rw [e] at h
  exact h

set_option maxHeartbeats 1000000 in
set_option maxRecDepth 100000 in
theorem w7 (sa : Option Addr) (n c : Nat) (F : Nat → ByteArray) (w : World) (hn : n ≤ 4096) (ha : StrAt w sa n F) (hs : sa = none → n = 0 ∧ c = 0) :
    Calls Tryd.prog 7 #[.slice sa n c] w fun e w' => (∃ s' n' c', e = .returned (.slice s' n' c')) ∧ Below w.heap.size w w' := by
  cases sa with
  | none =>
    obtain ⟨rfl, rfl⟩ := hs rfl
    have hnl := nil22n
    go_enter Tryd.func7, Tryd.ntmps7
    go_wp2
    go_ret
    exact ⟨⟨_, _, _, rfl⟩, Below.refl _ _⟩
  | some a =>
    have hmk := mk22 n (by omega)
    have hnl := nil22
    go_enter Tryd.func7, Tryd.ntmps7
    go_wp2
    go_loopw [4] (fun i wr => ∃ k : Nat, k ≤ n ∧ i = .int .i64 k ∧ (∃ G, wr.heap[w.heap.size]? = some (.cells (rowS G n) 9 (0, 0))) ∧ Below w.heap.size w wr)
      (fun i _ => n - (intOf i).toNat)
    case atStart => exact ⟨0, Nat.zero_le _, rfl, ⟨_, heap_alloc_new _ _⟩, (Below.refl _ _).alloc (Nat.le_refl _) _⟩
    case round =>
      obtain ⟨k, hk, rfl, ⟨G, h1⟩, hbel⟩ := hrel
      have H1 : Hid (wr.heap[w.heap.size]? = _) := h1
      clear h1
      by_cases hlt : k < n
      · obtain ⟨b, off, e, c0⟩ := ha k hlt
        cases e
        have hb : b < w.heap.size := World.block_lt_of_cell? w _ c0
        have c0' := (hbel.cell (p := ⟨b, off + k, none⟩) hb).trans c0
        have e0 : wr.cell? ⟨w.heap.size, k, none⟩ = some (.string (G k)) := (cell_of_row _ _ _ _ _ _ H1.out).trans (rowS_get G n k hlt)
        have hfz : wr.frozen? ⟨w.heap.size, k, none⟩ = false := frozen_of_row wr w.heap.size k _ _ H1.out
        have hlt' : (k : Int) < (n : Int) := by omega
        clear ha c0
        go_wp2
        go_roundw
        case rel =>
          refine ⟨k + 1, by omega, by go_num, ⟨fun i => if i = k then F k else G i, ?_⟩, hbel.setCell (Nat.le_refl _) _⟩
          exact (heap_setCell_same _ _ _ _ _ _ H1.out).trans (by rw [rowS_set])
        case measure => simp [intOf]; omega
      · clear ha
        go_wp2
        go_ret
        exact ⟨⟨_, _, _, rfl⟩, hbel⟩
end Go.Proofs.Qxb6616800aDoor

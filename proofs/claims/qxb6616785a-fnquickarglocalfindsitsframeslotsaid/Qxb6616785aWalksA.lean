import Derived.Test.Qxb6616785aProg
import Derived.WalkKit
import Derived.WalkLawsBesides
import Derived.WalkSpells
import Derived.Below
import Derived.Outline
import Derived.RegionTactic
import Derived.Deep.QuietTactic
import Derived.BigQuiet
import Derived.WideLaws
import Derived.LaidEql
import Derived.Laws.CopyOwn
namespace Go.Proofs.Qxb6616785a
open Go.RowKit

theorem w9 (a b : Int) (s : Option Addr) (n c : Nat) (w : World) (h : n ≤ 131072) :
    Calls Try.prog 9 #[.int .i64 a, .int .i64 b, .slice s n c] w fun e w' => e = .returned (.bool true) ∧ w = w' := by
  go_enter Try.func9, Try.ntmps9
  go_wp2
  go_ret
  exact ⟨rfl, rfl⟩

theorem ta50 (p : Option Addr) (w : World) : (Instr.typeAssert (.iface 42 (.pointer p)) 54 50 true).run Try.prog w = .ok (.tuple #[.pointer none, .bool false]) w := by kernel_rfl
theorem ta42 (p : Option Addr) (w : World) : (Instr.typeAssert (.iface 42 (.pointer p)) 54 42 true).run Try.prog w = .ok (.tuple #[.pointer p, .bool true]) w := by kernel_rfl
theorem ta3 (n : Int) (w : World) : (Instr.typeAssert (.iface 3 (.int .i64 n)) 29 3 true).run Try.prog w = .ok (.tuple #[.int .i64 n, .bool true]) w := by kernel_rfl
theorem ta3n (w : World) : (Instr.typeAssert .nilIface 29 3 true).run Try.prog w = .ok (.tuple #[.int .i64 0, .bool false]) w := by kernel_rfl


set_option maxRecDepth 100000 in
theorem w17_in (b : Nat) (o : Nat) (idx : Int) (w : World) (h0 : w.cell? ⟨b, o, none⟩ = some (.int .i64 0)) (h1 : w.cell? ⟨b, o + 1, none⟩ = some (.int .i64 idx)) (hb : b < w.heap.size) :
    Calls Try.prog 17 #[.iface 42 (.pointer (some ⟨b, o, none⟩))] w fun e w' => e = .returned (.agg #[.nilIface, .int .i64 idx]) ∧ w' = w.alloc (.cells #[.nilIface, .int .i64 idx] 31) := by
  have hne : w.heap.size ≠ b := by omega
  have t1 := ta50
  have t2 := ta42
  go_enter Try.func17, Try.ntmps17
  go_wp2
  exact bodyPost_ret (v := .agg #[.nilIface, .int .i64 idx]) (by simp [results, Try.results17, go_sem]) rfl ⟨rfl, rfl⟩

set_option maxRecDepth 100000 in
theorem w17_out (b : Nat) (o : Nat) (up : Int) (w : World) (h0 : w.cell? ⟨b, o, none⟩ = some (.int .i64 up)) (hup : (up == 0) = false) (hb : b < w.heap.size) :
    Calls Try.prog 17 #[.iface 42 (.pointer (some ⟨b, o, none⟩))] w fun e w' => e = .returned (.agg #[.nilIface, .int .i64 (-1)]) ∧ w' = w.alloc (.cells #[.nilIface, .int .i64 (-1)] 31) := by
  have hne : w.heap.size ≠ b := by omega
  have t1 := ta50
  have t2 := ta42
  go_enter Try.func17, Try.ntmps17
  go_wp2
  exact bodyPost_ret (v := .agg #[.nilIface, .int .i64 (-1)]) (by simp [results, Try.results17, go_sem]) rfl ⟨rfl, rfl⟩

set_option maxRecDepth 100000 in
theorem w11_in (idx : Int) (w : World) :
    Calls Try.prog 11 #[.int .i64 0, .int .i64 idx] w fun e w' => e = .returned (.agg #[.nilIface, .int .i64 idx]) ∧ Below w.heap.size w w' := by
  go_enter Try.func11, Try.ntmps11
  go_wp2_with (go_at_call 17; refine (w17_in _ 0 idx _ (by simp) (by simp) (by simp)).mono ?_; rintro e w' ⟨rfl, rfl⟩)
  refine bodyPost_ret (v := .agg #[.nilIface, .int .i64 idx]) (by simp [results, Try.results11, go_sem]) rfl ⟨rfl, ?_⟩
  exact (((Below.refl _ _).alloc (Nat.le_refl _) _).alloc (by simp) _).alloc (by simp; omega) _

set_option maxRecDepth 100000 in
theorem w11_out (up idx : Int) (w : World) (hup : (up == 0) = false) :
    Calls Try.prog 11 #[.int .i64 up, .int .i64 idx] w fun e w' => e = .returned (.agg #[.nilIface, .int .i64 (-1)]) ∧ Below w.heap.size w w' := by
  go_enter Try.func11, Try.ntmps11
  go_wp2_with (go_at_call 17; refine (w17_out _ 0 up _ (by simp) hup (by simp)).mono ?_; rintro e w' ⟨rfl, rfl⟩)
  refine bodyPost_ret (v := .agg #[.nilIface, .int .i64 (-1)]) (by simp [results, Try.results11, go_sem]) rfl ⟨rfl, ?_⟩
  exact (((Below.refl _ _).alloc (Nat.le_refl _) _).alloc (by simp) _).alloc (by simp; omega) _

/-- value: a local -/
theorem w18_in (b eb : Nat) (idx : Nat) (sb : Nat) (n c : Nat) (v : Int) (w : World) (h1 : w.cell? ⟨b, 1, none⟩ = some (.int .i64 idx)) (h2 : w.cell? ⟨eb, 0, none⟩ = some (.slice (some ⟨sb, 0, none⟩) n c))
    (hi : idx < n) (hx : w.cell? ⟨sb, idx, none⟩ = some (.iface 3 (.int .i64 v))) :
    Calls Try.prog 18 #[.pointer (some ⟨b, 0, none⟩), .pointer (some ⟨eb, 0, none⟩)] w fun e w' => e = .returned (.iface 3 (.int .i64 v)) ∧ ∃ q, w' = w.drewN q := by
  have hi' : (idx : Int) < (n : Int) := by omega
  go_enter Try.func18, Try.ntmps18
  go_wp2
  go_quiet (fail)
  go_wp2
  go_ret
  exact ⟨rfl, nq, rfl⟩

theorem w18_out (b eb : Nat) (idx : Int) (hidx : idx < 0) (w : World) (h0 : w.cell? ⟨b, 0, none⟩ = some .nilIface) (h1 : w.cell? ⟨b, 1, none⟩ = some (.int .i64 idx)) :
    Calls Try.prog 18 #[.pointer (some ⟨b, 0, none⟩), .pointer (some ⟨eb, 0, none⟩)] w fun e w' => e = .returned .nilIface ∧ w' = w := by
  go_enter Try.func18, Try.ntmps18
  go_wp2
  go_ret
  exact ⟨rfl, rfl⟩

set_option maxRecDepth 100000 in
theorem w12_in (idx : Nat) (eb sb n c : Nat) (v : Int) (w : World) (h2 : w.cell? ⟨eb, 0, none⟩ = some (.slice (some ⟨sb, 0, none⟩) n c)) (heb : eb < w.heap.size) (hsb : sb < w.heap.size)
    (hi : idx < n) (hx : w.cell? ⟨sb, idx, none⟩ = some (.iface 3 (.int .i64 v))) :
    Calls Try.prog 12 #[.agg #[.nilIface, .int .i64 idx], .pointer (some ⟨eb, 0, none⟩)] w fun e w' => e = .returned (.tuple #[.int .i64 v, .bool true, .bool false]) ∧ Below w.heap.size w w' := by
  have hne : w.heap.size ≠ eb := by omega
  have hne2 : w.heap.size ≠ sb := by omega
  have t1 := ta3
  go_enter Try.func12, Try.ntmps12
  go_wp2_with (go_at_call 18; refine (w18_in _ eb idx sb n c v _ (by simp) (by simp [World.cell?_alloc_past, heb, h2]) hi (by simp [World.cell?_alloc_past, hsb, hx])).mono ?_; rintro e w' ⟨rfl, nq, rfl⟩)
  go_quiet (fail)
  go_wp2
  go_ret3
  exact ⟨rfl, below_drewN (below_drewN ((Below.refl _ _).alloc (Nat.le_refl _) _) _) _⟩

set_option maxRecDepth 100000 in
theorem w12_out (j : Int) (hj : j < 0) (eb : Nat) (w : World) :
    Calls Try.prog 12 #[.agg #[.nilIface, .int .i64 j], .pointer (some ⟨eb, 0, none⟩)] w fun e w' => e = .returned (.tuple #[.int .i64 0, .bool false, .bool true]) ∧ Below w.heap.size w w' := by
  have t1 := ta3n
  go_enter Try.func12, Try.ntmps12
  go_wp2_with (go_at_call 18; refine (w18_out _ eb j hj _ (by simp) (by simp)).mono ?_; rintro e w' ⟨rfl, rfl⟩)
  go_quiet (fail)
  go_wp2
  go_ret3
  exact ⟨rfl, below_drewN ((Below.refl _ _).alloc (Nat.le_refl _) _) _⟩

/-- THE ROW OF THE FRAME's VALUES behind k rounds. -/
def fillA (zs : Nat → Int) (n k : Nat) : Array Value := ((List.range n).map fun i => if i < k then Value.iface 3 (.int .i64 (zs i)) else .nilIface).toArray
theorem fillA_get (zs : Nat → Int) (n k i : Nat) (hi : i < n) : (fillA zs n k)[i]? = some (if i < k then Value.iface 3 (.int .i64 (zs i)) else .nilIface) := by
  simp [fillA, hi]
theorem fillA_size (zs : Nat → Int) (n k : Nat) : (fillA zs n k).size = n := by simp [fillA]
theorem fillA_set (zs : Nat → Int) (n k : Nat) : (fillA zs n k).setIfInBounds k (.iface 3 (.int .i64 (zs k))) = fillA zs n (k + 1) := by
  apply Array.ext_getElem?
  intro i
  by_cases hi : i < n
  · rw [fillA_get _ _ _ _ hi, Array.getElem?_setIfInBounds]
    by_cases hk : k = i
    · subst hk; simp [fillA_size, hi]
    · rw [if_neg hk, fillA_get _ _ _ _ hi]
      congr 1
      by_cases h1 : i < k
      · rw [if_pos h1, if_pos (by omega)]
      · rw [if_neg h1, if_neg (by omega)]
  · rw [Array.getElem?_eq_none (by simp [fillA_size]; omega), Array.getElem?_eq_none (by simp [fillA_size]; omega)]
theorem fillA_zero (zs : Nat → Int) (n : Nat) : madeCells #[Value.nilIface] (n * 1) = fillA zs n 0 := by
  apply Array.ext_getElem?
  intro i
  by_cases hi : i < n
  · rw [fillA_get _ _ _ _ hi]; simp [madeCells, hi, Nat.mod_one]
  · rw [Array.getElem?_eq_none (by simp [madeCells]; omega), Array.getElem?_eq_none (by simp [fillA_size]; omega)]

theorem info29 : (Try.prog.info? 29).map (fun i => (i.zero, i.size, i.bytes)) = some (some .nilIface, 1, 16) := by kernel_rfl
theorem info3 : (Try.prog.info? 3).map (fun i => (i.zero, i.size, i.bytes)) = some (some (.int .i64 0), 1, 8) := by kernel_rfl
theorem mk38 (zs : Nat → Int) (n : Nat) (hn : n ≤ 131072) (w : World) : (Instr.makeSlice 38 (.int .i64 (n : Int)) (.int .i64 (n : Int))).run Try.prog w = .ok (.slice (some ⟨w.heap.size, 0, none⟩) n n) (w.alloc (.cells (fillA zs n 0) 29)) := by
  obtain ⟨i0, hi, hz0, hz1, hz2⟩ := info_parts info29
  have h := run_make (P := Try.prog) (w := w) 38 29 i0 .nilIface Try.underlying38 hi hz0 .i64 .i64 (n : Int) (n : Int) (by omega) (by omega) (by rw [hz2]; omega) (by omega)
  rw [Int.toNat_natCast, hz1] at h
  rw [← fillA_zero]
  exact h

set_option maxHeartbeats 1000000 in
set_option maxRecDepth 100000 in
theorem w10 (vb n : Nat) (zs : Nat → Int) (w : World) (hn : n ≤ 131072) (hvb : vb < w.heap.size) (hc : ∀ i, i < n → w.cell? ⟨vb, i, none⟩ = some (.int .i64 (zs i))) :
    Calls Try.prog 10 #[.slice (some ⟨vb, 0, none⟩) n n] w fun e w' => e = .returned (.pointer (some ⟨w.heap.size + 1, 0, none⟩)) ∧
      w'.heap[w.heap.size]? = some (.cells (fillA zs n n) 29 (0, 0)) ∧ w'.heap[w.heap.size + 1]? = some (.cells #[.slice (some ⟨w.heap.size, 0, none⟩) n n, .pointer none] 40 (0, 0)) ∧ Below w.heap.size w w' := by
  have hmk := mk38 zs n hn
  go_enter Try.func10, Try.ntmps10
  go_wp2
  go_loopw [4] (fun i wr => ∃ k : Nat, k ≤ n ∧ i = .int .i64 k ∧ wr.heap[w.heap.size]? = some (.cells (fillA zs n k) 29 (0, 0)) ∧ wr.heap[w.heap.size + 1]? = some (.cells #[.slice (some ⟨w.heap.size, 0, none⟩) n n, .pointer none] 40 (0, 0)) ∧ Below w.heap.size w wr)
    (fun i _ => n - (intOf i).toNat)
  case atStart =>
    refine ⟨0, Nat.zero_le _, rfl, ?_, ?_, ?_⟩
    · rw [heap_alloc_old _ _ (by simp)]; exact heap_alloc_new _ _
    · have := heap_alloc_new (w.alloc (.cells (fillA zs n 0) 29)) (.cells #[.slice (some ⟨w.heap.size, 0, none⟩) n n, .pointer none] 40)
      simpa using this
    · exact ((Below.refl _ _).alloc (Nat.le_refl _) _).alloc (by simp) _
  case round =>
    obtain ⟨k, hk, rfl, h1, h2, hb⟩ := hrel
    by_cases hlt : k < n
    · have c0 : wr.cell? ⟨w.heap.size + 1, 0, none⟩ = some (.slice (some ⟨w.heap.size, 0, none⟩) n n) := by rw [cell_of_row _ _ _ _ _ _ h2]; rfl
      have c1 : wr.cell? ⟨vb, k, none⟩ = some (.int .i64 (zs k)) := (hb.cell (p := ⟨vb, k, none⟩) hvb).trans (hc k hlt)
      have c2 : wr.cell? ⟨w.heap.size, k, none⟩ = some .nilIface := by rw [cell_of_row _ _ _ _ _ _ h1, fillA_get _ _ _ _ hlt]; simp
      have f2 : wr.frozen? ⟨w.heap.size, k, none⟩ = false := frozen_of_row _ _ _ _ _ h1
      have hlt' : (k : Int) < (n : Int) := by omega
      have H1 : Hid (wr.heap[w.heap.size]? = some (.cells (fillA zs n k) 29 (0, 0))) := h1
      have H2 : Hid (wr.heap[w.heap.size + 1]? = some (.cells #[.slice (some ⟨w.heap.size, 0, none⟩) n n, .pointer none] 40 (0, 0))) := h2
      clear h1 h2 hc
      go_wp2
      go_region
      go_wp2
      go_roundw
      case rel =>
        refine ⟨k + 1, by omega, by go_num, ?_, ?_, ?_⟩
        · show (wr.setCell _ _).heap[_]? = _
          rw [heap_setCell_same _ _ _ _ _ _ H1.out, fillA_set]
        · show (wr.setCell _ _).heap[_]? = _
          rw [heap_setCell_other _ _ _ _ (by simp)]; exact H2.out
        · exact (hb.setCell (Nat.le_refl _) _).drew
      case measure => simp [intOf]; omega
    · have : k = n := by omega
      subst this
      go_wp2
      go_ret
      exact ⟨rfl, h1, h2, hb⟩

set_option maxHeartbeats 1000000 in
set_option maxRecDepth 100000 in
theorem w10_nil (w : World) :
    Calls Try.prog 10 #[.slice none 0 0] w fun e w' => e = .returned (.pointer (some ⟨w.heap.size + 1, 0, none⟩)) ∧ Below w.heap.size w w' := by
  have hmk : ∀ w : World, (Instr.makeSlice 38 (.int .i64 0) (.int .i64 0)).run Try.prog w = .ok (.slice (some ⟨w.heap.size, 0, none⟩) 0 0) (w.alloc (.cells #[] 29)) := fun _ => by kernel_rfl
  go_enter Try.func10, Try.ntmps10
  go_wp2
  refine wp_loop_rounds 1 ?_
  rw [rounds_succ]
  go_wp2
  go_ret
  exact ⟨rfl, ((Below.refl _ _).alloc (Nat.le_refl _) _).alloc (by simp) _⟩
end Go.Proofs.Qxb6616785a

import Derived.Test.Qxb6616800aWalksA
namespace Go.Proofs.Qxb6616800a
open Go.RowKit

set_option maxRecDepth 100000 in
theorem w10 (x : Wt) (w : World) :
    Calls Try.prog 10 #[.agg #[.string x.p, .string x.b, .string x.h, .bool x.d, .bool x.r, .bool x.l]] w fun e w' =>
      e = .returned (.agg #[.string x.p, .string x.b, .string x.h, .bool x.d, .bool x.r, .bool x.l]) ∧ Below w.heap.size w w' := by
  go_enter Try.func10, Try.ntmps10
  go_wp2
  refine bodyPost_ret (v := .agg #[.string x.p, .string x.b, .string x.h, .bool x.d, .bool x.r, .bool x.l]) (by simp [results, Try.results10, go_sem]) rfl ⟨rfl, ?_⟩
  exact ((Below.refl _ _).alloc (Nat.le_refl _) _).alloc (by simp) _

/-- The six cells of an element. -/
def sixV (x : Wt) : List Value := [.string x.p, .string x.b, .string x.h, .bool x.d, .bool x.r, .bool x.l]
def noWt : Wt := ⟨⟨#[]⟩, ⟨#[]⟩, ⟨#[]⟩, false, false, false⟩
/-- n elements, as cells. -/
def rowW (F : Nat → Wt) (n : Nat) : Array Value := (((List.range n).map fun i => sixV (F i)).flatten).toArray
theorem rowW_size (F : Nat → Wt) (n : Nat) : (rowW F n).size = n * 6 := by
  have : ∀ l : List Nat, ((l.map fun i => sixV (F i)).flatten).length = l.length * 6 := by
    intro l
    induction l with
    | nil => rfl
    | cons a l ih => simp [sixV] at ih ⊢; omega
  simp only [rowW, List.size_toArray]
  rw [this]; simp
theorem rowW_succ (F : Nat → Wt) (n : Nat) : rowW F (n + 1) = rowW F n ++ (sixV (F n)).toArray := by
  simp [rowW, List.range_succ, sixV]
theorem rowW_get (F : Nat → Wt) (n k j : Nat) (hk : k < n) (hj : j < 6) : (rowW F n)[k * 6 + j]? = (sixV (F k))[j]? := by
  induction n with
  | zero => omega
  | succ n ih =>
    rw [rowW_succ]
    by_cases h : k < n
    · rw [Array.getElem?_append_left (by rw [rowW_size]; omega)]; exact ih h
    · obtain rfl : k = n := by omega
      rw [Array.getElem?_append_right (by rw [rowW_size]; omega), rowW_size]
      rw [show k * 6 + j - k * 6 = j by omega]
      simp
theorem six_of_row {w : World} {B : Nat} {F : Nat → Wt} {n k : Nat} {t : TypeId} {fr : Nat × Nat} (h : w.heap[B]? = some (.cells (rowW F n) t fr)) (hk : k < n) : Six w B (k * 6) (F k) := by
  have e := fun j (hj : j < 6) => (cell_of_row w B (k * 6 + j) _ _ _ h).trans (rowW_get F n k j hk hj)
  exact ⟨e 0 (by omega), e 1 (by omega), e 2 (by omega), e 3 (by omega), e 4 (by omega), e 5 (by omega)⟩

/-- element k laid anew -/
def putW (F : Nat → Wt) (k : Nat) (x : Wt) : Nat → Wt := fun i => if i = k then x else F i
theorem rowW_congr {F G : Nat → Wt} {n : Nat} (h : ∀ i, i < n → F i = G i) : rowW F n = rowW G n := by
  unfold rowW
  congr 2
  apply List.map_congr_left
  intro i hi
  rw [h i (by simpa using hi)]
theorem rowW_ext {cs : Array Value} {F : Nat → Wt} {n : Nat} (hs : cs.size = n * 6) (h : ∀ k j, k < n → j < 6 → cs[k * 6 + j]? = (sixV (F k))[j]?) : cs = rowW F n := by
  apply Array.ext_getElem?
  intro i
  by_cases hi : i < n * 6
  · have e : i = i / 6 * 6 + i % 6 := by omega
    rw [e, h _ _ (by omega) (by omega), rowW_get F n _ _ (by omega) (by omega)]
  · rw [Array.getElem?_eq_none (by omega), Array.getElem?_eq_none (by rw [rowW_size]; omega)]

/-- The six stores of one element. -/
abbrev put6 (w : World) (B o : Nat) (x : Wt) : World :=
  (((((w.setCell ⟨B, o, none⟩ (.string x.p)).setCell ⟨B, o + 1, none⟩ (.string x.b)).setCell ⟨B, o + 2, none⟩ (.string x.h)).setCell ⟨B, o + 3, none⟩ (.bool x.d)).setCell ⟨B, o + 4, none⟩ (.bool x.r)).setCell ⟨B, o + 5, none⟩ (.bool x.l)
theorem row_set {F : Nat → Wt} {n k : Nat} (x : Wt) (hk : k < n) :
    ((((((rowW F n).setIfInBounds (k * 6) (.string x.p)).setIfInBounds (k * 6 + 1) (.string x.b)).setIfInBounds (k * 6 + 2) (.string x.h)).setIfInBounds (k * 6 + 3) (.bool x.d)).setIfInBounds (k * 6 + 4) (.bool x.r)).setIfInBounds (k * 6 + 5) (.bool x.l) = rowW (putW F k x) n := by
  apply rowW_ext (by simp [rowW_size])
  intro i j hi hj
  simp only [Array.getElem?_setIfInBounds, Array.size_setIfInBounds, rowW_size]
  by_cases h : i = k
  · subst h
    have hp : putW F i x i = x := by simp [putW]
    rw [hp]
    match j, hj with
    | 0, _ => simp [sixV]; omega
    | 1, _ => simp [sixV]; omega
    | 2, _ => simp [sixV]; omega
    | 3, _ => simp [sixV]; omega
    | 4, _ => simp [sixV]; omega
    | 5, _ => simp [sixV]; omega
  · have hp : putW F k x i = F i := by simp [putW, h]
    rw [hp, if_neg (by omega), if_neg (by omega), if_neg (by omega), if_neg (by omega), if_neg (by omega), if_neg (by omega)]
    exact rowW_get F n i j hi hj
theorem put6_row {w : World} {B : Nat} {F : Nat → Wt} {n k : Nat} {t : TypeId} (x : Wt) (h : w.heap[B]? = some (.cells (rowW F n) t (0, 0))) (hk : k < n) :
    (put6 w B (k * 6) x).heap[B]? = some (.cells (rowW (putW F k x) n) t (0, 0)) := by
  have a0 := heap_setCell_same w B (k * 6) _ _ (.string x.p) h
  have a1 := heap_setCell_same _ B (k * 6 + 1) _ _ (.string x.b) a0
  have a2 := heap_setCell_same _ B (k * 6 + 2) _ _ (.string x.h) a1
  have a3 := heap_setCell_same _ B (k * 6 + 3) _ _ (.bool x.d) a2
  have a4 := heap_setCell_same _ B (k * 6 + 4) _ _ (.bool x.r) a3
  have a5 := heap_setCell_same _ B (k * 6 + 5) _ _ (.bool x.l) a4
  rw [row_set x hk] at a5
  exact a5
theorem put6_below {w0 w : World} {B0 B : Nat} (o : Nat) (x : Wt) (h : Below B0 w0 w) (hB : B0 ≤ B) : Below B0 w0 (put6 w B o x) :=
  (((((h.setCell (p := ⟨B, o, none⟩) hB _).setCell (p := ⟨B, o + 1, none⟩) hB _).setCell (p := ⟨B, o + 2, none⟩) hB _).setCell (p := ⟨B, o + 3, none⟩) hB _).setCell (p := ⟨B, o + 4, none⟩) hB _).setCell (p := ⟨B, o + 5, none⟩) hB _
theorem put6_other {w : World} {B C : Nat} (o : Nat) (x : Wt) (h : C ≠ B) : (put6 w B o x).heap[C]? = w.heap[C]? := by
  simp only [put6]
  rw [heap_setCell_other _ _ _ _ (by simpa using h), heap_setCell_other _ _ _ _ (by simpa using h), heap_setCell_other _ _ _ _ (by simpa using h), heap_setCell_other _ _ _ _ (by simpa using h), heap_setCell_other _ _ _ _ (by simpa using h), heap_setCell_other _ _ _ _ (by simpa using h)]

theorem made_get (z : Array Value) (N i : Nat) (hi : i < N) : (madeCells z N)[i]? = some (z[i % z.size]!) := by
  simp [madeCells, hi]
theorem nil22 (a : Addr) (n c : Nat) (w : World) : (binOp .eql 22 (.slice (some a) n c) (.slice none 0 0)).run Try.prog w = .ok (.bool false) w := by kernel_rfl
theorem nil22n (w : World) : (binOp .eql 22 (.slice none 0 0) (.slice none 0 0)).run Try.prog w = .ok (.bool true) w := by kernel_rfl
theorem info28 : (Try.prog.info? 28).map (fun i => (i.zero, i.size, i.bytes)) = some (some (.agg #[.string ⟨#[]⟩, .string ⟨#[]⟩, .string ⟨#[]⟩, .bool false, .bool false, .bool false]), 6, 56) := by kernel_rfl
theorem mk25 (n : Nat) (hn : n ≤ 16384) (w : World) : (Instr.makeSlice 25 (.int .i64 (n : Int)) (.int .i64 (n : Int))).run Try.prog w = .ok (.slice (some ⟨w.heap.size, 0, none⟩) n n) (w.alloc (.cells (rowW (fun _ => noWt) n) 28)) := by
  obtain ⟨i0, hi, hz0, hz1, hz2⟩ := info_parts info28
  have h := run_make (P := Try.prog) (w := w) 25 28 i0 _ Try.underlying25 hi hz0 .i64 .i64 (n : Int) (n : Int) (by omega) (by omega) (by rw [hz2]; omega) (by omega)
  rw [Int.toNat_natCast, hz1] at h
  have e : madeCells (Value.agg #[.string ⟨#[]⟩, .string ⟨#[]⟩, .string ⟨#[]⟩, .bool false, .bool false, .bool false]).cells (n * 6) = rowW (fun _ => noWt) n := by
    apply rowW_ext (size_madeCells _ _)
    intro k j hk hj
    have hlt : k * 6 + j < n * 6 := by omega
    have hm : (k * 6 + j) % 6 = j := by omega
    rw [made_get _ _ _ hlt]
    show some ((#[Value.string ⟨#[]⟩, .string ⟨#[]⟩, .string ⟨#[]⟩, .bool false, .bool false, .bool false] : Array Value)[(k * 6 + j) % 6]!) = _
    rw [hm]
    match j, hj with
    | 0, _ | 1, _ | 2, _ | 3, _ | 4, _ | 5, _ => rfl
  rw [e] at h
  exact h

set_option maxHeartbeats 1000000 in
set_option maxRecDepth 100000 in
theorem w6 (b off n c : Nat) (F : Nat → Wt) (w : World) (hn : n ≤ 4096) (hb : b < w.heap.size) (ha : ∀ k, k < n → Six w b (off + k * 6) (F k)) :
    Calls Try.prog 6 #[.slice (some ⟨b, off, none⟩) n c] w fun e w' => e = .returned (.slice (some ⟨w.heap.size, 0, none⟩) n n) ∧
      w'.heap[w.heap.size]? = some (.cells (rowW F n) 28 (0, 0)) ∧ Below w.heap.size w w' := by
  have hmk := mk25 n (by omega)
  have hnl := nil22
  go_enter Try.func6, Try.ntmps6
  go_wp2
  go_loopw [4] (fun i wr => ∃ k : Nat, k ≤ n ∧ i = .int .i64 k ∧ wr.heap[w.heap.size]? = some (.cells (rowW (fun i => if i < k then F i else noWt) n) 28 (0, 0)) ∧ Below w.heap.size w wr)
    (fun i _ => n - (intOf i).toNat)
  case atStart =>
    refine ⟨0, Nat.zero_le _, rfl, ?_, ?_⟩
    · simpa using heap_alloc_new w (.cells (rowW (fun _ => noWt) n) 28)
    · exact (Below.refl _ _).alloc (Nat.le_refl _) _
  case round =>
    obtain ⟨k, hk, rfl, h1, hbel⟩ := hrel
    by_cases hlt : k < n
    · obtain ⟨c0, c1, c2, c3, c4, c5⟩ := ha k hlt
      have d0 := (hbel.cell (p := ⟨b, off + k * 6, none⟩) hb).trans c0
      have d1 := (hbel.cell (p := ⟨b, off + k * 6 + 1, none⟩) hb).trans c1
      have d2 := (hbel.cell (p := ⟨b, off + k * 6 + 2, none⟩) hb).trans c2
      have d3 := (hbel.cell (p := ⟨b, off + k * 6 + 3, none⟩) hb).trans c3
      have d4 := (hbel.cell (p := ⟨b, off + k * 6 + 4, none⟩) hb).trans c4
      have d5 := (hbel.cell (p := ⟨b, off + k * 6 + 5, none⟩) hb).trans c5
      have hlt' : (k : Int) < (n : Int) := by omega
      have H1 : Hid (wr.heap[w.heap.size]? = _) := h1
      clear h1 ha c0 c1 c2 c3 c4 c5
      go_wp2_with (go_at_call 10; refine (w10 (F k) _).mono ?_; rintro e w2 ⟨rfl, hB2⟩; have H2 : Hid (w2.heap[w.heap.size]? = _) := (hB2.block _ (lt_of_block H1.out)).trans H1.out; obtain ⟨e0, e1, e2, e3, e4, e5⟩ := six_of_row H2.out hlt; have hfz := fun j => frozen_of_row w2 w.heap.size j _ _ H2.out)
      go_roundw
      case rel =>
        refine ⟨k + 1, by omega, by go_num, ?_, ?_⟩
        · refine (put6_row (F k) H2.out hlt).trans ?_
          rw [rowW_congr]
          intro i hi
          simp only [putW]
          by_cases h : i = k
          · subst h; simp
          · rw [if_neg h]
            by_cases h2 : i < k
            · rw [if_pos h2, if_pos (by omega)]
            · rw [if_neg h2, if_neg (by omega)]
        · exact put6_below _ _ (hbel.trans (hB2.mono hbel.size)) (Nat.le_refl _)
      case measure => simp [intOf]; omega
    · have : k = n := by omega
      subst this
      clear ha
      have H1 : Hid (wr.heap[w.heap.size]? = _) := h1
      clear h1
      go_wp2
      go_ret
      refine ⟨rfl, ?_, hbel⟩
      rw [H1.out, rowW_congr]
      intro i hi
      rw [if_pos hi]

theorem w6_nil (w : World) : Calls Try.prog 6 #[.slice none 0 0] w fun e w' => e = .returned (.slice none 0 0) ∧ w = w' := by
  have hnl := nil22n
  go_enter Try.func6, Try.ntmps6
  go_wp2
  go_ret
  exact ⟨rfl, rfl⟩

/-- an empty slice that is not nil -/
theorem w6_empty (a : Addr) (c : Nat) (w : World) : Calls Try.prog 6 #[.slice (some a) 0 c] w fun e w' => e = .returned (.slice (some ⟨w.heap.size, 0, none⟩) 0 0) ∧
      w'.heap[w.heap.size]? = some (.cells #[] 28 (0, 0)) ∧ Below w.heap.size w w' := by
  have hnl := nil22
  have hmk : ∀ w : World, (Instr.makeSlice 25 (.int .i64 0) (.int .i64 0)).run Try.prog w = .ok (.slice (some ⟨w.heap.size, 0, none⟩) 0 0) (w.alloc (.cells #[] 28)) := fun _ => by kernel_rfl
  go_enter Try.func6, Try.ntmps6
  go_wp2
  refine wp_loop_rounds 1 ?_
  rw [rounds_succ]
  go_wp2
  go_ret
  exact ⟨rfl, heap_alloc_new _ _, (Below.refl _ _).alloc (Nat.le_refl _) _⟩

theorem w7_nil (w : World) : Calls Try.prog 7 #[.slice none 0 0] w fun e w' => e = .returned (.slice none 0 0) ∧ w = w' := by
  go_enter Try.func7, Try.ntmps7
  go_wp2
  go_ret
  exact ⟨rfl, rfl⟩
theorem w7_zero (B : Nat) (w : World) : Calls Try.prog 7 #[.slice (some ⟨B, 0, none⟩) 0 0] w fun e w' => e = .returned (.slice (some ⟨B, 0, none⟩) 0 0) ∧ w = w' := by
  go_enter Try.func7, Try.ntmps7
  go_wp2
  go_ret
  exact ⟨rfl, rfl⟩
def offL (m : Nat) : Nat := if m = 0 then 0 else 6
theorem offL_pos {m k : Nat} (h : k < m) : offL m = 6 := if_neg (by omega)
theorem w7_more (B m : Nat) (hm : m ≤ 16384) (w : World) : Calls Try.prog 7 #[.slice (some ⟨B, 0, none⟩) (m + 1) (m + 1)] w fun e w' => e = .returned (.slice (some ⟨B, offL m, none⟩) m m) ∧ w = w' := by
  unfold offL
  have h1 : (1 : Int) ≤ (m : Int) + 1 := by omega
  go_enter Try.func7, Try.ntmps7
  go_wp2
  all_goals (go_ret; exact ⟨rfl, rfl⟩)

theorem same28 (x : Wt) (w : World) : (binOp .neq 28 (.agg #[.string x.p, .string x.b, .string x.h, .bool x.d, .bool x.r, .bool x.l]) (.agg #[.string x.p, .string x.b, .string x.h, .bool x.d, .bool x.r, .bool x.l])).run Try.prog w = .ok (.bool false) w := by
  go_simp

set_option maxHeartbeats 1000000 in
set_option maxRecDepth 100000 in
theorem w8 (s1 s2 : Option Addr) (n c1 c2 : Nat) (F : Nat → Wt) (w : World) (hn : n ≤ 16384) (h1 : RowAt w s1 n F) (h2 : RowAt w s2 n F) :
    Calls Try.prog 8 #[.slice s1 n c1, .slice s2 n c2] w fun e w' => e = .returned (.bool true) ∧ Below w.heap.size w w' := by
  go_enter Try.func8, Try.ntmps8
  go_wp2
  go_loopw [5] (fun i wr => ∃ k : Nat, k ≤ n ∧ i = .int .i64 k ∧ ∃ q, wr = w.drewN q) (fun i _ => n - (intOf i).toNat)
  case atStart => exact ⟨0, Nat.zero_le _, rfl, 0, rfl⟩
  case round =>
    obtain ⟨k, hk, rfl, q, rfl⟩ := hrel
    by_cases hlt : k < n
    · obtain ⟨b, off, hs, c0, c1, c2, c3, c4, c5⟩ := h1 k hlt
      obtain ⟨b', off', hs', d0, d1, d2, d3, d4, d5⟩ := h2 k hlt
      subst hs
      subst hs'
      have hlt' : (k : Int) < (n : Int) := by omega
      clear h1 h2
      have hsm := same28 (F k)
      go_wp2
      go_quiet (fail)
      go_wp2
      go_roundw
      case rel => exact ⟨k + 1, by omega, by go_num, _, rfl⟩
      case measure => simp [intOf]; omega
    · go_wp2
      go_ret
      exact ⟨rfl, below_drewN (Below.refl _ _) _⟩
end Go.Proofs.Qxb6616800a

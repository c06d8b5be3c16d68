import Derived.Test.Qxb6616785aWalksA
namespace Go.Proofs.Qxb6616785a
open Go.RowKit

def zerosA (n : Nat) : List Value := List.replicate n (.int .i64 0)
theorem mk25 (n : Nat) (hn : n ≤ 131072) (w : World) : (Instr.makeSlice 25 (.int .i64 (n : Int)) (.int .i64 (n : Int))).run Try.prog w = .ok (.slice (some ⟨w.heap.size, 0, none⟩) n n) (w.alloc (.cells (zerosA n).toArray 3)) := by
  obtain ⟨i0, hi, hz0, hz1, hz2⟩ := info_parts info3
  have h := run_make (P := Try.prog) (w := w) 25 3 i0 (.int .i64 0) Try.underlying25 hi hz0 .i64 .i64 (n : Int) (n : Int) (by omega) (by omega) (by rw [hz2]; omega) (by omega)
  rw [Int.toNat_natCast, hz1] at h
  have e : (zerosA n).toArray = madeCells (Value.int .i64 0).cells (n * 1) := by
    apply Array.toList_inj.1
    have := toList_madeCells_one (.int .i64 0) (n * 1)
    simpa [zerosA, Value.cells] using this.symm
  rw [e]
  exact h

/-- The numbers, as cells. -/
def rowA (f : Nat → Int) (n : Nat) : List Value := (List.range n).map fun i => .int .i64 (f i)
theorem rowA_len (f : Nat → Int) (n : Nat) : (rowA f n).length = n := by simp [rowA]
theorem rowA_get (f : Nat → Int) (n i : Nat) (hi : i < n) : (rowA f n)[i]? = some (.int .i64 (f i)) := by simp [rowA, hi]
theorem splice_row (f : Nat → Int) (n : Nat) : splice (zerosA n) 0 (rowA f n) = rowA f n := by
  simp [splice, rowA_len, zerosA]
theorem copied {w : World} {B n : Nat} {f : Nat → Int} (h : w.heap[B]? = some (.cells (splice (zerosA n) 0 (rowA f n)).toArray 3 (0, 0))) (i : Nat) (hi : i < n) : w.cell? ⟨B, i, none⟩ = some (.int .i64 (f i)) := by
  rw [cell_of_row _ _ _ _ _ _ h, splice_row]
  simpa using rowA_get f n i hi

theorem walk_long (a0 a1 : Int) (s : Option Addr) (n c : Nat) (hn : 131072 < n) (hm : n ≤ maxLen) (w : World) :
    Calls Try.prog 5 #[.int .i64 a0, .int .i64 a1, .slice s n c] w fun e w' => e = .returned (.bool true) ∧ w' = w := by
  unfold maxLen at hm
  by_cases h2 : n ≤ 1048576
  · go_enter Try.func5, Try.ntmps5
    go_wp2
    go_ret
    exact ⟨rfl, rfl⟩
  · go_enter Try.func5, Try.ntmps5
    go_wp2
    go_ret
    exact ⟨rfl, rfl⟩

theorem walk_beyond (a1 : Int) (s : Option Addr) (n c : Nat) (hn : n ≤ 131072) (h1 : (n : Int) ≤ a1) (w : World) :
    Calls Try.prog 5 #[.int .i64 0, .int .i64 a1, .slice s n c] w fun e w' => e = .returned (.bool true) ∧ w' = w := by
  go_enter Try.func5, Try.ntmps5
  go_wp2
  go_ret
  exact ⟨rfl, rfl⟩

theorem rowA_one (f : Nat → Int) (n : Nat) : ∀ v ∈ rowA f n, v.oneCell' = true := by
  intro v hv
  simp only [rowA, List.mem_map] at hv
  obtain ⟨i, _, rfl⟩ := hv
  rfl
theorem src_row {w : World} {x : Addr} {n : Nat} {f : Nat → Int} (o : Obj) (hc : ∀ i, i < n → w.cell? (x.add i) = some (.int .i64 (f i))) :
    ∀ j v, (rowA f n)[j]? = some v → (w.alloc o).cell? (x.add j) = some v := by
  intro j v hj
  have hjn : j < n := by
    have := List.getElem?_eq_some_iff.1 hj
    obtain ⟨h, _⟩ := this
    rwa [rowA_len] at h
  rw [rowA_get f n j hjn] at hj
  have hb := World.block_lt_of_cell? w _ (hc j hjn)
  rw [World.cell?_alloc_lt w o _ hb, hc j hjn]
  exact hj

/-- What the frame's making leaves, read behind two more calls. -/
theorem frame_facts {w1 w2 w3 : World} {n k : Nat} {f : Nat → Int} (h1 : w2.heap[w1.heap.size]? = some (.cells (fillA f n n) 29 (0, 0))) (h2 : w2.heap[w1.heap.size + 1]? = some (.cells #[.slice (some ⟨w1.heap.size, 0, none⟩) n n, .pointer none] 40 (0, 0)))
    (hb : Below w2.heap.size w2 w3) (hk : k < n) :
    w1.heap.size + 1 < w3.heap.size ∧ w3.cell? ⟨w1.heap.size + 1, 0, none⟩ = some (.slice (some ⟨w1.heap.size, 0, none⟩) n n) ∧ w3.cell? ⟨w1.heap.size, k, none⟩ = some (.iface 3 (.int .i64 (f k))) := by
  have hz : w1.heap.size + 1 < w2.heap.size := by
    by_cases h : w1.heap.size + 1 < w2.heap.size
    · exact h
    · rw [Array.getElem?_eq_none (by omega)] at h2; cases h2
  have := hb.size
  refine ⟨by omega, ?_, ?_⟩
  · rw [hb.cell (p := ⟨w1.heap.size + 1, 0, none⟩) hz, cell_of_row _ _ _ _ _ _ h2]; rfl
  · rw [hb.cell (p := ⟨w1.heap.size, k, none⟩) (show w1.heap.size < _ by omega), cell_of_row _ _ _ _ _ _ h1, fillA_get _ _ _ _ hk, if_pos hk]

set_option maxRecDepth 100000 in
set_option maxHeartbeats 1000000 in
theorem walk_in (k : Nat) (x : Addr) (n c : Nat) (f : Nat → Int) (hn : n ≤ 131072) (hk : k < n) (w : World) (hc : ∀ i, i < n → w.cell? (x.add i) = some (.int .i64 (f i))) :
    Calls Try.prog 5 #[.int .i64 0, .int .i64 (k : Int), .slice (some x) n c] w fun e w' => e = .returned (.bool true) ∧ Below w.heap.size w w' := by
  have hmk := mk25 n hn
  have hk' : (k : Int) < (n : Int) := by omega
  have hsrc := src_row (.cells (zerosA n).toArray 3) hc
  clear hc
  go_enter Try.func5, Try.ntmps5
  go_wp2_with (first
    | (go_at_call 9; refine (w9 _ _ _ _ _ _ hn).mono ?_; rintro e w' ⟨rfl, rfl⟩)
    | (go_at_call 10; refine (w10 w.heap.size n f w1 hn (by omega) cw).mono ?_; rintro e w2 ⟨rfl, hr1, hr2, hB3⟩; have HR1 : Hid _ := hr1; have HR2 : Hid _ := hr2; clear hr1 hr2)
    | (go_at_call 11; refine (w11_in k _).mono ?_; rintro e w3 ⟨rfl, hB4⟩; obtain ⟨hz3, hc3, hd3⟩ := frame_facts (k := k) HR1.out HR2.out hB4 hk)
    | (go_at_call 12; refine (w12_in k (w1.heap.size + 1) w1.heap.size n n (f k) _ (by simp [World.cell?_alloc_past, hz3, hc3]) (by simp; omega) (by simp; omega) hk (by simp [World.cell?_alloc_past, show w1.heap.size < w3.heap.size from by omega, hd3])).mono ?_; rintro e w4 ⟨rfl, hB5⟩)
    | (refine wpList_copy_splice rfl (.tmp 36) (.tmp 37) 25 25 rfl 3 Try.underlying25 (by kernel_rfl) _ _ _ _ _ _ rfl rfl w.heap.size 0 (zerosA n) 3 (heap_alloc_new _ _) (rowA f n) (by simp [rowA_len]) (fun _ => ⟨rfl, x, rfl, hsrc⟩) (by simp [rowA_len, zerosA]) (rowA_one f n) w.heap.size w ((Below.refl _ _).alloc (Nat.le_refl _) _) (Nat.le_refl _) ?_; intro w1 HG hB1; have cw := copied HG.out; have hB2 : w.heap.size < w1.heap.size := lt_of_block HG.out))
  go_ret
  have s1 := hB1.size
  have s3 := hB3.size
  have s4 := hB4.size
  exact ⟨rfl, (((hB1.trans (hB3.mono (by omega))).trans (hB4.mono (by omega))).alloc (by omega) _).trans (hB5.mono (by simp; omega))⟩

set_option maxRecDepth 100000 in
set_option maxHeartbeats 1000000 in
theorem walk_up (up idx : Int) (x : Addr) (n c : Nat) (f : Nat → Int) (hn : n ≤ 131072) (hup : (up == 0) = false) (w : World) (hc : ∀ i, i < n → w.cell? (x.add i) = some (.int .i64 (f i))) :
    Calls Try.prog 5 #[.int .i64 up, .int .i64 idx, .slice (some x) n c] w fun e w' => e = .returned (.bool true) ∧ Below w.heap.size w w' := by
  have hmk := mk25 n hn
  have hsrc := src_row (.cells (zerosA n).toArray 3) hc
  clear hc
  go_enter Try.func5, Try.ntmps5
  go_wp2_with (first
    | (go_at_call 9; refine (w9 _ _ _ _ _ _ hn).mono ?_; rintro e w' ⟨rfl, rfl⟩)
    | (go_at_call 10; refine (w10 w.heap.size n f w1 hn (by omega) cw).mono ?_; rintro e w2 ⟨rfl, hr1, hr2, hB3⟩; clear hr1 hr2)
    | (go_at_call 11; refine (w11_out up idx _ hup).mono ?_; rintro e w3 ⟨rfl, hB4⟩)
    | (go_at_call 12; refine (w12_out (-1) (by omega) (w1.heap.size + 1) _).mono ?_; rintro e w4 ⟨rfl, hB5⟩)
    | (refine wpList_copy_splice rfl (.tmp 36) (.tmp 37) 25 25 rfl 3 Try.underlying25 (by kernel_rfl) _ _ _ _ _ _ rfl rfl w.heap.size 0 (zerosA n) 3 (heap_alloc_new _ _) (rowA f n) (by simp [rowA_len]) (fun _ => ⟨rfl, x, rfl, hsrc⟩) (by simp [rowA_len, zerosA]) (rowA_one f n) w.heap.size w ((Below.refl _ _).alloc (Nat.le_refl _) _) (Nat.le_refl _) ?_; intro w1 HG hB1; have cw := copied HG.out; have hB2 : w.heap.size < w1.heap.size := lt_of_block HG.out))
  go_ret
  have s1 := hB1.size
  have s3 := hB3.size
  have s4 := hB4.size
  exact ⟨rfl, (((hB1.trans (hB3.mono (by omega))).trans (hB4.mono (by omega))).alloc (by omega) _).trans (hB5.mono (by simp; omega))⟩

set_option maxRecDepth 100000 in
set_option maxHeartbeats 1000000 in
theorem walk_neg (idx : Int) (x : Addr) (n c : Nat) (f : Nat → Int) (hn : n ≤ 131072) (hidx : idx < 0) (w : World) (hc : ∀ i, i < n → w.cell? (x.add i) = some (.int .i64 (f i))) :
    Calls Try.prog 5 #[.int .i64 0, .int .i64 idx, .slice (some x) n c] w fun e w' => e = .returned (.bool true) ∧ Below w.heap.size w w' := by
  have hmk := mk25 n hn
  have hsrc := src_row (.cells (zerosA n).toArray 3) hc
  clear hc
  go_enter Try.func5, Try.ntmps5
  go_wp2_with (first
    | (go_at_call 9; refine (w9 _ _ _ _ _ _ hn).mono ?_; rintro e w' ⟨rfl, rfl⟩)
    | (go_at_call 10; refine (w10 w.heap.size n f w1 hn (by omega) cw).mono ?_; rintro e w2 ⟨rfl, hr1, hr2, hB3⟩; clear hr1 hr2)
    | (go_at_call 11; refine (w11_in idx _).mono ?_; rintro e w3 ⟨rfl, hB4⟩)
    | (go_at_call 12; refine (w12_out idx hidx (w1.heap.size + 1) _).mono ?_; rintro e w4 ⟨rfl, hB5⟩)
    | (refine wpList_copy_splice rfl (.tmp 36) (.tmp 37) 25 25 rfl 3 Try.underlying25 (by kernel_rfl) _ _ _ _ _ _ rfl rfl w.heap.size 0 (zerosA n) 3 (heap_alloc_new _ _) (rowA f n) (by simp [rowA_len]) (fun _ => ⟨rfl, x, rfl, hsrc⟩) (by simp [rowA_len, zerosA]) (rowA_one f n) w.heap.size w ((Below.refl _ _).alloc (Nat.le_refl _) _) (Nat.le_refl _) ?_; intro w1 HG hB1; have cw := copied HG.out; have hB2 : w.heap.size < w1.heap.size := lt_of_block HG.out))
  go_ret
  have s1 := hB1.size
  have s3 := hB3.size
  have s4 := hB4.size
  exact ⟨rfl, (((hB1.trans (hB3.mono (by omega))).trans (hB4.mono (by omega))).alloc (by omega) _).trans (hB5.mono (by simp; omega))⟩

set_option maxRecDepth 100000 in
set_option maxHeartbeats 1000000 in
theorem walk_up_nil (up idx : Int) (hup : (up == 0) = false) (w : World) :
    Calls Try.prog 5 #[.int .i64 up, .int .i64 idx, .slice none 0 0] w fun e w' => e = .returned (.bool true) ∧ Below w.heap.size w w' := by
  go_enter Try.func5, Try.ntmps5
  go_wp2_with (first
    | (go_at_call 9; refine (w9 _ _ _ _ _ _ (by omega)).mono ?_; rintro e w' ⟨rfl, rfl⟩)
    | (go_at_call 10; refine (w10_nil _).mono ?_; rintro e w2 ⟨rfl, hB3⟩)
    | (go_at_call 11; refine (w11_out up idx _ hup).mono ?_; rintro e w3 ⟨rfl, hB4⟩)
    | (go_at_call 12; refine (w12_out (-1) (by omega) (w.heap.size + 1) _).mono ?_; rintro e w4 ⟨rfl, hB5⟩))
  go_ret
  have s3 := hB3.size
  have s4 := hB4.size
  exact ⟨rfl, ((hB3.trans (hB4.mono (by omega))).alloc (by omega) _).trans (hB5.mono (by simp; omega))⟩

set_option maxRecDepth 100000 in
set_option maxHeartbeats 1000000 in
theorem walk_neg_nil (idx : Int) (hidx : idx < 0) (w : World) :
    Calls Try.prog 5 #[.int .i64 0, .int .i64 idx, .slice none 0 0] w fun e w' => e = .returned (.bool true) ∧ Below w.heap.size w w' := by
  go_enter Try.func5, Try.ntmps5
  go_wp2_with (first
    | (go_at_call 9; refine (w9 _ _ _ _ _ _ (by omega)).mono ?_; rintro e w' ⟨rfl, rfl⟩)
    | (go_at_call 10; refine (w10_nil _).mono ?_; rintro e w2 ⟨rfl, hB3⟩)
    | (go_at_call 11; refine (w11_in idx _).mono ?_; rintro e w3 ⟨rfl, hB4⟩)
    | (go_at_call 12; refine (w12_out idx hidx (w.heap.size + 1) _).mono ?_; rintro e w4 ⟨rfl, hB5⟩))
  go_ret
  have s3 := hB3.size
  have s4 := hB4.size
  exact ⟨rfl, ((hB3.trans (hB4.mono (by omega))).alloc (by omega) _).trans (hB5.mono (by simp; omega))⟩
end Go.Proofs.Qxb6616785a

import Derived.Test.Qxb6616867aWalksB
namespace Go.Proofs.Qxb6616867a
open Go.RowKit

set_option maxHeartbeats 1000000 in
set_option maxRecDepth 100000 in
theorem add_map (R m n c : Nat) (few dy : Value) (D : DataW Unit) (t : ByteArray) (w : World) (ht : t.size ≤ maxLen) (hn : n ≤ 1024) (hr : w.heap[R]? = some (rootC few (.map (some m)) dy)) (hown : w.ownsMap Try.prog 9 ptrElem m n D) :
    Calls Try.prog 18 #[.pointer (some ⟨R, 0, none⟩), .string t, .pointer (some ⟨c, 0, none⟩)] w fun e w' => e = .returned (.tuple #[]) ∧
      w'.ownsMap Try.prog 9 ptrElem m (n + 1) (D.put (keyD t) (valD c)) ∧ w.grownBy w' (some m) := by
  have hm := neq32
  have c1 : w.cell? ⟨R, 1, none⟩ = some (.map (some m)) := by rw [cell_of_row _ _ _ _ _ _ hr]; rfl
  have HO : Hid _ := hown
  clear hr hown
  go_enter Try.func18, Try.ntmps18
  go_wp2_with (at_mapUpdate; refine wpList_mapUpdate_own _ rfl _ _ _ 32 rfl 9 25 keyed9 Try.underlying32 _ m n _ rfl HO.out (by unfold maxLen; omega) _ _ _ rfl rfl (WideMaps.keyOf_string_mk Try.underlying9 ht) _ [] (ptrElem_some c) ?_; intro w1 hown1 hgrow1)
  go_end0
  exact ⟨rfl, hown1, hgrow1⟩

theorem mk32 (w : World) : (Instr.makeMap 32 (some (.int .i64 9))).run Try.prog w = .ok (.map (some w.heap.size)) (w.alloc (.map #[] 0)) := by kernel_rfl

/-- The world in which the map has just been made and laid into the root. -/
abbrev turned (w : World) (R : Nat) : World := (w.setCell ⟨R, 1, none⟩ (.map (some w.heap.size))).alloc (.map #[] 0)

theorem turned_facts (w : World) (R : Nat) (few dy : Value) (hr : w.heap[R]? = some (rootC few (.map none) dy)) :
    (turned w R).heap.size = w.heap.size + 1 ∧ (turned w R).ownsMap Try.prog 9 ptrElem w.heap.size 0 (mapD []) ∧ (turned w R).heap[R]? = some (rootC few (.map (some w.heap.size)) dy) ∧
      ∀ k, k < w.heap.size → k ≠ R → (turned w R).heap[k]? = w.heap[k]? := by
  have hRlt : R < w.heap.size := lt_of_block hr
  have hs : (w.setCell ⟨R, 1, none⟩ (.map (some w.heap.size))).heap.size = w.heap.size := by simp [World.setCell]
  refine ⟨by rw [World.size_alloc, hs], ?_, ?_, ?_⟩
  · have := World.ownsMap_made (w.setCell ⟨R, 1, none⟩ (.map (some w.heap.size))) Try.prog 9 ptrElem
    rw [hs] at this
    exact this
  · rw [heap_alloc_old _ _ (by rw [hs]; exact hRlt)]
    exact heap_setCell_same _ _ _ _ _ _ hr
  · intro k hk hne
    rw [heap_alloc_old _ _ (by rw [hs]; exact hk), heap_setCell_other _ _ _ _ hne]

theorem mapD_take {kids : Kids} {k : Nat} {x : ByteArray × Nat} (h : kids[k]? = some x) : mapD (kids.take (k + 1)) = (mapD (kids.take k)).put (keyD x.1) (valD x.2) := by
  obtain ⟨hk, e⟩ := List.getElem?_eq_some_iff.1 h
  rw [List.take_succ_eq_append_getElem hk, e, mapD_snoc]

set_option maxHeartbeats 2000000 in
set_option maxRecDepth 100000 in
theorem add_turn (R c cap : Nat) (s : Option Addr) (dy : Value) (kids : Kids) (t : ByteArray) (w : World) (ht : t.size ≤ maxLen) (hk8 : kids.length = 8) (hks : ∀ x ∈ kids, x.1.size ≤ maxLen)
    (hr : w.heap[R]? = some (rootC (.slice s 8 cap) (.map none) dy)) (hf : FewAt w s kids) (hfR : ∀ g, s = some ⟨g, 0, none⟩ → g ≠ R) :
    Calls Try.prog 18 #[.pointer (some ⟨R, 0, none⟩), .string t, .pointer (some ⟨c, 0, none⟩)] w fun e w' => e = .returned (.tuple #[]) ∧
      ∃ w2, w' = w2.setCell ⟨R, 0, none⟩ (.slice none 0 0) ∧ w2.ownsMap Try.prog 9 ptrElem w.heap.size 9 ((mapD kids).put (keyD t) (valD c)) ∧ (turned w R).grownBy w2 (some w.heap.size) := by
  have hm := neq32n
  have hmk := mk32
  have hRlt : R < w.heap.size := lt_of_block hr
  have c0 : w.cell? ⟨R, 0, none⟩ = some (.slice s 8 cap) := by rw [cell_of_row _ _ _ _ _ _ hr]; rfl
  have c1 : w.cell? ⟨R, 1, none⟩ = some (.map none) := by rw [cell_of_row _ _ _ _ _ _ hr]; rfl
  have f1 : w.frozen? ⟨R, 1, none⟩ = false := frozen_of_row w R 1 _ _ hr
  have HT : Hid _ := turned_facts w R _ _ hr
  have HF : Hid (FewAt w s kids) := hf
  have HFR : Hid (∀ g, s = some ⟨g, 0, none⟩ → g ≠ R) := hfR
  have HKS : Hid (∀ x ∈ kids, x.1.size ≤ maxLen) := hks
  have HK8 : Hid (kids.length = 8) := hk8
  clear hr hf hfR hks hk8
  go_enter Try.func18, Try.ntmps18
  go_wp2
  go_loopw [23] (fun i wr => ∃ k : Nat, k ≤ 8 ∧ i = .int .i64 k ∧ wr.ownsMap Try.prog 9 ptrElem w.heap.size k (mapD (kids.take k)) ∧ (turned w R).grownBy wr (some w.heap.size)) (fun i _ => 8 - (intOf i).toNat)
  case atStart => exact ⟨0, Nat.zero_le _, rfl, HT.out.2.1, World.grownBy.refl _ _⟩
  case round =>
    obtain ⟨k, hk, rfl, hown, hgr⟩ := hrel
    have hrw : wr.heap[R]? = some (rootC (.slice s 8 cap) (.map (some w.heap.size)) dy) := (hgr.block R (by rw [HT.out.1]; omega) (by simp; omega)).trans HT.out.2.2.1
    have d1 : wr.cell? ⟨R, 1, none⟩ = some (.map (some w.heap.size)) := by rw [cell_of_row _ _ _ _ _ _ hrw]; rfl
    have hsz : w.heap.size + 1 ≤ wr.heap.size := by have := hgr.size; rw [HT.out.1] at this; exact this
    have HO : Hid (wr.ownsMap Try.prog 9 ptrElem w.heap.size k (mapD (kids.take k))) := hown
    have HG : Hid ((turned w R).grownBy wr (some w.heap.size)) := hgr
    have HRW : Hid (wr.heap[R]? = some (rootC (.slice s 8 cap) (.map (some w.heap.size)) dy)) := hrw
    clear hown hgr hrw
    by_cases hlt : k < 8
    · obtain ⟨x, hx⟩ : ∃ x, kids[k]? = some x := ⟨kids[k]'(by rw [HK8.out]; exact hlt), List.getElem?_eq_getElem _⟩
      obtain ⟨g, hs, a0, a1⟩ := HF.out k x hx
      have hg : g < w.heap.size := World.block_lt_of_cell? w _ a0
      have hgR := HFR.out g hs
      have hgb : wr.heap[g]? = w.heap[g]? := (HG.out.block g (by rw [HT.out.1]; omega) (by simp; omega)).trans (HT.out.2.2.2 g hg hgR)
      have b0 : wr.cell? ⟨g, k * 2, none⟩ = some (.string x.1) := (World.cell?_of_block (a := ⟨g, k * 2, none⟩) hgb).trans a0
      have b1 : wr.cell? ⟨g, k * 2 + 1, none⟩ = some (.pointer (some ⟨x.2, 0, none⟩)) := (World.cell?_of_block (a := ⟨g, k * 2 + 1, none⟩) hgb).trans a1
      obtain ⟨w2, hrun, hown2, hgr2⟩ := (HO.out.alloc (.cells #[.string x.1, .pointer (some ⟨x.2, 0, none⟩)] 48)).drew.update keyed9 Try.underlying32 (by unfold maxLen; omega) (key := .string x.1) (val := .pointer (some ⟨x.2, 0, none⟩)) (WideMaps.keyOf_string_mk Try.underlying9 (HKS.out x (List.mem_of_getElem? hx))) (ptrElem_some x.2)
      have HX : Hid (kids[k]? = some x) := hx
      have HO2 : Hid _ := hown2
      have HG2 : Hid _ := hgr2
      have hRw : R < wr.heap.size := by omega
      subst hs
      clear hx a0 a1 hgb hgR hown2 hgr2
      go_wp2
      go_region
      go_wp2
      go_roundw
      case rel =>
        refine ⟨k + 1, by omega, by go_num, ?_, ?_⟩
        · rw [mapD_take HX.out]; exact HO2.out
        · exact HG.out.trans (World.grownBy_alloc wr (.cells #[.string x.1, .pointer (some ⟨x.2, 0, none⟩)] 48) (some w.heap.size)) |>.trans ⟨HG2.out.os, HG2.out.tape, HG2.out.output, HG2.out.size, HG2.out.block⟩
      case measure => simp [intOf]; omega
    · obtain rfl : k = 8 := by omega
      have e8 : kids.take 8 = kids := List.take_of_length_le (by rw [HK8.out]; exact Nat.le_refl _)
      have HE8 : Hid (kids.take 8 = kids) := e8
      have hRw : R < wr.heap.size := by omega
      clear e8
      go_wp2_with (at_mapUpdate; refine wpList_mapUpdate_own _ rfl _ _ _ 32 rfl 9 25 keyed9 Try.underlying32 _ w.heap.size 8 _ rfl HO.out (by unfold maxLen; omega) _ _ _ rfl rfl (WideMaps.keyOf_string_mk Try.underlying9 ht) _ [] (ptrElem_some c) ?_; intro w2 hown1 hgrow1; have hrr := (hgrow1.block R hRw (by simp; omega)).trans HRW.out; have g0 : w2.cell? ⟨R, 0, none⟩ = some (.slice s 8 cap) := (by rw [cell_of_row w2 R 0 _ _ _ hrr]; rfl); have g1 := frozen_of_row w2 R 0 _ _ hrr; have HO1 : Hid _ := hown1; have HG1 : Hid _ := hgrow1; clear hown1 hgrow1 hrr)
      go_end0
      refine ⟨rfl, w2, rfl, ?_, HG.out.trans HG1.out⟩
      have := HO1.out
      rw [HE8.out] at this
      exact this
end Go.Proofs.Qxb6616867a

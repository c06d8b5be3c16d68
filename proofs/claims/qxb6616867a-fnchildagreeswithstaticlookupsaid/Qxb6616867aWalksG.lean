import Derived.Test.Qxb6616867aWalksF
import Derived.Deep.RegionWith
import Derived.LaidEqlPtr
namespace Go.Proofs.Qxb6616867a
open Go.RowKit

theorem Inv.set25 {w : World} {R base B a : Nat} {dyn : Option Nat} {kids : Kids} {cs : Array Value} {fr : Nat × Nat} (h : Inv w R base dyn kids) (hB : w.heap[B]? = some (.cells cs 25 fr)) (v : Value) : Inv (w.setCell ⟨B, a, none⟩ v) R base dyn kids := by
  have kp : ∀ (k : Nat) (cs' : Array Value) (fr' : Nat × Nat), w.heap[k]? = some (Obj.cells cs' 42 fr') → (w.setCell ⟨B, a, none⟩ v).heap[k]? = some (Obj.cells cs' 42 fr') := by
    intro k cs' fr' hk
    have hne : k ≠ B := by
      intro e
      subst e
      rw [hB] at hk
      simp at hk
    rw [heap_setCell_other _ _ _ _ hne]
    exact hk
  obtain ⟨few, mp, hr, hh⟩ := h.root
  refine ⟨⟨few, mp, kp _ _ _ hr, ?_⟩, h.baseR, fun c hc => ⟨kp _ _ _ (h.leafD c hc).1, (h.leafD c hc).2⟩, fun x hx => ⟨kp _ _ _ (h.leafK x hx).1, (h.leafK x hx).2⟩, h.texts, h.blocks, h.apart, h.sizes⟩
  rcases hh with ⟨h1, h2, h3⟩ | ⟨h1, h2, m, h3, h4, h5⟩
  · exact .inl ⟨h1, h2, owns_set h3 (own_ne' h3 hB (by decide))⟩
  · have hmB : m ≠ B := by
      intro e
      obtain ⟨es, clock, hb, _⟩ := h5
      rw [e, hB] at hb
      simp at hb
    exact .inr ⟨h1, h2, m, h3, h4, h5.setCell (a := ⟨B, a, none⟩) hmB _⟩

theorem info42 : (Try.prog.info? 42).map (fun i => i.size) = some 5 := by kernel_rfl
theorem eqPtr {w : World} {a b : Nat} {ca cb : Array Value} {ta tb : TypeId} (ha : w.heap[a]? = some (.cells ca ta (0, 0))) (hb : w.heap[b]? = some (.cells cb tb (0, 0))) :
    (binOp .eql 25 (.pointer (some ⟨a, 0, none⟩)) (.pointer (some ⟨b, 0, none⟩))).run Try.prog w = .ok (.bool (decide (a = b))) w := by
  obtain ⟨j, hj, hs⟩ := Option.map_eq_some_iff.1 info42
  by_cases e : a = b
  · subst e
    rw [run_eql_ptr_same w ⟨a, 0, none⟩ Try.underlying25 hj]
    simp
  · rw [run_eql_ptr_other w Try.underlying25 hj (by rw [hs]; decide) (fun h => e (congrArg Addr.block h)) ha hb]
    simp [e]
theorem neqSame (a : Nat) (w : World) : (binOp .neq 25 (.pointer (some ⟨a, 0, none⟩)) (.pointer (some ⟨a, 0, none⟩))).run Try.prog w = .ok (.bool false) w := by
  obtain ⟨j, hj, hs⟩ := Option.map_eq_some_iff.1 info42
  have h : ∀ d : Nat, (Op.equalIn (d + 1) 25 (.pointer (some ⟨a, 0, none⟩)) (.pointer (some ⟨a, 0, none⟩))).run Try.prog w = .ok true w := fun d => by
    simp [Op.equalIn, run_underlying Try.underlying25, sizeOf, typeInfo, hj, run_sameAddr_same]
  simp only [binOp]
  simp [Op.equal, Op.maxDepth, h 9999]

/-- A node that was handed out. -/
theorem leaf_of {T : Nat → ByteArray} {P : Nat → Bool} {w : World} {R base n i : Nat} {g : Nat → Nat} {dyn : Option Nat} {kids : Kids} (h : Inv w R base dyn kids) (hg : Good T P n g dyn kids) (hi : i < n) : w.heap[g i]? = some leafC ∧ base ≤ g i ∧ g i ≠ R := by
  cases hp : P i with
  | true => exact h.leafD _ (hg.dy i hi hp)
  | false => exact h.leafK _ (look_mem (hg.st i hi hp))
/-- Two answers are one node just where the askings are the same. -/
theorem same_iff {T : Nat → ByteArray} {P : Nat → Bool} {w : World} {R base n i j : Nat} {g : Nat → Nat} {dyn : Option Nat} {kids : Kids} (h : Inv w R base dyn kids) (hg : Good T P n g dyn kids) (hi : i < n) (hj : j < n) :
    (g j = g i) ↔ (P i = P j ∧ (P i = true ∨ T i = T j)) := by
  cases hpi : P i with
  | true =>
    have d1 := hg.dy i hi hpi
    cases hpj : P j with
    | true =>
      have d2 := hg.dy j hj hpj
      rw [d1] at d2
      simp at d2 ⊢
      exact d2.symm
    | false =>
      have m := look_mem (hg.st j hj hpj)
      have := h.apart _ d1 _ m
      simp at this ⊢
      exact this
  | false =>
    have l1 := hg.st i hi hpi
    cases hpj : P j with
    | true =>
      have d2 := hg.dy j hj hpj
      have := h.apart _ d2 _ (look_mem l1)
      simp at this ⊢
      exact fun e => this e.symm
    | false =>
      have l2 := hg.st j hj hpj
      simp
      constructor
      · intro e
        rw [e] at l2
        exact look_inj h.blocks l1 l2
      · intro e
        rw [e, l2] at l1
        exact Option.some.inj l1

/-- What a round of 'got[i] = child(..)' leaves. -/
theorem round_got {T : Nat → ByteArray} {P : Nat → Bool} {w wr w1 : World} {g : Nat → Nat} {n k c : Nat} {dyn dyn' : Option Nat} {kids kids' : Kids} (hGood : Good T P k g dyn kids) (hbel : Below w.heap.size w wr)
    (h : Step wr.drew.heap.size dyn kids (T k) (P k) c dyn' kids' ∧ Inv w1 w.heap.size w.heap.size dyn' kids' ∧ Grows w.heap.size w.heap.size wr.drew w1 ∧ w1.heap[w.heap.size + 1]? = some (.cells (gotA g n k) 25 (0, 0))) :
    Inv (w1.setCell ⟨w.heap.size + 1, k, none⟩ (.pointer (some ⟨c, 0, none⟩))) w.heap.size w.heap.size dyn' kids' ∧
      (w1.setCell ⟨w.heap.size + 1, k, none⟩ (.pointer (some ⟨c, 0, none⟩))).heap[w.heap.size + 1]? = some (.cells (gotA (fun i => if i = k then c else g i) n (k + 1)) 25 (0, 0)) ∧
      Good T P (k + 1) (fun i => if i = k then c else g i) dyn' kids' ∧ Below w.heap.size w (w1.setCell ⟨w.heap.size + 1, k, none⟩ (.pointer (some ⟨c, 0, none⟩))) := by
  obtain ⟨hS, hI, hG, hgot⟩ := h
  refine ⟨hI.set25 hgot _, ?_, hGood.step hS, ?_⟩
  · rw [heap_setCell_same _ _ _ _ _ _ hgot, gotA_set]
  · exact (hbel.drew.trans hG.below).setCell (p := ⟨w.heap.size + 1, k, none⟩) (by show w.heap.size ≤ w.heap.size + 1; omega) _

theorem got_after {w0 wr w1 : World} {g : Nat → Nat} {n k : Nat} (hgot : wr.heap[w0.heap.size + 1]? = some (.cells (gotA g n k) 25 (0, 0))) (hG : Grows w0.heap.size w0.heap.size wr.drew w1) (hk : k < n) :
    w1.heap[w0.heap.size + 1]? = some (.cells (gotA g n k) 25 (0, 0)) ∧ w1.cell? ⟨w0.heap.size + 1, k, none⟩ = some (.pointer none) ∧ w1.frozen? ⟨w0.heap.size + 1, k, none⟩ = false := by
  have h := hG.keep (w0.heap.size + 1) _ 25 _ hgot (by decide) (by omega)
  refine ⟨h, ?_, frozen_of_row _ _ _ _ _ h⟩
  rw [cell_of_row _ _ _ _ _ _ h, gotA_get _ _ _ _ hk, if_neg (by omega)]


/-! The node's fields. -/
theorem w8 (c : Nat) (p : Option Addr) (w : World) (h : w.cell? ⟨c, 2, none⟩ = some (.pointer p)) : Calls Try.prog 8 #[.pointer (some ⟨c, 0, none⟩)] w fun e w' => e = .returned (.pointer p) ∧ w = w' := by
  go_enter Try.func8, Try.ntmps8
  go_wp2
  go_ret
  exact ⟨rfl, rfl⟩
theorem w9 (c : Nat) (s : Option Addr) (n k : Nat) (w : World) (h : w.cell? ⟨c, 0, none⟩ = some (.slice s n k)) : Calls Try.prog 9 #[.pointer (some ⟨c, 0, none⟩)] w fun e w' => e = .returned (.slice s n k) ∧ w = w' := by
  go_enter Try.func9, Try.ntmps9
  go_wp2
  go_ret
  exact ⟨rfl, rfl⟩
theorem w10 (c : Nat) (m : Option Nat) (w : World) (h : w.cell? ⟨c, 1, none⟩ = some (.map m)) : Calls Try.prog 10 #[.pointer (some ⟨c, 0, none⟩)] w fun e w' => e = .returned (.map m) ∧ w = w' := by
  go_enter Try.func10, Try.ntmps10
  go_wp2
  go_ret
  exact ⟨rfl, rfl⟩
theorem w11 (c : Nat) (s : Option Addr) (n k : Nat) (w : World) (h : w.cell? ⟨c, 3, none⟩ = some (.slice s n k)) : Calls Try.prog 11 #[.pointer (some ⟨c, 0, none⟩)] w fun e w' => e = .returned (.slice s n k) ∧ w = w' := by
  go_enter Try.func11, Try.ntmps11
  go_wp2
  go_ret
  exact ⟨rfl, rfl⟩
theorem w12 (c : Nat) (s : Option Addr) (n k : Nat) (w : World) (h : w.cell? ⟨c, 4, none⟩ = some (.slice s n k)) : Calls Try.prog 12 #[.pointer (some ⟨c, 0, none⟩)] w fun e w' => e = .returned (.slice s n k) ∧ w = w' := by
  go_enter Try.func12, Try.ntmps12
  go_wp2
  go_ret
  exact ⟨rfl, rfl⟩
end Go.Proofs.Qxb6616867a

import Derived.Test.Qxb6616867aWalksA
namespace Go.Proofs.Qxb6616867a
open Go.RowKit

/-- The cells of the children, in the list of few. -/
def kidCells (kids : Kids) : List Value := kids.flatMap fun x => [.string x.1, .pointer (some ⟨x.2, 0, none⟩)]
theorem kidCells_snoc (kids : Kids) (t : ByteArray) (c : Nat) : kidCells (kids ++ [(t, c)]) = kidCells kids ++ [.string t, .pointer (some ⟨c, 0, none⟩)] := by simp [kidCells]
theorem kidCells_len (kids : Kids) : (kidCells kids).length = kids.length * 2 := by
  induction kids with
  | nil => rfl
  | cons x r ih => simp [kidCells] at ih ⊢; omega
theorem kidCells_get (kids : Kids) (k : Nat) (x : ByteArray × Nat) (h : kids[k]? = some x) : (kidCells kids)[k * 2]? = some (.string x.1) ∧ (kidCells kids)[k * 2 + 1]? = some (.pointer (some ⟨x.2, 0, none⟩)) := by
  induction kids generalizing k with
  | nil => simp at h
  | cons y r ih =>
    cases k with
    | zero => simp at h; subst h; simp [kidCells]
    | succ k =>
      have := ih k (by simpa using h)
      have e : kidCells (y :: r) = .string y.1 :: .pointer (some ⟨y.2, 0, none⟩) :: kidCells r := by simp [kidCells]
      rw [e, show (k + 1) * 2 = k * 2 + 1 + 1 by omega]
      simpa using this

theorem owns_shape {w : World} {base e size n : Nat} {v : Value} {xs : List Value} (h : w.ownsRow base e size v n xs) : ∃ s cap, v = .slice s n cap := by
  rcases h.2 with ⟨rfl, rfl⟩ | ⟨g, cap, cur, rfl, _⟩
  · exact ⟨_, _, rfl⟩
  · exact ⟨_, _, rfl⟩
theorem few_at {w : World} {base : Nat} {s : Option Addr} {cap : Nat} {kids : Kids} (h : w.ownsRow base 48 2 (.slice s kids.length cap) kids.length (kidCells kids)) : FewAt w s kids := by
  intro k x hk
  have hlt : k < kids.length := (List.getElem?_eq_some_iff.1 hk).1
  have hsh : ∃ g, s = some ⟨g, 0, none⟩ := by
    rcases h.2 with ⟨_, h0⟩ | ⟨g, cap', cur, hv, _⟩
    · omega
    · simp at hv; exact ⟨g, hv.1⟩
  obtain ⟨g, rfl⟩ := hsh
  obtain ⟨h0, h1⟩ := kidCells_get kids k x hk
  exact ⟨g, rfl, (h.cellAt (k * 2) (by omega)).trans h0, (h.cellAt (k * 2 + 1) (by omega)).trans h1⟩

theorem info48 : (Try.prog.info? 48).map (fun i => (i.zero, i.size, i.bytes)) = some (some (.agg #[.string ⟨#[]⟩, .pointer none]), 2, 24) := by kernel_rfl

/-- The root's block. -/
abbrev rootC (few mp dy : Value) : Obj := .cells #[few, mp, dy, .slice none 0 0, .slice none 0 0] 42 (0, 0)

theorem own_ne {w : World} {base R n : Nat} {v few mp dy : Value} {xs : List Value} (h : w.ownsRow base 48 2 v n xs) (hr : w.heap[R]? = some (rootC few mp dy)) : some R ≠ v.ownBlock := by
  rcases h.2 with ⟨rfl, _⟩ | ⟨g, cap, cur, rfl, _, hg, _⟩
  · simp [Value.ownBlock]
  · intro e
    simp [Value.ownBlock] at e
    subst e
    rw [hr] at hg
    simp at hg

theorem one_two (t : ByteArray) (c : Nat) : ∀ u ∈ [Value.string t, Value.pointer (some ⟨c, 0, none⟩)], u.oneCell' = true := by
  intro u hu
  simp at hu
  rcases hu with rfl | rfl <;> rfl

set_option maxHeartbeats 1000000 in
set_option maxRecDepth 100000 in
theorem add_few (R base n c : Nat) (few dy : Value) (xs : List Value) (t : ByteArray) (w : World) (hn : n < 8) (hbase : base ≤ w.heap.size) (hr : w.heap[R]? = some (rootC few (.map none) dy)) (hown : w.ownsRow base 48 2 few n xs) :
    Calls Try.prog 18 #[.pointer (some ⟨R, 0, none⟩), .string t, .pointer (some ⟨c, 0, none⟩)] w fun e w' => e = .returned (.tuple #[]) ∧
      ∃ v' w1, w' = w1.setCell ⟨R, 0, none⟩ v' ∧ w1.ownsRow base 48 2 v' (n + 1) (xs ++ [.string t, .pointer (some ⟨c, 0, none⟩)]) ∧ (w.alloc (.cells #[.string t, .pointer (some ⟨c, 0, none⟩)] 48)).grownBy w1 few.ownBlock := by
  have hm := neq32n
  obtain ⟨i0, hi, hz0, hz1, hz2⟩ := info_parts info48
  have hRlt : R < w.heap.size := lt_of_block hr
  have c0 : w.cell? ⟨R, 0, none⟩ = some few := by rw [cell_of_row _ _ _ _ _ _ hr]; rfl
  have c1 : w.cell? ⟨R, 1, none⟩ = some (.map none) := by rw [cell_of_row _ _ _ _ _ _ hr]; rfl
  have hr1 : (w.alloc (.cells #[.string t, .pointer (some ⟨c, 0, none⟩)] 48)).heap[R]? = some (rootC few (.map none) dy) := (heap_alloc_old _ _ hRlt).trans hr
  have hne := own_ne hown hr
  obtain ⟨s, cap, rfl⟩ := owns_shape hown
  have hown1 := hown.alloc (.cells #[.string t, .pointer (some ⟨c, 0, none⟩)] 48)
  have HO : Hid _ := hown1
  have HR : Hid _ := hr1
  have HN : Hid _ := hne
  clear hown1 hr1 hne hr hown
  go_enter Try.func18, Try.ntmps18
  go_wp2_with (at_builtin; refine wpList_append_own _ rfl _ _ 30 rfl base 48 i0 (.agg #[.string ⟨#[]⟩, .pointer none]) 2 24 Try.underlying30 hi hz0 hz1 hz2 rfl (by decide) _ _ _ rfl HO.out ⟨w.heap.size, 0, none⟩ 1 1 [.string t, .pointer (some ⟨c, 0, none⟩)] rfl rfl (cell_two_new _ _ _ _) (one_two t c) (by unfold maxLen; omega) (by omega) (by simp; omega) ?_; intro v' w1 hown' hgrow hnil; have hrr := (hgrow.block R (by simp; omega) HN.out).trans HR.out; have e0 : w1.cell? ⟨R, 0, none⟩ = some (.slice s n cap) := (by rw [cell_of_row w1 R 0 _ _ _ hrr]; rfl); have f0 := frozen_of_row w1 R 0 _ _ hrr; obtain ⟨s', cap', hv⟩ := owns_shape hown'; subst hv; have HO' : Hid _ := hown'; have HG : Hid _ := hgrow; clear hown' hgrow hnil hrr)
  go_end0
  exact ⟨rfl, _, w1, rfl, HO'.out, HG.out⟩
end Go.Proofs.Qxb6616867a

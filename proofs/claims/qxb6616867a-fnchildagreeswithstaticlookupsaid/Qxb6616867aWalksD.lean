import Derived.Test.Qxb6616867aWalksC
namespace Go.Proofs.Qxb6616867a
open Go.RowKit

/-- A node without anything. -/
abbrev leafC : Obj := .cells #[.slice none 0 0, .map none, .pointer none, .slice none 0 0, .slice none 0 0] 42 (0, 0)

/-- Where the children lie. -/
def Held (w : World) (base : Nat) (few mp : Value) (kids : Kids) : Prop :=
  (kids.length ≤ 8 ∧ mp = .map none ∧ w.ownsRow base 48 2 few kids.length (kidCells kids)) ∨
  (8 < kids.length ∧ few = .slice none 0 0 ∧ ∃ m, mp = .map (some m) ∧ base ≤ m ∧ w.ownsMap Try.prog 9 ptrElem m kids.length (mapD kids))

structure Inv (w : World) (R base : Nat) (dyn : Option Nat) (kids : Kids) : Prop where
  root : ∃ few mp, w.heap[R]? = some (rootC few mp (ptrO dyn)) ∧ Held w base few mp kids
  baseR : base ≤ R
  leafD : ∀ c, dyn = some c → w.heap[c]? = some leafC ∧ base ≤ c ∧ c ≠ R
  leafK : ∀ x ∈ kids, w.heap[x.2]? = some leafC ∧ base ≤ x.2 ∧ x.2 ≠ R
  texts : (kids.map (·.1)).Nodup
  blocks : (kids.map (·.2)).Nodup
  apart : ∀ c, dyn = some c → ∀ x ∈ kids, x.2 ≠ c
  sizes : ∀ x ∈ kids, x.1.size ≤ maxLen

structure Grows (base R : Nat) (w w' : World) : Prop where
  below : Below base w w'
  keep : ∀ k cs t fr, w.heap[k]? = some (.cells cs t fr) → t ≠ 48 → k ≠ R → w'.heap[k]? = some (.cells cs t fr)

theorem Grows.refl (base R : Nat) (w : World) : Grows base R w w := ⟨Below.refl _ _, fun _ _ _ _ h _ _ => h⟩
theorem Grows.trans {base R : Nat} {a b c : World} (h : Grows base R a b) (k : Grows base R b c) : Grows base R a c :=
  ⟨h.below.trans k.below, fun i cs t fr h1 h2 h3 => k.keep i cs t fr (h.keep i cs t fr h1 h2 h3) h2 h3⟩
theorem Grows.of_below {base R : Nat} {w w' : World} (h : Below w.heap.size w w') (hb : base ≤ w.heap.size) : Grows base R w w' :=
  ⟨h.mono hb, fun k _ _ _ h1 _ _ => (h.block k (lt_of_block h1)).trans h1⟩
theorem grown_of_below {w w' : World} (h : Below w.heap.size w w') : w.grownBy w' none := ⟨h.os, h.tape, h.output, h.size, fun k hk _ => h.block k hk⟩

theorem own_ne' {w : World} {base n k t : Nat} {fr : Nat × Nat} {cs : Array Value} {v : Value} {xs : List Value} (h : w.ownsRow base 48 2 v n xs) (hr : w.heap[k]? = some (.cells cs t fr)) (ht : t ≠ 48) : some k ≠ v.ownBlock := by
  rcases h.2 with ⟨rfl, _⟩ | ⟨g, cap, cur, rfl, _, hg, _⟩
  · simp [Value.ownBlock]
  · intro e
    simp [Value.ownBlock] at e
    subst e
    rw [hr] at hg
    simp at hg
    exact ht hg.2.1
theorem own_base {w : World} {base n k : Nat} {v : Value} {xs : List Value} (h : w.ownsRow base 48 2 v n xs) (e : v.ownBlock = some k) : base ≤ k := by
  rcases h.2 with ⟨rfl, _⟩ | ⟨g, cap, cur, rfl, hb, _⟩
  · simp [Value.ownBlock] at e
  · simp [Value.ownBlock] at e
    subst e
    exact hb
theorem owns_set {w : World} {base n R : Nat} {v u : Value} {xs : List Value} {a : Nat} (h : w.ownsRow base 48 2 v n xs) (hne : some R ≠ v.ownBlock) : (w.setCell ⟨R, a, none⟩ u).ownsRow base 48 2 v n xs := by
  obtain ⟨h1, h2⟩ := h
  refine ⟨h1, ?_⟩
  rcases h2 with h2 | ⟨g, cap, cur, hv, hb, hg, r⟩
  · exact .inl h2
  · subst hv
    have hgR : g ≠ R := fun e => hne (by simp [Value.ownBlock, e])
    exact .inr ⟨g, cap, cur, rfl, hb, (heap_setCell_other _ _ _ _ hgR).trans hg, r⟩

theorem Held.ext {w w' : World} {base : Nat} {few mp : Value} {kids : Kids} (h : Held w base few mp kids) (hb : Below w.heap.size w w') : Held w' base few mp kids := by
  rcases h with ⟨h1, h2, h3⟩ | ⟨h1, h2, m, h3, h4, h5⟩
  · exact .inl ⟨h1, h2, h3.kept (grown_of_below hb) (Classical.em _)⟩
  · exact .inr ⟨h1, h2, m, h3, h4, h5.kept (grown_of_below hb) (by simp)⟩
theorem Inv.ext {w w' : World} {R base : Nat} {dyn : Option Nat} {kids : Kids} (h : Inv w R base dyn kids) (hb : Below w.heap.size w w') : Inv w' R base dyn kids := by
  obtain ⟨few, mp, hr, hh⟩ := h.root
  have kp : ∀ k o, w.heap[k]? = some o → w'.heap[k]? = some o := fun k o ho => (hb.block k (lt_of_block ho)).trans ho
  exact ⟨⟨few, mp, kp _ _ hr, hh.ext hb⟩, h.baseR, fun c hc => ⟨kp _ _ (h.leafD c hc).1, (h.leafD c hc).2⟩, fun x hx => ⟨kp _ _ (h.leafK x hx).1, (h.leafK x hx).2⟩, h.texts, h.blocks, h.apart, h.sizes⟩

/-- get, whatever the children lie in. -/
theorem get_inv {R base : Nat} {dyn : Option Nat} {kids : Kids} {t : ByteArray} {w : World} (h : Inv w R base dyn kids) (ht : t.size ≤ maxLen) :
    Calls Try.prog 17 #[.pointer (some ⟨R, 0, none⟩), .string t] w fun e w' => e = .returned (ptrO (look kids t)) ∧ Below w.heap.size w w' := by
  obtain ⟨few, mp, hr, hh⟩ := h.root
  rcases hh with ⟨h1, rfl, h3⟩ | ⟨h1, rfl, m, rfl, h4, h5⟩
  · obtain ⟨s, cap, rfl⟩ := owns_shape h3
    exact get_few R s cap kids t w h1 (by rw [cell_of_row _ _ _ _ _ _ hr]; rfl) (by rw [cell_of_row _ _ _ _ _ _ hr]; rfl) (few_at h3)
  · exact get_map R m kids.length kids t w ht (by rw [cell_of_row _ _ _ _ _ _ hr]; rfl) h5 h.texts

/-- add: the children with one more. -/
theorem add_inv {R base c : Nat} {dyn : Option Nat} {kids : Kids} {t : ByteArray} {w : World} (h : Inv w R base dyn kids) (ht : t.size ≤ maxLen) (hn : kids.length ≤ 1024) (hbase : base ≤ w.heap.size)
    (hl : look kids t = none) (hc : w.heap[c]? = some leafC) (hcb : base ≤ c) (hcR : c ≠ R) (hcK : ∀ x ∈ kids, x.2 ≠ c) (hcD : dyn ≠ some c) :
    Calls Try.prog 18 #[.pointer (some ⟨R, 0, none⟩), .string t, .pointer (some ⟨c, 0, none⟩)] w fun e w' => e = .returned (.tuple #[]) ∧ Inv w' R base dyn (kids ++ [(t, c)]) ∧ Grows base R w w' := by
  have fin : ∀ w', Grows base R w w' → (∃ few mp, w'.heap[R]? = some (rootC few mp (ptrO dyn)) ∧ Held w' base few mp (kids ++ [(t, c)])) → Inv w' R base dyn (kids ++ [(t, c)]) := by
    intro w' hg hroot
    refine ⟨hroot, h.baseR, fun d hd => ⟨hg.keep _ _ _ _ (h.leafD d hd).1 (by decide) (h.leafD d hd).2.2, (h.leafD d hd).2⟩, ?_, ?_, ?_, ?_, ?_⟩
    · intro x hx
      rcases List.mem_append.1 hx with hx | hx
      · exact ⟨hg.keep _ _ _ _ (h.leafK x hx).1 (by decide) (h.leafK x hx).2.2, (h.leafK x hx).2⟩
      · obtain rfl := List.mem_singleton.1 hx
        exact ⟨hg.keep _ _ _ _ hc (by decide) hcR, hcb, hcR⟩
    · rw [List.map_append, List.nodup_append]
      refine ⟨h.texts, by simp, ?_⟩
      intro a ha b hb e
      simp at hb
      obtain ⟨x, hx, rfl⟩ := List.mem_map.1 ha
      exact look_none hl x hx (by rw [e, hb])
    · rw [List.map_append, List.nodup_append]
      refine ⟨h.blocks, by simp, ?_⟩
      intro a ha b hb e
      simp at hb
      obtain ⟨x, hx, rfl⟩ := List.mem_map.1 ha
      exact hcK x hx (by rw [e, hb])
    · intro d hd x hx
      rcases List.mem_append.1 hx with hx | hx
      · exact h.apart d hd x hx
      · obtain rfl := List.mem_singleton.1 hx
        intro e
        exact hcD (by rw [hd, ← e])
    · intro x hx
      rcases List.mem_append.1 hx with hx | hx
      · exact h.sizes x hx
      · obtain rfl := List.mem_singleton.1 hx
        exact ht
  obtain ⟨few, mp, hr, hh⟩ := h.root
  have hRlt : R < w.heap.size := lt_of_block hr
  have hbR := h.baseR
  rcases hh with ⟨h1, rfl, h3⟩ | ⟨h1, rfl, m, rfl, h4, h5⟩
  · by_cases h8 : kids.length < 8
    · refine (add_few R base kids.length c few (ptrO dyn) (kidCells kids) t w h8 hbase hr h3).mono fun e w' ⟨he, v', w1, hw, hown, hgr⟩ => ?_
      have hz1 : (w.alloc (.cells #[.string t, .pointer (some ⟨c, 0, none⟩)] 48)).heap.size = w.heap.size + 1 := World.size_alloc _ _
      have hr1 : w1.heap[R]? = some (rootC few (.map none) (ptrO dyn)) := (hgr.block R (by omega) (own_ne h3 hr)).trans ((heap_alloc_old _ _ hRlt).trans hr)
      have hg : Grows base R w w' := by
        subst hw
        refine ⟨(((Below.refl base w).alloc hbase _).grown hgr (by omega) (fun k hk => own_base h3 hk)).setCell hbR _, ?_⟩
        intro k cs ty fr hk hty hkR
        rw [heap_setCell_other _ _ _ _ hkR, hgr.block k (by have := lt_of_block hk; omega) (own_ne' h3 hk hty), heap_alloc_old _ _ (lt_of_block hk)]
        exact hk
      refine ⟨he, fin w' hg ⟨v', .map none, ?_, .inl ⟨by simp; omega, rfl, ?_⟩⟩, hg⟩
      · subst hw
        exact heap_setCell_same _ _ _ _ _ _ hr1
      · subst hw
        rw [kidCells_snoc]
        have := owns_set (a := 0) (u := v') hown (own_ne hown hr1)
        simpa using this
    · have e8 : kids.length = 8 := by omega
      obtain ⟨s, cap, rfl⟩ := owns_shape h3
      have hfR : ∀ g, s = some ⟨g, 0, none⟩ → g ≠ R := by
        intro g hs e
        have := own_ne h3 hr
        subst hs
        exact this (by simp [Value.ownBlock, e])
      have hTF := turned_facts w R _ _ hr
      rw [e8] at hr
      refine (add_turn R c cap s (ptrO dyn) kids t w ht e8 h.sizes hr (few_at h3) hfR).mono fun e w' ⟨he, w2, hw, hown, hgr⟩ => ?_
      have hg : Grows base R w w' := by
        subst hw
        refine ⟨?_, ?_⟩
        · have b1 : Below base w (turned w R) := ((Below.refl base w).setCell (p := ⟨R, 1, none⟩) hbR _).alloc (by simp [World.setCell]; exact hbase) _
          exact (b1.grown hgr (by rw [hTF.1]; omega) (fun k hk => by cases hk; exact hbase)).setCell hbR _
        · intro k cs ty fr hk hty hkR
          have hkl := lt_of_block hk
          rw [heap_setCell_other _ _ _ _ hkR, hgr.block k (by rw [hTF.1]; omega) (by simp; omega), hTF.2.2.2 k hkl hkR]
          exact hk
      have hr2 : w2.heap[R]? = some (rootC (.slice s 8 cap) (.map (some w.heap.size)) (ptrO dyn)) := by
        have h0 := hTF.2.2.1
        rw [e8] at h0
        exact (hgr.block R (by rw [hTF.1]; omega) (by simp; omega)).trans h0
      refine ⟨he, fin w' hg ⟨.slice none 0 0, .map (some w.heap.size), ?_, .inr ⟨by simp; omega, rfl, w.heap.size, rfl, hbase, ?_⟩⟩, hg⟩
      · subst hw
        exact heap_setCell_same _ _ _ _ _ _ hr2
      · subst hw
        rw [mapD_snoc]
        have := hown.setCell (a := ⟨R, 0, none⟩) (by show w.heap.size ≠ R; omega) (.slice none 0 0)
        simpa [e8] using this
  · refine (add_map R m kids.length c _ (ptrO dyn) (mapD kids) t w ht hn hr h5).mono fun e w' ⟨he, hown, hgr⟩ => ?_
    have hmR : m ≠ R := by
      intro e
      obtain ⟨es, clock, hb, _⟩ := h5
      rw [e, hr] at hb
      simp at hb
    have hg : Grows base R w w' := by
      refine ⟨(Below.refl base w).grown hgr hbase (fun k hk => by cases hk; exact h4), ?_⟩
      intro k cs ty fr hk hty hkR
      have hkm : k ≠ m := by
        intro e
        obtain ⟨es, clock, hb, _⟩ := h5
        rw [e, hb] at hk
        simp at hk
      rw [hgr.block k (lt_of_block hk) (by simpa using hkm)]
      exact hk
    have hr2 : w'.heap[R]? = some (rootC (.slice none 0 0) (.map (some m)) (ptrO dyn)) := (hgr.block R hRlt (by simpa using (fun e => hmR e.symm))).trans hr
    refine ⟨he, fin w' hg ⟨_, _, hr2, .inr ⟨by simp; omega, rfl, m, rfl, h4, ?_⟩⟩, hg⟩
    rw [mapD_snoc]
    simpa using hown

/-! The node's child. -/
theorem eqNone (w : World) : (binOp .eql 25 (.pointer none) (.pointer none)).run Try.prog w = .ok (.bool true) w := by kernel_rfl
theorem eqSome (a : Addr) (w : World) : (binOp .eql 25 (.pointer (some a)) (.pointer none)).run Try.prog w = .ok (.bool false) w := by kernel_rfl

theorem leaf_alloc {w : World} : (w.alloc leafC).heap[w.heap.size]? = some leafC := heap_alloc_new _ _

/-- The placeholder's child is there. -/
theorem child_dyn_old {R base d : Nat} {kids : Kids} {t : ByteArray} {w : World} (h : Inv w R base (some d) kids) :
    Calls Try.prog 16 #[.pointer (some ⟨R, 0, none⟩), .string t, .bool true] w fun e w' => e = .returned (.pointer (some ⟨d, 0, none⟩)) ∧ w = w' := by
  obtain ⟨few, mp, hr, _⟩ := h.root
  have c2 : w.cell? ⟨R, 2, none⟩ = some (.pointer (some ⟨d, 0, none⟩)) := by rw [cell_of_row _ _ _ _ _ _ hr]; rfl
  clear h hr
  go_enter Try.func16, Try.ntmps16
  go_wp2
  go_ret
  exact ⟨rfl, rfl⟩

theorem dyn_laid {R base : Nat} {kids : Kids} {w : World} (h : Inv w R base none kids) (hbase : base ≤ w.heap.size) :
    Inv ((w.setCell ⟨R, 2, none⟩ (.pointer (some ⟨w.heap.size, 0, none⟩))).alloc leafC) R base (some w.heap.size) kids ∧ Grows base R w ((w.setCell ⟨R, 2, none⟩ (.pointer (some ⟨w.heap.size, 0, none⟩))).alloc leafC) := by
  obtain ⟨few, mp, hr, hh⟩ := h.root
  have hRlt : R < w.heap.size := lt_of_block hr
  have hs : (w.setCell ⟨R, 2, none⟩ (.pointer (some ⟨w.heap.size, 0, none⟩))).heap.size = w.heap.size := by simp [World.setCell]
  have hg : Grows base R w ((w.setCell ⟨R, 2, none⟩ (.pointer (some ⟨w.heap.size, 0, none⟩))).alloc leafC) := by
    refine ⟨((Below.refl base w).setCell (p := ⟨R, 2, none⟩) h.baseR _).alloc (by rw [hs]; exact hbase) _, ?_⟩
    intro k cs ty fr hk hty hkR
    rw [heap_alloc_old _ _ (by rw [hs]; exact lt_of_block hk), heap_setCell_other _ _ _ _ hkR]
    exact hk
  have hr2 : ((w.setCell ⟨R, 2, none⟩ (.pointer (some ⟨w.heap.size, 0, none⟩))).alloc leafC).heap[R]? = some (rootC few mp (ptrO (some w.heap.size))) := by
    rw [heap_alloc_old _ _ (by rw [hs]; exact hRlt)]
    exact heap_setCell_same _ _ _ _ _ _ hr
  refine ⟨⟨⟨few, mp, hr2, ?_⟩, h.baseR, ?_, fun x hx => ⟨hg.keep _ _ _ _ (h.leafK x hx).1 (by decide) (h.leafK x hx).2.2, (h.leafK x hx).2⟩, h.texts, h.blocks, ?_, h.sizes⟩, hg⟩
  · rcases hh with ⟨h1, h2, h3⟩ | ⟨h1, h2, m, h3, h4, h5⟩
    · exact .inl ⟨h1, h2, (owns_set h3 (own_ne h3 hr)).alloc _⟩
    · have hmR : m ≠ R := by
        intro e
        obtain ⟨es, clock, hb, _⟩ := h5
        rw [e, hr] at hb
        simp at hb
      exact .inr ⟨h1, h2, m, h3, h4, (h5.setCell (a := ⟨R, 2, none⟩) hmR _).alloc _⟩
  · intro c hc
    cases hc
    refine ⟨?_, hbase, by omega⟩
    have := heap_alloc_new (w.setCell ⟨R, 2, none⟩ (.pointer (some ⟨w.heap.size, 0, none⟩))) leafC
    rw [hs] at this
    exact this
  · intro c hc x hx e
    cases hc
    have := lt_of_block (h.leafK x hx).1
    omega

/-- The placeholder's child is made. -/
theorem child_dyn_new {R base : Nat} {kids : Kids} {t : ByteArray} {w : World} (h : Inv w R base none kids) (hbase : base ≤ w.heap.size) :
    Calls Try.prog 16 #[.pointer (some ⟨R, 0, none⟩), .string t, .bool true] w fun e w' => e = .returned (.pointer (some ⟨w.heap.size, 0, none⟩)) ∧ Inv w' R base (some w.heap.size) kids ∧ Grows base R w w' := by
  obtain ⟨few, mp, hr, hh⟩ := h.root
  have c2 : w.cell? ⟨R, 2, none⟩ = some (.pointer none) := by rw [cell_of_row _ _ _ _ _ _ hr]; rfl
  have f2 : w.frozen? ⟨R, 2, none⟩ = false := frozen_of_row w R 2 _ _ hr
  have hRlt : R < w.heap.size := lt_of_block hr
  have HI : Hid (Inv w R base none kids) := h
  have HH : Hid (Held w base few mp kids) := hh
  have HR : Hid _ := hr
  clear h hr hh
  go_enter Try.func16, Try.ntmps16
  go_wp2
  go_ret
  have HL := dyn_laid HI.out hbase
  exact ⟨rfl, HL.1, HL.2⟩

/-- The text's child is there. -/
theorem child_old {R base c : Nat} {dyn : Option Nat} {kids : Kids} {t : ByteArray} {w : World} (h : Inv w R base dyn kids) (ht : t.size ≤ maxLen) (hl : look kids t = some c) :
    Calls Try.prog 16 #[.pointer (some ⟨R, 0, none⟩), .string t, .bool false] w fun e w' => e = .returned (.pointer (some ⟨c, 0, none⟩)) ∧ Below w.heap.size w w' := by
  have C : Hid (Calls Try.prog 17 #[.pointer (some ⟨R, 0, none⟩), .string t] w fun e w' => e = .returned (.pointer (some ⟨c, 0, none⟩)) ∧ Below w.heap.size w w') := by
    have := get_inv h ht
    rw [hl] at this
    exact this
  clear h hl
  go_enter Try.func16, Try.ntmps16
  go_wp2_with (go_at_call 17; refine C.out.mono ?_; rintro e w1 ⟨rfl, hB1⟩)
  go_ret
  exact ⟨rfl, hB1⟩

/-- The text's child is made. -/
theorem child_new {R base : Nat} {dyn : Option Nat} {kids : Kids} {t : ByteArray} {w : World} (h : Inv w R base dyn kids) (ht : t.size ≤ maxLen) (hn : kids.length ≤ 1024) (hbase : base ≤ w.heap.size) (hl : look kids t = none) :
    Calls Try.prog 16 #[.pointer (some ⟨R, 0, none⟩), .string t, .bool false] w fun e w' => ∃ c, w.heap.size ≤ c ∧ e = .returned (.pointer (some ⟨c, 0, none⟩)) ∧ Inv w' R base dyn (kids ++ [(t, c)]) ∧ Grows base R w w' := by
  have C : Hid (Calls Try.prog 17 #[.pointer (some ⟨R, 0, none⟩), .string t] w fun e w' => e = .returned (.pointer none) ∧ Below w.heap.size w w') := by
    have := get_inv h ht
    rw [hl] at this
    exact this
  have HI : Hid (Inv w R base dyn kids) := h
  have HL : Hid (look kids t = none) := hl
  clear h hl
  go_enter Try.func16, Try.ntmps16
  go_wp2_with fail
  refine C.out.mono ?_
  rintro e w1 ⟨rfl, hB1⟩
  have hz1 := hB1.size
  have C2 : Hid (Calls Try.prog 18 #[.pointer (some ⟨R, 0, none⟩), .string t, .pointer (some ⟨w1.heap.size, 0, none⟩)] (w1.alloc leafC) fun e w' => e = .returned (.tuple #[]) ∧ Inv w' R base dyn (kids ++ [(t, w1.heap.size)]) ∧ Grows base R (w1.alloc leafC) w') := by
    have hB2 : Below w.heap.size w (w1.alloc leafC) := hB1.alloc hz1 _
    have hI := HI.out.ext hB2
    have hw := HI.out
    refine add_inv hI ht hn (by rw [World.size_alloc]; omega) HL.out (heap_alloc_new _ _) (by omega) ?_ ?_ ?_
    · obtain ⟨_, _, hr, _⟩ := hw.root
      have := lt_of_block hr
      omega
    · intro x hx
      have := lt_of_block (hw.leafK x hx).1
      omega
    · intro e
      have := lt_of_block (hw.leafD _ e).1
      omega
  have hgw : Grows base R w (w1.alloc leafC) := (Grows.of_below hB1 hbase).trans (Grows.of_below ((Below.refl _ _).alloc (Nat.le_refl _) _) (by omega))
  have HG : Hid _ := hgw
  clear C HI HL hgw hB1
  go_wp2_with fail
  refine C2.out.mono ?_
  rintro e w2 ⟨rfl, hI2, hG2⟩
  have HI2 : Hid _ := hI2
  have HG2 : Hid _ := hG2
  clear hI2 hG2 C2
  go_wp2
  go_ret
  exact ⟨w1.heap.size, hz1, rfl, HI2.out, HG.out.trans HG2.out⟩
end Go.Proofs.Qxb6616867a

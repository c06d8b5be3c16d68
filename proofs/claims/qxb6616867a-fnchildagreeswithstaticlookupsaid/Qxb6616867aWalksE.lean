import Derived.Test.Qxb6616867aWalksD
namespace Go.Proofs.Qxb6616867a
open Go.RowKit

/-! ### Plain: a script of askings -/
/-- What one asking does to the node: N: no block from N on was there. -/
def Step (N : Nat) (dyn : Option Nat) (kids : Kids) (t : ByteArray) (p : Bool) (c : Nat) (dyn' : Option Nat) (kids' : Kids) : Prop :=
  (p = true ∧ kids' = kids ∧ dyn' = some c ∧ (dyn = some c ∨ (dyn = none ∧ N ≤ c))) ∨
  (p = false ∧ dyn' = dyn ∧ ((look kids t = some c ∧ kids' = kids) ∨ (look kids t = none ∧ N ≤ c ∧ kids' = kids ++ [(t, c)])))

/-- The first static asking for t among the first k. -/
def fs (T : Nat → ByteArray) (P : Nat → Bool) (t : ByteArray) : Nat → Option Nat
  | 0 => none
  | k + 1 => match fs T P t k with
    | some j => some j
    | none => if P k = false ∧ T k = t then some k else none
theorem fs_some {T : Nat → ByteArray} {P : Nat → Bool} {t : ByteArray} {k j : Nat} (h : fs T P t k = some j) : j < k ∧ P j = false ∧ T j = t := by
  induction k with
  | zero => cases h
  | succ k ih =>
    simp only [fs] at h
    split at h
    · rename_i j' e
      cases h
      have := ih e
      exact ⟨by omega, this.2⟩
    · split at h
      · rename_i e
        cases h
        exact ⟨by omega, e⟩
      · cases h
theorem fs_none {T : Nat → ByteArray} {P : Nat → Bool} {t : ByteArray} {k : Nat} (h : fs T P t k = none) : ∀ j, j < k → P j = false → T j ≠ t := by
  induction k with
  | zero => intro j hj; omega
  | succ k ih =>
    simp only [fs] at h
    split at h
    · cases h
    · rename_i e
      split at h
      · cases h
      · rename_i e2
        intro j hj hp ht
        by_cases hjk : j = k
        · subst hjk; exact e2 ⟨hp, ht⟩
        · exact ih e j (by omega) hp ht
theorem fs_none_of {T : Nat → ByteArray} {P : Nat → Bool} {t : ByteArray} {k : Nat} (h : ∀ j, j < k → P j = false → T j ≠ t) : fs T P t k = none := by
  cases e : fs T P t k with
  | none => rfl
  | some j =>
    have := fs_some e
    exact absurd this.2.2 (h j this.1 this.2.1)
theorem fs_mono {T : Nat → ByteArray} {P : Nat → Bool} {t : ByteArray} {k m j : Nat} (h : fs T P t k = some j) (hk : k ≤ m) : fs T P t m = some j := by
  induction m with
  | zero => obtain rfl : k = 0 := by omega
            exact h
  | succ m ih =>
    by_cases e : k = m + 1
    · subst e; exact h
    · simp only [fs, ih (by omega)]
/-- How many distinct texts among the first k. -/
def dis (T : Nat → ByteArray) (P : Nat → Bool) : Nat → Nat
  | 0 => 0
  | k + 1 => dis T P k + if P k = false ∧ fs T P (T k) k = none then 1 else 0
theorem dis_le (T : Nat → ByteArray) (P : Nat → Bool) (k : Nat) : dis T P k ≤ k := by
  induction k with
  | zero => exact Nat.le_refl _
  | succ k ih => simp only [dis]; split <;> omega

structure Good (T : Nat → ByteArray) (P : Nat → Bool) (k : Nat) (g : Nat → Nat) (dyn : Option Nat) (kids : Kids) : Prop where
  dy : ∀ i, i < k → P i = true → dyn = some (g i)
  st : ∀ i, i < k → P i = false → look kids (T i) = some (g i)
  from' : ∀ x ∈ kids, ∃ i, i < k ∧ P i = false ∧ T i = x.1
  some' : ∀ d, dyn = some d → ∃ i, i < k ∧ P i = true
  len : kids.length = dis T P k

theorem Good.none {T : Nat → ByteArray} {P : Nat → Bool} {k : Nat} {g : Nat → Nat} {dyn : Option Nat} {kids : Kids} (h : Good T P k g dyn kids) (t : ByteArray) : look kids t = .none ↔ fs T P t k = .none := by
  constructor
  · intro hl
    cases e : fs T P t k with
    | none => rfl
    | some j =>
      obtain ⟨h1, h2, h3⟩ := fs_some e
      have := h.st j h1 h2
      rw [h3, hl] at this
      cases this
  · intro hf
    cases e : look kids t with
    | none => rfl
    | some c =>
      obtain ⟨i, h1, h2, h3⟩ := h.from' _ (look_mem e)
      exact absurd h3 (fs_none hf i h1 h2)
theorem Good.start (T : Nat → ByteArray) (P : Nat → Bool) (g : Nat → Nat) : Good T P 0 g .none [] :=
  ⟨fun i hi => by omega, fun i hi => by omega, (fun x hx => by cases hx), (fun d hd => by cases hd), rfl⟩
theorem Good.step {T : Nat → ByteArray} {P : Nat → Bool} {k N c : Nat} {g : Nat → Nat} {dyn dyn' : Option Nat} {kids kids' : Kids} (h : Good T P k g dyn kids) (s : Step N dyn kids (T k) (P k) c dyn' kids') :
    Good T P (k + 1) (fun i => if i = k then c else g i) dyn' kids' := by
  rcases s with ⟨hp, rfl, hd, hdd⟩ | ⟨hp, rfl, ⟨hl, rfl⟩ | ⟨hl, hN, rfl⟩⟩
  · refine ⟨?_, ?_, ?_, fun d _ => ⟨k, by omega, hp⟩, ?_⟩
    · intro i hi hpi
      by_cases e : i = k
      · rw [if_pos e]; exact hd
      · rw [if_neg e, hd]
        have h1 := h.dy i (by omega) hpi
        rcases hdd with h2 | ⟨h2, _⟩
        · rw [← h1, h2]
        · rw [h2] at h1; cases h1
    · intro i hi hpi
      by_cases e : i = k
      · subst e; rw [hp] at hpi; cases hpi
      · rw [if_neg e]; exact h.st i (by omega) hpi
    · intro x hx
      obtain ⟨i, h1, h2⟩ := h.from' x hx
      exact ⟨i, by omega, h2⟩
    · rw [h.len]
      simp only [dis]
      rw [if_neg (by rw [hp]; simp)]; rfl
  · refine ⟨?_, ?_, ?_, ?_, ?_⟩
    · intro i hi hpi
      by_cases e : i = k
      · subst e; rw [hp] at hpi; cases hpi
      · rw [if_neg e]; exact h.dy i (by omega) hpi
    · intro i hi hpi
      by_cases e : i = k
      · rw [if_pos e, e]; exact hl
      · rw [if_neg e]; exact h.st i (by omega) hpi
    · intro x hx
      obtain ⟨i, h1, h2⟩ := h.from' x hx
      exact ⟨i, by omega, h2⟩
    · intro d hd
      obtain ⟨i, h1, h2⟩ := h.some' d hd
      exact ⟨i, by omega, h2⟩
    · rw [h.len]
      simp only [dis]
      rw [if_neg]
      · rfl
      · intro hh
        rw [(h.none _).2 hh.2] at hl
        cases hl
  · refine ⟨?_, ?_, ?_, ?_, ?_⟩
    · intro i hi hpi
      by_cases e : i = k
      · subst e; rw [hp] at hpi; cases hpi
      · rw [if_neg e]; exact h.dy i (by omega) hpi
    · intro i hi hpi
      by_cases e : i = k
      · rw [if_pos e, e]; exact look_snoc_new c hl
      · rw [if_neg e]; exact look_snoc_some _ (h.st i (by omega) hpi)
    · intro x hx
      rcases List.mem_append.1 hx with hx | hx
      · obtain ⟨i, h1, h2⟩ := h.from' x hx
        exact ⟨i, by omega, h2⟩
      · obtain rfl := List.mem_singleton.1 hx
        exact ⟨k, by omega, hp, rfl⟩
    · intro d hd
      obtain ⟨i, h1, h2⟩ := h.some' d hd
      exact ⟨i, by omega, h2⟩
    · rw [List.length_append, h.len]
      simp only [dis]
      rw [if_pos ⟨hp, (h.none _).1 hl⟩]
      rfl

/-! ### ZZchild -/
theorem zchild {R base : Nat} {dyn : Option Nat} {kids : Kids} {t : ByteArray} {p : Bool} {w : World} (h : Inv w R base dyn kids) (ht : t.size ≤ maxLen) (hn : kids.length ≤ 1024) (hbase : base ≤ w.heap.size) :
    Calls Try.prog 7 #[.pointer (some ⟨R, 0, none⟩), .string t, .bool p] w fun e w' => ∃ c dyn' kids', e = .returned (.pointer (some ⟨c, 0, none⟩)) ∧ Step w.heap.size dyn kids t p c dyn' kids' ∧ Inv w' R base dyn' kids' ∧ Grows base R w w' := by
  have C : Hid (Calls Try.prog 16 #[.pointer (some ⟨R, 0, none⟩), .string t, .bool p] w fun e w' => ∃ c dyn' kids', e = .returned (.pointer (some ⟨c, 0, none⟩)) ∧ Step w.heap.size dyn kids t p c dyn' kids' ∧ Inv w' R base dyn' kids' ∧ Grows base R w w') := by
    cases p with
    | true =>
      cases dyn with
      | none => exact (child_dyn_new h hbase).mono fun e w' ⟨h1, h2, h3⟩ => ⟨_, _, _, h1, .inl ⟨rfl, rfl, rfl, .inr ⟨rfl, Nat.le_refl _⟩⟩, h2, h3⟩
      | some d => exact (child_dyn_old h).mono fun e w' ⟨h1, h2⟩ => ⟨_, _, _, h1, .inl ⟨rfl, rfl, rfl, .inl rfl⟩, by rw [← h2]; exact h, by rw [← h2]; exact Grows.refl _ _ _⟩
    | false =>
      cases hl : look kids t with
      | some c => exact (child_old h ht hl).mono fun e w' ⟨h1, h2⟩ => ⟨_, _, _, h1, .inr ⟨rfl, rfl, .inl ⟨hl, rfl⟩⟩, h.ext h2, Grows.of_below h2 hbase⟩
      | none => exact (child_new h ht hn hbase hl).mono fun e w' ⟨c, h1, h2, h3, h4⟩ => ⟨_, _, _, h2, .inr ⟨rfl, rfl, .inr ⟨hl, h1, rfl⟩⟩, h3, h4⟩
  clear h
  go_enter Try.func7, Try.ntmps7
  go_wp2_with fail
  refine C.out.mono ?_
  rintro e w1 ⟨c, dyn', kids', rfl, hs, hI, hG⟩
  have H : Hid _ := (⟨hs, hI, hG⟩ : Step w.heap.size dyn kids t p c dyn' kids' ∧ Inv w1 R base dyn' kids' ∧ Grows base R w w1)
  clear hs hI hG C
  go_wp2
  go_ret
  exact ⟨c, dyn', kids', rfl, H.out⟩

/-- Asked again: the same child, and nothing turns. -/
theorem zchild_again {R base c : Nat} {dyn : Option Nat} {kids : Kids} {t : ByteArray} {p : Bool} {w : World} (h : Inv w R base dyn kids) (ht : t.size ≤ maxLen) (h1 : p = true → dyn = some c) (h2 : p = false → look kids t = some c) :
    Calls Try.prog 7 #[.pointer (some ⟨R, 0, none⟩), .string t, .bool p] w fun e w' => e = .returned (.pointer (some ⟨c, 0, none⟩)) ∧ Below w.heap.size w w' := by
  have C : Hid (Calls Try.prog 16 #[.pointer (some ⟨R, 0, none⟩), .string t, .bool p] w fun e w' => e = .returned (.pointer (some ⟨c, 0, none⟩)) ∧ Below w.heap.size w w') := by
    cases p with
    | true =>
      have hd := h1 rfl
      subst hd
      exact (child_dyn_old h).mono fun e w' ⟨h1, h2⟩ => ⟨h1, by rw [← h2]; exact Below.refl _ _⟩
    | false => exact child_old h ht (h2 rfl)
  clear h h1 h2
  go_enter Try.func7, Try.ntmps7
  go_wp2_with fail
  refine C.out.mono ?_
  rintro e w1 ⟨rfl, hB⟩
  clear C
  go_wp2
  go_ret
  exact ⟨rfl, hB⟩
end Go.Proofs.Qxb6616867a

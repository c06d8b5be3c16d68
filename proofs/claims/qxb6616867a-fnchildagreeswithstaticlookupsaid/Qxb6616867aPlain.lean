import Derived.Maps.OwnSet
import Derived.WideShapes
import Derived.Laws.StructEq
namespace Go.Proofs.Qxb6616867a
open Go.Maps

abbrev Kids := List (ByteArray × Nat)
/-- The child of a text. -/
def look : Kids → ByteArray → Option Nat
  | [], _ => none
  | x :: r, t => if x.1 = t then some x.2 else look r t

theorem beq_text (a b : ByteArray) : (a.toList == b.toList) = decide (a = b) := by
  rw [ByteArray.toList_eq, ByteArray.toList_eq]
  by_cases h : a = b
  · subst h; simp
  · have h2 : a.data.toList ≠ b.data.toList := fun e => h (WideShapes.bytes_inj e)
    rw [decide_eq_false h, beq_eq_false_iff_ne]
    exact h2
theorem beq_yes {a b : ByteArray} (h : a = b) : (a.toList == b.toList) = true := by rw [beq_text]; simp [h]
theorem beq_no {a b : ByteArray} (h : a ≠ b) : (a.toList == b.toList) = false := by rw [beq_text]; simp [h]

theorem look_snoc_some {kids : Kids} {s : ByteArray} {a : Nat} (x : ByteArray × Nat) (h : look kids s = some a) : look (kids ++ [x]) s = some a := by
  induction kids with
  | nil => cases h
  | cons y r ih =>
    simp only [look, List.cons_append] at h ⊢
    split at h
    · rename_i e; rw [if_pos e]; exact h
    · rename_i e; rw [if_neg e]; exact ih h
theorem look_snoc_new {kids : Kids} {t : ByteArray} (c : Nat) (h : look kids t = none) : look (kids ++ [(t, c)]) t = some c := by
  induction kids with
  | nil => simp [look]
  | cons y r ih =>
    simp only [look, List.cons_append] at h ⊢
    split at h
    · cases h
    · rename_i e; rw [if_neg e]; exact ih h
theorem look_snoc_ne {kids : Kids} {s t : ByteArray} (c : Nat) (h : t ≠ s) : look (kids ++ [(t, c)]) s = look kids s := by
  induction kids with
  | nil => simp [look, h]
  | cons y r ih => simp only [look, List.cons_append, ih]
theorem look_mem {kids : Kids} {t : ByteArray} {c : Nat} (h : look kids t = some c) : (t, c) ∈ kids := by
  induction kids with
  | nil => cases h
  | cons y r ih =>
    simp only [look] at h
    split at h
    · rename_i e; cases h; subst e; simp
    · exact List.mem_cons_of_mem _ (ih h)
theorem look_none {kids : Kids} {t : ByteArray} (h : look kids t = none) : ∀ x ∈ kids, x.1 ≠ t := by
  induction kids with
  | nil => intro x hx; cases hx
  | cons y r ih =>
    simp only [look] at h
    split at h
    · cases h
    · rename_i e
      intro x hx
      rcases List.mem_cons.1 hx with rfl | hx
      · exact e
      · exact ih h x hx
theorem look_none_of {kids : Kids} {t : ByteArray} (h : ∀ x ∈ kids, x.1 ≠ t) : look kids t = none := by
  induction kids with
  | nil => rfl
  | cons y r ih =>
    simp only [look]
    rw [if_neg (h y (by simp))]
    exact ih (fun x hx => h x (List.mem_cons_of_mem _ hx))
/-- One block, one text. -/
theorem look_inj {kids : Kids} (hb : (kids.map (·.2)).Nodup) {s t : ByteArray} {a : Nat} (h1 : look kids s = some a) (h2 : look kids t = some a) : s = t := by
  have m1 := look_mem h1
  have m2 := look_mem h2
  clear h1 h2
  induction kids with
  | nil => cases m1
  | cons y r ih =>
    simp only [List.map_cons, List.nodup_cons] at hb
    rcases List.mem_cons.1 m1 with e1 | m1 <;> rcases List.mem_cons.1 m2 with e2 | m2
    · exact (congrArg Prod.fst (e1.trans e2.symm))
    · exact absurd (List.mem_map.2 ⟨_, m2, by rw [← e1]⟩) hb.1
    · exact absurd (List.mem_map.2 ⟨_, m1, by rw [← e2]⟩) hb.1
    · exact ih hb.2 m1 m2

/-! The map's datum. -/
abbrev keyD (t : ByteArray) : Lit := .string t.data.toList
abbrev valD (c : Nat) : DataW Unit := .lit (.int .i64 (c : Int))
def mapFrom (m : DataW Unit) (kids : Kids) : DataW Unit := kids.foldl (fun m x => m.put (keyD x.1) (valD x.2)) m
def mapD (kids : Kids) : DataW Unit := mapFrom (.map []) kids
theorem mapD_snoc (kids : Kids) (t : ByteArray) (c : Nat) : mapD (kids ++ [(t, c)]) = (mapD kids).put (keyD t) (valD c) := by simp [mapD, mapFrom]
theorem keyD_ne {s t : ByteArray} (h : s ≠ t) : keyD s ≠ keyD t := by
  intro e
  simp only [keyD, Lit.string.injEq] at e
  exact h (WideShapes.bytes_inj e)
theorem isKey (t : ByteArray) : WideAt.IsKeyLit (keyD t) := trivial
/-- What the map answers at a text. -/
def ansD (o : Option Nat) (z : DataW Unit) : DataW Unit := match o with | some c => valD c | none => z
theorem mapFrom_at (t : ByteArray) (z : DataW Unit) : ∀ (kids : Kids) (m : DataW Unit), IsMap m → (kids.map (·.1)).Nodup → (mapFrom m kids).atKey (keyD t) z = ansD (look kids t) (m.atKey (keyD t) z) := by
  intro kids
  induction kids with
  | nil => intro m _ _; rfl
  | cons x r ih =>
    intro m hm hn
    simp only [List.map_cons, List.nodup_cons] at hn
    show (mapFrom (m.put (keyD x.1) (valD x.2)) r).atKey (keyD t) z = _
    rw [ih _ (hm.put _ _) hn.2]
    by_cases e : x.1 = t
    · have hr : look r t = none := look_none_of (fun y hy h => hn.1 (List.mem_map.2 ⟨y, hy, by rw [h, e]⟩))
      rw [hr]
      simp only [look, if_pos e, ansD]
      rw [e, atKey_put_same hm (isKey t)]
    · simp only [look, if_neg e]
      rw [atKey_put_other (keyD_ne (fun h => e h.symm))]
theorem mapD_at (t : ByteArray) (kids : Kids) (hn : (kids.map (·.1)).Nodup) : (mapD kids).atKey (keyD t) .nil = ansD (look kids t) .nil := by
  have := mapFrom_at t .nil kids (.map []) isMap_empty hn
  rw [mapD, this]
  rfl
theorem mapFrom_size : ∀ (kids : Kids) (m : DataW Unit), Tidy m → (kids.map (·.1)).Nodup → (∀ x ∈ kids, Maps.has m (keyD x.1) = false) → Maps.size (mapFrom m kids) = Maps.size m + kids.length := by
  intro kids
  induction kids with
  | nil => intro m _ _ _; rfl
  | cons x r ih =>
    intro m hm hn hh
    simp only [List.map_cons, List.nodup_cons] at hn
    show Maps.size (mapFrom (m.put (keyD x.1) (valD x.2)) r) = _
    rw [ih _ (hm.put (isKey _) _) hn.2 (fun y hy => by
      rw [has_put_other (keyD_ne (fun h => hn.1 (List.mem_map.2 ⟨y, hy, h⟩)))]
      exact hh y (List.mem_cons_of_mem _ hy)), size_put hm, hh x (by simp)]
    simp only [List.length_cons]
    simp
    omega
theorem mapD_size (kids : Kids) (hn : (kids.map (·.1)).Nodup) : Maps.size (mapD kids) = kids.length := by
  have := mapFrom_size kids (.map []) tidy_empty hn (fun x _ => rfl)
  rw [mapD, this]
  simp [Maps.size]
end Go.Proofs.Qxb6616867a

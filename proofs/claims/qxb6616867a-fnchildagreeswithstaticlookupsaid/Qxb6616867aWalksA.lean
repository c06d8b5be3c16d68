import Derived.Test.Qxb6616867aProg
import Derived.Test.Qxb6616867aPlain
import Derived.WalkKit
import Derived.WalkLawsBesides
import Derived.WalkSpells
import Derived.Below
import Derived.Outline
import Derived.RegionTactic
import Derived.Deep.QuietTactic
import Derived.BigQuiet
import Derived.WideLaws
import Derived.Maps.OwnSet
import Derived.Maps.OwnOps
namespace Go.Proofs.Qxb6616867a
open Go.RowKit

def ptrO : Option Nat → Value
  | none => .pointer none
  | some c => .pointer (some ⟨c, 0, none⟩)
/-- How an element of the map reads. -/
def ptrElem (v : Value) : Option (DataW Unit × List MemPlace) :=
  match v with
  | .pointer none => some (.nil, [])
  | .pointer (some ⟨c, 0, none⟩) => some (valD c, [])
  | _ => none
theorem ptrElem_some (c : Nat) : ptrElem (.pointer (some ⟨c, 0, none⟩)) = some (valD c, []) := rfl
theorem ptrElem_inv {v : Value} {o : Option Nat} {ps : List MemPlace} (h : ptrElem v = some (ansD o .nil, ps)) : v = ptrO o := by
  unfold ptrElem at h
  split at h
  · cases o with
    | none => rfl
    | some c => simp [ansD] at h
  · cases o with
    | none => simp [ansD] at h
    | some c =>
      simp [ansD] at h
      obtain ⟨h, _⟩ := h
      obtain rfl := Int.ofNat.inj h
      rfl
  · cases h

/-- kids as they lie in the list of few. -/
def FewAt (w : World) (s : Option Addr) (kids : Kids) : Prop :=
  ∀ k x, kids[k]? = some x → ∃ g, s = some ⟨g, 0, none⟩ ∧ w.cell? ⟨g, k * 2, none⟩ = some (.string x.1) ∧ w.cell? ⟨g, k * 2 + 1, none⟩ = some (.pointer (some ⟨x.2, 0, none⟩))

theorem look_at {kids : Kids} {t : ByteArray} {k : Nat} {x : ByteArray × Nat} (hk : kids[k]? = some x) (h : x.1 = t) (hb : ∀ j y, j < k → kids[j]? = some y → y.1 ≠ t) : look kids t = some x.2 := by
  induction kids generalizing k with
  | nil => simp at hk
  | cons z r ih =>
    cases k with
    | zero => simp at hk; subst hk; simp [look, h]
    | succ k =>
      have hz := hb 0 z (by omega) rfl
      simp only [look, if_neg hz]
      exact ih (by simpa using hk) (fun j y hj hy => hb (j + 1) y (by omega) (by simpa using hy))
theorem look_out {kids : Kids} {t : ByteArray} (hb : ∀ j y, j < kids.length → kids[j]? = some y → y.1 ≠ t) : look kids t = none := by
  apply look_none_of
  intro x hx
  obtain ⟨j, hj, e⟩ := List.getElem_of_mem hx
  exact hb j x hj (by rw [List.getElem?_eq_getElem hj, e])

theorem neq32n (w : World) : (binOp .neq 32 (.map none) (.map none)).run Try.prog w = .ok (.bool false) w := by kernel_rfl
theorem neq32 (m : Nat) (w : World) : (binOp .neq 32 (.map (some m)) (.map none)).run Try.prog w = .ok (.bool true) w := by kernel_rfl

set_option maxHeartbeats 1000000 in
set_option maxRecDepth 100000 in
theorem get_few (R : Nat) (s : Option Addr) (cap : Nat) (kids : Kids) (t : ByteArray) (w : World) (hn : kids.length ≤ 8) (h0 : w.cell? ⟨R, 0, none⟩ = some (.slice s kids.length cap)) (h1 : w.cell? ⟨R, 1, none⟩ = some (.map none)) (hf : FewAt w s kids) :
    Calls Try.prog 17 #[.pointer (some ⟨R, 0, none⟩), .string t] w fun e w' => e = .returned (ptrO (look kids t)) ∧ Below w.heap.size w w' := by
  have hm := neq32n
  obtain ⟨n, en⟩ : ∃ n, n = kids.length := ⟨_, rfl⟩
  rw [← en] at h0 hn
  have EN : Hid (n = kids.length) := en
  clear en
  go_enter Try.func17, Try.ntmps17
  go_wp2
  go_loopw [23] (fun i wr => ∃ k : Nat, k ≤ n ∧ i = .int .i64 k ∧ Below w.heap.size w wr ∧ ∀ j y, j < k → kids[j]? = some y → y.1 ≠ t) (fun i _ => n - (intOf i).toNat)
  case atStart => exact ⟨0, Nat.zero_le _, rfl, Below.refl _ _, fun j y hj => by omega⟩
  case round =>
    obtain ⟨k, hk, rfl, hbel, hbef⟩ := hrel
    have HB : Hid (∀ j y, j < k → kids[j]? = some y → y.1 ≠ t) := hbef
    clear hbef
    by_cases hlt : k < n
    · obtain ⟨x, hx⟩ : ∃ x, kids[k]? = some x := ⟨kids[k]'(by rw [← EN.out]; exact hlt), List.getElem?_eq_getElem _⟩
      obtain ⟨g, hs, c0, c1⟩ := hf k x hx
      have hg : g < w.heap.size := World.block_lt_of_cell? w _ c0
      have d0 := (hbel.cell (p := ⟨g, k * 2, none⟩) hg).trans c0
      have d1 := (hbel.cell (p := ⟨g, k * 2 + 1, none⟩) hg).trans c1
      have HX : Hid (kids[k]? = some x) := hx
      have hsz := hbel.size
      subst hs
      have hlt' : (k : Int) < (n : Int) := by omega
      clear hf hx c0 c1
      by_cases he : x.1 = t
      · have hq := beq_yes he
        have HE : Hid (x.1 = t) := he
        clear he
        go_wp2
        go_ret
        refine ⟨?_, hbel.alloc hsz _⟩
        rw [look_at HX.out HE.out HB.out]
        rfl
      · have hq := beq_no he
        have HE : Hid (x.1 ≠ t) := he
        clear he
        go_wp2
        go_roundw
        case rel =>
          refine ⟨k + 1, by omega, by go_num, hbel.alloc hsz _, fun j y hj hy => ?_⟩
          by_cases e : j = k
          · subst e
            have := HX.out.symm.trans hy
            cases this
            exact HE.out
          · exact HB.out j y (by omega) hy
        case measure => simp [intOf]; omega
    · have EL : Hid (look kids t = none) := look_out (fun j y hj hy => HB.out j y (by have := EN.out; omega) hy)
      clear hf
      go_wp2
      go_ret
      refine ⟨?_, hbel⟩
      rw [EL.out]
      rfl

theorem keyed9 : Maps.Keyed Try.prog 9 := Maps.string_keyed Try.underlying9
theorem zero25 (w : World) : (zeroValue 25).run Try.prog w = .ok (.pointer none) w := by kernel_rfl

set_option maxRecDepth 100000 in
theorem get_map (R m n : Nat) (kids : Kids) (t : ByteArray) (w : World) (ht : t.size ≤ maxLen) (h1 : w.cell? ⟨R, 1, none⟩ = some (.map (some m))) (hown : w.ownsMap Try.prog 9 ptrElem m n (mapD kids)) (hk : (kids.map (·.1)).Nodup) :
    Calls Try.prog 17 #[.pointer (some ⟨R, 0, none⟩), .string t] w fun e w' => e = .returned (ptrO (look kids t)) ∧ Below w.heap.size w w' := by
  have hm := neq32
  obtain ⟨v, ps, hrun, hv⟩ := hown.lookup keyed9 Try.underlying32 (zero25 w) (zd := .nil) (zp := []) rfl (WideMaps.keyOf_string_mk Try.underlying9 ht)
  rw [mapD_at t kids hk] at hv
  obtain rfl := ptrElem_inv hv
  clear hv hown
  go_enter Try.func17, Try.ntmps17
  go_wp2
  go_ret
  exact ⟨rfl, Below.refl _ _⟩
end Go.Proofs.Qxb6616867a

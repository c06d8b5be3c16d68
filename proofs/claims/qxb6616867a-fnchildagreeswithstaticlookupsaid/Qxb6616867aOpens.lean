import Derived.Test.Qxb6616867aRows
import Derived.Test.Qxb6616867aWalksF
import Derived.ProofKit
import Derived.OpenShut
import Derived.ShutString
import Derived.ChangeOld
import Derived.Below
import Derived.Deep.Slices
namespace Go.Proofs.Qxb6616867a
open Go.ChangeShapes Go.WideShapes Go.ChangeAt Go.RowKit
open Go.Deep (open_slice1)
set_option linter.unusedVariables false

theorem own : ownKnob Try.prog.godebug = none := by kernel_rfl
theorem laidOut : laidOutB Try.prog = true := by kernel_rfl
theorem cells9 : Try.prog.cellsOf 9 = 1 := by kernel_rfl
theorem cells4 : Try.prog.cellsOf 4 = 1 := by kernel_rfl

theorem open_strs {H : Type} {enc : TypeId × Value → H} {W : World} {base : Nat} {held : Bool} {fuel n c : Nat} {s : Option Addr} {x : DataW H × List MemPlace}
    (h : DataW.trod enc Try.prog W base (fun _ => true) held fuel 22 [.slice s n c] = some x) : ∃ T : Nat → ByteArray, StrAt W s n T := by
  rcases open_slice1 Try.underlying22 cells9 h with ⟨hcs, _⟩ | ⟨a, len, cap, m, q, V, D, Pl, hcs, hb, hl, hm, hmm, _, hx⟩
  · simp at hcs
    obtain ⟨rfl, rfl, rfl⟩ := hcs
    exact ⟨fun _ => ⟨#[]⟩, fun k hk => by omega⟩
  · simp at hcs
    obtain ⟨rfl, rfl, rfl⟩ := hcs
    simp at hmm
    subst hmm
    have one : ∀ i, i < n → ∃ y : ByteArray, ∃ b off, (some a) = some (⟨b, off, none⟩ : Addr) ∧ W.cell? ⟨b, off + i, none⟩ = some (.string y) ∧ y.size ≤ maxLen := by
      intro i hi
      obtain ⟨b, off, spot⟩ := a
      have hspot : spot = none := by
        have h0 := (hx 0 (by omega)).1
        simpa [Addr.add] using World.cell?_spot h0
      subst hspot
      obtain ⟨h1, h2⟩ := hx i (by omega)
      obtain ⟨y, e, _, hz⟩ := DataW.trod_string Try.underlying9 h2
      simp at e
      rw [e, add_plain] at h1
      exact ⟨y, b, off, rfl, h1, hz⟩
    refine ⟨fun i => if hi : i < n then Classical.choose (one i hi) else ⟨#[]⟩, fun k hk => ?_⟩
    simp only [dif_pos hk]
    exact Classical.choose_spec (one k hk)
theorem open_bools {H : Type} {enc : TypeId × Value → H} {W : World} {base : Nat} {held : Bool} {fuel n c : Nat} {s : Option Addr} {x : DataW H × List MemPlace}
    (h : DataW.trod enc Try.prog W base (fun _ => true) held fuel 23 [.slice s n c] = some x) : ∃ P : Nat → Bool, BoolAt W s n P := by
  rcases open_slice1 Try.underlying23 cells4 h with ⟨hcs, _⟩ | ⟨a, len, cap, m, q, V, D, Pl, hcs, hb, hl, hm, hmm, _, hx⟩
  · simp at hcs
    obtain ⟨rfl, rfl, rfl⟩ := hcs
    exact ⟨fun _ => false, fun k hk => by omega⟩
  · simp at hcs
    obtain ⟨rfl, rfl, rfl⟩ := hcs
    simp at hmm
    subst hmm
    have one : ∀ i, i < n → ∃ y : Bool, ∃ b off, (some a) = some (⟨b, off, none⟩ : Addr) ∧ W.cell? ⟨b, off + i, none⟩ = some (.bool y) := by
      intro i hi
      obtain ⟨b, off, spot⟩ := a
      have hspot : spot = none := by
        have h0 := (hx 0 (by omega)).1
        simpa [Addr.add] using World.cell?_spot h0
      subst hspot
      obtain ⟨h1, h2⟩ := hx i (by omega)
      obtain ⟨y, e, _⟩ := DataW.trod_bool Try.underlying4 h2
      simp at e
      rw [e, add_plain] at h1
      exact ⟨y, b, off, rfl, h1⟩
    refine ⟨fun i => if hi : i < n then Classical.choose (one i hi) else false, fun k hk => ?_⟩
    simp only [dif_pos hk]
    exact Classical.choose_spec (one k hk)
end Go.Proofs.Qxb6616867a

import Derived.Test.Qxb6616800aRows
import Derived.Test.Qxb6616800aWalksD
import Derived.WalkKit
import Derived.ProofKit
import Derived.OpenShut
import Derived.ShutString
import Derived.ChangeOld
import Derived.Below
import Derived.Deep.Slices
namespace Go.Proofs.Qxb6616800a
open Go.ChangeShapes Go.WideShapes Go.ChangeAt Go.RowKit
open Go.Deep (open_slice)
set_option linter.unusedVariables false

theorem own : ownKnob Try.prog.godebug = none := by kernel_rfl
theorem laidOut : laidOutB Try.prog = true := by kernel_rfl
theorem cells31 : Try.prog.cellsOf 31 = 6 := by kernel_rfl
theorem cells9 : Try.prog.cellsOf 9 = 1 := by kernel_rfl
theorem cells4 : Try.prog.cellsOf 4 = 1 := by kernel_rfl

theorem six_of_trod {H : Type} {enc : TypeId × Value → H} {W : World} {base : Nat} {sp : Nat → Bool} {held : Bool} {fuel b o : Nat} {cs : List Value} {x : DataW H × List MemPlace}
    (h : DataW.trod enc Try.prog W base sp held fuel 31 cs = some x) (hc : ∀ i, i < 6 → W.cell? ⟨b, o + i, none⟩ = cs[i]?) : ∃ y : Wt, Six W b o y := by
  obtain ⟨xs, n, _, _, hl, hlen, hf⟩ := DataW.trod_struct Try.underlying31 h
  rw [cells31] at hl
  match xs, hlen with
  | [y0, y1, y2, y3, y4, y5], _ =>
    match cs, hl with
    | [c0, c1, c2, c3, c4, c5], _ =>
      have f0 := hf 0 _ rfl
      have f1 := hf 1 _ rfl
      have f2 := hf 2 _ rfl
      have f3 := hf 3 _ rfl
      have f4 := hf 4 _ rfl
      have f5 := hf 5 _ rfl
      simp [cells9, cells4] at f0 f1 f2 f3 f4 f5
      obtain ⟨s0, e0, _⟩ := DataW.trod_string Try.underlying9 f0
      obtain ⟨s1, e1, _⟩ := DataW.trod_string Try.underlying9 f1
      obtain ⟨s2, e2, _⟩ := DataW.trod_string Try.underlying9 f2
      obtain ⟨b3, e3, _⟩ := DataW.trod_bool Try.underlying4 f3
      obtain ⟨b4, e4, _⟩ := DataW.trod_bool Try.underlying4 f4
      obtain ⟨b5, e5, _⟩ := DataW.trod_bool Try.underlying4 f5
      simp at e0 e1 e2 e3 e4 e5
      subst e0 e1 e2 e3 e4 e5
      exact ⟨⟨s0, s1, s2, b3, b4, b5⟩, hc 0 (by omega), hc 1 (by omega), hc 2 (by omega), hc 3 (by omega), hc 4 (by omega), hc 5 (by omega)⟩

theorem open_row {H : Type} {enc : TypeId × Value → H} {W : World} {base : Nat} {held : Bool} {fuel n c : Nat} {s : Option Addr} {x : DataW H × List MemPlace}
    (h : DataW.trod enc Try.prog W base (fun _ => true) held fuel 22 [.slice s n c] = some x) : ∃ F : Nat → Wt, RowAt W s n F ∧ (s = none → n = 0 ∧ c = 0) := by
  rcases open_slice Try.underlying22 h with ⟨hcs, _⟩ | ⟨a, len, cap, m, q, D, Pl, hcs, hb, hl, hm, hmm, _, hx⟩
  · simp at hcs
    obtain ⟨rfl, rfl, rfl⟩ := hcs
    exact ⟨fun _ => noWt, fun k hk => by omega, fun _ => ⟨rfl, rfl⟩⟩
  · simp at hcs
    obtain ⟨rfl, rfl, rfl⟩ := hcs
    simp at hmm
    subst hmm
    rw [cells31] at hx
    have one : ∀ i, i < n → ∃ y : Wt, ∃ b off, (some a) = some (⟨b, off, none⟩ : Addr) ∧ Six W b (off + i * 6) y := by
      intro i hi
      obtain ⟨b, off, spot⟩ := a
      have hspot : spot = none := by
        obtain ⟨cs0, g1, _⟩ := hx 0 (by omega)
        obtain ⟨_, hlen, hcell⟩ := World.cells?_some g1
        have h0 := hcell 0 (by omega)
        obtain ⟨v, hv⟩ : ∃ v, cs0[0]? = some v := by
          match cs0, hlen with
          | v :: _, _ => exact ⟨v, rfl⟩
        rw [hv] at h0
        simpa [Addr.add] using World.cell?_spot h0
      subst hspot
      obtain ⟨cs', h1, h2⟩ := hx i (by omega)
      obtain ⟨_, hlen, hcell⟩ := World.cells?_some h1
      have e : ∀ j, ((⟨b, off, none⟩ : Addr).add (i * 6)).add j = ⟨b, off + i * 6 + j, none⟩ := by
        intro j
        rw [Go.Deep.add_add, add_plain]
        simp
      obtain ⟨y, hy⟩ := six_of_trod (b := b) (o := off + i * 6) h2 (fun j hj => by rw [← e j]; exact hcell j hj)
      exact ⟨y, b, off, rfl, hy⟩
    refine ⟨fun i => if hi : i < n then Classical.choose (one i hi) else noWt, fun k hk => ?_, fun h => by cases h⟩
    simp only [dif_pos hk]
    exact Classical.choose_spec (one k hk)

set_option maxRecDepth 100000 in
theorem lifted (os : Os) (started : os.Started) (H : Type) (enc : TypeId × Value → H) :
    ReturnsInHanded {} Try.checked os 3 .any (Rows.fnLinkedAtAnyCutSpec.pre6 enc Try.prog Try.f3 Rows.fnLinkedAtAnyCutRow.domain false) (Rows.fnLinkedAtAnyCutSpec.post enc Try.prog Try.f3 false true false false) := by
  refine returnsInHanded_of_change (C := Try.checked) own started (by kernel_rfl) Try.func3
    (ChangeSpec.witness6 (enc := enc) (C := Try.checked) false ⟨#[], #[.slice none 0 0, .slice none 0 0], []⟩ 8 (by kernel_rfl) (by kernel_rfl) (by kernel_rfl) (by kernel_rfl)) ?_
  intro W base args ds gs before hval0 hW hcnd _
  have hval : ∀ (j : Nat) t v, Try.f3.params[j]? = some t → args[j]? = some v → Value.okWide Try.prog W .any base t v := hval0
  have hW' := hW
  obtain ⟨p, q, hA0, hV, rfl, hfz, hnd⟩ := hW
  have hA : DataW.TrodAll enc Try.prog W 0 (fun _ => true) true Try.f3.params.toList args.toList ds p := hA0
  rw [Try.params3] at hA hval
  obtain ⟨v0, vs0, d0, ds0, p0, q0, hargs, rfl, rfl, h0, r0⟩ := trodAll_cons hA
  obtain ⟨v1, vs1, d1, ds1, p1, q1, rfl, rfl, rfl, h1, r1⟩ := trodAll_cons r0
  obtain ⟨rfl, rfl, rfl⟩ := trodAll_nil r1
  obtain rfl : args = #[v0, v1] := by cases args; simp_all
  obtain ⟨rfl, rfl⟩ := trodVars_none hV
  obtain ⟨a0, len0, cap0, rfl⟩ := okWide_slice Try.underlying22 (hval 0 22 v0 rfl rfl)
  obtain ⟨a1, len1, cap1, rfl⟩ := okWide_slice Try.underlying22 (hval 1 22 v1 rfl rfl)
  have k0 := h0
  have k1 := h1
  have lt0 : ∀ x ∈ p0, x.block < W.heap.size := by obtain ⟨m, hm⟩ := k0; exact DataW.trod_lt m _ _ _ hm
  have lt1 : ∀ x ∈ p1, x.block < W.heap.size := by obtain ⟨m, hm⟩ := k1; exact DataW.trod_lt m _ _ _ hm
  obtain ⟨F, hF, sF⟩ : ∃ F : Nat → Wt, RowAt W a0 len0 F ∧ (a0 = none → len0 = 0 ∧ cap0 = 0) := by
    obtain ⟨fuel, hf⟩ := h0
    exact open_row hf
  obtain ⟨G, hG, sG⟩ : ∃ F : Nat → Wt, RowAt W a1 len1 F ∧ (a1 = none → len1 = 0 ∧ cap1 = 0) := by
    obtain ⟨fuel, hf⟩ := h1
    exact open_row hf
  clear hA0 hval0
  refine (walk a0 a1 len0 cap0 len1 cap1 F G W hF hG sF sG).mono fun e W' ⟨he, bel⟩ => ?_
  subst he
  exact ⟨_, rfl, _, _, _, [], _, [], hW', trodAll_mk1 (shut_bool Try.underlying4 _), (trodAll_cons_mk (Below.trod laidOut (by kernel_rfl) (of_decide_eq_true (by kernel_rfl)) k0 bel lt0) (trodAll_cons_mk (Below.trod laidOut (by kernel_rfl) (of_decide_eq_true (by kernel_rfl)) k1 bel lt1) trodAll_mk0)), rfl, bel.frame _, fun h => by cases h⟩

theorem over : Rows.fnLinkedAtAnyCutRow.holds Try.pinned (OpenSpec.ofChange Rows.fnLinkedAtAnyCutSpec) :=
  OpenClaim.holds_of_wide 3 Try.f3 rfl rfl rfl rfl rfl rfl rfl ⟨rfl, rfl, rfl, rfl, rfl⟩ rfl rfl rfl rfl rfl (by kernel_rfl) Try.func3 (by kernel_rfl)
    (of_decide_eq_true (by kernel_rfl)) (by unfold Func.isWrapper; first | (rw [if_pos (by decide +kernel)]; kernel_rfl) | (rw [if_neg (by decide +kernel)]; exact ⟨rfl, rfl⟩))
    (fun os started H enc _ => lifted os started H enc)

theorem linked_proved : Rows.FnLinkedAtAnyCutSaid := over
#print axioms linked_proved
end Go.Proofs.Qxb6616800a

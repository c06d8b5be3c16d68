import Derived.Test.Qxb6616867aWalksG
namespace Go.Proofs.Qxb6616867a
open Go.RowKit

/-! zzFirstStatic -/
def fsV : Option Nat → Int
  | some j => j
  | none => -1

set_option maxHeartbeats 2000000 in
set_option maxRecDepth 100000 in
theorem w14 (sa sb : Option Addr) (n ca cb : Nat) (T : Nat → ByteArray) (P : Nat → Bool) (t : ByteArray) (w : World) (hn : n ≤ 1024) (ha : StrAt w sa n T) (hb : BoolAt w sb n P) :
    Calls Try.prog 14 #[.slice sa n ca, .slice sb n cb, .string t] w fun e w' => e = .returned (.int .i64 (fsV (fs T P t n))) ∧ w = w' := by
  go_enter Try.func14, Try.ntmps14
  go_wp2
  go_loop [7] (fun i => ∃ k : Nat, k ≤ n ∧ i = .int .i64 k ∧ fs T P t k = none) (fun i => n - (intOf i).toNat)
  case atStart => exact ⟨0, Nat.zero_le _, rfl, rfl⟩
  case round =>
    obtain ⟨k, hk, rfl, hfs⟩ := hrel
    have HF : Hid (fs T P t k = none) := hfs
    clear hfs
    by_cases hlt : k < n
    · obtain ⟨b, off, hs, c0, _⟩ := ha k hlt
      obtain ⟨b', off', hs', c1⟩ := hb k hlt
      subst hs
      subst hs'
      have hlt' : (k : Int) < (n : Int) := by omega
      clear ha hb
      cases hp : P k
      · rw [hp] at c1
        by_cases hT : T k = t
        · have hq := beq_yes hT
          have HE : Hid (fs T P t n = some k) := fs_mono (k := k + 1) (by simp only [fs, HF.out]; rw [if_pos ⟨hp, hT⟩]) (by omega)
          clear hT hp
          go_wp2
          go_ret
          exact ⟨by rw [HE.out]; rfl, rfl⟩
        · have hq := beq_no hT
          have HE : Hid (fs T P t (k + 1) = none) := by show fs T P t (k + 1) = none; simp only [fs, HF.out]; rw [if_neg (fun h => hT h.2)]
          clear hT hp
          go_wp2
          go_round
          case rel => exact ⟨k + 1, by omega, by go_num, HE.out⟩
          case measure => simp [intOf]; omega
      · rw [hp] at c1
        have HE : Hid (fs T P t (k + 1) = none) := by show fs T P t (k + 1) = none; simp only [fs, HF.out]; rw [if_neg (fun h => by rw [hp] at h; cases h.1)]
        clear hp
        go_wp2
        go_round
        case rel => exact ⟨k + 1, by omega, by go_num, HE.out⟩
        case measure => simp [intOf]; omega
    · have hkn : n = k := by omega
      subst hkn
      clear ha hb
      go_wp2
      go_ret
      exact ⟨by rw [HF.out]; rfl, rfl⟩

/-! ZZstaticGet -/
theorem w15 {R base : Nat} {dyn : Option Nat} {kids : Kids} {t : ByteArray} {w : World} {p : Option Addr} (h : Inv w R base dyn kids) (ht : t.size ≤ maxLen) (hp : ptrO (look kids t) = .pointer p) :
    Calls Try.prog 15 #[.pointer (some ⟨R, 0, none⟩), .string t] w fun e w' => e = .returned (.pointer p) ∧ Below w.heap.size w w' := by
  have C : Hid (Calls Try.prog 17 #[.pointer (some ⟨R, 0, none⟩), .string t] w fun e w' => e = .returned (.pointer p) ∧ Below w.heap.size w w') := by
    have := get_inv h ht
    rw [hp] at this
    exact this
  clear h hp
  go_enter Try.func15, Try.ntmps15
  go_wp2_with (go_at_call 17; refine C.out.mono ?_; rintro e w1 ⟨rfl, hB⟩)
  go_ret
  exact ⟨rfl, hB⟩

theorem eql32n (w : World) : (binOp .eql 32 (.map none) (.map none)).run Try.prog w = .ok (.bool true) w := by kernel_rfl
theorem neqNone (w : World) : (binOp .neq 25 (.pointer none) (.pointer none)).run Try.prog w = .ok (.bool false) w := by kernel_rfl

/-- Of a static asking: what the first of its text got is what it got itself. -/
theorem first_same {T : Nat → ByteArray} {P : Nat → Bool} {n i f : Nat} {g : Nat → Nat} {dyn : Option Nat} {kids : Kids} (hg : Good T P n g dyn kids) (hi : i < n) (hp : P i = false) (hf : fs T P (T i) n = some f) : f < n ∧ g f = g i := by
  obtain ⟨h1, h2, h3⟩ := fs_some hf
  have a := hg.st f h1 h2
  have b := hg.st i hi hp
  rw [h3, b] at a
  exact ⟨h1, (Option.some.inj a).symm⟩
theorem first_is {T : Nat → ByteArray} {P : Nat → Bool} {n i : Nat} (hi : i < n) (hp : P i = false) : ∃ f, fs T P (T i) n = some f ∧ f ≤ i ∧ (f = i ↔ fs T P (T i) i = none) := by
  cases e : fs T P (T i) i with
  | none =>
    have e1 : fs T P (T i) (i + 1) = some i := by simp [fs, e, hp]
    exact ⟨i, fs_mono e1 (by omega), Nat.le_refl _, by simp⟩
  | some j =>
    have := fs_some e
    exact ⟨j, fs_mono e (by omega), by omega, ⟨fun h => by omega, fun h => by cases h⟩⟩
end Go.Proofs.Qxb6616867a

import Derived.Test.Qxb6616800aDoorWalksA
import Derived.Test.Qxb6616800aDoorAsB
import Derived.Test.Qxb6616800aDoorAsC
import Derived.Test.Qxb6616800aDoorAsD
namespace Go.Proofs.Qxb6616800aDoor
open Go.RowKit

/-- The bytes of s lie at block b from its head on. -/
def BytesAt (w : World) (b : Nat) (s : ByteArray) : Prop := ∀ j (hj : j < s.data.toList.length), w.cell? ⟨b, j, none⟩ = some (.int .u8 (s.data.toList[j].toNat : Int))

theorem conv_bytes (w : World) (s : ByteArray) : ∃ cap w1, (convert 9 27 (.string s)).run Tryd.prog w = .ok (.slice (some ⟨w.heap.size, 0, none⟩) s.size cap) w1 ∧ Below w.heap.size w w1 ∧ w.heap.size < w1.heap.size ∧ BytesAt w1 w.heap.size s := by
  refine ⟨_, _, run_bytes_of_string (P := Tryd.prog) w 9 27 5 s Tryd.underlying9 Tryd.underlying27 Tryd.underlying5, ?_, ?_, ?_⟩
  · exact (Below.refl _ _).drew.alloc (Nat.le_refl _) _
  · show w.heap.size < (w.heap.push _).size
    simp
  · intro j hj
    refine (World.cell?_alloc_mark w.drew _ _ _ j).trans ?_
    simp at hj
    simp [bytesRow, hj, Array.getElem?_append]

theorem back_bytes (w : World) (b cap : Nat) (s : ByteArray) (h : BytesAt w b s) : (convert 27 9 (.slice (some ⟨b, 0, none⟩) s.size cap)).run Tryd.prog w = .ok (.string s) w := by
  have := run_convert_bytes_back (P := Tryd.prog) w 27 9 5 ⟨b, 0, none⟩ cap s.data.toList Tryd.underlying27 Tryd.underlying5 Tryd.underlying9 (fun j hj => by
    have e : (⟨b, 0, none⟩ : Addr).add j = ⟨b, j, none⟩ := by unfold Addr.add; split <;> simp_all
    rw [e]; exact h j hj)
  simpa using this

theorem BytesAt.below {w w' : World} {b X : Nat} {s : ByteArray} (h : BytesAt w b s) (hb : Below X w w') (hX : b < X) : BytesAt w' b s :=
  fun j hj => (hb.cell (p := ⟨b, j, none⟩) hX).trans (h j hj)

/-! (keptRun).answer -/
set_option maxRecDepth 100000 in
theorem w11_zero (b1 c1 b2 c2 : Nat) (so se : ByteArray) (as' : Option Addr) (an ac : Nat) (w : World) (h1 : BytesAt w b1 so) (hb : b1 < w.heap.size) :
    Calls Tryd.prog 11 #[.agg #[.slice none 0 0, .slice (some ⟨b1, 0, none⟩) so.size c1, .slice (some ⟨b2, 0, none⟩) se.size c2, .int .i64 0, .int .u64 0, .int .i64 0, .pointer none], .slice as' an ac] w fun e w' =>
      e = .returned (.tuple #[.string so, .nilIface]) ∧ Below w.heap.size w w' := by
  have hcv := back_bytes (w.alloc (.cells #[.slice none 0 0, .slice (some ⟨b1, 0, none⟩) so.size c1, .slice (some ⟨b2, 0, none⟩) se.size c2, .int .i64 0, .int .u64 0, .int .i64 0, .pointer none] 33)) b1 c1 so (h1.below ((Below.refl _ _).alloc (Nat.le_refl _) _) hb)
  go_enter Tryd.func11, Tryd.ntmps11
  go_wp2
  go_ret2
  exact ⟨rfl, (Below.refl _ _).alloc (Nat.le_refl _) _⟩

set_option maxRecDepth 100000 in
theorem w11_more (b1 c1 b2 c2 : Nat) (so se : ByteArray) (st : Int) (hst : (st == 0) = false) (as' : Option Addr) (an ac : Nat) (w : World) (h2 : BytesAt w b2 se) (hb : b2 < w.heap.size) :
    Calls Tryd.prog 11 #[.agg #[.slice none 0 0, .slice (some ⟨b1, 0, none⟩) so.size c1, .slice (some ⟨b2, 0, none⟩) se.size c2, .int .i64 st, .int .u64 0, .int .i64 0, .pointer none], .slice as' an ac] w fun e w' =>
      e = .returned (.tuple #[.string ⟨#[]⟩, .iface 34 (.pointer (some ⟨w.heap.size + 1, 0, none⟩))]) ∧ Below w.heap.size w w' ∧ w'.cell? ⟨w.heap.size + 1, 2, none⟩ = some (.iface 44 (.int .i64 st)) ∧ w.heap.size + 1 < w'.heap.size := by
  have hcv := back_bytes (w.alloc (.cells #[.slice none 0 0, .slice (some ⟨b1, 0, none⟩) so.size c1, .slice (some ⟨b2, 0, none⟩) se.size c2, .int .i64 st, .int .u64 0, .int .i64 0, .pointer none] 33)) b2 c2 se (h2.below ((Below.refl _ _).alloc (Nat.le_refl _) _) hb)
  have hcv' := back_bytes (w.alloc (.cells #[.slice none 0 0, .slice (some ⟨b1, 0, none⟩) so.size c1, .slice (some ⟨b2, 0, none⟩) se.size c2, .int .i64 st, .int .u64 0, .int .i64 0, .pointer none] 33)).drew b2 c2 se (h2.below ((Below.refl _ _).alloc (Nat.le_refl _) _).drew hb)
  go_enter Tryd.func11, Tryd.ntmps11
  go_wp2
  go_region
  go_wp2
  go_ret2
  exact ⟨rfl, (((Below.refl _ _).alloc (Nat.le_refl _) _).alloc (by simp) _).drew, by simp, by simp⟩

/-! ZZanswerError -/
theorem taN (w : World) : (Instr.typeAssert .nilIface 40 34 true).run Tryd.prog w = .ok (.tuple #[.pointer none, .bool false]) w := by kernel_rfl
theorem ta34 (p : Option Addr) (w : World) : (Instr.typeAssert (.iface 34 (.pointer p)) 40 34 true).run Tryd.prog w = .ok (.tuple #[.pointer p, .bool true]) w := by kernel_rfl

set_option maxRecDepth 100000 in
theorem w8_zero (b1 c1 b2 c2 : Nat) (so se : ByteArray) (as' : Option Addr) (an ac : Nat) (w : World) (h1 : BytesAt w b1 so) (hb : b1 < w.heap.size) :
    Calls Tryd.prog 8 #[.agg #[.slice none 0 0, .slice (some ⟨b1, 0, none⟩) so.size c1, .slice (some ⟨b2, 0, none⟩) se.size c2, .int .i64 0, .int .u64 0, .int .i64 0, .pointer none], .slice as' an ac] w fun e w' =>
      e = .returned (.tuple #[.string so, .pointer none]) ∧ Below w.heap.size w w' := by
  have t1 := taN
  go_enter Tryd.func8, Tryd.ntmps8
  go_wp2_with (go_at_call 11; refine (w11_zero b1 c1 b2 c2 so se as' an ac _ (h1.below ((Below.refl _ _).alloc (Nat.le_refl _) _) hb) (by simp; omega)).mono ?_; rintro e w1 ⟨rfl, hB1⟩)
  go_ret2
  exact ⟨rfl, ((Below.refl _ _).alloc (Nat.le_refl _) _).trans (hB1.mono (by simp))⟩

set_option maxRecDepth 100000 in
theorem w8_more (b1 c1 b2 c2 : Nat) (so se : ByteArray) (st : Int) (hst : (st == 0) = false) (as' : Option Addr) (an ac : Nat) (w : World) (h2 : BytesAt w b2 se) (hb : b2 < w.heap.size) :
    Calls Tryd.prog 8 #[.agg #[.slice none 0 0, .slice (some ⟨b1, 0, none⟩) so.size c1, .slice (some ⟨b2, 0, none⟩) se.size c2, .int .i64 st, .int .u64 0, .int .i64 0, .pointer none], .slice as' an ac] w fun e w' =>
      e = .returned (.tuple #[.string ⟨#[]⟩, .pointer (some ⟨w.heap.size + 1 + 1, 0, none⟩)]) ∧ Below w.heap.size w w' ∧ w'.cell? ⟨w.heap.size + 1 + 1, 2, none⟩ = some (.iface 44 (.int .i64 st)) ∧ w.heap.size + 1 + 1 < w'.heap.size := by
  have t1 := ta34
  go_enter Tryd.func8, Tryd.ntmps8
  go_wp2_with (go_at_call 11; refine (w11_more b1 c1 b2 c2 so se st hst as' an ac _ (h2.below ((Below.refl _ _).alloc (Nat.le_refl _) _) hb) (by simp; omega)).mono ?_; rintro e w1 ⟨rfl, hB1, hc1, hz1⟩)
  go_ret2
  exact ⟨rfl, ((Below.refl _ _).alloc (Nat.le_refl _) _).trans (hB1.mono (by simp)), by simpa using hc1, by simpa using hz1⟩

/-! ZZasKeptStatus -/
abbrev errType (w : World) : Prop := w.cell? ⟨0, 0, none⟩ = some (.iface 70 (.agg #[.pointer (some ⟨1, 40, none⟩)]))

set_option maxHeartbeats 1000000 in
set_option maxRecDepth 100000 in
theorem w9 (pb : Nat) (n : Int) (w : World) (hg : errType w) (hp : w.cell? ⟨pb, 2, none⟩ = some (.iface 44 (.int .i64 n))) :
    Calls Tryd.prog 9 #[.pointer (some ⟨pb, 0, none⟩)] w fun e w' => e = .returned (.tuple #[.int .i64 n, .bool true]) ∧ Below w.heap.size w w' := by
  have hlt : 0 < w.heap.size := World.block_lt_of_cell? w _ hg
  have hpl : pb < w.heap.size := World.block_lt_of_cell? w _ hp
  have hg1 : (w.alloc (.cells #[.int .i64 0] 44)).cell? ⟨0, 0, none⟩ = some (.iface 70 (.agg #[.pointer (some ⟨1, 40, none⟩)])) := by
    rw [World.cell?_alloc_lt _ _ ⟨0, 0, none⟩ hlt]; exact hg
  have hp1 : (w.alloc (.cells #[.int .i64 0] 44)).cell? ⟨pb, 0 + 2, none⟩ = some (.iface 44 (.int .i64 n)) := by
    rw [World.cell?_alloc_lt _ _ ⟨pb, 0 + 2, none⟩ hpl]; exact hp
  have ht : (w.alloc (.cells #[.int .i64 0] 44)).cell? ⟨w.heap.size, 0, none⟩ = some (.int .i64 0) := by simp
  have hf : (w.alloc (.cells #[.int .i64 0] 44)).frozen? ⟨w.heap.size, 0, none⟩ = false := by simp
  have H1 : Hid _ := hg1
  have H2 : Hid _ := hp1
  have H3 : Hid _ := ht
  have H4 : Hid _ := hf
  clear hg1 hp1 ht hf hp hg
  go_enter Tryd.func9, Tryd.ntmps9
  go_wp2_with (go_at_call 12; refine (as_unwrap pb 0 n _ _ _ H1.out H3.out H4.out H2.out).mono ?_; rintro e w1 ⟨rfl, rfl⟩)
  go_ret2
  refine ⟨rfl, ?_⟩
  repeat (refine Below.alloc ?_ (by first | omega | (simp; done) | (simp; omega)) _)
  exact Below.refl _ _

/-! (*Error).status -/
set_option maxHeartbeats 2000000 in
set_option maxRecDepth 100000 in
theorem w13 (pb : Nat) (n : Int) (w : World) (hg : errType w) (hp : w.cell? ⟨pb, 2, none⟩ = some (.iface 44 (.int .i64 n))) :
    Calls Tryd.prog 13 #[.pointer (some ⟨pb, 0, none⟩)] w fun e w' => e = .returned (.tuple #[.int .i64 n, .bool true]) ∧ Below w.heap.size w w' := by
  have hlt : 0 < w.heap.size := World.block_lt_of_cell? w _ hg
  have hpl : pb < w.heap.size := World.block_lt_of_cell? w _ hp
  have H1 : Hid (errType (w.alloc (.cells #[.pointer none] 63))) := by
    show World.cell? _ _ = _
    rw [World.cell?_alloc_lt _ _ ⟨0, 0, none⟩ hlt]; exact hg
  have H2 : Hid (∀ w1, Below w.heap.size w w1 → w.heap.size ≤ w1.heap.size → errType (w1.alloc (.cells #[.int .i64 0] 44))) := by
    intro w1 hb hz
    show World.cell? _ _ = _
    rw [World.cell?_alloc_lt _ _ ⟨0, 0, none⟩ (show 0 < w1.heap.size by omega), hb.cell (p := ⟨0, 0, none⟩) hlt]; exact hg
  have Hg : Hid (errType w) := hg
  clear hg
  go_enter Tryd.func13, Tryd.ntmps13
  go_wp2_with fail
  refine (as_miss n _ _ H1.out).mono ?_
  rintro e w1 ⟨rfl, hw1⟩
  have hB1 : Below w.heap.size w w1 := by
    rw [hw1]
    repeat (refine Below.alloc ?_ (by first | omega | (simp; done) | (simp; omega)) _)
    exact Below.refl _ _
  clear hw1
  have hz1 := hB1.size
  have hp1 : w1.cell? ⟨pb, 2, none⟩ = some (.iface 44 (.int .i64 n)) := (hB1.cell (p := ⟨pb, 2, none⟩) hpl).trans hp
  have hpl1 : pb < w1.heap.size := by omega
  go_wp2_with fail
  refine (as_hit n _ (.int .i64 0) _ (H2.out w1 hB1 hz1) (by simp) (by simp)).mono ?_
  rintro e w2 ⟨rfl, rfl⟩
  go_wp2
  go_ret2
  refine ⟨rfl, ?_⟩
  repeat (refine Below.alloc ?_ (by first | omega | (simp; done) | (simp; omega)) _)
  exact hB1

theorem w10 (pb : Nat) (n : Int) (w : World) (hg : errType w) (hp : w.cell? ⟨pb, 2, none⟩ = some (.iface 44 (.int .i64 n))) :
    Calls Tryd.prog 10 #[.pointer (some ⟨pb, 0, none⟩)] w fun e w' => e = .returned (.tuple #[.int .i64 n, .bool true]) ∧ Below w.heap.size w w' := by
  have Hg : Hid (errType w) := hg
  clear hg
  go_enter Tryd.func10, Tryd.ntmps10
  go_wp2_with (go_at_call 13; refine (w13 pb n _ Hg.out hp).mono ?_; rintro e w1 ⟨rfl, hB1⟩)
  go_ret2
  exact ⟨rfl, hB1⟩
end Go.Proofs.Qxb6616800aDoor

import Derived.Test.Qxb6616800aDoorWalksB
namespace Go.Proofs.Qxb6616800aDoor
open Go.RowKit

set_option maxHeartbeats 2000000 in
set_option maxRecDepth 100000 in
theorem walk_in (so se : ByteArray) (st : Int) (sa : Option Addr) (n c : Nat) (F : Nat → ByteArray) (w : World) (hn : n ≤ 4096) (ha : StrAt w sa n F) (hs : sa = none → n = 0 ∧ c = 0) (hg : errType w) :
    Calls Tryd.prog 3 #[.string so, .string se, .int .i64 st, .slice sa n c] w fun e w' => e = .returned (.bool true) ∧ Below w.heap.size w w' := by
  have hlt : 0 < w.heap.size := World.block_lt_of_cell? w _ hg
  have Hg : Hid (errType w) := hg
  clear hg
  have hd1 : decide ((4096 : Int) < (n : Int)) = false := decide_eq_false (by omega)
  obtain ⟨x1, y1⟩ := roomV_le 1048576 so.size (by omega)
  obtain ⟨x2, y2⟩ := roomV_le (roomV 1048576 so.size) se.size (by omega)
  go_enter Tryd.func3, Tryd.ntmps3
  go_wp2_with fail
  refine (w4 so se st sa n c F w ha).mono ?_
  rintro e w' ⟨⟨q, rfl⟩, rfl⟩
  cases q
  · go_wp2
    go_ret
    exact ⟨rfl, Below.refl _ _⟩
  go_wp2_with fail
  refine (w6 1048576 so w (by omega) (by omega)).mono ?_
  rintro e w' ⟨rfl, rfl⟩
  go_wp2_with fail
  refine (w6 _ se w (by omega) (by omega)).mono ?_
  rintro e w' ⟨rfl, rfl⟩
  go_wp2_with fail
  refine (w5 _ sa n c F w (by omega) (by omega) hn ha).mono ?_
  rintro e w' ⟨⟨q2, rfl, hq20, hq21⟩, rfl⟩
  by_cases hneg : q2 < 0
  · go_wp2
    go_ret
    exact ⟨rfl, Below.refl _ _⟩
  have hdq : decide (q2 < 0) = false := decide_eq_false hneg
  go_wp2_with fail
  refine (w7 sa n c F w hn ha hs).mono ?_
  rintro e w1 ⟨⟨s', n', c', rfl⟩, hB1⟩
  obtain ⟨cap1, w2, e1, hB2, hz2, hy1⟩ := conv_bytes w1 so
  obtain ⟨cap2, w3, e2, hB3, hz3, hy2⟩ := conv_bytes w2 se
  have s1 := hB1.size
  have s2 := hB2.size
  have s3 := hB3.size
  have hB : Below w.heap.size w w3 := (hB1.trans (hB2.mono s1)).trans (hB3.mono (by omega))
  have hy1' := hy1.below hB3 hz2
  have HY1 : Hid (BytesAt w3 w1.heap.size so) := hy1'
  have HY2 : Hid (BytesAt w3 w2.heap.size se) := hy2
  clear ha hs hy1 hy2 hy1' hB1 hB2 hB3
  by_cases hst : st = 0
  · subst hst
    go_wp2_with fail
    refine (w8_zero _ cap1 _ cap2 so se s' n' c' _ (BytesAt.below HY1 ((Below.refl _ _).alloc (Nat.le_refl _) _) (by omega)) (by simp; omega)).mono ?_
    rintro e w4 ⟨rfl, hB4⟩
    have hE : Below w.heap.size w w4 := (hB.alloc (by omega) _).trans (hB4.mono (by simp; omega))
    clear HY1 HY2 e1 e2
    go_wp2
    go_ret
    exact ⟨rfl, hE⟩
  · have hst' : (st == 0) = false := beq_eq_false_iff_ne.2 hst
    go_wp2_with fail
    refine (w8_more _ cap1 _ cap2 so se st hst' s' n' c' _ (BytesAt.below HY2 ((Below.refl _ _).alloc (Nat.le_refl _) _) (by omega)) (by simp; omega)).mono ?_
    rintro e w4 ⟨rfl, hB4, hc4, hz4⟩
    rw [World.size_alloc] at hB4 hc4 hz4
    have s4 := hB4.size
    have hE : Below w.heap.size w w4 := (hB.alloc (by omega) _).trans (hB4.mono (by omega))
    have Hg4 : Hid (errType w4) := (hE.cell (p := ⟨0, 0, none⟩) hlt).trans Hg.out
    clear HY1 HY2 e1 e2 Hg
    go_wp2_with fail
    refine (w9 _ st w4 Hg4.out hc4).mono ?_
    rintro e w5 ⟨rfl, hB5⟩
    have s5 := hB5.size
    have Hg5 : Hid (errType w5) := (hB5.cell (p := ⟨0, 0, none⟩) (show 0 < w4.heap.size by omega)).trans Hg4.out
    have hc5 := (hB5.cell (p := ⟨w3.heap.size + 1 + 1 + 1, 2, none⟩) hz4).trans hc4
    go_wp2_with fail
    refine (w10 _ st w5 Hg5.out hc5).mono ?_
    rintro e w6 ⟨rfl, hB6⟩
    have hE6 : Below w.heap.size w w6 := (hE.trans (hB5.mono hE.size)).trans (hB6.mono (by omega))
    clear Hg4 Hg5 hc4 hc5
    go_wp2
    go_ret
    exact ⟨rfl, hE6⟩

theorem walk_long (so se : ByteArray) (st : Int) (sa : Option Addr) (n c : Nat) (F : Nat → ByteArray) (w : World) (hn : 4096 < n) (ha : StrAt w sa n F) :
    Calls Tryd.prog 3 #[.string so, .string se, .int .i64 st, .slice sa n c] w fun e w' => e = .returned (.bool true) ∧ Below w.heap.size w w' := by
  go_enter Tryd.func3, Tryd.ntmps3
  go_wp2_with fail
  refine (w4 so se st sa n c F w ha).mono ?_
  rintro e w' ⟨⟨q, rfl⟩, rfl⟩
  cases q
  all_goals
    go_wp2
    go_ret
    exact ⟨rfl, Below.refl _ _⟩

theorem walk (so se : ByteArray) (st : Int) (sa : Option Addr) (n c : Nat) (F : Nat → ByteArray) (w : World) (ha : StrAt w sa n F) (hs : sa = none → n = 0 ∧ c = 0) (hg : errType w) :
    Calls Tryd.prog 3 #[.string so, .string se, .int .i64 st, .slice sa n c] w fun e w' => e = .returned (.bool true) ∧ Below w.heap.size w w' := by
  by_cases hn : n ≤ 4096
  · exact walk_in so se st sa n c F w hn ha hs hg
  · exact walk_long so se st sa n c F w (by omega) ha
end Go.Proofs.Qxb6616800aDoor

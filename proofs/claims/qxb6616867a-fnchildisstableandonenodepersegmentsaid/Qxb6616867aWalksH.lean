import Derived.Test.Qxb6616867aWalksG
namespace Go.Proofs.Qxb6616867a
open Go.RowKit

set_option maxHeartbeats 4000000 in
set_option maxRecDepth 100000 in
theorem stable_in (sa sb : Option Addr) (n ca cb : Nat) (T : Nat → ByteArray) (P : Nat → Bool) (w : World) (hn : n ≤ 1024) (ha : StrAt w sa n T) (hb : BoolAt w sb n P) :
    Calls Try.prog 3 #[.slice sa n ca, .slice sb n cb] w fun e w' => e = .returned (.bool true) ∧ Below w.heap.size w w' := by
  have hd1 : decide ((1024 : Int) < (n : Int)) = false := decide_eq_false (by omega)
  have hmk := mk27 (fun _ => 0) n hn
  have HA : Hid (StrAt w sa n T) := ha
  have HB : Hid (BoolAt w sb n P) := hb
  clear ha hb
  go_enter Try.func3, Try.ntmps3
  go_wp2_with fail
  refine (w5 sa sb n ca n cb T w HA.out).mono ?_
  rintro e w' ⟨⟨q, rfl⟩, rfl⟩
  cases q
  · go_wp2
    go_ret
    exact ⟨rfl, Below.refl _ _⟩
  go_wp2_with fail
  go_loop [5, 34] (fun t i => ∃ (k : Nat) (q : Int), k ≤ n ∧ i = .int .i64 k ∧ t = .int .i64 q) (fun _ i => n - (intOf i).toNat)
  case atStart => exact ⟨0, _, Nat.zero_le _, rfl, rfl⟩
  case round =>
    obtain ⟨k, q, hk, rfl, rfl⟩ := hrel
    by_cases hlt : k < n
    · obtain ⟨b, off, hs, c0, _⟩ := HA.out k hlt
      subst hs
      have hlt' : (k : Int) < (n : Int) := by omega
      clear HA HB
      go_wp2
      · go_ret
        exact ⟨rfl, Below.refl _ _⟩
      · go_round
        case rel => exact ⟨k + 1, _, by omega, by go_num, rfl⟩
        case measure => simp [intOf]; omega
    · go_wp2
      go_loopw [10] (fun i wr => ∃ (k : Nat) (g : Nat → Nat) (dyn : Option Nat) (kids : Kids), k ≤ n ∧ i = .int .i64 k ∧ Inv wr w.heap.size w.heap.size dyn kids ∧ wr.heap[w.heap.size + 1]? = some (.cells (gotA g n k) 25 (0, 0)) ∧ Good T P k g dyn kids ∧ Below w.heap.size w wr)
        (fun i _ => n - (intOf i).toNat)
      case atStart =>
        refine ⟨0, fun _ => 0, none, [], Nat.zero_le _, rfl, ?_, ?_, Good.start _ _ _, ((Below.refl _ _).alloc (Nat.le_refl _) _).alloc (by simp) _⟩
        · exact (inv_start w).ext ((Below.refl _ _).alloc (Nat.le_refl _) _)
        · simpa using heap_alloc_new (w.alloc leafC) (.cells (gotA (fun _ => 0) n 0) 25)
      case round =>
        obtain ⟨k, g, dyn, kids, hk, rfl, hI, hgot, hGood, hbel⟩ := hrel
        have HI : Hid (Inv wr w.heap.size w.heap.size dyn kids) := hI
        have HGot : Hid (wr.heap[w.heap.size + 1]? = some (.cells (gotA g n k) 25 (0, 0))) := hgot
        have HGood : Hid (Good T P k g dyn kids) := hGood
        have hsz : w.heap.size + 1 < wr.heap.size := lt_of_block hgot
        clear hI hgot hGood
        by_cases hlt : k < n
        · obtain ⟨b, off, hs, c0, hz⟩ := (HA.out.below hbel (Nat.le_refl _)) k hlt
          obtain ⟨b', off', hs', c0'⟩ := (HB.out.below hbel (Nat.le_refl _)) k hlt
          have hlt' : (k : Int) < (n : Int) := by omega
          have hkl : kids.length ≤ 1024 := by have := HGood.out.len; have := dis_le T P k; omega
          have C : Hid (Calls Try.prog 7 #[.pointer (some ⟨w.heap.size, 0, none⟩), .string (T k), .bool (P k)] wr.drew fun e w' => ∃ c dyn' kids', e = .returned (.pointer (some ⟨c, 0, none⟩)) ∧ Step wr.drew.heap.size dyn kids (T k) (P k) c dyn' kids' ∧ Inv w' w.heap.size w.heap.size dyn' kids' ∧ Grows w.heap.size w.heap.size wr.drew w') :=
            zchild (HI.out.ext (Below.refl _ _).drew) hz hkl (by show _ ≤ wr.heap.size; omega)
          subst hs
          subst hs'
          clear HA HB HI hkl
          go_wp2_with fail
          go_region_with (go_at_call 7; refine C.out.mono ?_; rintro e w1 ⟨c, dyn', kids', rfl, hS, hI1, hG1⟩; obtain ⟨hgot1, e1, f1⟩ := got_after HGot.out hG1 hlt; have H1 : Hid _ := (⟨hS, hI1, hG1, hgot1⟩ : Step wr.drew.heap.size dyn kids (T k) (P k) c dyn' kids' ∧ Inv w1 w.heap.size w.heap.size dyn' kids' ∧ Grows w.heap.size w.heap.size wr.drew w1 ∧ _); clear hS hI1 hG1 hgot1)
          all_goals
            have H2 : Hid _ := round_got HGood.out hbel H1.out
            clear H1 HGot HGood C e1 f1 c0 c0' hz
            go_wp2
            go_roundw
            case rel => exact ⟨k + 1, _, dyn', kids', by omega, by go_num, H2.out⟩
            case measure => simp [intOf]; omega
        · have hkn : n = k := by omega
          subst hkn
          clear hlt hk
          go_wp2
          go_loopw [11] (fun i wx => ∃ i' : Nat, i' ≤ n ∧ i = .int .i64 i' ∧ Inv wx w.heap.size w.heap.size dyn kids ∧ wx.heap[w.heap.size + 1]? = some (.cells (gotA g n n) 25 (0, 0)) ∧ Below w.heap.size w wx) (fun i _ => n - (intOf i).toNat)
          case atStart => exact ⟨0, Nat.zero_le _, rfl, HI.out, HGot.out, hbel⟩
          case round =>
            obtain ⟨i, hi, rfl, hI2, hgot2, hbel2⟩ := hrel
            clear HI HGot hbel
            by_cases hlt : i < n
            · obtain ⟨b, off, hs, c0, hz⟩ := (HA.out.below hbel2 (Nat.le_refl _)) i hlt
              obtain ⟨b', off', hs', c0'⟩ := (HB.out.below hbel2 (Nat.le_refl _)) i hlt
              have hlt' : (i : Int) < (n : Int) := by omega
              obtain ⟨hlf, hlb, hlR⟩ := leaf_of hI2 HGood.out hlt
              have x0 : wr.cell? ⟨g i, 0, none⟩ = some (.slice none 0 0) := by rw [cell_of_row _ _ _ _ _ _ hlf]; rfl
              have x1 : wr.cell? ⟨g i, 1, none⟩ = some (.map none) := by rw [cell_of_row _ _ _ _ _ _ hlf]; rfl
              have x2 : wr.cell? ⟨g i, 2, none⟩ = some (.pointer none) := by rw [cell_of_row _ _ _ _ _ _ hlf]; rfl
              have x3 : wr.cell? ⟨g i, 3, none⟩ = some (.slice none 0 0) := by rw [cell_of_row _ _ _ _ _ _ hlf]; rfl
              have x4 : wr.cell? ⟨g i, 4, none⟩ = some (.slice none 0 0) := by rw [cell_of_row _ _ _ _ _ _ hlf]; rfl
              have y0 : wr.cell? ⟨w.heap.size + 1, i, none⟩ = some (.pointer (some ⟨g i, 0, none⟩)) := by rw [cell_of_row _ _ _ _ _ _ hgot2, gotA_get _ _ _ _ hlt, if_pos hlt]
              have hE : (binOp .eql 25 (.pointer (some ⟨g i, 0, none⟩)) (.pointer (some ⟨w.heap.size, 0, none⟩))).run Try.prog wr = .ok (.bool false) wr := by
                obtain ⟨few, mp, hr, _⟩ := hI2.root
                rw [eqPtr hlf hr, decide_eq_false hlR]
              have hN := neq32n
              have hS := neqSame (g i)
              have C : Hid (Calls Try.prog 7 #[.pointer (some ⟨w.heap.size, 0, none⟩), .string (T i), .bool (P i)] wr.drew fun e w' => e = .returned (.pointer (some ⟨g i, 0, none⟩)) ∧ Below wr.drew.heap.size wr.drew w') :=
                zchild_again (hI2.ext (Below.refl _ _).drew) hz (HGood.out.dy i hlt) (HGood.out.st i hlt)
              subst hs
              subst hs'
              have HI2 : Hid (Inv wr w.heap.size w.heap.size dyn kids) := hI2
              have HGot2 : Hid (wr.heap[w.heap.size + 1]? = some (.cells (gotA g n n) 25 (0, 0))) := hgot2
              have HLF : Hid (wr.heap[g i]? = some leafC) := hlf
              clear hI2 hgot2 hlf hlR hlb
              go_wp2_with (first
                | (go_at_call 8; refine (w8 _ _ _ x2).mono ?_; rintro e w' ⟨rfl, rfl⟩)
                | (go_at_call 9; refine (w9 _ _ _ _ _ x0).mono ?_; rintro e w' ⟨rfl, rfl⟩)
                | (go_at_call 10; refine (w10 _ _ _ x1).mono ?_; rintro e w' ⟨rfl, rfl⟩)
                | (go_at_call 11; refine (w11 _ _ _ _ _ x3).mono ?_; rintro e w' ⟨rfl, rfl⟩)
                | (go_at_call 12; refine (w12 _ _ _ _ _ x4).mono ?_; rintro e w' ⟨rfl, rfl⟩))
              go_region_with (go_at_call 7; refine C.out.mono ?_; rintro e wx ⟨rfl, hBx⟩)
              all_goals
                have hB3 : Below wr.heap.size wr wx := (Below.refl _ _).drew.trans hBx
                have hbx : Below w.heap.size w wx := hbel2.trans (hB3.mono hbel2.size)
                have HIx : Hid (Inv wx w.heap.size w.heap.size dyn kids) := HI2.out.ext hB3
                have HGx : Hid (wx.heap[w.heap.size + 1]? = some (.cells (gotA g n n) 25 (0, 0))) := (hB3.block _ (lt_of_block HGot2.out)).trans HGot2.out
                have HLx : Hid (wx.heap[g i]? = some leafC) := (hB3.block _ (lt_of_block HLF.out)).trans HLF.out
                clear C HI2 HGot2 HLF x0 x1 x2 x3 x4 y0 hE hS hBx hB3 c0 c0'
                go_wp2
                go_loopw [13] (fun jv wy => ∃ j : Nat, j ≤ i ∧ jv = .int .i64 j ∧ ∃ q, wy = wx.drewN q) (fun jv _ => i - (intOf jv).toNat)
                case atStart => exact ⟨0, Nat.zero_le _, rfl, 0, rfl⟩
                case round =>
                  obtain ⟨j, hj, rfl, q', rfl⟩ := hrel
                  by_cases hji : j < i
                  · have hjn : j < n := by omega
                    have hji' : (j : Int) < (i : Int) := by omega
                    have hjn' : (j : Int) < (n : Int) := by omega
                    obtain ⟨_, _, ea, z2, _⟩ := (HA.out.below hbx (Nat.le_refl _)) i hlt
                    cases ea
                    obtain ⟨_, _, ea, z3, _⟩ := (HA.out.below hbx (Nat.le_refl _)) j hjn
                    cases ea
                    obtain ⟨_, _, ea, z0⟩ := (HB.out.below hbx (Nat.le_refl _)) i hlt
                    cases ea
                    obtain ⟨_, _, ea, z1⟩ := (HB.out.below hbx (Nat.le_refl _)) j hjn
                    cases ea
                    have z4 : wx.cell? ⟨w.heap.size + 1, j, none⟩ = some (.pointer (some ⟨g j, 0, none⟩)) := by rw [cell_of_row _ _ _ _ _ _ HGx.out, gotA_get _ _ _ _ hjn, if_pos hjn]
                    have hEq : ∀ q, (binOp .eql 25 (.pointer (some ⟨g j, 0, none⟩)) (.pointer (some ⟨g i, 0, none⟩))).run Try.prog (wx.drewN q) = .ok (.bool (decide (g j = g i))) (wx.drewN q) :=
                      fun q => eqPtr (w := wx.drewN q) (leaf_of HIx.out HGood.out hjn).1 HLx.out
                    have hsame := same_iff HIx.out HGood.out hlt hjn
                    have HD : Hid _ := hbx
                    clear HA HB HIx HGx HLx HGood hbx
                    cases hpi : P i <;> cases hpj : P j <;> rw [hpi] at z0 hsame <;> rw [hpj] at z1 hsame
                    · by_cases hT : T i = T j
                      · have hq := beq_yes hT
                        have hdd : decide (g j = g i) = true := decide_eq_true (hsame.2 ⟨rfl, .inr hT⟩)
                        rw [hdd] at hEq
                        clear hsame hT hdd hpi hpj
                        go_wp2
                        go_quiet (fail)
                        go_wp2
                        go_roundw
                        case rel => exact ⟨j + 1, by omega, by go_num, _, rfl⟩
                        case measure => simp [intOf]; omega
                      · have hq := beq_no hT
                        have hdd : decide (g j = g i) = false := decide_eq_false (fun e => by have := hsame.1 e; simp [hT] at this)
                        rw [hdd] at hEq
                        clear hsame hT hdd hpi hpj
                        go_wp2
                        go_quiet (fail)
                        go_wp2
                        go_roundw
                        case rel => exact ⟨j + 1, by omega, by go_num, _, rfl⟩
                        case measure => simp [intOf]; omega
                    · have hdd : decide (g j = g i) = false := decide_eq_false (fun e => by have := hsame.1 e; simp at this)
                      rw [hdd] at hEq
                      clear hsame hdd hpi hpj
                      go_wp2
                      go_quiet (fail)
                      go_wp2
                      go_roundw
                      case rel => exact ⟨j + 1, by omega, by go_num, _, rfl⟩
                      case measure => simp [intOf]; omega
                    · have hdd : decide (g j = g i) = false := decide_eq_false (fun e => by have := hsame.1 e; simp at this)
                      rw [hdd] at hEq
                      clear hsame hdd hpi hpj
                      go_wp2
                      go_quiet (fail)
                      go_wp2
                      go_roundw
                      case rel => exact ⟨j + 1, by omega, by go_num, _, rfl⟩
                      case measure => simp [intOf]; omega
                    · have hdd : decide (g j = g i) = true := decide_eq_true (hsame.2 ⟨rfl, .inl rfl⟩)
                      rw [hdd] at hEq
                      clear hsame hdd hpi hpj
                      go_wp2
                      go_quiet (fail)
                      go_wp2
                      go_roundw
                      case rel => exact ⟨j + 1, by omega, by go_num, _, rfl⟩
                      case measure => simp [intOf]; omega
                  · have H5 : Hid (Inv (wx.drewN q') w.heap.size w.heap.size dyn kids ∧ (wx.drewN q').heap[w.heap.size + 1]? = some (.cells (gotA g n n) 25 (0, 0)) ∧ Below w.heap.size w (wx.drewN q')) :=
                      ⟨HIx.out.ext (below_drewN (Below.refl _ _) _), HGx.out, below_drewN hbx _⟩
                    clear HA HB HIx HGx HLx HGood hbx
                    go_wp2
                    go_roundw
                    case rel => exact ⟨i + 1, by omega, by go_num, H5.out⟩
                    case measure => simp [intOf]; omega
            · clear HA HB HGood hI2 hgot2
              go_wp2
              go_ret
              exact ⟨rfl, hbel2⟩
end Go.Proofs.Qxb6616867a

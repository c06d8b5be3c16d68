import Derived.Test.Qxb6616867aWalksJ
import Derived.Deep.CutRange
import Derived.Deep.RegionHeld3
namespace Go.Proofs.Qxb6616867a
open Go.RowKit

/-- What the law's own variables 'dyn' and 'seenDyn' hold behind i rounds. -/
def Seen (P : Nat → Bool) (dyn : Option Nat) (i : Nat) (dv sv : Value) : Prop :=
  (sv = .bool false ∧ dv = .pointer none ∧ ∀ j, j < i → P j = false) ∨ ∃ d, sv = .bool true ∧ dv = .pointer (some ⟨d, 0, none⟩) ∧ dyn = some d

theorem held_len {w : World} {base m : Nat} {few : Value} {kids : Kids} (h : Held w base few (.map (some m)) kids) (hn : (kids.map (·.1)).Nodup) (ty : TypeId) : (Builtin.len_ #[32] ty #[.map (some m)]).run Try.prog w = .ok (.int .i64 (kids.length : Nat)) w := by
  rcases h with ⟨_, h, _⟩ | ⟨_, _, m', h, _, ho⟩
  · cases h
  · cases h
    rw [ho.len Try.underlying32 ty, mapD_size kids hn]

set_option maxHeartbeats 4000000 in
set_option maxRecDepth 100000 in
theorem agree_in (sa sb : Option Addr) (n ca cb : Nat) (T : Nat → ByteArray) (P : Nat → Bool) (pr : ByteArray) (w : World) (hn : n ≤ 1024) (hpr : pr.size ≤ 1048576) (ha : StrAt w sa n T) (hb : BoolAt w sb n P) :
    Calls Try.prog 4 #[.slice sa n ca, .slice sb n cb, .string pr] w fun e w' => e = .returned (.bool true) ∧ Below w.heap.size w w' := by
  have hd1 : decide ((1024 : Int) < (n : Int)) = false := decide_eq_false (by omega)
  have hd2 : decide ((1048576 : Int) < (pr.size : Int)) = false := decide_eq_false (by omega)
  have hmk := mk27 (fun _ => 0) n hn
  have HA : Hid (StrAt w sa n T) := ha
  have HB : Hid (BoolAt w sb n P) := hb
  have hprm : pr.size ≤ maxLen := by unfold maxLen; omega
  have HPR : Hid (pr.size ≤ maxLen) := hprm
  clear ha hb hprm
  go_enter Try.func4, Try.ntmps4
  go_wp2_with fail
  refine (w13 sa sb n ca n cb T pr w HA.out).mono ?_
  rintro e w' ⟨⟨q, rfl⟩, rfl⟩
  cases q
  · go_wp2
    go_ret
    exact ⟨rfl, Below.refl _ _⟩
  go_wp2_with fail
  go_loop [7, 50] (fun t i => ∃ (k : Nat) (q : Int), k ≤ n ∧ i = .int .i64 k ∧ t = .int .i64 q) (fun _ i => n - (intOf i).toNat)
  case atStart => exact ⟨0, _, Nat.zero_le _, rfl, rfl⟩
  case round =>
    obtain ⟨k, q, hk, rfl, rfl⟩ := hrel
    by_cases hlt : k < n
    · obtain ⟨b, off, hs, c0, _⟩ := HA.out k hlt
      subst hs
      have hlt' : (k : Int) < (n : Int) := by omega
      clear HA HB
      go_wp2
      · go_ret
        exact ⟨rfl, Below.refl _ _⟩
      · go_round
        case rel => exact ⟨k + 1, _, by omega, by go_num, rfl⟩
        case measure => simp [intOf]; omega
    · by_cases hq : 1048576 < q
      · clear HA HB
        go_wp2
        go_ret
        exact ⟨rfl, Below.refl _ _⟩
      have hdq : decide ((1048576 : Int) < q) = false := decide_eq_false hq
      clear hq
      go_wp2
      go_loopw [12] (fun i wr => ∃ (k : Nat) (g : Nat → Nat) (dyn : Option Nat) (kids : Kids), k ≤ n ∧ i = .int .i64 k ∧ Inv wr w.heap.size w.heap.size dyn kids ∧ wr.heap[w.heap.size + 1]? = some (.cells (gotA g n k) 25 (0, 0)) ∧ Good T P k g dyn kids ∧ Below w.heap.size w wr)
        (fun i _ => n - (intOf i).toNat)
      case atStart =>
        refine ⟨0, fun _ => 0, none, [], Nat.zero_le _, rfl, ?_, ?_, Good.start _ _ _, ((Below.refl _ _).alloc (Nat.le_refl _) _).alloc (by simp) _⟩
        · exact (inv_start w).ext ((Below.refl _ _).alloc (Nat.le_refl _) _)
        · simpa using heap_alloc_new (w.alloc leafC) (.cells (gotA (fun _ => 0) n 0) 25)
      case round =>
        obtain ⟨k, g, dyn, kids, hk, rfl, hI, hgot, hGood, hbel⟩ := hrel
        have HI : Hid (Inv wr w.heap.size w.heap.size dyn kids) := hI
        have HGot : Hid (wr.heap[w.heap.size + 1]? = some (.cells (gotA g n k) 25 (0, 0))) := hgot
        have HGood : Hid (Good T P k g dyn kids) := hGood
        have hsz : w.heap.size + 1 < wr.heap.size := lt_of_block hgot
        clear hI hgot hGood
        by_cases hlt : k < n
        · obtain ⟨b, off, hs, c0, hz⟩ := (HA.out.below hbel (Nat.le_refl _)) k hlt
          obtain ⟨b', off', hs', c0'⟩ := (HB.out.below hbel (Nat.le_refl _)) k hlt
          have hlt' : (k : Int) < (n : Int) := by omega
          have hkl : kids.length ≤ 1024 := by have := HGood.out.len; have := dis_le T P k; omega
          have C : Hid (Calls Try.prog 7 #[.pointer (some ⟨w.heap.size, 0, none⟩), .string (T k), .bool (P k)] wr.drew fun e w' => ∃ c dyn' kids', e = .returned (.pointer (some ⟨c, 0, none⟩)) ∧ Step wr.drew.heap.size dyn kids (T k) (P k) c dyn' kids' ∧ Inv w' w.heap.size w.heap.size dyn' kids' ∧ Grows w.heap.size w.heap.size wr.drew w') :=
            zchild (HI.out.ext (Below.refl _ _).drew) hz hkl (by show _ ≤ wr.heap.size; omega)
          subst hs
          subst hs'
          clear HA HB HI hkl
          go_wp2_with fail
          go_region_with (go_at_call 7; refine C.out.mono ?_; rintro e w1 ⟨c, dyn', kids', rfl, hS, hI1, hG1⟩; obtain ⟨hgot1, e1, f1⟩ := got_after HGot.out hG1 hlt; have H1 : Hid _ := (⟨hS, hI1, hG1, hgot1⟩ : Step wr.drew.heap.size dyn kids (T k) (P k) c dyn' kids' ∧ Inv w1 w.heap.size w.heap.size dyn' kids' ∧ Grows w.heap.size w.heap.size wr.drew w1 ∧ _); clear hS hI1 hG1 hgot1)
          all_goals
            have H2 : Hid _ := round_got HGood.out hbel H1.out
            clear H1 HGot HGood C e1 f1 c0 c0' hz
            go_wp2
            go_roundw
            case rel => exact ⟨k + 1, _, dyn', kids', by omega, by go_num, H2.out⟩
            case measure => simp [intOf]; omega
        · have hkn : n = k := by omega
          subst hkn
          clear hlt hk
          go_wp2
          go_loopw [13, 14, 15, 16] (fun dv sv cv i wx => ∃ i' : Nat, i' ≤ n ∧ i = .int .i64 i' ∧ cv = .int .i64 (dis T P i' : Nat) ∧ Seen P dyn i' dv sv ∧ Inv wx w.heap.size w.heap.size dyn kids ∧ wx.heap[w.heap.size + 1]? = some (.cells (gotA g n n) 25 (0, 0)) ∧ Below w.heap.size w wx) (fun _ _ _ i _ => n - (intOf i).toNat)
          case atStart => exact ⟨0, Nat.zero_le _, rfl, rfl, .inl ⟨rfl, rfl, fun j hj => by omega⟩, HI.out, HGot.out, hbel⟩
          case round =>
            obtain ⟨i, hi, rfl, rfl, hseen, hI2, hgot2, hbel2⟩ := hrel
            clear HI HGot hbel
            have hdl := dis_le T P i
            by_cases hlt : i < n
            · obtain ⟨b, off, hs, c0, hz⟩ := (HA.out.below hbel2 (Nat.le_refl _)) i hlt
              obtain ⟨b', off', hs', c0'⟩ := (HB.out.below hbel2 (Nat.le_refl _)) i hlt
              have hlt' : (i : Int) < (n : Int) := by omega
              have y0 : wr.cell? ⟨w.heap.size + 1, i, none⟩ = some (.pointer (some ⟨g i, 0, none⟩)) := by rw [cell_of_row _ _ _ _ _ _ hgot2, gotA_get _ _ _ _ hlt, if_pos hlt]
              have HI2 : Hid (Inv wr w.heap.size w.heap.size dyn kids) := hI2
              have HGot2 : Hid (wr.heap[w.heap.size + 1]? = some (.cells (gotA g n n) 25 (0, 0))) := hgot2
              clear hI2 hgot2
              cases hp : P i
              · rw [hp] at c0'
                obtain ⟨f, hf, hfi, hff⟩ := first_is (T := T) hlt hp
                obtain ⟨hfn, hgf⟩ := first_same HGood.out hlt hp hf
                have y1 : wr.cell? ⟨w.heap.size + 1, f, none⟩ = some (.pointer (some ⟨g i, 0, none⟩)) := by rw [cell_of_row _ _ _ _ _ _ HGot2.out, gotA_get _ _ _ _ hfn, if_pos hfn, hgf]
                have HSn : Hid (Seen P dyn (i + 1) u13 u14) := by
                  rcases hseen with ⟨h1, h2, h3⟩ | h
                  · exact .inl ⟨h1, h2, fun j hj => by by_cases e : j = i; · rw [e]; exact hp
                                                       · exact h3 j (by omega)⟩
                  · exact .inr h
                have C14 : Hid (Calls Try.prog 14 #[.slice sa n ca, .slice sb n cb, .string (T i)] wr fun e w' => e = .returned (.int .i64 (f : Int)) ∧ wr = w') := by
                  have := w14 sa sb n ca cb T P (T i) wr hn (HA.out.below hbel2 (Nat.le_refl _)) (HB.out.below hbel2 (Nat.le_refl _))
                  rw [hf] at this
                  exact this
                have C15 : Hid (Calls Try.prog 15 #[.pointer (some ⟨w.heap.size, 0, none⟩), .string (T i)] wr.drew fun e w' => e = .returned (.pointer (some ⟨g i, 0, none⟩)) ∧ Below wr.drew.heap.size wr.drew w') :=
                  w15 (HI2.out.ext (Below.refl _ _).drew) hz (by rw [HGood.out.st i hlt hp]; rfl)
                have hE := eqSome ⟨g i, 0, none⟩
                have hN := neqSame (g i)
                have hfn' : (f : Int) < (n : Int) := by omega
                obtain ⟨m, hm, HD⟩ : ∃ m : Nat, m ≤ i + 1 ∧ Hid (dis T P (i + 1) = m ∧ m = if ((f : Int) == (i : Int)) = true then dis T P i + 1 else dis T P i) := by
                  refine ⟨_, dis_le T P (i + 1), rfl, ?_⟩
                  simp only [dis]
                  by_cases e : f = i
                  · rw [if_pos ⟨hp, hff.1 e⟩, if_pos (by simp [e])]
                  · rw [if_neg (fun h => e (hff.2 h.2)), if_neg (by simp; omega)]; rfl
                subst hs
                subst hs'
                clear HA HB hseen hp hf hff hgf hz
                cases hq : ((f : Int) == (i : Int))
                all_goals
                  rw [hq] at HD
                  go_upto_region 38 with (go_at_call 14; refine C14.out.mono ?_; rintro e w' ⟨rfl, rfl⟩)
                  have hlb := World.block_lt_of_cell? wr _ c0
                  go_region_held3 (fun w' => w'.cell? ⟨w.heap.size + 1, f, none⟩ = some (.pointer (some ⟨g i, 0, none⟩)) ∧ w'.cell? ⟨b, off + i, none⟩ = some (.string (T i))) (go_keep)
                    (first
                      | (go_at_call 15; refine C15.out.mono ?_; rintro e wx ⟨rfl, hBx⟩; have y2 : wx.cell? ⟨w.heap.size + 1, f, none⟩ = some (.pointer (some ⟨g i, 0, none⟩)) := (hBx.cell (p := ⟨w.heap.size + 1, f, none⟩) (lt_of_block HGot2.out)).trans y1; have y3 : wx.cell? ⟨b, off + i, none⟩ = some (.string (T i)) := (hBx.cell (p := ⟨b, off + i, none⟩) hlb).trans c0))
                  have hB3 : Below wr.heap.size wr wx := (Below.refl _ _).drew.trans hBx
                  have H5 : Hid (Inv wx w.heap.size w.heap.size dyn kids ∧ wx.heap[w.heap.size + 1]? = some (.cells (gotA g n n) 25 (0, 0)) ∧ Below w.heap.size w wx) :=
                    ⟨HI2.out.ext hB3, (hB3.block _ (lt_of_block HGot2.out)).trans HGot2.out, hbel2.trans (hB3.mono hbel2.size)⟩
                  clear hBx hB3 hbel2 C14 C15 HI2 HGot2 y1 y2 y3 c0 c0' y0 hlb
                  go_wp2
                  go_roundw
                  case rel => exact ⟨i + 1, by omega, by go_num, by rw [HD.out.1, HD.out.2]; simp, HSn.out, H5.out⟩
                  case measure => simp [intOf]; omega
              · rw [hp] at c0'
                have HD : Hid (dis T P (i + 1) = dis T P i) := by show dis T P (i + 1) = dis T P i; simp only [dis]; rw [if_neg (by rw [hp]; simp)]; rfl
                have hdy := HGood.out.dy i hlt hp
                have HDY : Hid (dyn = some (g i)) := hdy
                have hE := eqSome ⟨g i, 0, none⟩
                clear hdy hp
                subst hs
                subst hs'
                clear HA HB
                rcases hseen with ⟨rfl, rfl, hall⟩ | ⟨d, rfl, rfl, hd⟩
                · clear hall
                  go_wp2
                  go_roundw
                  case rel => exact ⟨i + 1, by omega, by go_num, by rw [HD.out], .inr ⟨_, rfl, rfl, HDY.out⟩, HI2.out, HGot2.out, hbel2⟩
                  case measure => simp [intOf]; omega
                · have HDD : Hid (dyn = some d) := hd
                  clear hd
                  go_wp2
                  go_roundw
                  case rel => exact ⟨i + 1, by omega, by go_num, by rw [HD.out], .inr ⟨_, rfl, rfl, HDD.out⟩, HI2.out, HGot2.out, hbel2⟩
                  case measure => simp [intOf]; omega
            · have hin : n = i := by omega
              subst hin
              clear hlt hi
              have hdv : u13 = ptrO dyn := by
                rcases hseen with ⟨_, h2, h3⟩ | ⟨d, _, h2, h3⟩
                · rw [h2]
                  cases hd : dyn with
                  | none => rfl
                  | some d =>
                    obtain ⟨j, hj, hpj⟩ := HGood.out.some' d hd
                    rw [h3 j hj] at hpj
                    cases hpj
                · rw [h2, h3]; rfl
              clear hseen
              obtain ⟨p, hp, hnq⟩ : ∃ p, ptrO dyn = .pointer p ∧ ∀ w, (binOp .neq 25 (.pointer p) (.pointer p)).run Try.prog w = .ok (.bool false) w := by
                cases dyn with
                | none => exact ⟨_, rfl, neqNone⟩
                | some d => exact ⟨_, rfl, neqSame d⟩
              rw [hp] at hdv
              subst hdv
              obtain ⟨few, mp, hr, hheld⟩ := hI2.root
              rw [hp] at hr
              have x2 : wr.cell? ⟨w.heap.size, 2, none⟩ = some (.pointer p) := by rw [cell_of_row _ _ _ _ _ _ hr]; rfl
              have C14 : Hid (Calls Try.prog 14 #[.slice sa n ca, .slice sb n cb, .string pr] wr fun e w' => e = .returned (.int .i64 (fsV (fs T P pr n))) ∧ wr = w') :=
                w14 sa sb n ca cb T P pr wr hn (HA.out.below hbel2 (Nat.le_refl _)) (HB.out.below hbel2 (Nat.le_refl _))
              have HR : Hid (∀ wx, Below wr.heap.size wr wx → wx.cell? ⟨w.heap.size, 0, none⟩ = some few ∧ wx.cell? ⟨w.heap.size, 1, none⟩ = some mp) := by
                intro wx hb
                have h := (hb.block _ (lt_of_block hr)).trans hr
                exact ⟨by rw [cell_of_row _ _ _ _ _ _ h]; rfl, by rw [cell_of_row _ _ _ _ _ _ h]; rfl⟩
              have HX : Hid (∀ wx, Below wr.heap.size wr wx → Held wx w.heap.size few mp kids) := fun wx hb => hheld.ext hb
              have hlen := HGood.out.len
              have hnd := hI2.texts
              have HT : Hid ((kids.map (·.1)).Nodup) := hnd
              have hd3 := hdl
              obtain ⟨p2, HP2, C15⟩ : ∃ p2, Hid (ptrO (look kids pr) = .pointer p2) ∧ Hid (Calls Try.prog 15 #[.pointer (some ⟨w.heap.size, 0, none⟩), .string pr] wr fun e w' => e = .returned (.pointer p2) ∧ Below wr.heap.size wr w') := by
                cases h : look kids pr with
                | none => exact ⟨none, rfl, w15 hI2 HPR.out (by rw [h]; rfl)⟩
                | some c => exact ⟨some ⟨c, 0, none⟩, rfl, w15 hI2 HPR.out (by rw [h]; rfl)⟩
              have hnN := neqNone
              have hmE := eql32n
              have hmN := neq32
              have HGot2 : Hid (wr.heap[w.heap.size + 1]? = some (.cells (gotA g n n) 25 (0, 0))) := hgot2
              have EV : ∃ (f : Option Nat), Hid (fs T P pr n = f) := ⟨_, rfl⟩
              clear hI2 hgot2 hnd HA HB hr hp hmk HPR
              obtain ⟨fo, HF⟩ := EV
              rw [HF.out] at C14
              cases fo with
              | none =>
                have e2 := HP2.out
                rw [(HGood.out.none pr).2 HF.out] at e2
                cases e2
                rcases hheld with ⟨k1, rfl, k3⟩ | ⟨k1, rfl, m, rfl, k4, k5⟩
                · rw [hlen] at k1 k3
                  obtain ⟨s, cap, rfl⟩ := owns_shape k3
                  have hd8 : decide ((8 : Int) < (dis T P n : Nat)) = false := decide_eq_false (by omega)
                  clear k1 k3 hlen HX HT HP2 HGood HGot2 HF
                  go_wp2_with (first
                    | (go_at_call 8; refine (w8 _ _ _ x2).mono ?_; rintro e w' ⟨rfl, rfl⟩)
                    | (go_at_call 14; refine C14.out.mono ?_; rintro e w' ⟨rfl, rfl⟩)
                    | (go_at_call 15; refine C15.out.mono ?_; rintro e wx ⟨rfl, hBx⟩; obtain ⟨z0, z1⟩ := HR.out wx hBx)
                    | (go_at_call 9; refine (w9 _ _ _ _ _ z0).mono ?_; rintro e w' ⟨rfl, rfl⟩)
                    | (go_at_call 10; refine (w10 _ _ _ z1).mono ?_; rintro e w' ⟨rfl, rfl⟩))
                  go_ret
                  exact ⟨rfl, hbel2.trans (hBx.mono hbel2.size)⟩
                · rw [hlen] at k1
                  have hd8 : (8 : Int) < (dis T P n : Nat) := by omega
                  clear k1 k4 k5 HP2 HGood HGot2 HF
                  go_wp2_with (first
                    | (go_at_call 8; refine (w8 _ _ _ x2).mono ?_; rintro e w' ⟨rfl, rfl⟩)
                    | (go_at_call 14; refine C14.out.mono ?_; rintro e w' ⟨rfl, rfl⟩)
                    | (go_at_call 15; refine C15.out.mono ?_; rintro e wx ⟨rfl, hBx⟩; obtain ⟨z0, z1⟩ := HR.out wx hBx; have hL := held_len (HX.out wx hBx) HT.out; rw [hlen] at hL; clear hlen)
                    | (go_at_call 9; refine (w9 _ _ _ _ _ z0).mono ?_; rintro e w' ⟨rfl, rfl⟩)
                    | (go_at_call 10; refine (w10 _ _ _ z1).mono ?_; rintro e w' ⟨rfl, rfl⟩))
                  go_ret
                  exact ⟨rfl, hbel2.trans (hBx.mono hbel2.size)⟩
              | some f =>
                obtain ⟨hfn, hfp, hft⟩ := fs_some HF.out
                have e2 := HP2.out
                rw [← hft, HGood.out.st f hfn hfp] at e2
                cases e2
                have hfn' : (f : Int) < (n : Int) := by omega
                have hS := neqSame (g f)
                have HY : Hid (∀ wx, Below wr.heap.size wr wx → wx.cell? ⟨w.heap.size + 1, f, none⟩ = some (.pointer (some ⟨g f, 0, none⟩))) := by
                  intro wx hb
                  have h := (hb.block _ (lt_of_block HGot2.out)).trans HGot2.out
                  rw [cell_of_row _ _ _ _ _ _ h, gotA_get _ _ _ _ hfn, if_pos hfn]
                rw [show fsV (some f) = (f : Int) from rfl] at C14
                rcases hheld with ⟨k1, rfl, k3⟩ | ⟨k1, rfl, m, rfl, k4, k5⟩
                · rw [hlen] at k1 k3
                  obtain ⟨s, cap, rfl⟩ := owns_shape k3
                  have hd8 : decide ((8 : Int) < (dis T P n : Nat)) = false := decide_eq_false (by omega)
                  clear k1 k3 hlen HX HT HP2 HGood HGot2 HF hft hfp
                  go_wp2_with (first
                    | (go_at_call 8; refine (w8 _ _ _ x2).mono ?_; rintro e w' ⟨rfl, rfl⟩)
                    | (go_at_call 14; refine C14.out.mono ?_; rintro e w' ⟨rfl, rfl⟩)
                    | (go_at_call 15; refine C15.out.mono ?_; rintro e wx ⟨rfl, hBx⟩; obtain ⟨z0, z1⟩ := HR.out wx hBx; have z2 := HY.out wx hBx)
                    | (go_at_call 9; refine (w9 _ _ _ _ _ z0).mono ?_; rintro e w' ⟨rfl, rfl⟩)
                    | (go_at_call 10; refine (w10 _ _ _ z1).mono ?_; rintro e w' ⟨rfl, rfl⟩))
                  go_ret
                  exact ⟨rfl, hbel2.trans (hBx.mono hbel2.size)⟩
                · rw [hlen] at k1
                  have hd8 : (8 : Int) < (dis T P n : Nat) := by omega
                  clear k1 k4 k5 HP2 HGood HGot2 HF hft hfp
                  go_wp2_with (first
                    | (go_at_call 8; refine (w8 _ _ _ x2).mono ?_; rintro e w' ⟨rfl, rfl⟩)
                    | (go_at_call 14; refine C14.out.mono ?_; rintro e w' ⟨rfl, rfl⟩)
                    | (go_at_call 15; refine C15.out.mono ?_; rintro e wx ⟨rfl, hBx⟩; obtain ⟨z0, z1⟩ := HR.out wx hBx; have z2 := HY.out wx hBx; have hL := held_len (HX.out wx hBx) HT.out; rw [hlen] at hL; clear hlen)
                    | (go_at_call 9; refine (w9 _ _ _ _ _ z0).mono ?_; rintro e w' ⟨rfl, rfl⟩)
                    | (go_at_call 10; refine (w10 _ _ _ z1).mono ?_; rintro e w' ⟨rfl, rfl⟩))
                  go_ret
                  exact ⟨rfl, hbel2.trans (hBx.mono hbel2.size)⟩
end Go.Proofs.Qxb6616867a

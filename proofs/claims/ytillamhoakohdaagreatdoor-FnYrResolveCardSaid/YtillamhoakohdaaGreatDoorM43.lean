/-
  Walks: the slow decimal is read from a text: the walk.
-/
import Derived.Test.YtillamhoakohdaaGreatDoorM42
set_option linter.unusedVariables false
set_option linter.unusedSimpArgs false
namespace Go.Proofs.YtillamhoakohdaaGreatDoor
open Go.RowKit
attribute [local go_sem] setCell_drewN

set_option maxRecDepth 100000 in
set_option maxHeartbeats 8000000 in
theorem set_any (a : Nat) (s : ByteArray) (l : Bs) (w : World) (g0 : Nat → Nat) (neg0 tr0 : Bool) (hd : BD a g0 0 0 neg0 tr0 w) (hl : StrIs s l) (hs : s.size ≤ 200) :
  Calls Tryz.prog 140 #[.pointer (some ⟨a, 0, none⟩), .string s] w (SetPost a l w) := by
 have cg := hd.cg
 have ct := hd.ct
 have fg := hd.fz 802
 have fT := hd.fz 803
 rcases l with _ | ⟨c0, r0⟩
 ·have hz : s.size = 0 := by have := hl.size; simpa using this
  go_enter Tryz.func140, Tryz.ntmps140
  go_wp2
  go_ret
  exact set_none ((hd.setG false).setT false) (((Fz.refl _ _).set _ _).set _ _) rfl
 have hz : 0 < s.size := by rw [hl.size]; simp
 have hne : decide (s = ByteArray.empty) = false := decide_eq_false (by rintro rfl; simp at hz)
 go_enter Tryz.func140, Tryz.ntmps140
 go_upto_region 4 with fail
 have hd1 := (hd.setG false).setT false
 have hF1 : Fz a w ((w.setCell ⟨a, 802, none⟩ (.bool false)).setCell ⟨a, 803, none⟩ (.bool false)) := ((Fz.refl _ _).set _ _).set _ _
 generalize (w.setCell ⟨a, 802, none⟩ (.bool false)).setCell ⟨a, 803, none⟩ (.bool false) = W1 at *
 clear cg ct fg fT hd
 have HSL := Lib.hid (Lib.size_eq s)
 have HL := Lib.hid hl
 obtain ⟨_, e0⟩ := hl.cons
 have cg := hd1.cg
 have fg := hd1.fz 802
 go_upto_block 0 with fail
 go_cut [5] from 20 to 33 (fun i wc => ∃ j0 : Nat, i = .int .i64 j0 ∧ j0 ≤ s.size ∧ j0 ≤ 1 ∧ Hid ((sgn (c0 :: r0)).1 = s.data.toList.drop j0) ∧ Hid (BD a g0 0 0 (sgn (c0 :: r0)).2.1 false wc ∧ Fz a w wc))
 case first =>
  have hdt : s.data.toList = c0 :: r0 := hl
  have hb := hd1.setG true
  have hf := hF1.set 802 (.bool true)
  by_cases h1 : c0 = 43
  ·subst h1
   have HS : Hid ((sgn (43 :: r0)).1 = s.data.toList.drop 1) := Lib.hid (by rw [hdt]; rfl)
   have HN : Hid ((sgn (43 :: r0)).2.1 = false) := Lib.hid rfl
   clear hdt hl
   go_wp2
   go_meet
   case rel => exact ⟨1, by go_num, by omega, by omega, HS, Lib.hid ⟨by rw [HN.out]; exact hd1, hF1⟩⟩
  ·have k1 : ((c0.toNat : Int) == 43) = false := byte_ne (d := 43) h1
   by_cases h2 : c0 = 45
   ·subst h2
    have HS : Hid ((sgn (45 :: r0)).1 = s.data.toList.drop 1) := Lib.hid (by rw [hdt]; rfl)
    have HN : Hid ((sgn (45 :: r0)).2.1 = true) := Lib.hid rfl
    clear hdt hl
    go_wp2
    go_meet
    case rel => exact ⟨1, by go_num, by omega, by omega, HS, Lib.hid ⟨by rw [HN.out]; exact hb, hf⟩⟩
   ·have k2 : ((c0.toNat : Int) == 45) = false := byte_ne (d := 45) h2
    have HS : Hid ((sgn (c0 :: r0)).1 = s.data.toList.drop 0) := Lib.hid (by rw [hdt, sgn_cons, if_neg h2, if_neg h1]; rfl)
    have HN : Hid ((sgn (c0 :: r0)).2.1 = false) := Lib.hid (by rw [sgn_cons, if_neg h2, if_neg h1])
    clear hdt hl
    go_wp2
    go_meet
    case rel => exact ⟨0, by go_num, by omega, by omega, HS, Lib.hid ⟨by rw [HN.out]; exact hd1, hF1⟩⟩
 case rest =>
 clear cg fg hd1 hF1
 obtain ⟨j0, rfl, hj0, hj1, HT, HB⟩ := hcut
 clear e0 hl
 generalize hll : c0 :: r0 = l at *
 clear hll
 generalize hng : (sgn l).2.1 = ng at *
 have HNG := Lib.hid hng
 clear hng
 go_upto_block 1 with fail
 go_cut [5, 6, 7] from 34 to 116 (fun i z x wc => ∃ (k nd : Nat) (sm dot : Bool) (ds : Bs) (dp p : Int) (g : Nat → Nat), i = .int .i64 k ∧ z = .bool dot ∧ x = .bool sm ∧ k ≤ s.size ∧ nd ≤ k ∧ -300 ≤ p ∧ p ≤ 300 ∧ -300 ≤ dp ∧ dp ≤ 300 ∧
   Hid (BD a g nd p ng false wc ∧ Fz a w wc ∧ DigG ds nd g) ∧ Hid (PtI dot ds dp p) ∧ Hid (scan false false [] 0 (sgn l).1 = (sm, ds, dp, s.data.toList.drop k)))
 case first => as_aux_lemma =>
  go_upto_region 13 with fail
  go_loopw [5, 6, 7] (fun i z x wr => ∃ (k nd : Nat) (sm dot : Bool) (ds : Bs) (dp p : Int) (g : Nat → Nat), i = .int .i64 k ∧ z = .bool dot ∧ x = .bool sm ∧ k ≤ s.size ∧ nd ≤ k ∧ -(k : Int) ≤ p ∧ p ≤ k ∧ -(k : Int) ≤ dp ∧ dp ≤ k ∧
   Hid (BD a g nd p ng false wr ∧ Fz a w wr ∧ DigG ds nd g) ∧ Hid (PtI dot ds dp p) ∧ Hid (scan false false [] 0 (sgn l).1 = scan dot sm ds dp (s.data.toList.drop k))) (fun i _ _ _ => s.size - (intOf i).toNat)
  case atStart => exact ⟨j0, 0, false, false, [], 0, 0, g0, rfl, rfl, rfl, hj0, by omega, by omega, by omega, by omega, by omega, Lib.hid ⟨HB.out.1, HB.out.2, rfl, fun i hi => by omega⟩, Lib.hid rfl, Lib.hid (by rw [HT.out])⟩
  case round =>
   clear HB HT hj0 hj1
   obtain ⟨k, nd, sm, dot, ds, dp, p, g, rfl, rfl, rfl, hk, hnk, hp1, hp2, hdp1, hdp2, HD, HP, H⟩ := hrel
   by_cases hlt : k < s.size
   ·have hdr := Lib.hid (drop_cons s k hlt)
    have cn := HD.out.1.cn
    have cp := HD.out.1.cp
    have fp := HD.out.1.fz 801
    have hlti : (k : Int) < (s.size : Int) := by omega
    generalize hc : s[k] = c at *
    by_cases h95 : c = 95
    ·subst h95
     have HN : Hid (scan false false [] 0 (sgn l).1 = scan dot sm ds dp (s.data.toList.drop (k + 1))) := Lib.hid (by rw [H.out, hdr.out, scan, if_pos rfl])
     clear H
     go_wp2
     go_roundw
     case rel => exact ⟨k + 1, nd, sm, dot, ds, dp, p, g, by go_num, rfl, rfl, by omega, by omega, by omega, by omega, by omega, by omega, HD, HP, HN⟩
     case measure => simp [intOf]; omega
    ·have k95 : ((c.toNat : Int) == 95) = false := byte_ne (d := 95) h95
     by_cases h46 : c = 46
     ·subst h46
      cases dot
      ·have hnd := HD.out.2.2.1
       have hdpn : dp = ds.length := HP.out
       have hdn : dp = nd := by omega
       have HN : Hid (scan false false [] 0 (sgn l).1 = scan true sm ds dp (s.data.toList.drop (k + 1))) := Lib.hid (by rw [H.out, hdr.out, scan, if_neg h95, if_pos ⟨rfl, rfl⟩])
       have HD2 : Hid (BD a g nd (nd : Int) ng false (wr.setCell ⟨a, 801, none⟩ (.int .i64 (nd : Int))) ∧ Fz a w (wr.setCell ⟨a, 801, none⟩ (.int .i64 (nd : Int))) ∧ DigG ds nd g) := Lib.hid ⟨HD.out.1.setP nd, HD.out.2.1.set _ _, HD.out.2.2⟩
       have HP2 : Hid (PtI true ds dp (nd : Int)) := Lib.hid (show (nd : Int) = dp by omega)
       clear H HD HP hnd hdpn hdn
       go_wp2
       go_roundw
       case rel => exact ⟨k + 1, nd, sm, true, ds, dp, nd, g, by go_num, rfl, rfl, by omega, by omega, by omega, by omega, by omega, by omega, HD2, HP2, HN⟩
       case measure => simp [intOf]; omega
      ·have HN : Hid (readP (sgn l).1 = none) := Lib.hid (by
        unfold readP
        simp only
        have hs2 : ∀ r : Bs, scan true sm ds dp (46 :: r) = (sm, ds, dp, 46 :: r) := fun r => by
         rw [scan, if_neg (by decide), if_neg (show ¬ ((46 : UInt8) = 46 ∧ true = false) by simp), if_neg (show ¬ isDig 46 = true by decide)]
        rw [H.out, hdr.out, hs2]
        split <;> rfl)
       clear H
       go_wp2
       go_ret
       exact set_none HD.out.1 HD.out.2.1 HN.out
     ·have k46 : ((c.toNat : Int) == 46) = false := byte_ne (d := 46) h46
      have h46' : ¬ (c = 46 ∧ dot = false) := fun h => h46 h.1
      by_cases hdg : isDig c = true
      ·have hdg2 : 48 ≤ (c.toNat : Int) ∧ (c.toNat : Int) ≤ 57 := by rw [isDig_eq] at hdg; simp at hdg; omega
       have hnd := HD.out.2.2.1
       by_cases hnz : ds ≠ [] ∨ c ≠ 48
       ·have HN : Hid (scan false false [] 0 (sgn l).1 = scan dot true (ds ++ [c - 48]) (if dot = true then dp else dp + 1) (s.data.toList.drop (k + 1))) :=
         Lib.hid (by rw [H.out, hdr.out, scan, if_neg h95, if_neg h46', if_pos hdg, if_pos hnz])
        have hgd : (nd = 0 ∧ ((c.toNat : Int) == 48) = false) ∨ 0 < nd := by
         rcases Nat.eq_zero_or_pos nd with h | h
         ·left
          refine ⟨h, byte_ne (d := 48) ?_⟩
          exact hnz.resolve_left (fun h2 => h2 (List.eq_nil_of_length_eq_zero (by omega)))
         ·right; exact h
        have HB2 := (HD.out.1.setD nd c.toNat (by omega)).setN (nd + 1)
        have HF2 := (HD.out.2.1.set nd (.int .u8 (c.toNat : Int))).set 800 (.int .i64 ((nd + 1 : Nat) : Int))
        rw [show ((nd + 1 : Nat) : Int) = (nd : Int) + 1 by omega] at HB2 HF2
        have HP2 : Hid (PtI dot (ds ++ [c - 48]) (if dot = true then dp else dp + 1) p) := Lib.hid (by
         have := HP.out
         unfold PtI at this ⊢
         cases dot
         ·simp at this ⊢; omega
         ·simpa using this)
        have HG2 := Lib.hid (HD.out.2.2.snoc hdg)
        have hq1 : -((k : Int) + 1) ≤ (if dot = true then dp else dp + 1) ∧ (if dot = true then dp else dp + 1) ≤ (k : Int) + 1 := by split <;> omega
        have HB3 := Lib.hid HB2
        have HF3 := Lib.hid HF2
        have hcd := HD.out.1.cd nd (by omega)
        have fd := HD.out.1.fz nd
        have fn := HD.out.1.fz 800
        have i8 : (nd : Int) < 800 := by omega
        clear HB2 HF2 hnz hnd H HP hdg
        generalize (if dot = true then dp else dp + 1) = dp2 at *
        rcases hgd with ⟨rfl, kz⟩ | hpos
        ·go_wp2
         go_region
         go_wp2
         go_roundw
         case rel => exact ⟨k + 1, 0 + 1, true, dot, ds ++ [c - 48], dp2, p, _, by go_num, rfl, rfl, by omega, by omega, by omega, by omega, by omega, by omega, Lib.hid ⟨HB3.out.drew 1, HF3.out.drew 1, HG2.out⟩, HP2, HN⟩
         case measure => simp [intOf]; omega
        ·have ip : ((nd : Int) == 0) = false := by rw [beq_eq_false_iff_ne]; omega
         cases k48 : ((c.toNat : Int) == 48)
         ·go_wp2
          go_region
          go_wp2
          go_roundw
          case rel => exact ⟨k + 1, nd + 1, true, dot, ds ++ [c - 48], dp2, p, _, by go_num, rfl, rfl, by omega, by omega, by omega, by omega, by omega, by omega, Lib.hid ⟨HB3.out.drew 1, HF3.out.drew 1, HG2.out⟩, HP2, HN⟩
          case measure => simp [intOf]; omega
         ·have e48 : (c.toNat : Int) = 48 := by simpa using k48
          have HB4 := HB3.out
          have HF4 := HF3.out
          rw [e48] at HB4 HF4
          have HB5 := Lib.hid HB4
          have HF5 := Lib.hid HF4
          clear HB3 HF3 HB4 HF4
          go_wp2
          go_region
          go_wp2
          go_roundw
          case rel => exact ⟨k + 1, nd + 1, true, dot, ds ++ [c - 48], dp2, p, _, by go_num, rfl, rfl, by omega, by omega, by omega, by omega, by omega, by omega, Lib.hid ⟨HB5.out.drew 1, HF5.out.drew 1, HG2.out⟩, HP2, HN⟩
          case measure => simp [intOf]; omega
       ·have hd0 : ds = [] := Classical.byContradiction fun h => hnz (Or.inl h)
        have hc48 : c = 48 := Classical.byContradiction fun h => hnz (Or.inr h)
        have hn0 : nd = 0 := by rw [hnd, hd0]; rfl
        have HN : Hid (scan false false [] 0 (sgn l).1 = scan dot true ds (if dot = true then dp - 1 else dp) (s.data.toList.drop (k + 1))) :=
         Lib.hid (by rw [H.out, hdr.out, scan, if_neg h95, if_neg h46', if_pos hdg, if_neg hnz])
        have HP2 : Hid (PtI dot ds (if dot = true then dp - 1 else dp) (p - 1)) := Lib.hid (by
         have := HP.out
         unfold PtI at this ⊢
         cases dot
         ·simpa using this
         ·simp at this ⊢; omega)
        have hq1 : -((k : Int) + 1) ≤ (if dot = true then dp - 1 else dp) ∧ (if dot = true then dp - 1 else dp) ≤ (k : Int) + 1 := by split <;> omega
        have HD2 : Hid (BD a g nd (p - 1) ng false (wr.setCell ⟨a, 801, none⟩ (.int .i64 (p - 1))) ∧ Fz a w (wr.setCell ⟨a, 801, none⟩ (.int .i64 (p - 1))) ∧ DigG ds nd g) := Lib.hid ⟨HD.out.1.setP (p - 1), HD.out.2.1.set _ _, HD.out.2.2⟩
        subst hn0 hc48
        clear HD hnz hnd H HP hdg hd0 h46'
        generalize (if dot = true then dp - 1 else dp) = dp2 at *
        go_wp2
        go_roundw
        case rel => exact ⟨k + 1, 0, true, dot, ds, dp2, p - 1, g, by go_num, rfl, rfl, by omega, by omega, by omega, by omega, by omega, by omega, HD2, HP2, HN⟩
        case measure => simp [intOf]; omega
      ·have hdg2 : ¬ (48 ≤ (c.toNat : Int) ∧ (c.toNat : Int) ≤ 57) := by rw [isDig_eq] at hdg; simp at hdg; omega
       have HN : Hid (scan false false [] 0 (sgn l).1 = (sm, ds, dp, s.data.toList.drop k)) := Lib.hid (by rw [H.out, hdr.out, scan, if_neg h95, if_neg h46', if_neg hdg])
       have q : (c.toNat : Int) < 48 ∨ 57 < (c.toNat : Int) := by omega
       clear H hdg hdg2 h46'
       rcases q with q | q
       all_goals
        go_wp2
        go_meet
        case rel => exact ⟨k, nd, sm, dot, ds, dp, p, g, rfl, rfl, rfl, by omega, by omega, by omega, by omega, by omega, by omega, HD, HP, HN⟩
   ·have HN : Hid (scan false false [] 0 (sgn l).1 = (sm, ds, dp, s.data.toList.drop k)) := Lib.hid (by
     rw [H.out, List.drop_eq_nil_of_le (by have := HSL.out; omega)]; rfl)
    have hge : (s.size : Int) ≤ (k : Int) := by omega
    clear H
    go_wp2
    go_meet
    case rel => exact ⟨k, nd, sm, dot, ds, dp, p, g, rfl, rfl, rfl, by omega, by omega, by omega, by omega, by omega, by omega, HD, HP, HN⟩
 case rest =>
 clear HB HT hj0 hj1
 obtain ⟨k, nd, sm, dot, ds, dp, p, g, rfl, rfl, rfl, hk, hnk, hp1, hp2, hdp1, hdp2, HD, HP, H⟩ := hcut
 cases sm
 ·have HRP : Hid (readP (sgn l).1 = none) := Lib.hid (by unfold readP; rw [H.out]; rfl)
  clear H
  go_wp2
  go_ret
  exact set_none HD.out.1 HD.out.2.1 HRP.out
 have HRP : Hid (readP (sgn l).1 = (expR (s.data.toList.drop k)).map fun e => (ds, dp + e)) := Lib.hid (by unfold readP; rw [H.out]; rfl)
 clear H
 go_upto_if 120 with fail
 go_cut [] from 121 to 127 (fun wc => Hid (BD a g nd dp ng false wc ∧ Fz a w wc ∧ DigG ds nd g))
 case first =>
  cases dot
  ·have hnd := HD.out.2.2.1
   have hdpn : dp = ds.length := HP.out
   have hdn : dp = nd := by omega
   have HD2 : Hid (BD a g nd dp ng false (wc.setCell ⟨a, 801, none⟩ (.int .i64 (nd : Int))) ∧ Fz a w (wc.setCell ⟨a, 801, none⟩ (.int .i64 (nd : Int))) ∧ DigG ds nd g) := Lib.hid ⟨by rw [hdn]; exact HD.out.1.setP nd, HD.out.2.1.set _ _, HD.out.2.2⟩
   have cn := HD.out.1.cn
   have cp := HD.out.1.cp
   have fp := HD.out.1.fz 801
   clear hnd hdpn hdn HP
   go_wp2
   go_meet
   case rel => exact HD2
  ·have hp : p = dp := HP.out
   subst hp
   go_wp2
   go_meet
   case rel => exact HD
 case rest =>
 have HDD := Lib.hid hcut
 clear HD HP hcut hp1 hp2
 generalize hwc : wc = W2 at *
 clear hwc
 go_upto_region 32 with fail
 go_cut [138] from 128 to 137 (fun x wc => x = .bool (isE (s.data.toList.drop k)) ∧ W2 = wc)
 case first =>
  by_cases hlt : k < s.size
  ·have hdr := drop_cons s k hlt
   generalize hc : s[k] = c at *
   have HI : Hid (isE (s.data.toList.drop k) = decide (c = 101 ∨ c = 69)) := Lib.hid (by rw [hdr]; rfl)
   clear hdr
   have hlti : (k : Int) < (s.size : Int) := by omega
   by_cases he : c = 101 ∨ c = 69
   ·have k1 : ((c ||| 32).toNat : Int) = 101 := by rw [(lower_e c).2 he]; rfl
    have L := fun w => lower8_any c w
    have HI2 : Hid (isE (s.data.toList.drop k) = true) := Lib.hid (by rw [HI.out]; simp [he])
    clear HI he
    generalize (c ||| 32).toNat = lb at *
    go_wp2_with fail
    refine (L _).mono ?_
    rintro e w' ⟨rfl, rfl⟩
    go_wp2
    go_meet
    case rel => exact ⟨by rw [HI2.out], rfl⟩
   ·have k1 : (((c ||| 32).toNat : Int) == 101) = false := byte_ne (d := 101) (fun h => he ((lower_e c).1 h))
    have L := fun w => lower8_any c w
    have HI2 : Hid (isE (s.data.toList.drop k) = false) := Lib.hid (by rw [HI.out]; simp [he])
    clear HI he
    generalize (c ||| 32).toNat = lb at *
    go_wp2_with fail
    refine (L _).mono ?_
    rintro e w' ⟨rfl, rfl⟩
    go_wp2
    go_meet
    case rel => exact ⟨by rw [HI2.out], rfl⟩
  ·have HI2 : Hid (isE (s.data.toList.drop k) = false) := Lib.hid (by rw [List.drop_eq_nil_of_le (by have := HSL.out; omega)]; rfl)
   have hge : (s.size : Int) ≤ (k : Int) := by omega
   go_wp2
   go_meet
   case rel => exact ⟨by rw [HI2.out], rfl⟩
 case rest =>
 obtain ⟨rfl, rfl⟩ := hcut
 go_upto_if 138 with fail
 go_cut [5, 8, 9] from 138 to 219 (fun i _ _ wc => ∃ (e' : Int) (j : Nat), i = .int .i64 j ∧ j ≤ s.size ∧ Hid (expR (s.data.toList.drop k) = if j = s.size then some e' else none) ∧ Hid (BD a g nd (dp + e') ng false wc ∧ Fz a w wc))
 case first =>
  cases hE : isE (s.data.toList.drop k)
  ·have HX : Hid (expR (s.data.toList.drop k) = if k = s.size then some 0 else none) := Lib.hid (by
    by_cases hlt : k < s.size
    ·rw [drop_cons s k hlt] at hE ⊢
     have : ¬ (s[k] = 101 ∨ s[k] = 69) := by simpa [isE] using hE
     rw [if_neg (by omega)]
     unfold expR
     simp only [if_neg this]
    ·rw [List.drop_eq_nil_of_le (by have := HSL.out; omega), if_pos (by omega)]; rfl)
   clear hE
   go_wp2
   go_meet
   case rel => exact ⟨0, k, rfl, hk, HX, Lib.hid ⟨by rw [Int.add_zero]; exact HDD.out.1, HDD.out.2.1⟩⟩
  ·have hlt : k < s.size := by
    rcases Nat.lt_or_ge k s.size with h | h
    ·exact h
    ·rw [List.drop_eq_nil_of_le (by have := HSL.out; omega)] at hE; cases hE
   have hdr := drop_cons s k hlt
   have HXR : Hid (expR (s.data.toList.drop k) = (if hd (sgn (s.data.toList.drop (k + 1))).1 = true ∧ (expGo 0 (sgn (s.data.toList.drop (k + 1))).1).2 = [] then some (if (sgn (s.data.toList.drop (k + 1))).2.1 = true then -((expGo 0 (sgn (s.data.toList.drop (k + 1))).1).1 : Int) else ((expGo 0 (sgn (s.data.toList.drop (k + 1))).1).1 : Int)) else none)) := Lib.hid (by
    rw [hdr] at hE ⊢
    have : s[k] = 101 ∨ s[k] = 69 := by simpa [isE] using hE
    unfold expR
    simp only [if_pos this])
   clear hE hdr
   by_cases hlt2 : k + 1 < s.size
   ·have hdr := drop_cons s (k + 1) hlt2
    have hlti : (k : Int) + 1 < (s.size : Int) := by omega
    go_upto_block 4 with fail
    go_cut [5, 8] from 148 to 155 (fun i z wc => ∃ (j0 : Nat) (es : Int), i = .int .i64 j0 ∧ z = .int .i64 es ∧ -1 ≤ es ∧ es ≤ 1 ∧ k + 1 ≤ j0 ∧ j0 ≤ s.size ∧ Hid ((sgn (s.data.toList.drop (k + 1))).1 = s.data.toList.drop j0) ∧ Hid (es = if (sgn (s.data.toList.drop (k + 1))).2.1 = true then -1 else 1) ∧ W2 = wc)
    case first =>
     generalize hc : s[k + 1] = c at *
     by_cases h1 : c = 43
     ·subst h1
      have HS : Hid ((sgn (s.data.toList.drop (k + 1))).1 = s.data.toList.drop (k + 1 + 1) ∧ (sgn (s.data.toList.drop (k + 1))).2.1 = false) := Lib.hid (by rw [hdr]; exact ⟨rfl, rfl⟩)
      clear hdr
      go_wp2
      go_meet
      case rel => exact ⟨k + 1 + 1, 1, by go_num, rfl, by omega, by omega, by omega, by omega, Lib.hid HS.out.1, Lib.hid (by rw [HS.out.2]; rfl), rfl⟩
     ·have k1 : ((c.toNat : Int) == 43) = false := byte_ne (d := 43) h1
      by_cases h2 : c = 45
      ·subst h2
       have HS : Hid ((sgn (s.data.toList.drop (k + 1))).1 = s.data.toList.drop (k + 1 + 1) ∧ (sgn (s.data.toList.drop (k + 1))).2.1 = true) := Lib.hid (by rw [hdr]; exact ⟨rfl, rfl⟩)
       clear hdr
       go_wp2
       go_meet
       case rel => exact ⟨k + 1 + 1, -1, by go_num, rfl, by omega, by omega, by omega, by omega, Lib.hid HS.out.1, Lib.hid (by rw [HS.out.2]; rfl), rfl⟩
      ·have k2 : ((c.toNat : Int) == 45) = false := byte_ne (d := 45) h2
       have HS : Hid ((sgn (s.data.toList.drop (k + 1))).1 = s.data.toList.drop (k + 1) ∧ (sgn (s.data.toList.drop (k + 1))).2.1 = false) := Lib.hid (by rw [hdr, sgn_cons, if_neg h2, if_neg h1]; exact ⟨rfl, rfl⟩)
       clear hdr
       go_wp2
       go_meet
       case rel => exact ⟨k + 1, 1, by go_num, rfl, by omega, by omega, by omega, by omega, Lib.hid HS.out.1, Lib.hid (by rw [HS.out.2]; rfl), rfl⟩
    case rest =>
    obtain ⟨j0, es, rfl, rfl, hes1, hes2, hj01, hj02, HJ, HES, rfl⟩ := hcut
    clear hdr
    go_upto_region 42 with fail
    go_cut [171] from 156 to 170 (fun x wc => x = .bool (!hd (s.data.toList.drop j0)) ∧ W2 = wc)
    case first =>
     by_cases hlt2 : j0 < s.size
     ·have hdr := drop_cons s j0 hlt2
      generalize hc : s[j0] = c at *
      have hlti : (j0 : Int) < (s.size : Int) := by omega
      have HS : Hid (hd (s.data.toList.drop j0) = isDig c) := Lib.hid (by rw [hdr]; rfl)
      clear hdr
      by_cases hdg : isDig c = true
      ·have hdg2 : 48 ≤ (c.toNat : Int) ∧ (c.toNat : Int) ≤ 57 := by rw [isDig_eq] at hdg; simp at hdg; omega
       have HS2 : Hid (hd (s.data.toList.drop j0) = true) := Lib.hid (by rw [HS.out, hdg])
       clear HS hdg
       go_wp2
       go_meet
       case rel => exact ⟨by rw [HS2.out]; first | rfl | (congr 1; simp; omega), rfl⟩
      ·have hdg2 : ¬ (48 ≤ (c.toNat : Int) ∧ (c.toNat : Int) ≤ 57) := by rw [isDig_eq] at hdg; simp at hdg; omega
       have HS2 : Hid (hd (s.data.toList.drop j0) = false) := Lib.hid (by rw [HS.out]; simpa using hdg)
       have q : (c.toNat : Int) < 48 ∨ 57 < (c.toNat : Int) := by omega
       clear HS hdg hdg2
       rcases q with q | q
       all_goals
        go_wp2
        go_meet
        case rel => exact ⟨by rw [HS2.out]; first | rfl | (congr 1; simp; omega), rfl⟩
     ·have hge : (s.size : Int) ≤ (j0 : Int) := by omega
      have HS : Hid (hd (s.data.toList.drop j0) = false) := Lib.hid (by rw [List.drop_eq_nil_of_le (by have := HSL.out; omega)]; rfl)
      go_wp2
      go_meet
      case rel => exact ⟨by rw [HS.out]; rfl, rfl⟩
    case rest =>
    obtain ⟨rfl, rfl⟩ := hcut
    cases hH : hd (s.data.toList.drop j0)
    ·have HR2 : Hid (readP (sgn l).1 = none) := Lib.hid (by
      rw [HRP.out, HXR.out, HJ.out, if_neg (by rw [hH]; simp)]; rfl)
     clear hH HXR
     go_upto_if 171 with fail
     go_wp2
     go_ret
     exact set_none HDD.out.1 HDD.out.2.1 HR2.out
    ·have HXR2 : Hid (expR (s.data.toList.drop k) = (if (expGo 0 (s.data.toList.drop j0)).2 = [] then some (if (sgn (s.data.toList.drop (k + 1))).2.1 = true then -((expGo 0 (s.data.toList.drop j0)).1 : Int) else ((expGo 0 (s.data.toList.drop j0)).1 : Int)) else none)) := Lib.hid (by
      rw [HXR.out, HJ.out, hH]; simp)
     clear hH HXR
     generalize (sgn (s.data.toList.drop (k + 1))).2.1 = eneg at *
     clear hes1 hes2
     have hes : (eneg = false ∧ es = 1) ∨ (eneg = true ∧ es = -1) := by
      have := HES.out
      cases eneg
      ·exact Or.inl ⟨rfl, this⟩
      ·exact Or.inr ⟨rfl, this⟩
     clear HES
     have HES := Lib.hid hes
     clear hes
     go_upto_region 44 with fail
     go_loop [5, 9] (fun i z => ∃ (j e : Nat), i = .int .i64 j ∧ z = .int .i64 e ∧ j ≤ s.size ∧ e ≤ 99999 ∧ Hid (expGo 0 (s.data.toList.drop j0) = expGo e (s.data.toList.drop j))) (fun i _ => s.size - (intOf i).toNat)
     case atStart => exact ⟨j0, 0, rfl, rfl, hj02, by omega, Lib.hid rfl⟩
     case round =>
      obtain ⟨j, e, rfl, rfl, hj, he, HE⟩ := hrel
      by_cases hlt3 : j < s.size
      ·have hdr := Lib.hid (drop_cons s j hlt3)
       generalize hc : s[j] = c at *
       have hlti : (j : Int) < (s.size : Int) := by omega
       by_cases hdg : isDig c = true
       ·have hdg2 : 48 ≤ (c.toNat : Int) ∧ (c.toNat : Int) ≤ 57 := by rw [isDig_eq] at hdg; simp at hdg; omega
        have h95 : ((c.toNat : Int) == 95) = false := by rw [beq_eq_false_iff_ne]; omega
        by_cases h10 : e < 10000
        ·have HN : Hid (expGo 0 (s.data.toList.drop j0) = expGo (e * 10 + (c.toNat - 48)) (s.data.toList.drop (j + 1))) := Lib.hid (by
          rw [HE.out, hdr.out, expGo, if_pos hdg, if_pos h10])
         have h10i : (e : Int) < 10000 := by omega
         clear HE hdg
         go_wp2
         go_round
         case rel => exact ⟨j + 1, e * 10 + (c.toNat - 48), by go_num, by go_num, by omega, by omega, HN⟩
         case measure => simp [intOf]; omega
        ·have HN : Hid (expGo 0 (s.data.toList.drop j0) = expGo e (s.data.toList.drop (j + 1))) := Lib.hid (by
          rw [HE.out, hdr.out, expGo, if_pos hdg, if_neg h10])
         have h10i : (10000 : Int) ≤ (e : Int) := by omega
         clear HE hdg
         go_wp2
         go_round
         case rel => exact ⟨j + 1, e, by go_num, rfl, by omega, by omega, HN⟩
         case measure => simp [intOf]; omega
       ·have hdg2 : ¬ (48 ≤ (c.toNat : Int) ∧ (c.toNat : Int) ≤ 57) := by rw [isDig_eq] at hdg; simp at hdg; omega
        by_cases h95 : c = 95
        ·subst h95
         have HN : Hid (expGo 0 (s.data.toList.drop j0) = expGo e (s.data.toList.drop (j + 1))) := Lib.hid (by
          rw [HE.out, hdr.out, expGo, if_neg hdg, if_pos rfl])
         clear HE hdg hdg2
         go_wp2
         go_round
         case rel => exact ⟨j + 1, e, by go_num, rfl, by omega, by omega, HN⟩
         case measure => simp [intOf]; omega
        ·have k95 : ((c.toNat : Int) == 95) = false := byte_ne (d := 95) h95
         have HX2 : Hid (expR (s.data.toList.drop k) = none) := Lib.hid (by
          rw [HXR2.out, HE.out, hdr.out, expGo, if_neg hdg, if_neg h95, if_neg (by simp)])
         have HX3 : ∀ q, Hid (expR (s.data.toList.drop k) = if j = s.size then some q else none) := fun q => Lib.hid (by rw [HX2.out, if_neg (by omega)])
         have q : (c.toNat : Int) < 48 ∨ 57 < (c.toNat : Int) := by omega
         have cp := HDD.out.1.cp
         have fp := HDD.out.1.fz 801
         have hb := fun q : Int => HDD.out.1.setP (dp + q)
         have hf := fun q : Int => HDD.out.2.1.set 801 (.int .i64 (dp + q))
         have HB1 := Lib.hid hb
         have HF1 := Lib.hid hf
         clear HE hdg hdg2 HXR2 HX2 h95 hb hf
         rcases q with q | q
         all_goals
          rcases HES.out with ⟨rfl, rfl⟩ | ⟨rfl, rfl⟩
          all_goals
           go_wp2
           go_meet
           case rel => exact ⟨_, j, rfl, by omega, HX3 _, Lib.hid ⟨HB1.out _, HF1.out _⟩⟩
      ·have hge : (s.size : Int) ≤ (j : Int) := by omega
       have hjs : j = s.size := by omega
       have hnil : s.data.toList.drop j = [] := List.drop_eq_nil_of_le (by have := HSL.out; omega)
       have cp := HDD.out.1.cp
       have fp := HDD.out.1.fz 801
       have hb := fun q : Int => HDD.out.1.setP (dp + q)
       have hf := fun q : Int => HDD.out.2.1.set 801 (.int .i64 (dp + q))
       have HB1 := Lib.hid hb
       have HF1 := Lib.hid hf
       clear hb hf
       rcases HES.out with ⟨rfl, rfl⟩ | ⟨rfl, rfl⟩
       ·have HX3 : Hid (expR (s.data.toList.drop k) = if j = s.size then some (e : Int) else none) := Lib.hid (by rw [HXR2.out, HE.out, hnil, if_pos hjs]; simp [expGo])
        clear HE HXR2 hnil
        go_wp2
        go_meet
        case rel => exact ⟨e, j, by go_num, by omega, HX3, Lib.hid ⟨HB1.out _, HF1.out _⟩⟩
       ·have HX3 : Hid (expR (s.data.toList.drop k) = if j = s.size then some (-(e : Int)) else none) := Lib.hid (by rw [HXR2.out, HE.out, hnil, if_pos hjs]; simp [expGo])
        clear HE HXR2 hnil
        go_wp2
        go_meet
        case rel => exact ⟨-(e : Int), j, by go_num, by omega, HX3, Lib.hid ⟨HB1.out _, HF1.out _⟩⟩
   ·have hge : (s.size : Int) ≤ (k : Int) + 1 := by omega
    have HR2 : Hid (readP (sgn l).1 = none) := Lib.hid (by
     rw [HRP.out, HXR.out, List.drop_eq_nil_of_le (by have := HSL.out; omega), if_neg (by decide)]; rfl)
    clear HXR
    go_wp2
    go_ret
    exact set_none HDD.out.1 HDD.out.2.1 HR2.out
 case rest =>
 obtain ⟨e', j, rfl, hj, HX, HB⟩ := hcut
 by_cases hjs : j = s.size
 ·have HR2 : Hid (readP (sgn l).1 = some (ds, dp + e')) := Lib.hid (by rw [HRP.out, HX.out, if_pos hjs]; rfl)
  have hk1 : (((j : Nat) : Int) != (s.size : Int)) = false := by rw [bne_eq_false_iff_eq]; omega
  clear HX HRP
  go_wp2
  go_ret
  exact set_some (by rw [HNG.out]; exact HB.out.1) HB.out.2 HR2.out HDD.out.2.2 (by omega)
 ·have HR2 : Hid (readP (sgn l).1 = none) := Lib.hid (by rw [HRP.out, HX.out, if_neg hjs]; rfl)
  have hk1 : (((j : Nat) : Int) != (s.size : Int)) = true := by rw [bne_iff_ne]; omega
  clear HX HRP
  go_wp2
  go_ret
  exact set_none HB.out.1 HB.out.2 HR2.out
end Go.Proofs.YtillamhoakohdaaGreatDoor

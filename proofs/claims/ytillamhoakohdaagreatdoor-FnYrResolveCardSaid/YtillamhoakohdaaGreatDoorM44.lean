/-
  Walks: the library reads a decimal float.
-/
import Derived.Test.YtillamhoakohdaaGreatDoorM09
import Derived.Test.YtillamhoakohdaaGreatDoorM28
import Derived.Test.YtillamhoakohdaaGreatDoorM42
set_option linter.unusedVariables false
set_option linter.unusedSimpArgs false
namespace Go.Proofs.YtillamhoakohdaaGreatDoor
open Go.RowKit
attribute [local go_sem] setCell_drewN

def UsI (us : Bool) (l : Bs) : Prop := us = false → ∀ c ∈ l, c ≠ 95
theorem UsI.snoc {us : Bool} {s : ByteArray} {k : Nat} {c : UInt8} (h : UsI us (s.data.toList.take k)) (hk : k < s.size) (hc : s[k] = c) (h95 : c ≠ 95) : UsI us (s.data.toList.take (k + 1)) := by
 intro hu x hx
 rw [List.take_succ_eq_append_getElem (by simpa using hk)] at hx
 rcases List.mem_append.1 hx with h1 | h1
 ·exact h hu x h1
 ·rw [List.mem_singleton.1 h1]; rw [← hc] at h95; exact h95
theorem UsI.yes (l : Bs) : UsI true l := fun h => (by cases h)
theorem drop_two {s : ByteArray} {k : Nat} (h : k + 1 < s.size) : s.data.toList.drop k = s[k] :: s[k + 1] :: s.data.toList.drop (k + 2) := by
 rw [drop_cons s k (by omega), drop_cons s (k + 1) h]

theorem results_tmp7 {fn : Func} {a b c d e f g : Tmp} (h : fn.results = #[.tmp a, .tmp b, .tmp c, .tmp d, .tmp e, .tmp f, .tmp g]) (tmps : Array Value) (P : Program) (w : World) :
  (results fn tmps).run P w = .ok (.tuple #[tmps.getD a undef, tmps.getD b undef, tmps.getD c undef, tmps.getD d undef, tmps.getD e undef, tmps.getD f undef, tmps.getD g undef]) w := by
 simp [results, h]
theorem rf_no {l : Bs} {w : World} {m : Nat} {e : Int} {neg tr : Bool} {i : Nat} (hi : i ≤ l.length) (h : readP (sgn l).1 = none ∨ (NoPre (sgn l).1 → uok 2 (sgn l).1 = false)) :
  RfPost l w (.returned (.tuple #[.int .u64 m, .int .i64 e, .bool neg, .bool tr, .bool false, .int .i64 i, .bool false])) w :=
 ⟨m, e, neg, tr, i, false, rfl, rfl, hi, fun h => (by cases h), fun _ hp => h.imp_right (fun h => h hp)⟩
set_option maxRecDepth 100000 in
set_option maxHeartbeats 8000000 in
theorem readFloat_dec (s : ByteArray) (l : Bs) (w : World) (hl : StrIs s l) (hs : s.size ≤ 200) (hx : ¬ HexP (sgn l).1) :
  Calls Tryz.prog 134 #[.string s] w (RfPost l w) := by
 rcases l with _ | ⟨c0, r0⟩
 ·have hz : s.size = 0 := by have := hl.size; simpa using this
  go_enter Tryz.func134, Tryz.ntmps134
  go_wp2
  go_step3
  go_wp2
  rw [Exit.noGoto_ret]
  refine bodyPost_ret (results_tmp7 rfl _ _ _) rfl ?_
  exact rf_no (m := 0) (i := 0) (by omega) (Or.inl rfl)
 have hz : 0 < s.size := by rw [hl.size]; simp
 have hne : decide (s = ByteArray.empty) = false := decide_eq_false (by rintro rfl; simp at hz)
 have HSL := Lib.hid (Lib.size_eq s)
 have HL := Lib.hid hl
 have HX := Lib.hid hx
 clear hx
 obtain ⟨_, e0⟩ := hl.cons
 go_enter Tryz.func134, Tryz.ntmps134
 go_wp2
 go_step3
 go_upto_block 0 with fail
 go_cut [4, 7] from 28 to 35 (fun n i wc => ∃ j0 : Nat, n = .bool (sgn (c0 :: r0)).2.1 ∧ i = .int .i64 j0 ∧ j0 ≤ s.size ∧ j0 ≤ 1 ∧ Hid ((sgn (c0 :: r0)).1 = s.data.toList.drop j0) ∧ Hid (UsI false (s.data.toList.take j0)) ∧ w = wc)
 case first =>
  have hdt : s.data.toList = c0 :: r0 := hl
  by_cases h1 : c0 = 43
  ·subst h1
   have HS : Hid ((sgn (43 :: r0)).1 = s.data.toList.drop 1) := Lib.hid (by rw [hdt]; rfl)
   have HU : Hid (UsI false (s.data.toList.take 1)) := Lib.hid (by rw [hdt]; intro _ c hc; simp at hc; rw [hc]; decide)
   clear hdt hl
   go_wp2
   go_meet
   case rel => exact ⟨1, rfl, by go_num, by omega, by omega, HS, HU, rfl⟩
  ·have k1 : ((c0.toNat : Int) == 43) = false := byte_ne (d := 43) h1
   by_cases h2 : c0 = 45
   ·subst h2
    have HS : Hid ((sgn (45 :: r0)).1 = s.data.toList.drop 1) := Lib.hid (by rw [hdt]; rfl)
    have HU : Hid (UsI false (s.data.toList.take 1)) := Lib.hid (by rw [hdt]; intro _ c hc; simp at hc; rw [hc]; decide)
    clear hdt hl
    go_wp2
    go_meet
    case rel => exact ⟨1, rfl, by go_num, by omega, by omega, HS, HU, rfl⟩
   ·have k2 : ((c0.toNat : Int) == 45) = false := byte_ne (d := 45) h2
    have HS : Hid ((sgn (c0 :: r0)).1 = s.data.toList.drop 0) := Lib.hid (by rw [hdt, sgn_cons, if_neg h2, if_neg h1]; rfl)
    have HN : Hid ((sgn (c0 :: r0)).2.1 = false) := Lib.hid (by rw [sgn_cons, if_neg h2, if_neg h1])
    have HU : Hid (UsI false (s.data.toList.take 0)) := Lib.hid (by intro _ c hc; simp at hc)
    clear hdt hl
    go_wp2
    go_meet
    case rel => exact ⟨0, by rw [HN.out], by go_num, by omega, by omega, HS, HU, rfl⟩
 case rest =>
 obtain ⟨j0, rfl, rfl, hj0, hj1, HT, HU0, rfl⟩ := hcut
 clear e0 hl
 generalize hll : c0 :: r0 = l at *
 clear hll
 generalize hng : (sgn l).2.1 = ng at *
 have HNG := Lib.hid hng
 clear hng
 go_upto_region 12 with fail
 go_cut [54] from 36 to 53 (fun v wc => v = .bool false ∧ w = wc)
 case first =>
  by_cases h2 : j0 + 2 < s.size
  ·have hd2 := drop_two (s := s) (k := j0) (by omega)
   have h2i : (j0 : Int) + 2 < (s.size : Int) := by omega
   have hnil : s.data.toList.drop (j0 + 2) ≠ [] := by
    intro e
    have := congrArg List.length e
    rw [List.length_drop, ← HSL.out] at this
    simp at this; omega
   generalize ha : s[j0] = a at *
   generalize hb : s[j0 + 1] = b at *
   by_cases h48 : a = 48
   ·subst h48
    have hb9 : ¬ (b = 120 ∨ b = 88) := fun h => HX.out ⟨b, _, by rw [HT.out, hd2], hnil, h⟩
    have k3 : (((b ||| 32).toNat : Int) == 120) = false := byte_ne (d := 120) (fun e => hb9 ((lower_is b).2.2.1 e))
    have L := fun w => lower8_any b w
    clear hd2 hnil hb9
    generalize (b ||| 32).toNat = lb at *
    go_wp2_with fail
    refine (L _).mono ?_
    rintro e w' ⟨rfl, rfl⟩
    go_wp2
    go_meet
    case rel => exact ⟨rfl, rfl⟩
   ·have k1 : ((a.toNat : Int) == 48) = false := byte_ne (d := 48) h48
    clear hd2 hnil
    go_wp2
    go_meet
    case rel => exact ⟨rfl, rfl⟩
  ·have h2i : (s.size : Int) ≤ (j0 : Int) + 2 := by omega
   go_wp2
   go_meet
   case rel => exact ⟨rfl, rfl⟩
 case rest =>
 obtain ⟨rfl, rfl⟩ := hcut
 go_wp2
 go_step3
 go_upto_block 1 with fail
 go_cut [2, 5, 7, 9, 13, 14, 15, 16, 17] from 57 to 138 (fun m t i u z x n r y wc => ∃ (M : Nat) (tr : Bool) (k : Nat) (us dot sm : Bool) (nd q : Nat) (p dp : Int) (ds : Bs), m = .int .u64 (M : Int) ∧ t = .bool tr ∧ i = .int .i64 (k : Int) ∧ u = .bool us ∧ z = .bool dot ∧ x = .bool sm ∧ n = .int .i64 (nd : Int) ∧ r = .int .i64 (q : Int) ∧ y = .int .i64 p ∧ k ≤ s.size ∧ nd ≤ k ∧ -300 ≤ p ∧ p ≤ 300 ∧ -300 ≤ dp ∧ dp ≤ 300 ∧ M < 10000000000000000000 ∧ q ≤ 19 ∧ Hid (nd = ds.length ∧ q = min 19 nd ∧ M = mant ds ∧ TrI ds tr ∧ Dig ds ∧ (ds = [] ∨ dig0 ds 0 ≠ 0)) ∧ Hid (PtI dot ds dp p) ∧ Hid (UsI us (s.data.toList.take k)) ∧ Hid (scan false false [] 0 (sgn l).1 = (sm, ds, dp, s.data.toList.drop k)) ∧ w = wc)
 case first => as_aux_lemma =>
  go_upto_region 23 with fail
  go_loop [2, 5, 7, 9, 13, 14, 15, 16, 17] (fun m t i u z x n r y => ∃ (M : Nat) (tr : Bool) (k : Nat) (us dot sm : Bool) (nd q : Nat) (p dp : Int) (ds : Bs), m = .int .u64 (M : Int) ∧ t = .bool tr ∧ i = .int .i64 (k : Int) ∧ u = .bool us ∧ z = .bool dot ∧ x = .bool sm ∧ n = .int .i64 (nd : Int) ∧ r = .int .i64 (q : Int) ∧ y = .int .i64 p ∧ k ≤ s.size ∧ nd ≤ k ∧ -(k : Int) ≤ p ∧ p ≤ k ∧ -(k : Int) ≤ dp ∧ dp ≤ k ∧ M < 10000000000000000000 ∧ q ≤ 19 ∧ Hid (nd = ds.length ∧ q = min 19 nd ∧ M = mant ds ∧ TrI ds tr ∧ Dig ds ∧ (ds = [] ∨ dig0 ds 0 ≠ 0)) ∧ Hid (PtI dot ds dp p) ∧ Hid (UsI us (s.data.toList.take k)) ∧ Hid (scan false false [] 0 (sgn l).1 = scan dot sm ds dp (s.data.toList.drop k))) (fun _ _ i _ _ _ _ _ _ => s.size - (intOf i).toNat)
  case atStart => exact ⟨0, false, j0, false, false, false, 0, 0, 0, 0, [], rfl, rfl, rfl, rfl, rfl, rfl, rfl, rfl, rfl, hj0, by omega, by omega, by omega, by omega, by omega, by omega, by omega, Lib.hid ⟨rfl, rfl, rfl, ⟨fun _ j _ => rfl, fun h => (by cases h)⟩, by simp [Dig], Or.inl rfl⟩, Lib.hid rfl, HU0, Lib.hid (by rw [HT.out])⟩
  case round =>
   clear HU0 HT hj0 hj1
   obtain ⟨M, tr, k, us, dot, sm, nd, q, p, dp, ds, rfl, rfl, rfl, rfl, rfl, rfl, rfl, rfl, rfl, hk, hnk, hp1, hp2, hdp1, hdp2, hM, hq, HD, HP, HU, H⟩ := hrel
   by_cases hlt : k < s.size
   ·have hdr := Lib.hid (drop_cons s k hlt)
    have hlti : (k : Int) < (s.size : Int) := by omega
    have HUN := Lib.hid (fun (h95 : s[k] ≠ 95) => HU.out.snoc hlt rfl h95)
    generalize hc : s[k] = c at *
    by_cases h95 : c = 95
    ·subst h95
     have HN : Hid (scan false false [] 0 (sgn l).1 = scan dot sm ds dp (s.data.toList.drop (k + 1))) := Lib.hid (by rw [H.out, hdr.out, scan, if_pos rfl])
     clear H HUN
     go_wp2
     go_round
     case rel => exact ⟨M, tr, k + 1, true, dot, sm, nd, q, p, dp, ds, rfl, rfl, by go_num, rfl, rfl, rfl, rfl, rfl, rfl, by omega, by omega, by omega, by omega, by omega, by omega, hM, hq, HD, HP, Lib.hid (UsI.yes _), HN⟩
     case measure => simp [intOf]; omega
    ·have HU2 := Lib.hid (HUN.out h95)
     clear HUN
     have k95 : ((c.toNat : Int) == 95) = false := byte_ne (d := 95) h95
     by_cases h46 : c = 46
     ·subst h46
      cases dot
      ·have HN : Hid (scan false false [] 0 (sgn l).1 = scan true sm ds dp (s.data.toList.drop (k + 1))) := Lib.hid (by rw [H.out, hdr.out, scan, if_neg h95, if_pos ⟨rfl, rfl⟩])
       have HP2 : Hid (PtI true ds dp (nd : Int)) := Lib.hid (by
        have h1 : dp = ds.length := HP.out
        have h2 := HD.out.1
        show (nd : Int) = dp
        omega)
       clear H HP
       go_wp2
       go_round
       case rel => exact ⟨M, tr, k + 1, us, true, sm, nd, q, nd, dp, ds, rfl, rfl, by go_num, rfl, rfl, rfl, rfl, rfl, rfl, by omega, by omega, by omega, by omega, by omega, by omega, hM, hq, HD, HP2, HU2, HN⟩
       case measure => simp [intOf]; omega
      ·have HN : Hid (scan false false [] 0 (sgn l).1 = (sm, ds, dp, s.data.toList.drop k)) := Lib.hid (by
        rw [H.out, hdr.out, scan, if_neg (by decide), if_neg (show ¬ ((46 : UInt8) = 46 ∧ true = false) by simp), if_neg (show ¬ isDig 46 = true by decide)])
       clear H
       go_wp2
       go_meet
       case rel => exact ⟨M, tr, k, us, true, sm, nd, q, p, dp, ds, rfl, rfl, rfl, rfl, rfl, rfl, rfl, rfl, rfl, hk, hnk, by omega, by omega, by omega, by omega, hM, hq, HD, HP, HU, HN, rfl⟩
     ·have k46 : ((c.toNat : Int) == 46) = false := byte_ne (d := 46) h46
      have h46' : ¬ (c = 46 ∧ dot = false) := fun h => h46 h.1
      by_cases hdg : isDig c = true
      ·have hdg2 : 48 ≤ (c.toNat : Int) ∧ (c.toNat : Int) ≤ 57 := by rw [isDig_eq] at hdg; simp at hdg; omega
       obtain ⟨hnd, hqm, hMm, hTr, hDig, hHead⟩ := HD.out
       by_cases hnz : ds ≠ [] ∨ c ≠ 48
       ·have HN : Hid (scan false false [] 0 (sgn l).1 = scan dot true (ds ++ [c - 48]) (if dot = true then dp else dp + 1) (s.data.toList.drop (k + 1))) :=
         Lib.hid (by rw [H.out, hdr.out, scan, if_neg h95, if_neg h46', if_pos hdg, if_pos hnz])
        have hgd : (nd = 0 ∧ ((c.toNat : Int) == 48) = false) ∨ (((nd : Int) == 0) = false) := by
         rcases Nat.eq_zero_or_pos nd with h | h
         ·left
          refine ⟨h, byte_ne (d := 48) ?_⟩
          exact hnz.resolve_left (fun h2 => h2 (List.eq_nil_of_length_eq_zero (by omega)))
         ·right; rw [beq_eq_false_iff_ne]; omega
        have hHead2 : ds ++ [c - 48] = [] ∨ dig0 (ds ++ [c - 48]) 0 ≠ 0 := by
         right
         have h48 := sub48 hdg
         cases ds with
         | nil =>
          show (c - 48).toNat ≠ 0
          rw [h48.1]
          have : c ≠ 48 := hnz.resolve_left (fun h => h rfl)
          have : c.toNat ≠ 48 := fun e => this (UInt8.toNat_inj.1 e)
          omega
         | cons d r => exact hHead.resolve_left (by simp)
        have HP2 : Hid (PtI dot (ds ++ [c - 48]) (if dot = true then dp else dp + 1) p) := Lib.hid (by
         have := HP.out
         unfold PtI at this ⊢
         cases dot
         ·simp at this ⊢; omega
         ·simpa using this)
        have hq1 : -((k : Int) + 1) ≤ (if dot = true then dp else dp + 1) ∧ (if dot = true then dp else dp + 1) ≤ (k : Int) + 1 := by split <;> omega
        have hDig2 := dig_snoc hDig hdg
        have h48 := (sub48 hdg).1
        generalize (if dot = true then dp else dp + 1) = dp2 at *
        have hlen2 : (ds ++ [c - 48]).length = nd + 1 := by simp [hnd]
        by_cases h19 : q < 19
        ·have hl19 : ds.length < 19 := by omega
         have hMb := mant_bd2 hDig hl19
         have hM2 := mant_short (d := c - 48) hl19
         rw [h48, ← hMm] at hM2
         rw [← hMm] at hMb
         have HD2 : Hid (nd + 1 = (ds ++ [c - 48]).length ∧ q + 1 = min 19 (nd + 1) ∧ M * 10 + (c.toNat - 48) = mant (ds ++ [c - 48]) ∧ TrI (ds ++ [c - 48]) tr ∧ Dig (ds ++ [c - 48]) ∧ (ds ++ [c - 48] = [] ∨ dig0 (ds ++ [c - 48]) 0 ≠ 0)) :=
          Lib.hid ⟨hlen2.symm, by omega, by rw [hM2]; omega, hTr.short hl19, hDig2, hHead2⟩
         have hMi : (M : Int) < 1000000000000000000 := by omega
         have hqi : (q : Int) < 19 := by omega
         clear H HP HD hnz hdg hTr hDig hHead hHead2 hDig2 hlen2 hM2 h48 hMm hqm hnd hl19 hM
         have hgd2 : (((c.toNat : Int) == 48) = false) ∨ (c = 48 ∧ (((nd : Int) == 0) = false)) := by
          rcases hgd with ⟨_, kz⟩ | ip
          ·exact Or.inl kz
          ·by_cases hc48 : c = 48
           ·exact Or.inr ⟨hc48, ip⟩
           ·exact Or.inl (byte_ne (d := 48) hc48)
         clear hgd
         rcases hgd2 with kz | ⟨rfl, ip⟩
         ·go_wp2
          go_round
          case rel => exact ⟨M * 10 + (c.toNat - 48), tr, k + 1, us, dot, true, nd + 1, q + 1, p, dp2, ds ++ [c - 48], by go_num, rfl, by go_num, rfl, rfl, rfl, by go_num, by go_num, rfl, by omega, by omega, by omega, by omega, by omega, by omega, by omega, by omega, HD2, HP2, HU2, HN⟩
          case measure => simp [intOf]; omega
         ·go_wp2
          go_round
          case rel => exact ⟨M * 10, tr, k + 1, us, dot, true, nd + 1, q + 1, p, dp2, ds ++ [48 - 48], by go_num, rfl, by go_num, rfl, rfl, rfl, by go_num, by go_num, rfl, by omega, by omega, by omega, by omega, by omega, by omega, by omega, by omega, HD2, HP2, HU2, HN⟩
          case measure => simp [intOf]; omega
        ·have hl19 : 19 ≤ ds.length := by omega
         obtain rfl : q = 19 := by omega
         have hM2 := mant_long (d := c - 48) hl19
         rw [← hMm] at hM2
         have ip : ((nd : Int) == 0) = false := by rw [beq_eq_false_iff_ne]; omega
         by_cases hc48 : c = 48
         ·have HD2 : Hid (nd + 1 = (ds ++ [c - 48]).length ∧ 19 = min 19 (nd + 1) ∧ M = mant (ds ++ [c - 48]) ∧ TrI (ds ++ [c - 48]) tr ∧ Dig (ds ++ [c - 48]) ∧ (ds ++ [c - 48] = [] ∨ dig0 (ds ++ [c - 48]) 0 ≠ 0)) :=
           Lib.hid ⟨hlen2.symm, by omega, hM2.symm, hTr.zero (by rw [hc48]; rfl), hDig2, hHead2⟩
          subst hc48
          clear H HP HD hnz hdg hTr hDig hHead hHead2 hDig2 hlen2 hM2 h48 hMm hqm hnd hl19 hgd
          go_wp2
          go_round
          case rel => exact ⟨M, tr, k + 1, us, dot, true, nd + 1, 19, p, dp2, ds ++ [48 - 48], rfl, rfl, by go_num, rfl, rfl, rfl, by go_num, rfl, rfl, by omega, by omega, by omega, by omega, by omega, by omega, hM, by omega, HD2, HP2, HU2, HN⟩
          case measure => simp [intOf]; omega
         ·have kz : ((c.toNat : Int) == 48) = false := byte_ne (d := 48) hc48
          have kz2 : ((c.toNat : Int) != 48) = true := by rw [bne, kz]; rfl
          have HD2 : Hid (nd + 1 = (ds ++ [c - 48]).length ∧ 19 = min 19 (nd + 1) ∧ M = mant (ds ++ [c - 48]) ∧ TrI (ds ++ [c - 48]) true ∧ Dig (ds ++ [c - 48]) ∧ (ds ++ [c - 48] = [] ∨ dig0 (ds ++ [c - 48]) 0 ≠ 0)) :=
           Lib.hid ⟨hlen2.symm, by omega, hM2.symm, TrI.long hl19, hDig2, hHead2⟩
          clear H HP HD hnz hdg hTr hDig hHead hHead2 hDig2 hlen2 hM2 h48 hMm hqm hnd hl19 hgd
          go_wp2
          go_round
          case rel => exact ⟨M, true, k + 1, us, dot, true, nd + 1, 19, p, dp2, ds ++ [c - 48], rfl, rfl, by go_num, rfl, rfl, rfl, by go_num, rfl, rfl, by omega, by omega, by omega, by omega, by omega, by omega, hM, by omega, HD2, HP2, HU2, HN⟩
          case measure => simp [intOf]; omega
       ·have hd0 : ds = [] := Classical.byContradiction fun h => hnz (Or.inl h)
        have hc48 : c = 48 := Classical.byContradiction fun h => hnz (Or.inr h)
        have hn0 : nd = 0 := by rw [hnd, hd0]; rfl
        have HN : Hid (scan false false [] 0 (sgn l).1 = scan dot true ds (if dot = true then dp - 1 else dp) (s.data.toList.drop (k + 1))) :=
         Lib.hid (by rw [H.out, hdr.out, scan, if_neg h95, if_neg h46', if_pos hdg, if_neg hnz])
        have HP2 : Hid (PtI dot ds (if dot = true then dp - 1 else dp) (p - 1)) := Lib.hid (by
         have := HP.out
         unfold PtI at this ⊢
         cases dot
         ·simpa using this
         ·simp at this ⊢; omega)
        have hq1 : -((k : Int) + 1) ≤ (if dot = true then dp - 1 else dp) ∧ (if dot = true then dp - 1 else dp) ≤ (k : Int) + 1 := by split <;> omega
        subst hn0 hc48
        clear hnz hnd H HP hdg hd0 h46' hqm hMm hTr hDig hHead
        generalize (if dot = true then dp - 1 else dp) = dp2 at *
        go_wp2
        go_round
        case rel => exact ⟨M, tr, k + 1, us, dot, true, 0, q, p - 1, dp2, ds, rfl, rfl, by go_num, rfl, rfl, rfl, rfl, rfl, rfl, by omega, by omega, by omega, by omega, by omega, by omega, hM, hq, HD, HP2, HU2, HN⟩
        case measure => simp [intOf]; omega
      ·have hdg2 : ¬ (48 ≤ (c.toNat : Int) ∧ (c.toNat : Int) ≤ 57) := by rw [isDig_eq] at hdg; simp at hdg; omega
       have HN : Hid (scan false false [] 0 (sgn l).1 = (sm, ds, dp, s.data.toList.drop k)) := Lib.hid (by rw [H.out, hdr.out, scan, if_neg h95, if_neg h46', if_neg hdg])
       have q : (c.toNat : Int) < 48 ∨ 57 < (c.toNat : Int) := by omega
       clear H hdg hdg2 h46'
       rcases q with q | q
       all_goals
        go_wp2
        go_meet
        case rel => exact ⟨M, tr, k, us, dot, sm, nd, _, p, dp, ds, rfl, rfl, rfl, rfl, rfl, rfl, rfl, rfl, rfl, hk, hnk, by omega, by omega, by omega, by omega, hM, hq, HD, HP, HU, HN, rfl⟩
   ·have HN : Hid (scan false false [] 0 (sgn l).1 = (sm, ds, dp, s.data.toList.drop k)) := Lib.hid (by
     rw [H.out, List.drop_eq_nil_of_le (by have := HSL.out; omega)]; rfl)
    have hge : (s.size : Int) ≤ (k : Int) := by omega
    clear H
    go_wp2
    go_meet
    case rel => exact ⟨M, tr, k, us, dot, sm, nd, q, p, dp, ds, rfl, rfl, rfl, rfl, rfl, rfl, rfl, rfl, rfl, hk, hnk, by omega, by omega, by omega, by omega, hM, hq, HD, HP, HU, HN, rfl⟩
 case rest =>
 clear HU0 HT hj0 hj1 HX
 obtain ⟨M, tr, k, us, dot, sm, nd, q, p, dp, ds, rfl, rfl, rfl, rfl, rfl, rfl, rfl, rfl, rfl, hk, hnk, hp1, hp2, hdp1, hdp2, hM, hq, HD, HP, HU, H, rfl⟩ := hcut
 have hlen : s.size = l.length := HL.out.size
 have HLEN := Lib.hid hlen
 clear hlen
 cases sm
 ·have HRP : Hid (readP (sgn l).1 = none) := Lib.hid (by rw [scan_split, H.out]; rfl)
  clear H
  go_wp2
  rw [Exit.noGoto_ret]
  refine bodyPost_ret (results_tmp7 rfl _ _ _) rfl ?_
  exact rf_no (by have := HLEN.out; omega) (Or.inl HRP.out)
 have HRP : Hid (readP (sgn l).1 = match tailR (s.data.toList.drop k) with | none => none | some (e, r) => if r = [] then some (ds, dp + e) else none) := Lib.hid (by rw [scan_split, H.out]; rfl)
 clear H
 go_upto_if 142 with fail
 go_cut [17] from 142 to 143 (fun y wc => y = .int .i64 dp ∧ w = wc)
 case first =>
  cases dot
  ·have hdn : dp = nd := by have h1 : dp = ds.length := HP.out; have h2 := HD.out.1; omega
   subst hdn
   clear HP
   go_wp2
   go_meet
   case rel => exact ⟨rfl, rfl⟩
  ·have hp : p = dp := HP.out
   subst hp
   clear HP
   go_wp2
   go_meet
   case rel => exact ⟨rfl, rfl⟩
 case rest =>
 obtain ⟨rfl, rfl⟩ := hcut
 clear HP hp1 hp2
 go_upto_region 57 with fail
 go_cut [161] from 144 to 160 (fun x wc => x = .bool (isE (s.data.toList.drop k)) ∧ w = wc)
 case first =>
  by_cases hlt : k < s.size
  ·have hdr := drop_cons s k hlt
   generalize hc : s[k] = c at *
   have HI : Hid (isE (s.data.toList.drop k) = decide (c = 101 ∨ c = 69)) := Lib.hid (by rw [hdr]; rfl)
   clear hdr
   have hlti : (k : Int) < (s.size : Int) := by omega
   by_cases he : c = 101 ∨ c = 69
   ·have k1 : ((c ||| 32).toNat : Int) = 101 := by rw [(lower_e c).2 he]; rfl
    have L := fun w => lower8_any c w
    have HI2 : Hid (isE (s.data.toList.drop k) = true) := Lib.hid (by rw [HI.out]; simp [he])
    clear HI he
    generalize (c ||| 32).toNat = lb at *
    go_wp2_with fail
    refine (L _).mono ?_
    rintro e w' ⟨rfl, rfl⟩
    go_wp2
    go_meet
    case rel => exact ⟨by rw [HI2.out], rfl⟩
   ·have k1 : (((c ||| 32).toNat : Int) == 101) = false := byte_ne (d := 101) (fun h => he ((lower_e c).1 h))
    have L := fun w => lower8_any c w
    have HI2 : Hid (isE (s.data.toList.drop k) = false) := Lib.hid (by rw [HI.out]; simp [he])
    clear HI he
    generalize (c ||| 32).toNat = lb at *
    go_wp2_with fail
    refine (L _).mono ?_
    rintro e w' ⟨rfl, rfl⟩
    go_wp2
    go_meet
    case rel => exact ⟨by rw [HI2.out], rfl⟩
  ·have HI2 : Hid (isE (s.data.toList.drop k) = false) := Lib.hid (by rw [List.drop_eq_nil_of_le (by have := HSL.out; omega)]; rfl)
   have hge : (s.size : Int) ≤ (k : Int) := by omega
   go_wp2
   go_meet
   case rel => exact ⟨by rw [HI2.out], rfl⟩
 case rest =>
 obtain ⟨rfl, rfl⟩ := hcut
 go_upto_if 161 with fail
 go_cut [7, 9, 17, 19, 20] from 161 to 239 (fun i u y _ _ wc => ∃ (e' : Int) (j : Nat) (us2 : Bool), i = .int .i64 j ∧ u = .bool us2 ∧ y = .int .i64 (dp + e') ∧ j ≤ s.size ∧ k ≤ j ∧ -100000 ≤ e' ∧ e' ≤ 100000 ∧ Hid (tailR (s.data.toList.drop k) = some (e', s.data.toList.drop j)) ∧ Hid (UsI us2 (s.data.toList.take j)) ∧ w = wc)
 case first =>
  cases hE : isE (s.data.toList.drop k)
  ·have HX : Hid (tailR (s.data.toList.drop k) = some (0, s.data.toList.drop k)) := Lib.hid (by
    by_cases hlt : k < s.size
    ·rw [drop_cons s k hlt] at hE ⊢
     have : ¬ (s[k] = 101 ∨ s[k] = 69) := by simpa [isE] using hE
     unfold tailR
     simp only [if_neg this]
    ·rw [List.drop_eq_nil_of_le (by have := HSL.out; omega)]; rfl)
   clear hE
   go_wp2
   go_meet
   case rel => exact ⟨0, k, us, rfl, rfl, by rw [Int.add_zero], hk, Nat.le_refl _, by omega, by omega, HX, HU, rfl⟩
  ·have hlt : k < s.size := by
    rcases Nat.lt_or_ge k s.size with h | h
    ·exact h
    ·rw [List.drop_eq_nil_of_le (by have := HSL.out; omega)] at hE; cases hE
   have hdr := drop_cons s k hlt
   have hek : s[k] = 101 ∨ s[k] = 69 := by rw [hdr] at hE; simpa [isE] using hE
   have HXR : Hid (tailR (s.data.toList.drop k) = (if hd (sgn (s.data.toList.drop (k + 1))).1 = true then some (if (sgn (s.data.toList.drop (k + 1))).2.1 = true then -((expGo 0 (sgn (s.data.toList.drop (k + 1))).1).1 : Int) else ((expGo 0 (sgn (s.data.toList.drop (k + 1))).1).1 : Int), (expGo 0 (sgn (s.data.toList.drop (k + 1))).1).2) else none)) := Lib.hid (by
    rw [hdr]
    unfold tailR
    simp only [if_pos hek])
   have HU1 : Hid (UsI us (s.data.toList.take (k + 1))) := Lib.hid (HU.out.snoc hlt rfl (by rcases hek with h | h <;> rw [h] <;> decide))
   clear hE hdr hek
   by_cases hlt2 : k + 1 < s.size
   ·have hdr := drop_cons s (k + 1) hlt2
    have hlti : (k : Int) + 1 < (s.size : Int) := by omega
    have HU2 := Lib.hid (fun (h : s[k + 1] ≠ 95) => HU1.out.snoc hlt2 rfl h)
    go_upto_block 4 with fail
    go_cut [7, 19] from 171 to 178 (fun i z wc => ∃ (j0 : Nat) (es : Int), i = .int .i64 j0 ∧ z = .int .i64 es ∧ -1 ≤ es ∧ es ≤ 1 ∧ k + 1 ≤ j0 ∧ j0 ≤ s.size ∧ Hid ((sgn (s.data.toList.drop (k + 1))).1 = s.data.toList.drop j0) ∧ Hid (es = if (sgn (s.data.toList.drop (k + 1))).2.1 = true then -1 else 1) ∧ Hid (UsI us (s.data.toList.take j0)) ∧ w = wc)
    case first =>
     generalize hc : s[k + 1] = c at *
     by_cases h1 : c = 43
     ·subst h1
      have HS : Hid ((sgn (s.data.toList.drop (k + 1))).1 = s.data.toList.drop (k + 1 + 1) ∧ (sgn (s.data.toList.drop (k + 1))).2.1 = false) := Lib.hid (by rw [hdr]; exact ⟨rfl, rfl⟩)
      have HU3 := Lib.hid (HU2.out (by decide))
      clear hdr
      go_wp2
      go_meet
      case rel => exact ⟨k + 1 + 1, 1, by go_num, rfl, by omega, by omega, by omega, by omega, Lib.hid HS.out.1, Lib.hid (by rw [HS.out.2]; rfl), HU3, rfl⟩
     ·have k1 : ((c.toNat : Int) == 43) = false := byte_ne (d := 43) h1
      by_cases h2 : c = 45
      ·subst h2
       have HS : Hid ((sgn (s.data.toList.drop (k + 1))).1 = s.data.toList.drop (k + 1 + 1) ∧ (sgn (s.data.toList.drop (k + 1))).2.1 = true) := Lib.hid (by rw [hdr]; exact ⟨rfl, rfl⟩)
       have HU3 := Lib.hid (HU2.out (by decide))
       clear hdr
       go_wp2
       go_meet
       case rel => exact ⟨k + 1 + 1, -1, by go_num, rfl, by omega, by omega, by omega, by omega, Lib.hid HS.out.1, Lib.hid (by rw [HS.out.2]; rfl), HU3, rfl⟩
      ·have k2 : ((c.toNat : Int) == 45) = false := byte_ne (d := 45) h2
       have HS : Hid ((sgn (s.data.toList.drop (k + 1))).1 = s.data.toList.drop (k + 1) ∧ (sgn (s.data.toList.drop (k + 1))).2.1 = false) := Lib.hid (by rw [hdr, sgn_cons, if_neg h2, if_neg h1]; exact ⟨rfl, rfl⟩)
       clear hdr
       go_wp2
       go_meet
       case rel => exact ⟨k + 1, 1, by go_num, rfl, by omega, by omega, by omega, by omega, Lib.hid HS.out.1, Lib.hid (by rw [HS.out.2]; rfl), HU1, rfl⟩
    case rest =>
    obtain ⟨j0, es, rfl, rfl, hes1, hes2, hj01, hj02, HJ, HES, HUJ, rfl⟩ := hcut
    clear hdr HU2 HU1
    go_upto_region 67 with fail
    go_cut [194] from 179 to 193 (fun x wc => x = .bool (!hd (s.data.toList.drop j0)) ∧ w = wc)
    case first =>
     by_cases hlt2 : j0 < s.size
     ·have hdr := drop_cons s j0 hlt2
      generalize hc : s[j0] = c at *
      have hlti : (j0 : Int) < (s.size : Int) := by omega
      have HS : Hid (hd (s.data.toList.drop j0) = isDig c) := Lib.hid (by rw [hdr]; rfl)
      clear hdr
      by_cases hdg : isDig c = true
      ·have hdg2 : 48 ≤ (c.toNat : Int) ∧ (c.toNat : Int) ≤ 57 := by rw [isDig_eq] at hdg; simp at hdg; omega
       have HS2 : Hid (hd (s.data.toList.drop j0) = true) := Lib.hid (by rw [HS.out, hdg])
       clear HS hdg
       go_wp2
       go_meet
       case rel => exact ⟨by rw [HS2.out]; first | rfl | (congr 1; simp; omega), rfl⟩
      ·have hdg2 : ¬ (48 ≤ (c.toNat : Int) ∧ (c.toNat : Int) ≤ 57) := by rw [isDig_eq] at hdg; simp at hdg; omega
       have HS2 : Hid (hd (s.data.toList.drop j0) = false) := Lib.hid (by rw [HS.out]; simpa using hdg)
       have q : (c.toNat : Int) < 48 ∨ 57 < (c.toNat : Int) := by omega
       clear HS hdg hdg2
       rcases q with q | q
       all_goals
        go_wp2
        go_meet
        case rel => exact ⟨by rw [HS2.out]; first | rfl | (congr 1; simp; omega), rfl⟩
     ·have hge : (s.size : Int) ≤ (j0 : Int) := by omega
      have HS : Hid (hd (s.data.toList.drop j0) = false) := Lib.hid (by rw [List.drop_eq_nil_of_le (by have := HSL.out; omega)]; rfl)
      go_wp2
      go_meet
      case rel => exact ⟨by rw [HS.out]; rfl, rfl⟩
    case rest =>
    obtain ⟨rfl, rfl⟩ := hcut
    cases hH : hd (s.data.toList.drop j0)
    ·have HR2 : Hid (readP (sgn l).1 = none) := Lib.hid (by
      rw [HRP.out, HXR.out, HJ.out, if_neg (by rw [hH]; simp)])
     clear hH HXR
     go_upto_if 194 with fail
     go_wp2
     rw [Exit.noGoto_ret]
     refine bodyPost_ret (results_tmp7 rfl _ _ _) rfl ?_
     exact rf_no (by have := HLEN.out; omega) (Or.inl HR2.out)
    ·have HXR2 : Hid (tailR (s.data.toList.drop k) = some (if (sgn (s.data.toList.drop (k + 1))).2.1 = true then -((expGo 0 (s.data.toList.drop j0)).1 : Int) else ((expGo 0 (s.data.toList.drop j0)).1 : Int), (expGo 0 (s.data.toList.drop j0)).2)) := Lib.hid (by
      rw [HXR.out, HJ.out, hH]; simp)
     clear hH HXR
     generalize (sgn (s.data.toList.drop (k + 1))).2.1 = eneg at *
     clear hes1 hes2
     have hes : (eneg = false ∧ es = 1) ∨ (eneg = true ∧ es = -1) := by
      have := HES.out
      cases eneg
      ·exact Or.inl ⟨rfl, this⟩
      ·exact Or.inr ⟨rfl, this⟩
     clear HES
     have HES := Lib.hid hes
     clear hes
     go_upto_region 69 with fail
     go_loop [7, 9, 20] (fun i u z => ∃ (j e : Nat) (us2 : Bool), i = .int .i64 j ∧ u = .bool us2 ∧ z = .int .i64 e ∧ j ≤ s.size ∧ k ≤ j ∧ e ≤ 99999 ∧ Hid (expGo 0 (s.data.toList.drop j0) = expGo e (s.data.toList.drop j)) ∧ Hid (UsI us2 (s.data.toList.take j))) (fun i _ _ => s.size - (intOf i).toNat)
     case atStart => exact ⟨j0, 0, us, rfl, rfl, rfl, hj02, by omega, by omega, Lib.hid rfl, HUJ⟩
     case round =>
      clear HUJ
      obtain ⟨j, e, us2, rfl, rfl, rfl, hj, hkj, he, HE, HUJ⟩ := hrel
      by_cases hlt3 : j < s.size
      ·have hdr := Lib.hid (drop_cons s j hlt3)
       have HUN := Lib.hid (fun (h95 : s[j] ≠ 95) => HUJ.out.snoc hlt3 rfl h95)
       generalize hc : s[j] = c at *
       have hlti : (j : Int) < (s.size : Int) := by omega
       by_cases hdg : isDig c = true
       ·have hdg2 : 48 ≤ (c.toNat : Int) ∧ (c.toNat : Int) ≤ 57 := by rw [isDig_eq] at hdg; simp at hdg; omega
        have h95 : ((c.toNat : Int) == 95) = false := by rw [beq_eq_false_iff_ne]; omega
        have HU3 := Lib.hid (HUN.out (isDig_ne95 hdg))
        clear HUN
        by_cases h10 : e < 10000
        ·have HN : Hid (expGo 0 (s.data.toList.drop j0) = expGo (e * 10 + (c.toNat - 48)) (s.data.toList.drop (j + 1))) := Lib.hid (by
          rw [HE.out, hdr.out, expGo, if_pos hdg, if_pos h10])
         have h10i : (e : Int) < 10000 := by omega
         clear HE hdg
         go_wp2
         go_round
         case rel => exact ⟨j + 1, e * 10 + (c.toNat - 48), us2, by go_num, rfl, by go_num, by omega, by omega, by omega, HN, HU3⟩
         case measure => simp [intOf]; omega
        ·have HN : Hid (expGo 0 (s.data.toList.drop j0) = expGo e (s.data.toList.drop (j + 1))) := Lib.hid (by
          rw [HE.out, hdr.out, expGo, if_pos hdg, if_neg h10])
         have h10i : (10000 : Int) ≤ (e : Int) := by omega
         clear HE hdg
         go_wp2
         go_round
         case rel => exact ⟨j + 1, e, us2, by go_num, rfl, rfl, by omega, by omega, by omega, HN, HU3⟩
         case measure => simp [intOf]; omega
       ·have hdg2 : ¬ (48 ≤ (c.toNat : Int) ∧ (c.toNat : Int) ≤ 57) := by rw [isDig_eq] at hdg; simp at hdg; omega
        by_cases h95 : c = 95
        ·subst h95
         have HN : Hid (expGo 0 (s.data.toList.drop j0) = expGo e (s.data.toList.drop (j + 1))) := Lib.hid (by
          rw [HE.out, hdr.out, expGo, if_neg hdg, if_pos rfl])
         clear HE hdg hdg2 HUN
         go_wp2
         go_round
         case rel => exact ⟨j + 1, e, true, by go_num, rfl, rfl, by omega, by omega, by omega, HN, Lib.hid (UsI.yes _)⟩
         case measure => simp [intOf]; omega
        ·have k95 : ((c.toNat : Int) == 95) = false := byte_ne (d := 95) h95
         have HX2 : Hid (tailR (s.data.toList.drop k) = some (if eneg = true then -(e : Int) else (e : Int), s.data.toList.drop j)) := Lib.hid (by
          rw [HXR2.out, HE.out, hdr.out, expGo, if_neg hdg, if_neg h95])
         have q : (c.toNat : Int) < 48 ∨ 57 < (c.toNat : Int) := by omega
         clear HE hdg hdg2 HXR2 h95 HUN
         rcases q with q | q
         all_goals
          rcases HES.out with ⟨rfl, rfl⟩ | ⟨rfl, rfl⟩
          ·go_wp2
           go_meet
           case rel => exact ⟨e, j, us2, rfl, rfl, by go_num, by omega, by omega, by omega, by omega, Lib.hid HX2.out, HUJ, rfl⟩
          ·go_wp2
           go_meet
           case rel => exact ⟨-(e : Int), j, us2, rfl, rfl, by go_num, by omega, by omega, by omega, by omega, Lib.hid HX2.out, HUJ, rfl⟩
      ·have hge : (s.size : Int) ≤ (j : Int) := by omega
       have hnil : s.data.toList.drop j = [] := List.drop_eq_nil_of_le (by have := HSL.out; omega)
       have HX2 : Hid (tailR (s.data.toList.drop k) = some (if eneg = true then -(e : Int) else (e : Int), s.data.toList.drop j)) := Lib.hid (by
        rw [HXR2.out, HE.out, hnil]; rfl)
       clear HE HXR2 hnil
       rcases HES.out with ⟨rfl, rfl⟩ | ⟨rfl, rfl⟩
       ·go_wp2
        go_meet
        case rel => exact ⟨e, j, us2, rfl, rfl, by go_num, by omega, by omega, by omega, by omega, Lib.hid HX2.out, HUJ, rfl⟩
       ·go_wp2
        go_meet
        case rel => exact ⟨-(e : Int), j, us2, rfl, rfl, by go_num, by omega, by omega, by omega, by omega, Lib.hid HX2.out, HUJ, rfl⟩
   ·have hge : (s.size : Int) ≤ (k : Int) + 1 := by omega
    have HR2 : Hid (readP (sgn l).1 = none) := Lib.hid (by
     rw [HRP.out, HXR.out, List.drop_eq_nil_of_le (by have := HSL.out; omega), if_neg (by decide)])
    clear HXR
    go_wp2
    rw [Exit.noGoto_ret]
    refine bodyPost_ret (results_tmp7 rfl _ _ _) rfl ?_
    exact rf_no (i := k + 1) (by have := HLEN.out; omega) (Or.inl HR2.out)
 case rest =>
 clear HU
 obtain ⟨e', j, us2, rfl, rfl, rfl, hj, hkj, he1, he2, HX, HU, rfl⟩ := hcut
 have HR : Hid ((s.data.toList.drop j = [] → readP (sgn l).1 = some (ds, dp + e')) ∧ (s.data.toList.drop j ≠ [] → readP (sgn l).1 = none)) := Lib.hid (by
  rw [HRP.out, HX.out]
  exact ⟨fun h => if_pos h, fun h => if_neg h⟩)
 clear HRP HX
 go_upto_if 241 with fail
 go_cut [3] from 240 to 244 (fun x wc => ∃ E : Int, x = .int .i64 E ∧ -200000 ≤ E ∧ E ≤ 200000 ∧ Hid (E = if ds = [] then 0 else dp + e' - (min 19 ds.length : Nat)) ∧ w = wc)
 case first =>
  obtain ⟨hnd, hqm, hMm, hTr, hDig, hHead⟩ := HD.out
  by_cases hd0 : ds = []
  ·have hM0 : M = 0 := by rw [hMm, hd0]; rfl
   have HE : Hid ((0 : Int) = if ds = [] then 0 else dp + e' - (min 19 ds.length : Nat)) := Lib.hid (by rw [if_pos hd0])
   clear hnd hqm hMm hTr hDig hHead HD hd0
   subst hM0
   go_wp2
   go_meet
   case rel => exact ⟨0, rfl, by omega, by omega, HE, rfl⟩
  ·have hM0 : ((M : Int) != 0) = true := by
    rw [bne_iff_ne]
    have h1 := pre_mono (ds := ds) (hHead.resolve_left hd0) (min 19 ds.length - 1)
    have hl : 0 < ds.length := by
     rcases Nat.eq_zero_or_pos ds.length with h | h
     ·exact absurd (List.eq_nil_of_length_eq_zero h) hd0
     ·exact h
    rw [show min 19 ds.length - 1 + 1 = min 19 ds.length by omega] at h1
    have h2 : 0 < 10 ^ (min 19 ds.length - 1) := Nat.pow_pos (by omega)
    have h3 : M = pre ds (min 19 ds.length) := hMm
    omega
   have HE : Hid (dp + e' - (q : Int) = if ds = [] then 0 else dp + e' - (min 19 ds.length : Nat)) := Lib.hid (by rw [if_neg hd0, hqm, hnd])
   clear hnd hqm hMm hTr hDig hHead HD hd0
   go_wp2
   go_meet
   case rel => exact ⟨dp + e' - q, rfl, by omega, by omega, HE, rfl⟩
 case rest =>
 obtain ⟨E, rfl, hE1, hE2, HE, rfl⟩ := hcut
 have HOK : Hid (∀ (_ : s.data.toList.drop j = [] → NoPre (sgn l).1 → uok 2 (sgn l).1 = true), RfOk l M E tr j) := Lib.hid (by
  intro hu
  obtain ⟨hnd, hqm, hMm, hTr, hDig, hHead⟩ := HD.out
  exact ⟨ds, dp + e', s.data.toList.drop j, by rw [List.length_drop, ← HSL.out, ← HLEN.out]; omega, hDig, hHead, hMm, hTr, HE.out, hE1, hE2, fun h => ⟨HR.out.1 h, hu h⟩, HR.out.2⟩)
 have hjl : Hid (j ≤ l.length) := Lib.hid (by have := HLEN.out; omega)
 clear HE HD
 cases us2
 ·have hu : s.data.toList.drop j = [] → NoPre (sgn l).1 → uok 2 (sgn l).1 = true := by
   intro h _
   have h1 : s.data.toList.take j = l := by
    have h2 := List.take_append_drop j s.data.toList
    rw [h, List.append_nil] at h2
    rw [h2]; exact HL.out
   have h3 := HU.out rfl
   rw [h1] at h3
   exact uok_plain _ 2 (by decide) (sgn_mem h3)
  have HF := Lib.hid (HOK.out hu)
  clear hu HOK HU HR
  go_wp2
  rw [Exit.noGoto_ret]
  refine bodyPost_ret (results_tmp7 rfl _ _ _) rfl ?_
  exact ⟨M, E, ng, tr, j, true, rfl, rfl, hjl.out, fun _ => ⟨HNG.out.symm, HF.out⟩, fun h => (by cases h)⟩
 ·have HTK : Hid (StrIs (s.extract 0 j) (l.take j)) := Lib.hid (HL.out.take j)
  have HSZ : Hid ((s.extract 0 j).size ≤ 1000) := Lib.hid (by simp; omega)
  have HALL : Hid (s.data.toList.drop j = [] → l.take j = l) := Lib.hid (by
   intro h
   have h2 := List.take_append_drop j s.data.toList
   rw [h, List.append_nil] at h2
   have h3 : s.data.toList = l := HL.out
   rw [h3] at h2; exact h2)
  go_wp2_with fail
  refine (uok8_any _ (l.take j) _ HTK.out HSZ.out).mono ?_
  rintro e w' ⟨B, rfl, rfl, hB⟩
  have HB := Lib.hid hB
  clear hB
  cases B
  ·have hno : readP (sgn l).1 = none ∨ (NoPre (sgn l).1 → uok 2 (sgn l).1 = false) := by
    by_cases h : s.data.toList.drop j = []
    ·right
     intro hp
     have := HB.out
     rw [HALL.out h] at this
     exact (this hp).symm
    ·exact Or.inl (HR.out.2 h)
   have HNO := Lib.hid hno
   clear hno HOK HR HU
   go_wp2
   rw [Exit.noGoto_ret]
   refine bodyPost_ret (results_tmp7 rfl _ _ _) rfl ?_
   exact rf_no hjl.out HNO.out
  ·have hu : s.data.toList.drop j = [] → NoPre (sgn l).1 → uok 2 (sgn l).1 = true := by
    intro h hp
    have := HB.out
    rw [HALL.out h] at this
    exact (this hp).symm
   have HF := Lib.hid (HOK.out hu)
   clear hu HOK HU HR
   go_wp2
   rw [Exit.noGoto_ret]
   refine bodyPost_ret (results_tmp7 rfl _ _ _) rfl ?_
   exact ⟨M, E, ng, tr, j, true, rfl, rfl, hjl.out, fun _ => ⟨HNG.out.symm, HF.out⟩, fun h => (by cases h)⟩
end Go.Proofs.YtillamhoakohdaaGreatDoor

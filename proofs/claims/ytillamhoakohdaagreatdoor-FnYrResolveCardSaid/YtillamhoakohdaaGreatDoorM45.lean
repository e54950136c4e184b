/-
  Walks: the library reads a hexadecimal float: that it comes back, and within what bounds.
-/
import Derived.Test.YtillamhoakohdaaGreatDoorM44
set_option linter.unusedVariables false
set_option linter.unusedSimpArgs false
namespace Go.Proofs.YtillamhoakohdaaGreatDoor
open Go.RowKit
attribute [local go_sem] setCell_drewN

def RhPost (l : Bs) (w : World) (en : Ending) (w' : World) : Prop :=
 ∃ (m : Nat) (e : Int) (neg tr : Bool) (i : Nat) (ok : Bool), en = .returned (.tuple #[.int .u64 m, .int .i64 e, .bool neg, .bool tr, .bool true, .int .i64 i, .bool ok]) ∧ w = w' ∧ i ≤ l.length ∧ m < 18446744073709551616 ∧ -200000 ≤ e ∧ e ≤ 200000
theorem rh_mk {l : Bs} {w : World} {m : Nat} {e : Int} {neg tr : Bool} {i : Nat} {ok : Bool} (hi : i ≤ l.length) (hm : m < 18446744073709551616) (h1 : -200000 ≤ e) (h2 : e ≤ 200000) :
  RhPost l w (.returned (.tuple #[.int .u64 m, .int .i64 e, .bool neg, .bool tr, .bool true, .int .i64 i, .bool ok])) w := ⟨m, e, neg, tr, i, ok, rfl, rfl, hi, hm, h1, h2⟩
theorem hex_bd {M q : Nat} (h : M < 16 ^ q) (hq : q < 16) : M < 1152921504606846976 := Nat.lt_of_lt_of_le h (Nat.le_trans (Nat.pow_le_pow_right (by omega) (show q ≤ 15 by omega)) (by decide))
theorem hex_bd2 {M q : Nat} (h : M < 16 ^ q) (hq : q ≤ 16) : M < 18446744073709551616 := Nat.lt_of_lt_of_le h (Nat.le_trans (Nat.pow_le_pow_right (by omega) hq) (by decide))
theorem hex_up {M q d : Nat} (h : M < 16 ^ q) (hd : d < 16) : M * 16 + d < 16 ^ (q + 1) := by rw [Nat.pow_succ]; omega

set_option maxRecDepth 100000 in
set_option maxHeartbeats 8000000 in
theorem readFloat_hex (s : ByteArray) (l : Bs) (w : World) (hl : StrIs s l) (hs : s.size ≤ 200) (hx : HexP (sgn l).1) :
  Calls Tryz.prog 134 #[.string s] w (RhPost l w) := by
 rcases l with _ | ⟨c0, r0⟩
 ·obtain ⟨c, r, h, _⟩ := hx; cases h
 have hz : 0 < s.size := by rw [hl.size]; simp
 have hne : decide (s = ByteArray.empty) = false := decide_eq_false (by rintro rfl; simp at hz)
 have HSL := Lib.hid (Lib.size_eq s)
 have HL := Lib.hid hl
 have HX := Lib.hid hx
 clear hx
 obtain ⟨_, e0⟩ := hl.cons
 go_enter Tryz.func134, Tryz.ntmps134
 go_wp2
 go_step3
 go_upto_block 0 with fail
 go_cut [4, 7] from 28 to 35 (fun n i wc => ∃ j0 : Nat, n = .bool (sgn (c0 :: r0)).2.1 ∧ i = .int .i64 j0 ∧ j0 ≤ s.size ∧ j0 ≤ 1 ∧ Hid ((sgn (c0 :: r0)).1 = s.data.toList.drop j0) ∧ w = wc)
 case first =>
  have hdt : s.data.toList = c0 :: r0 := hl
  by_cases h1 : c0 = 43
  ·subst h1
   have HS : Hid ((sgn (43 :: r0)).1 = s.data.toList.drop 1) := Lib.hid (by rw [hdt]; rfl)
   clear hdt hl
   go_wp2
   go_meet
   case rel => exact ⟨1, rfl, by go_num, by omega, by omega, HS, rfl⟩
  ·have k1 : ((c0.toNat : Int) == 43) = false := byte_ne (d := 43) h1
   by_cases h2 : c0 = 45
   ·subst h2
    have HS : Hid ((sgn (45 :: r0)).1 = s.data.toList.drop 1) := Lib.hid (by rw [hdt]; rfl)
    clear hdt hl
    go_wp2
    go_meet
    case rel => exact ⟨1, rfl, by go_num, by omega, by omega, HS, rfl⟩
   ·have k2 : ((c0.toNat : Int) == 45) = false := byte_ne (d := 45) h2
    have HS : Hid ((sgn (c0 :: r0)).1 = s.data.toList.drop 0) := Lib.hid (by rw [hdt, sgn_cons, if_neg h2, if_neg h1]; rfl)
    have HN : Hid ((sgn (c0 :: r0)).2.1 = false) := Lib.hid (by rw [sgn_cons, if_neg h2, if_neg h1])
    clear hdt hl
    go_wp2
    go_meet
    case rel => exact ⟨0, by rw [HN.out], by go_num, by omega, by omega, HS, rfl⟩
 case rest =>
 obtain ⟨j0, rfl, rfl, hj0, hj1, HT, rfl⟩ := hcut
 clear e0 hl
 generalize hll : c0 :: r0 = l at *
 clear hll
 generalize hng : (sgn l).2.1 = ng at *
 clear hng
 have hlen : s.size = l.length := HL.out.size
 have HLEN := Lib.hid hlen
 clear hlen
 go_upto_region 12 with fail
 go_cut [54] from 36 to 53 (fun v wc => v = .bool true ∧ Hid (j0 + 2 < s.size) ∧ w = wc)
 case first =>
  obtain ⟨b, r, h1, h2, h3⟩ := HX.out
  rw [HT.out] at h1
  have h2s : j0 + 2 < s.size := by
   have h4 := congrArg List.length h1
   rw [List.length_drop, ← HSL.out] at h4
   have : 0 < r.length := by
    rcases Nat.eq_zero_or_pos r.length with h | h
    ·exact absurd (List.eq_nil_of_length_eq_zero h) h2
    ·exact h
   simp at h4; omega
  have hd2 := drop_two (s := s) (k := j0) (by omega)
  rw [hd2] at h1
  simp only [List.cons.injEq] at h1
  have h2i : (j0 : Int) + 2 < (s.size : Int) := by omega
  have ha := h1.1
  have hb := h1.2.1
  have k3 : (((s[j0 + 1] ||| 32).toNat : Int)) = 120 := by rw [hb, (lower_is b).2.2.2 h3]; rfl
  clear h1 hd2
  generalize hb' : s[j0 + 1] = b' at *
  have L := fun w => lower8_any b' w
  clear hb
  generalize (b' ||| 32).toNat = lb at *
  have HZ := Lib.hid h2s
  go_wp2_with fail
  refine (L _).mono ?_
  rintro e w' ⟨rfl, rfl⟩
  go_wp2
  go_meet
  case rel => exact ⟨rfl, HZ, rfl⟩
 case rest =>
 obtain ⟨rfl, H2, rfl⟩ := hcut
 have h2 := H2.out
 clear HX
 go_wp2
 go_step3
 go_upto_block 1 with fail
 go_cut [2, 5, 7, 9, 13, 14, 15, 16, 17] from 57 to 138 (fun m t i u z x n r y wc => ∃ (M : Nat) (tr : Bool) (k : Nat) (us dot sm : Bool) (nd q : Nat) (p : Int), m = .int .u64 (M : Int) ∧ t = .bool tr ∧ i = .int .i64 (k : Int) ∧ u = .bool us ∧ z = .bool dot ∧ x = .bool sm ∧ n = .int .i64 (nd : Int) ∧ r = .int .i64 (q : Int) ∧ y = .int .i64 p ∧ k ≤ s.size ∧ nd ≤ k ∧ -300 ≤ p ∧ p ≤ 300 ∧ Hid (M < 16 ^ q) ∧ q ≤ 16 ∧ w = wc)
 case first => as_aux_lemma =>
  go_upto_region 23 with fail
  go_loop [2, 5, 7, 9, 13, 14, 15, 16, 17] (fun m t i u z x n r y => ∃ (M : Nat) (tr : Bool) (k : Nat) (us dot sm : Bool) (nd q : Nat) (p : Int), m = .int .u64 (M : Int) ∧ t = .bool tr ∧ i = .int .i64 (k : Int) ∧ u = .bool us ∧ z = .bool dot ∧ x = .bool sm ∧ n = .int .i64 (nd : Int) ∧ r = .int .i64 (q : Int) ∧ y = .int .i64 p ∧ k ≤ s.size ∧ nd ≤ k ∧ -(k : Int) ≤ p ∧ p ≤ k ∧ Hid (M < 16 ^ q) ∧ q ≤ 16) (fun _ _ i _ _ _ _ _ _ => s.size - (intOf i).toNat)
  case atStart => exact ⟨0, false, j0 + 2, false, false, false, 0, 0, 0, rfl, rfl, by go_num, rfl, rfl, rfl, rfl, rfl, rfl, by omega, by omega, by omega, by omega, Lib.hid (by decide), by omega⟩
  case round =>
   clear HT hj0 hj1 H2 h2
   obtain ⟨M, tr, k, us, dot, sm, nd, q, p, rfl, rfl, rfl, rfl, rfl, rfl, rfl, rfl, rfl, hk, hnk, hp1, hp2, HM, hq⟩ := hrel
   by_cases hlt : k < s.size
   ·have hlti : (k : Int) < (s.size : Int) := by omega
    generalize hc : s[k] = c at *
    by_cases h95 : c = 95
    ·subst h95
     go_wp2
     go_round
     case rel => exact ⟨M, tr, k + 1, true, dot, sm, nd, q, p, rfl, rfl, by go_num, rfl, rfl, rfl, rfl, rfl, rfl, by omega, by omega, by omega, by omega, HM, hq⟩
     case measure => simp [intOf]; omega
    ·have k95 : ((c.toNat : Int) == 95) = false := byte_ne (d := 95) h95
     by_cases h46 : c = 46
     ·subst h46
      cases dot
      ·go_wp2
       go_round
       case rel => exact ⟨M, tr, k + 1, us, true, sm, nd, q, nd, rfl, rfl, by go_num, rfl, rfl, rfl, rfl, rfl, rfl, by omega, by omega, by omega, by omega, HM, hq⟩
       case measure => simp [intOf]; omega
      ·go_wp2
       go_meet
       case rel => exact ⟨M, tr, k, us, true, sm, nd, q, p, rfl, rfl, rfl, rfl, rfl, rfl, rfl, rfl, rfl, hk, hnk, by omega, by omega, HM, hq, rfl⟩
     ·have k46 : ((c.toNat : Int) == 46) = false := byte_ne (d := 46) h46
      by_cases hdg : isDig c = true
      ·have hdg2 : 48 ≤ (c.toNat : Int) ∧ (c.toNat : Int) ≤ 57 := by rw [isDig_eq] at hdg; simp at hdg; omega
       clear hdg
       by_cases hzz : c = 48 ∧ nd = 0
       ·obtain ⟨rfl, rfl⟩ := hzz
        go_wp2
        go_round
        case rel => exact ⟨M, tr, k + 1, us, dot, true, 0, q, p - 1, rfl, rfl, by go_num, rfl, rfl, rfl, rfl, rfl, rfl, by omega, by omega, by omega, by omega, HM, hq⟩
        case measure => simp [intOf]; omega
       ·have hgd2 : (((c.toNat : Int) == 48) = false) ∨ (c = 48 ∧ (((nd : Int) == 0) = false)) := by
         by_cases hc48 : c = 48
         ·exact Or.inr ⟨hc48, by rw [beq_eq_false_iff_ne]; have : nd ≠ 0 := fun h => hzz ⟨hc48, h⟩; omega⟩
         ·exact Or.inl (byte_ne (d := 48) hc48)
        clear hzz
        by_cases h16 : q < 16
        ·have hMb := hex_bd HM.out h16
         have HM2 := Lib.hid (hex_up (d := c.toNat - 48) HM.out (by omega))
         have hqi : (q : Int) < 16 := by omega
         rcases hgd2 with kz | ⟨rfl, ip⟩
         ·go_wp2
          go_round
          case rel => exact ⟨M * 16 + (c.toNat - 48), tr, k + 1, us, dot, true, nd + 1, q + 1, p, by go_num, rfl, by go_num, rfl, rfl, rfl, by go_num, by go_num, rfl, by omega, by omega, by omega, by omega, HM2, by omega⟩
          case measure => simp [intOf]; omega
         ·go_wp2
          go_round
          case rel => exact ⟨M * 16, tr, k + 1, us, dot, true, nd + 1, q + 1, p, by go_num, rfl, by go_num, rfl, rfl, rfl, by go_num, by go_num, rfl, by omega, by omega, by omega, by omega, HM2, by omega⟩
          case measure => simp [intOf]; omega
        ·obtain rfl : q = 16 := by omega
         rcases hgd2 with kz | ⟨rfl, ip⟩
         ·have kz2 : ((c.toNat : Int) != 48) = true := by rw [bne, kz]; rfl
          go_wp2
          go_round
          case rel => exact ⟨M, true, k + 1, us, dot, true, nd + 1, 16, p, rfl, rfl, by go_num, rfl, rfl, rfl, by go_num, rfl, rfl, by omega, by omega, by omega, by omega, HM, by omega⟩
          case measure => simp [intOf]; omega
         ·go_wp2
          go_round
          case rel => exact ⟨M, tr, k + 1, us, dot, true, nd + 1, 16, p, rfl, rfl, by go_num, rfl, rfl, rfl, by go_num, rfl, rfl, by omega, by omega, by omega, by omega, HM, by omega⟩
          case measure => simp [intOf]; omega
      ·have hdg2 : ¬ (48 ≤ (c.toNat : Int) ∧ (c.toNat : Int) ≤ 57) := by rw [isDig_eq] at hdg; simp at hdg; omega
       have w' : (c.toNat : Int) < 48 ∨ 57 < (c.toNat : Int) := by omega
       have L := fun w => lower8_any c w
       have lbd : (c ||| 32).toNat < 256 := (c ||| 32).toNat_lt
       generalize (c ||| 32).toNat = lb at *
       clear hdg hdg2
       rcases (by omega : lb < 97 ∨ (97 ≤ lb ∧ 102 < lb) ∨ (97 ≤ lb ∧ lb ≤ 102)) with g1 | ⟨g1, g2⟩ | ⟨g1, g2⟩
       ·have g1i : (lb : Int) < 97 := by omega
        rcases w' with w' | w'
        all_goals
         go_wp2_with fail
         refine (L _).mono ?_
         rintro e w' ⟨rfl, rfl⟩
         go_wp2
         go_meet
         case rel => exact ⟨M, tr, k, us, dot, sm, nd, q, p, rfl, rfl, rfl, rfl, rfl, rfl, rfl, rfl, rfl, hk, hnk, by omega, by omega, HM, hq, rfl⟩
       ·have g1i : (97 : Int) ≤ (lb : Int) := by omega
        have g2i : (102 : Int) < (lb : Int) := by omega
        rcases w' with w' | w'
        all_goals
         go_wp2_with fail
         refine (L _).mono ?_
         rintro e w' ⟨rfl, rfl⟩
         go_wp2_with fail
         refine (L _).mono ?_
         rintro e w' ⟨rfl, rfl⟩
         go_wp2
         go_meet
         case rel => exact ⟨M, tr, k, us, dot, sm, nd, q, p, rfl, rfl, rfl, rfl, rfl, rfl, rfl, rfl, rfl, hk, hnk, by omega, by omega, HM, hq, rfl⟩
       ·have g1i : (97 : Int) ≤ (lb : Int) := by omega
        have g2i : (lb : Int) ≤ 102 := by omega
        by_cases h16 : q < 16
        ·have hMb := hex_bd HM.out h16
         have HM2 := Lib.hid (hex_up (d := lb - 97 + 10) HM.out (by omega))
         have hqi : (q : Int) < 16 := by omega
         rcases w' with w' | w'
         all_goals
          go_wp2_with fail
          refine (L _).mono ?_
          rintro e w' ⟨rfl, rfl⟩
          go_wp2_with fail
          refine (L _).mono ?_
          rintro e w' ⟨rfl, rfl⟩
          go_wp2_with fail
          refine (L _).mono ?_
          rintro e w' ⟨rfl, rfl⟩
          go_wp2
          go_round
          case rel => exact ⟨M * 16 + (lb - 97 + 10), tr, k + 1, us, dot, true, nd + 1, q + 1, p, by go_num, rfl, by go_num, rfl, rfl, rfl, by go_num, by go_num, rfl, by omega, by omega, by omega, by omega, HM2, by omega⟩
          case measure => simp [intOf]; omega
        ·obtain rfl : q = 16 := by omega
         rcases w' with w' | w'
         all_goals
          go_wp2_with fail
          refine (L _).mono ?_
          rintro e w' ⟨rfl, rfl⟩
          go_wp2_with fail
          refine (L _).mono ?_
          rintro e w' ⟨rfl, rfl⟩
          go_wp2
          go_round
          case rel => exact ⟨M, true, k + 1, us, dot, true, nd + 1, 16, p, rfl, rfl, by go_num, rfl, rfl, rfl, by go_num, rfl, rfl, by omega, by omega, by omega, by omega, HM, by omega⟩
          case measure => simp [intOf]; omega
   ·have hge : (s.size : Int) ≤ (k : Int) := by omega
    go_wp2
    go_meet
    case rel => exact ⟨M, tr, k, us, dot, sm, nd, q, p, rfl, rfl, rfl, rfl, rfl, rfl, rfl, rfl, rfl, hk, hnk, by omega, by omega, HM, hq, rfl⟩
 case rest =>
 clear HT hj0 hj1 H2 h2
 obtain ⟨M, tr, k, us, dot, sm, nd, q, p, rfl, rfl, rfl, rfl, rfl, rfl, rfl, rfl, rfl, hk, hnk, hp1, hp2, HM, hq, rfl⟩ := hcut
 have hMb := Lib.hid (hex_bd2 HM.out hq)
 clear HM
 have hM0 := hMb.out
 cases sm
 ·go_wp2
  try rw [Exit.noGoto_ret]
  refine bodyPost_ret (results_tmp7 rfl _ _ _) rfl ?_
  exact rh_mk (by have := HLEN.out; omega) hMb.out (by omega) (by omega)
 go_upto_if 142 with fail
 go_cut [17] from 142 to 143 (fun y wc => ∃ dp : Int, y = .int .i64 dp ∧ -300 ≤ dp ∧ dp ≤ 300 ∧ w = wc)
 case first =>
  cases dot
  ·go_wp2
   go_meet
   case rel => exact ⟨nd, rfl, by omega, by omega, rfl⟩
  ·go_wp2
   go_meet
   case rel => exact ⟨p, rfl, hp1, hp2, rfl⟩
 case rest =>
 clear hp1 hp2
 obtain ⟨dp, rfl, hp1, hp2, rfl⟩ := hcut
 go_upto_region 57 with fail
 go_cut [161] from 144 to 160 (fun x wc => ∃ B : Bool, x = .bool B ∧ (B = true → k < s.size) ∧ w = wc)
 case first =>
  by_cases hlt : k < s.size
  ·generalize hc : s[k] = c at *
   have hlti : (k : Int) < (s.size : Int) := by omega
   have L := fun w => lower8_any c w
   generalize (c ||| 32).toNat = lb at *
   have HLT := Lib.hid hlt
   go_wp2_with fail
   refine (L _).mono ?_
   rintro e w' ⟨rfl, rfl⟩
   go_wp2
   go_meet
   case rel => exact ⟨_, rfl, fun _ => HLT.out, rfl⟩
  ·have hge : (s.size : Int) ≤ (k : Int) := by omega
   go_wp2
   go_meet
   case rel => exact ⟨false, rfl, fun h => (by cases h), rfl⟩
 case rest =>
 obtain ⟨B, rfl, hB, rfl⟩ := hcut
 have HB := Lib.hid hB
 clear hB
 go_upto_if 161 with fail
 cases B
 ·go_wp2
  try rw [Exit.noGoto_ret]
  refine bodyPost_ret (results_tmp7 rfl _ _ _) rfl ?_
  exact rh_mk (by have := HLEN.out; omega) hMb.out (by omega) (by omega)
 have hlt : k < s.size := HB.out rfl
 go_cut [7, 9, 17, 19, 20] from 161 to 239 (fun i u y _ _ wc => ∃ (dp' : Int) (j : Nat) (us2 : Bool), i = .int .i64 j ∧ u = .bool us2 ∧ y = .int .i64 dp' ∧ j ≤ s.size ∧ -110000 ≤ dp' ∧ dp' ≤ 110000 ∧ w = wc)
 case first =>
  by_cases hlt2 : k + 1 < s.size
  ·have hlti : (k : Int) + 1 < (s.size : Int) := by omega
   go_upto_block 4 with fail
   go_cut [7, 19] from 171 to 178 (fun i z wc => ∃ (j0 : Nat) (es : Int), i = .int .i64 j0 ∧ z = .int .i64 es ∧ -1 ≤ es ∧ es ≤ 1 ∧ k + 1 ≤ j0 ∧ j0 ≤ s.size ∧ w = wc)
   case first =>
    generalize hc : s[k + 1] = c at *
    by_cases h1 : c = 43
    ·subst h1
     go_wp2
     go_meet
     case rel => exact ⟨k + 1 + 1, 1, by go_num, rfl, by omega, by omega, by omega, by omega, rfl⟩
    ·have k1 : ((c.toNat : Int) == 43) = false := byte_ne (d := 43) h1
     by_cases h2 : c = 45
     ·subst h2
      go_wp2
      go_meet
      case rel => exact ⟨k + 1 + 1, -1, by go_num, rfl, by omega, by omega, by omega, by omega, rfl⟩
     ·have k2 : ((c.toNat : Int) == 45) = false := byte_ne (d := 45) h2
      go_wp2
      go_meet
      case rel => exact ⟨k + 1, 1, by go_num, rfl, by omega, by omega, by omega, by omega, rfl⟩
   case rest =>
   obtain ⟨j0, es, rfl, rfl, hes1, hes2, hj01, hj02, rfl⟩ := hcut
   go_upto_region 67 with fail
   go_cut [194] from 179 to 193 (fun x wc => ∃ B : Bool, x = .bool B ∧ w = wc)
   case first =>
    by_cases hlt2 : j0 < s.size
    ·generalize hc : s[j0] = c at *
     have hlti : (j0 : Int) < (s.size : Int) := by omega
     by_cases hdg : isDig c = true
     ·have hdg2 : 48 ≤ (c.toNat : Int) ∧ (c.toNat : Int) ≤ 57 := by rw [isDig_eq] at hdg; simp at hdg; omega
      clear hdg
      go_wp2
      go_meet
      case rel => exact ⟨_, rfl, rfl⟩
     ·have hdg2 : ¬ (48 ≤ (c.toNat : Int) ∧ (c.toNat : Int) ≤ 57) := by rw [isDig_eq] at hdg; simp at hdg; omega
      have q : (c.toNat : Int) < 48 ∨ 57 < (c.toNat : Int) := by omega
      clear hdg hdg2
      rcases q with q | q
      all_goals
       go_wp2
       go_meet
       case rel => exact ⟨_, rfl, rfl⟩
    ·have hge : (s.size : Int) ≤ (j0 : Int) := by omega
     go_wp2
     go_meet
     case rel => exact ⟨_, rfl, rfl⟩
   case rest =>
   obtain ⟨B, rfl, rfl⟩ := hcut
   cases B
   ·have hes : es = 1 ∨ es = 0 ∨ es = -1 := by omega
    clear hes1 hes2
    have HES := Lib.hid hes
    clear hes
    go_upto_region 69 with fail
    go_loop [7, 9, 20] (fun i u z => ∃ (j e : Nat) (us2 : Bool), i = .int .i64 j ∧ u = .bool us2 ∧ z = .int .i64 e ∧ j ≤ s.size ∧ e ≤ 99999) (fun i _ _ => s.size - (intOf i).toNat)
    case atStart => exact ⟨j0, 0, us, rfl, rfl, rfl, hj02, by omega⟩
    case round =>
     obtain ⟨j, e, us2, rfl, rfl, rfl, hj, he⟩ := hrel
     by_cases hlt3 : j < s.size
     ·generalize hc : s[j] = c at *
      have hlti : (j : Int) < (s.size : Int) := by omega
      by_cases hdg : isDig c = true
      ·have hdg2 : 48 ≤ (c.toNat : Int) ∧ (c.toNat : Int) ≤ 57 := by rw [isDig_eq] at hdg; simp at hdg; omega
       have h95 : ((c.toNat : Int) == 95) = false := by rw [beq_eq_false_iff_ne]; omega
       clear hdg
       by_cases h10 : e < 10000
       ·have h10i : (e : Int) < 10000 := by omega
        go_wp2
        go_round
        case rel => exact ⟨j + 1, e * 10 + (c.toNat - 48), us2, by go_num, rfl, by go_num, by omega, by omega⟩
        case measure => simp [intOf]; omega
       ·have h10i : (10000 : Int) ≤ (e : Int) := by omega
        go_wp2
        go_round
        case rel => exact ⟨j + 1, e, us2, by go_num, rfl, rfl, by omega, by omega⟩
        case measure => simp [intOf]; omega
      ·have hdg2 : ¬ (48 ≤ (c.toNat : Int) ∧ (c.toNat : Int) ≤ 57) := by rw [isDig_eq] at hdg; simp at hdg; omega
       clear hdg
       by_cases h95 : c = 95
       ·subst h95
        clear hdg2
        go_wp2
        go_round
        case rel => exact ⟨j + 1, e, true, by go_num, rfl, rfl, by omega, by omega⟩
        case measure => simp [intOf]; omega
       ·have k95 : ((c.toNat : Int) == 95) = false := byte_ne (d := 95) h95
        have q : (c.toNat : Int) < 48 ∨ 57 < (c.toNat : Int) := by omega
        clear hdg2 h95
        rcases q with q | q
        all_goals
         rcases HES.out with rfl | rfl | rfl
         all_goals
          go_wp2
          go_meet
          case rel => exact ⟨_, j, us2, rfl, rfl, rfl, by omega, by omega, by omega, rfl⟩
     ·have hge : (s.size : Int) ≤ (j : Int) := by omega
      rcases HES.out with rfl | rfl | rfl
      all_goals
       go_wp2
       go_meet
       case rel => exact ⟨_, j, us2, rfl, rfl, rfl, by omega, by omega, by omega, rfl⟩
   ·go_upto_if 194 with fail
    go_wp2
    try rw [Exit.noGoto_ret]
    refine bodyPost_ret (results_tmp7 rfl _ _ _) rfl ?_
    exact rh_mk (by have := HLEN.out; omega) hMb.out (by omega) (by omega)
  ·have hge : (s.size : Int) ≤ (k : Int) + 1 := by omega
   go_wp2
   try rw [Exit.noGoto_ret]
   refine bodyPost_ret (results_tmp7 rfl _ _ _) rfl ?_
   exact rh_mk (i := k + 1) (by have := HLEN.out; omega) hMb.out (by omega) (by omega)
 case rest =>
 obtain ⟨dp', j, us2, rfl, rfl, rfl, hj, he1, he2, rfl⟩ := hcut
 have hjl : Hid (j ≤ l.length) := Lib.hid (by have := HLEN.out; omega)
 go_upto_if 241 with fail
 go_cut [3] from 240 to 244 (fun x wc => ∃ E : Int, x = .int .i64 E ∧ -200000 ≤ E ∧ E ≤ 200000 ∧ w = wc)
 case first =>
  by_cases h0 : M = 0
  ·subst h0
   go_wp2
   go_meet
   case rel => exact ⟨0, rfl, by omega, by omega, rfl⟩
  ·have hM0 : ((M : Int) != 0) = true := by rw [bne_iff_ne]; omega
   go_wp2
   go_meet
   case rel => exact ⟨_, rfl, by omega, by omega, rfl⟩
 case rest =>
 obtain ⟨E, rfl, hE1, hE2, rfl⟩ := hcut
 cases us2
 ·go_wp2
  try rw [Exit.noGoto_ret]
  refine bodyPost_ret (results_tmp7 rfl _ _ _) rfl ?_
  exact rh_mk hjl.out hMb.out hE1 hE2
 ·have HTK : Hid (StrIs (s.extract 0 j) (l.take j)) := Lib.hid (HL.out.take j)
  have HSZ : Hid ((s.extract 0 j).size ≤ 1000) := Lib.hid (by simp; omega)
  go_wp2_with fail
  refine (uok8_any _ (l.take j) _ HTK.out HSZ.out).mono ?_
  rintro e w' ⟨B, rfl, rfl, _⟩
  cases B
  all_goals
   go_wp2
   try rw [Exit.noGoto_ret]
   refine bodyPost_ret (results_tmp7 rfl _ _ _) rfl ?_
   exact rh_mk hjl.out hMb.out hE1 hE2
end Go.Proofs.YtillamhoakohdaaGreatDoor

/-
  Walks: the slow decimal's shift to the left. Walks: the slow decimal's shift.
-/
import Derived.Test.YtillamhoakohdaaGreatDoorM38
set_option linter.unusedVariables false
set_option linter.unusedSimpArgs false
namespace Go.Proofs.YtillamhoakohdaaGreatDoor
open Go.RowKit
attribute [local go_sem] setCell_drewN

theorem arr209 : Tryz.prog.arrayLen 209 = 800 := by kernel_rfl
theorem slice800 (a nd : Nat) (h : nd ≤ 800) (W : World) : (Instr.sliceAt 209 (.pointer (some ⟨a, 0, none⟩)) (some (.int .i64 0)) (some (.int .i64 (nd : Int))) none).run Tryz.prog W = .ok (.slice (some ⟨a, 0, none⟩) nd 800) W := by
 rw [run_sliceAt_array_lh W 209 ⟨a, 0, none⟩ (by rw [arr209]; kernel_rfl) .i64 .i64 0 (nd : Int) (by omega) (by omega) (by rw [arr209]; omega)]
 have hs : (sizeOf (Tryz.prog.elem 209)).run Tryz.prog W = .ok 1 W := by go_simp
 rw [hs, arr209]
 simp only [Result.andThen, slicedAt]
 rw [if_neg (by show ¬ (800 : Nat) = Int.toNat 0; decide)]
 have e1 : (Addr.add ⟨a, 0, none⟩ (Int.toNat 0 * 1)) = ⟨a, 0, none⟩ := rfl
 rw [e1]
 have e2 : ((nd : Int).toNat - Int.toNat 0) = nd := by omega
 have e3 : (800 - Int.toNat 0) = 800 := by decide
 rw [e2, e3]
def LeftP (a k : Nat) (g : Nat → Nat) (nd : Nat) (dp : Int) (neg tr : Bool) (w : World) (e : Ending) (w' : World) : Prop :=
 e = .returned (.tuple #[]) ∧ Fz a w w' ∧ ∃ g' nd' dp' tr', BD a g' nd' dp' neg tr' w' ∧ Can g' nd' ∧ Up k (tS g nd dp) tr (tS g' nd' dp') tr' ∧ dp ≤ dp' ∧ dp' ≤ dp + k
set_option maxRecDepth 100000 in
set_option maxHeartbeats 4000000 in
theorem left_any (a : Nat) (g : Nat → Nat) (nd : Nat) (dp : Int) (neg tr : Bool) (w : World) (HG : Glob w) (hd : BD a g nd dp neg tr w) (hc : Can0 g nd) (k : Nat) (hk : k ≤ 60) (hk1 : 1 ≤ k) (hp1 : -2000 ≤ dp) (hp2 : dp ≤ 2000) :
  Calls Tryz.prog 164 #[.pointer (some ⟨a, 0, none⟩), .int .u64 k] w (LeftP a k g nd dp neg tr w) := by
 have hdig := hc.dig
 have hpos := hc.pos
 have hle := hc.le
 obtain ⟨hkl, hch⟩ := cheat_is k hk1 hk
 obtain ⟨b10, o10, c10, hb10, gl0, glc⟩ := HG.lc
 obtain ⟨gc1, s, gc2, hs⟩ := glc k hkl
 rw [Nat.mul_comm 2 k] at gc1 gc2
 have hlo := hc.ge
 have hhi := dn_lt hdig
 have hc1 := hch.d1
 have hc2 := hch.len
 have hc3 := hch.l1
 rw [← hs] at hch hc2 hc3
 have hsize : s.data.toList.length = s.size := (Lib.size_eq s).symm
 have hcd := cheat_digits hch hpos hlo hhi _ rfl
 rw [← hch.val, hsize] at hcd
 have hless := fun n => less_any a g nd dp neg tr s (w.drewN n) (hd.drew n) hdig hle (by rw [← hsize]; exact hch.dig) (by rw [← hsize]; omega) (by rw [← hsize]; exact hch.last)
 generalize (Go.Pinned.cheatRows[k]).1 = delta at *
 rw [hsize] at hc2 hc3
 clear hsize hs glc hch hkl
 generalize hbl : decide (dn g nd * 10 ^ s.size < dn (gl s.data.toList) s.size * 10 ^ nd) = bl at *
 clear hbl
 obtain ⟨d', hd', hElo, hEhi⟩ := hcd
 have HC := Lib.hid hc
 clear hc
 have cn := hd.cn
 have cc := hd.cd
 have HLE := Lib.hid hless
 clear hless
 go_enter Tryz.func164, Tryz.ntmps164
 go_upto_region 1 with fail
 have hsl := fun W => slice800 a nd hle W
 go_quiet (first | (go_at_call 171; refine Calls.quiet_of (HLE.out _)))
 clear hsl
 go_upto_if 30 with fail
 go_cut [4] from 30 to 32 (fun v wc => v = .int .i64 d' ∧ wc = w.drewN nq)
 case first =>
  cases bl
  ·rw [if_neg (by simp)] at hd'
   subst hd'
   go_wp2
   go_meet
   case rel => exact ⟨rfl, rfl⟩
  ·rw [if_pos rfl] at hd'
   have e : (d' : Int) = delta - 1 := by omega
   have HE := Lib.hid e
   clear e hd'
   go_wp2
   go_meet
   case rel => exact ⟨by rw [HE.out], rfl⟩
 case rest =>
 obtain ⟨rfl, rfl⟩ := hcut
 have hdk : d' ≤ k := by
  split at hd' <;> omega
 clear hd' HLE gc1 gc2 gl0 cc cn hc1 hc2 hc3
 have hd2 := hd.drew nq
 have hF2 : Fz a w (w.drewN nq) := (Fz.refl _ _).drew _
 generalize w.drewN nq = W1 at *
 have cn := hd2.cn
 have hEq : dn g nd * 2 ^ k = dn g nd * 2 ^ k := rfl
 have hpk : 2 ^ k ≤ 2 ^ 60 := Nat.pow_le_pow_right (by omega) hk
 have hk0 : 0 < 2 ^ k := Nat.pow_pos (by omega)
 have ek : ((2 : Int) ^ k) = ((2 ^ k : Nat) : Int) := by simp
 obtain ⟨E, hE⟩ : ∃ E, E = dn g nd * 2 ^ k := ⟨_, rfl⟩
 rw [← hE] at hElo hEhi
 have HE := Lib.hid hE
 clear hE hEq
 go_upto_block 0 with fail
 go_cut [5, 6, 7] from 45 to 84 (fun _ y z wc => ∃ (g' : Nat → Nat) (tr' : Bool), y = .int .i64 d' ∧ z = .int .u64 (E / 10 ^ nd : Nat) ∧ Hid (BD a g' nd dp neg tr' wc) ∧ Hid (Fz a w wc) ∧ Hid (LInv E (nd + d') nd tr g' tr'))
 case first => as_aux_lemma =>
  go_upto_region 7 with fail
  go_loopw [5, 6, 7] (fun x y z wc => ∃ (m : Nat) (g' : Nat → Nat) (tr' : Bool), x = .int .i64 ((m : Int) - 1) ∧ y = .int .i64 ((m + d' : Nat) : Int) ∧ z = .int .u64 (lcN (dn g nd) k (nd - m) : Nat) ∧ m ≤ nd ∧ Hid (BD a g' nd dp neg tr' wc) ∧ Hid (Fz a w wc) ∧ Hid (LInv E (nd + d') (nd - m) tr g' tr') ∧ Hid (∀ i, i < m → g' i = g i)) (fun x _ _ _ => (intOf x + 1).toNat)
  case atStart => exact ⟨nd, g, tr, rfl, by go_num, by rw [Nat.sub_self, lc_zero]; rfl, Nat.le_refl _, Lib.hid hd2, Lib.hid hF2, Lib.hid (by rw [Nat.sub_self]; exact linv_start _ _ _ _), Lib.hid (fun _ _ => rfl)⟩
  case round =>
   obtain ⟨m, g', tr', rfl, rfl, rfl, hm, HD, HF, HL, HGG⟩ := hrel
   rcases Nat.eq_zero_or_pos m with rfl | hm0
   ·have e1 : Hid (lcN (dn g nd) k (nd - 0) = E / 10 ^ nd) := Lib.hid (by rw [Nat.sub_zero]; unfold lcN; rw [Nat.mod_eq_of_lt hhi, HE.out])
    generalize lcN (dn g nd) k (nd - 0) = x at *
    go_wp2
    go_meet
    case rel => exact ⟨g', tr', by go_num, by rw [e1.out], HD, HF, HL⟩
   ·obtain ⟨n, rfl⟩ : ∃ n, m = n + 1 := ⟨m - 1, by omega⟩
    have hcell := HD.out.cd n (by omega)
    rw [HGG.out n (by omega)] at hcell
    have hb := hdig n (by omega)
    have hat := ddig_at hdig (c := nd - (n + 1)) (by omega)
    rw [show nd - 1 - (nd - (n + 1)) = n by omega] at hat
    obtain ⟨dd, hdd⟩ : ∃ dd, g n = dd + 48 := ⟨g n - 48, by omega⟩
    rw [hdd] at hcell hb hat
    have hs := lc_step (dn g nd) k (nd - (n + 1))
    rw [hat, show dd + 48 - 48 = dd by omega, show nd - (n + 1) + 1 = nd - n by omega, ← HE.out] at hs
    have hlt := lc_lt (dn g nd) k (nd - (n + 1))
    generalize lcN (dn g nd) k (nd - (n + 1)) = N0 at *
    generalize hN1 : lcN (dn g nd) k (nd - n) = N1 at *
    obtain ⟨hs1, hs2⟩ := hs
    clear hat
    have hdd9 : dd ≤ 9 := by omega
    have hmul : dd * 2 ^ k ≤ 9 * 2 ^ 60 := Nat.mul_le_mul hdd9 hpk
    have emul : ((dd : Int) * 2 ^ k) = ((dd * 2 ^ k : Nat) : Int) := by rw [Int.natCast_mul, ek]
    generalize dd * 2 ^ k = S at *
    clear ek hdd
    have q1 : ((N0 : Int) + S) / 10 = N1 := by omega
    have q2 : (N0 : Int) + S - 10 * N1 = (E / 10 ^ (nd - (n + 1)) % 10 : Nat) := by rw [← hs2]; omega
    have hd9 : E / 10 ^ (nd - (n + 1)) % 10 < 10 := Nat.mod_lt _ (by omega)
    obtain ⟨d1, hd1⟩ : ∃ d1, d1 = E / 10 ^ (nd - (n + 1)) % 10 := ⟨_, rfl⟩
    rw [← hd1] at q2 hd9 hs2
    have eM : (((n + 1 : Nat) : Int) - 1) = n := by omega
    have eW : (((n + 1 + d' : Nat) : Int) - 1) = ((n + d' : Nat) : Int) := by omega
    by_cases h8 : n + d' < 800
    ·have hput := Lib.hid (linv_put HL.out (by omega) hd1 (by omega))
     rw [show nd + d' - (nd - (n + 1)) - 1 = n + d' by omega, show nd - (n + 1) + 1 = nd - n by omega] at hput
     have hcw := HD.out.cd (n + d') h8
     have hfw := HD.out.fz (n + d')
     have HD2 := HD.out.setD (n + d') (48 + d1) h8
     rw [show ((48 + d1 : Nat) : Int) = (d1 : Int) + 48 by omega] at HD2
     have HD3 := Lib.hid HD2
     have i1 : ((n + d' : Nat) : Int) < 800 := by omega
     have i4 : (d1 : Int) ≤ 9 := by omega
     clear HD2 hd1
     generalize hWW : n + d' = WW at *
     go_wp2
     go_roundw
     case rel => exact ⟨n, _, tr', by go_num, by go_num, by rw [hN1]; go_num, by omega, HD3, Lib.hid (HF.out.set _ _), hput, Lib.hid (fun i hi => by rw [upd_other _ _ (by omega)]; exact HGG.out i (by omega))⟩
     case measure => first | (simp [intOf]; done) | (simp [intOf]; omega)
    ·have hdrop := Lib.hid (linv_drop HL.out hd1 (by omega))
     rw [show nd - (n + 1) + 1 = nd - n by omega] at hdrop
     have ct := HD.out.ct
     have fT := HD.out.fz 803
     have i1 : (800 : Int) ≤ ((n + d' : Nat) : Int) := by omega
     clear hd1
     generalize hWW : n + d' = WW at *
     rcases Nat.eq_zero_or_pos d1 with rfl | hd0
     ·go_wp2
      go_roundw
      case rel => exact ⟨n, g', tr', by go_num, by go_num, by rw [hN1]; go_num, by omega, HD, HF, Lib.hid (by have := hdrop.out; simpa using this), Lib.hid (fun i hi => HGG.out i (by omega))⟩
      case measure => first | (simp [intOf]; done) | (simp [intOf]; omega)
     ·have i4 : ((d1 : Int) != 0) = true := by rw [bne_iff_ne]; omega
      go_wp2
      go_roundw
      case rel => exact ⟨n, g', true, by go_num, by go_num, by rw [hN1]; go_num, by omega, Lib.hid (HD.out.setT true), Lib.hid (HF.out.set _ _), Lib.hid (by have := hdrop.out; rw [decide_eq_true hd0, Bool.or_true] at this; exact this), Lib.hid (fun i hi => HGG.out i (by omega))⟩
      case measure => first | (simp [intOf]; done) | (simp [intOf]; omega)
 case rest =>
 obtain ⟨g1, tr1, rfl, rfl, HD1, HF1, HL1⟩ := hcut
 go_upto_block 2 with fail
 go_cut [6, 7] from 85 to 110 (fun _ _ wc => ∃ (g' : Nat → Nat) (tr' : Bool), Hid (BD a g' nd dp neg tr' wc) ∧ Hid (Fz a w wc) ∧ Hid (LInv E (nd + d') (nd + d') tr g' tr'))
 case first => as_aux_lemma =>
  go_upto_region 18 with fail
  go_loopw [6, 7] (fun y z wc => ∃ (W : Nat) (g' : Nat → Nat) (tr' : Bool), y = .int .i64 (W : Int) ∧ z = .int .u64 (E / 10 ^ (nd + d' - W) : Nat) ∧ W ≤ d' ∧ Hid (BD a g' nd dp neg tr' wc) ∧ Hid (Fz a w wc) ∧ Hid (LInv E (nd + d') (nd + d' - W) tr g' tr')) (fun y _ _ => (intOf y).toNat)
  case atStart => exact ⟨d', g1, tr1, rfl, by rw [show nd + d' - d' = nd by omega], Nat.le_refl _, HD1, HF1, by rw [show nd + d' - d' = nd by omega]; exact HL1⟩
  case round =>
   obtain ⟨W, g', tr', rfl, rfl, hW, HD, HF, HL⟩ := hrel
   have hpc : 0 < 10 ^ (nd + d' - W) := Nat.pow_pos (by omega)
   have hNlt : E / 10 ^ (nd + d' - W) < 2 ^ 60 := by
    have h1 : E / 10 ^ (nd + d' - W) ≤ E / 10 ^ nd := Nat.div_le_div_left (Nat.pow_le_pow_right (by omega) (by omega)) (Nat.pow_pos (by omega))
    have h2 : E / 10 ^ nd < 2 ^ k := by
     rw [Nat.div_lt_iff_lt_mul (Nat.pow_pos (by omega)), HE.out, Nat.mul_comm]
     exact Nat.mul_lt_mul_of_pos_left hhi hk0
    omega
   rcases Nat.eq_zero_or_pos W with rfl | hW0
   ·have hz : E / 10 ^ (nd + d' - 0) = 0 := by rw [Nat.sub_zero]; exact Nat.div_eq_of_lt hEhi
    rw [hz]
    rw [Nat.sub_zero] at HL
    go_wp2
    go_meet
    case rel => exact ⟨g', tr', HD, HF, HL⟩
   ·obtain ⟨n, rfl⟩ : ∃ n, W = n + 1 := ⟨W - 1, by omega⟩
    have hpos2 : 0 < E / 10 ^ (nd + d' - (n + 1)) := by
     refine Nat.div_pos (Nat.le_trans (Nat.pow_le_pow_right (by omega) ?_) hElo) hpc
     omega
    have hnext : E / 10 ^ (nd + d' - n) = E / 10 ^ (nd + d' - (n + 1)) / 10 := by
     rw [Nat.div_div_eq_div_mul, ← Nat.pow_succ]; congr 2; omega
    have hd9 : E / 10 ^ (nd + d' - (n + 1)) % 10 < 10 := Nat.mod_lt _ (by omega)
    obtain ⟨d1, hd1⟩ : ∃ d1, d1 = E / 10 ^ (nd + d' - (n + 1)) % 10 := ⟨_, rfl⟩
    have HDD := Lib.hid hd1
    rw [← hd1] at hd9
    have hput := fun h8 => linv_put HL.out (by omega) hd1 (show nd + d' - (nd + d' - (n + 1)) - 1 < 800 from h8)
    have hdrop := fun h8 => linv_drop HL.out hd1 (show 800 ≤ nd + d' - (nd + d' - (n + 1)) - 1 from h8)
    rw [show nd + d' - (nd + d' - (n + 1)) - 1 = n by omega, show nd + d' - (n + 1) + 1 = nd + d' - n by omega] at hput
    rw [show nd + d' - (nd + d' - (n + 1)) - 1 = n by omega, show nd + d' - (n + 1) + 1 = nd + d' - n by omega] at hdrop
    have HPUT := Lib.hid hput
    have HDROP := Lib.hid hdrop
    clear hput hdrop
    generalize E / 10 ^ (nd + d' - (n + 1)) = N0 at *
    generalize hN1 : E / 10 ^ (nd + d' - n) = N1 at *
    have q0 : (0 : Int) < (N0 : Int) := by omega
    have q1 : (N0 : Int) / 10 = N1 := by omega
    have q2 : (N0 : Int) - 10 * N1 = d1 := by omega
    have q3 : (10 * N1 : Int) < 18446744073709551616 := by omega
    have eW : (((n + 1 : Nat) : Int) - 1) = n := by omega
    clear hd1 hnext HDD
    by_cases h8 : n < 800
    ·have hcw := HD.out.cd n h8
     have hfw := HD.out.fz n
     have HD2 := HD.out.setD n (48 + d1) h8
     rw [show ((48 + d1 : Nat) : Int) = (d1 : Int) + 48 by omega] at HD2
     have HD3 := Lib.hid HD2
     have hput := Lib.hid (HPUT.out h8)
     have i1 : (n : Int) < 800 := by omega
     have i4 : (d1 : Int) ≤ 9 := by omega
     clear HD2
     go_wp2
     go_roundw
     case rel => exact ⟨n, _, tr', by go_num, by rw [hN1], by omega, HD3, Lib.hid (HF.out.set _ _), hput⟩
     case measure => first | (simp [intOf]; done) | (simp [intOf]; omega)
    ·have hdrop := Lib.hid (HDROP.out (by omega))
     have ct := HD.out.ct
     have fT := HD.out.fz 803
     have i1 : (800 : Int) ≤ (n : Int) := by omega
     have i0 : decide ((n : Int) < 800) = false := decide_eq_false (by omega)
     clear h8 i1 HPUT HDROP
     rcases Nat.eq_zero_or_pos d1 with rfl | hd0
     ·go_wp2
      go_roundw
      case rel => exact ⟨n, g', tr', by go_num, by rw [hN1], by omega, HD, HF, Lib.hid (by have := hdrop.out; simpa using this)⟩
      case measure => first | (simp [intOf]; done) | (simp [intOf]; omega)
     ·have i4 : ((d1 : Int) != 0) = true := by rw [bne_iff_ne]; omega
      go_wp2
      go_roundw
      case rel => exact ⟨n, g', true, by go_num, by rw [hN1], by omega, Lib.hid (HD.out.setT true), Lib.hid (HF.out.set _ _), Lib.hid (by have := hdrop.out; rw [decide_eq_true hd0, Bool.or_true] at this; exact this)⟩
      case measure => first | (simp [intOf]; done) | (simp [intOf]; omega)
 case rest =>
 clear HD1 HF1 HL1 g1 tr1
 obtain ⟨g', tr', HD, HF, HL⟩ := hcut
 have hdone := fun nd' dp' ht => linv_done (nd' := nd') (dp' := dp') (dp := dp) (tr := tr) HC.out (show LInv (dn g nd * 2 ^ k) (nd + d') (nd + d') tr g' tr' by rw [← HE.out]; exact HL.out) (by omega) (by rw [← HE.out]; exact hElo) (by rw [← HE.out]; exact hEhi) ht (by omega)
 have HDO := Lib.hid hdone
 clear hdone
 clear cn
 have cn := HD.out.cn
 have cp := HD.out.cp
 have fn := HD.out.fz 800
 have fp := HD.out.fz 801
 go_upto_region 28 with fail
 have HD2 := HD.out.setN (nd + d')
 have HF2 := HF.out.set 800 (.int .i64 ((nd + d' : Nat) : Int))
 rw [show ((nd + d' : Nat) : Int) = (nd : Int) + d' by omega] at HD2 HF2
 generalize wc.setCell ⟨a, 800, none⟩ (.int .i64 ((nd : Int) + d')) = W2 at *
 clear cn cp fn fp HD HF
 have cn := HD2.cn
 have fn := HD2.fz 800
 obtain ⟨q, hq⟩ : ∃ q, q = nd + d' := ⟨_, rfl⟩
 rw [← hq] at cn HD2
 have HQ := Lib.hid hq
 go_upto_if 123 with fail
 go_cut [] from 123 to 126 (fun wc => Hid (BD a g' (min q 800) dp neg tr' wc) ∧ Hid (Fz a w wc))
 case first =>
  by_cases h8 : 800 ≤ q
  ·have i0 : decide (800 ≤ q) = true := decide_eq_true (by omega)
   have i1 : (800 : Int) ≤ q := by omega
   have hb := HD2.setN 800
   have hf := HF2.set 800 (.int .i64 ((800 : Nat) : Int))
   go_wp2
   go_meet
   case rel => exact ⟨Lib.hid (by rw [show min q 800 = 800 by omega]; exact hb), Lib.hid hf⟩
  ·have i0 : decide (800 ≤ q) = false := decide_eq_false (by omega)
   go_wp2
   go_meet
   case rel => exact ⟨Lib.hid (by rw [show min q 800 = q by rename_i hx; omega]; exact HD2), Lib.hid HF2⟩
 case rest =>
 clear cn fn HD2 HF2 W2
 obtain ⟨HD, HF⟩ := hcut
 have cp := HD.out.cp
 have fp := HD.out.fz 801
 have hb := HD.out.setP (dp + d')
 have hf := HF.out.set 801 (.int .i64 (dp + d'))
 have hm8 : min q 800 ≤ 800 := Nat.min_le_right _ _
 have HQ8 := Lib.hid hm8
 clear hm8
 go_wp2_with fail
 refine (trim8_any a g' _ _ neg tr' _ hb HQ8.out).mono ?_
 rintro e w' ⟨rfl, hf3, nd', dp', hd3, ht⟩
 have hres := HDO.out nd' dp' (by
  have e1 : q = nd + d' := HQ.out
  rw [← e1, show ((q : Int) - nd) = d' by omega]; exact ht)
 go_wp2
 go_end0
 have e1 : q = nd + d' := HQ.out
 exact ⟨rfl, hf.trans hf3, g', nd', dp', tr', hd3, hres.1, hres.2.1, by rw [hres.2.2]; omega, by rw [hres.2.2]; omega⟩
end Go.Proofs.YtillamhoakohdaaGreatDoor
namespace Go.Proofs.YtillamhoakohdaaGreatDoor
open Go.RowKit
attribute [local go_sem] setCell_drewN

theorem Down.refl (T : Nat) (tr : Bool) : Down 0 T tr T tr :=
 ⟨fun _ _ _ _ _ _ h => h, fun G y h1 h2 => by simpa using h2, by simp⟩
set_option maxHeartbeats 4000000 in
theorem shiftL_any (a : Nat) (g : Nat → Nat) (nd : Nat) (dp : Int) (neg tr : Bool) (w : World) (HG : Glob w) (hd : BD a g nd dp neg tr w) (hc : Can0 g nd) (k : Nat) (hk : k ≤ 60) (hk1 : 1 ≤ k) (hp1 : -2000 ≤ dp) (hp2 : dp ≤ 2000) :
  Calls Tryz.prog 159 #[.pointer (some ⟨a, 0, none⟩), .int .i64 k] w (LeftP a k g nd dp neg tr w) := by
 have cn := hd.cn
 have hn : ((nd : Int) == 0) = false := by rw [beq_eq_false_iff_ne]; have := hc.pos; omega
 have i0 : (0 : Int) < k := by omega
 have i1 : (k : Int) ≤ 60 := by omega
 have HGG := Lib.hid HG
 clear HG
 go_enter Tryz.func159, Tryz.ntmps159
 go_upto_region 2 with fail
 go_loopw [1] (fun x wc => x = .int .i64 k ∧ w = wc) (fun _ _ => 0)
 case atStart => exact ⟨rfl, rfl⟩
 case round =>
  obtain ⟨rfl, rfl⟩ := hrel
  go_wp2_with fail
  refine (left_any a g nd dp neg tr w HGG.out hd hc k hk hk1 hp1 hp2).mono ?_
  rintro e w' ⟨rfl, h⟩
  go_wp2
  go_end0
  exact ⟨rfl, h⟩
set_option maxHeartbeats 4000000 in
theorem shiftR_any (a : Nat) (g : Nat → Nat) (nd : Nat) (dp : Int) (neg tr : Bool) (w : World) (hd : BD a g nd dp neg tr w) (hc : Can0 g nd) (k : Nat) (hk : k ≤ 1200) (hk1 : 1 ≤ k) (hp1 : -700 ≤ dp) (hp2 : dp ≤ 2000) :
  Calls Tryz.prog 159 #[.pointer (some ⟨a, 0, none⟩), .int .i64 (-(k : Int))] w (RightP a k g nd dp neg tr w) := by
 have cn := hd.cn
 have hn : ((nd : Int) == 0) = false := by rw [beq_eq_false_iff_ne]; have := hc.pos; omega
 have i0 : (0 : Int) < k := by omega
 have i0n : 0 < k := hk1
 have HC := Lib.hid hc
 clear hc
 go_enter Tryz.func159, Tryz.ntmps159
 go_upto_region 7 with fail
 go_loopw [1] (fun x wc => ∃ (c r nd' : Nat) (g' : Nat → Nat) (dp' : Int) (tr' : Bool), x = .int .i64 (-(r : Int)) ∧ c + r = k ∧ 1 ≤ r ∧ Hid (BD a g' nd' dp' neg tr' wc ∧ Fz a w wc ∧ Can0 g' nd' ∧ Down c (tS g nd dp) tr (tS g' nd' dp') tr' ∧ dp - c ≤ dp' ∧ dp' ≤ dp)) (fun x _ => (-(intOf x)).toNat)
 case atStart => exact ⟨0, k, nd, g, dp, tr, rfl, by omega, hk1, Lib.hid ⟨hd, Fz.refl _ _, HC.out, Down.refl _ _, by omega, by omega⟩⟩
 case round =>
  obtain ⟨c, r, nd', g', dp', tr', rfl, hcr, hr, H⟩ := hrel
  have hr5 : (r : Int) ≤ 1200 := by omega
  by_cases hgt : 60 < r
  ·have j1 : (60 : Int) < r := by omega
   go_wp2_with fail
   refine (right_any a g' nd' dp' neg tr' _ H.out.1 H.out.2.2.1 60 (by omega) (by omega) (by have := H.out.2.2.2.2; omega) (by have := H.out.2.2.2.2; omega)).mono ?_
   rintro e w' ⟨rfl, h1, g2, nd2, dp2, tr2, h2, h3, h4, h5, h6⟩
   have HN := Lib.hid (show BD a g2 nd2 dp2 neg tr2 w' ∧ Fz a w w' ∧ Can0 g2 nd2 ∧ Down (c + 60) (tS g nd dp) tr (tS g2 nd2 dp2) tr2 ∧ dp - (c + 60 : Nat) ≤ dp2 ∧ dp2 ≤ dp from
    ⟨h2, H.out.2.1.trans h1, h3.toCan0, H.out.2.2.2.1.trans h4, by have := H.out.2.2.2.2; omega, by have := H.out.2.2.2.2; omega⟩)
   clear h1 h2 h3 h4 h5 h6 H
   go_wp2
   go_roundw
   case rel => exact ⟨c + 60, r - 60, nd2, g2, dp2, tr2, by go_num, by omega, by omega, HN⟩
   case measure => simp [intOf]; omega
  ·have j1 : (r : Int) ≤ 60 := by omega
   go_wp2_with fail
   refine (right_any a g' nd' dp' neg tr' _ H.out.1 H.out.2.2.1 r (by omega) (by omega) (by have := H.out.2.2.2.2; omega) (by have := H.out.2.2.2.2; omega)).mono ?_
   rintro e w' ⟨rfl, h1, g2, nd2, dp2, tr2, h2, h3, h4, h5, h6⟩
   have HN := Lib.hid (show RightP a k g nd dp neg tr w (.returned (.tuple #[])) w' from ⟨rfl, H.out.2.1.trans h1, g2, nd2, dp2, tr2, h2, h3, by rw [← hcr]; exact H.out.2.2.2.1.trans h4, by have := H.out.2.2.2.2; omega, by have := H.out.2.2.2.2; omega⟩)
   clear h1 h2 h3 h4 h5 h6 H
   go_wp2
   go_end0
   exact HN.out
end Go.Proofs.YtillamhoakohdaaGreatDoor

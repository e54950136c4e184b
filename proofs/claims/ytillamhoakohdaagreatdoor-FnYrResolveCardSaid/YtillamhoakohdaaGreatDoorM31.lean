/-
  Walks: the light ParseFloat whole.
-/
import Derived.Test.YtillamhoakohdaaGreatDoorM28
import Derived.Test.YtillamhoakohdaaGreatDoorM30
set_option linter.unusedVariables false
set_option linter.unusedSimpArgs false
namespace Go.Proofs.YtillamhoakohdaaGreatDoor
open Go.RowKit
attribute [local go_sem] setCell_drewN

theorem or_sign (b : Nat) (h : b < 2 ^ 63) : bits .or .u64 (9223372036854775808 : Int) (b : Int) = ((2 ^ 63 + b : Nat) : Int) := by
 have := u64_or_nat (2 ^ 63) b (by decide) (Nat.lt_trans h (by decide))
 rw [show (((2 ^ 63 : Nat)) : Int) = 9223372036854775808 from rfl] at this
 rw [this]
 have := Nat.two_pow_add_eq_or_of_lt h 1
 rw [Nat.mul_one] at this
 rw [this]
theorem or_zero (b : Nat) (h : b < 2 ^ 64) : bits .or .u64 (0 : Int) (b : Int) = (b : Int) := by
 have := u64_or_nat 0 b (by decide) h
 rw [show (((0 : Nat)) : Int) = 0 from rfl] at this
 rw [this]
 simp
theorem infR_lt : infR < 2 ^ 63 := by decide

set_option maxRecDepth 100000 in
set_option maxHeartbeats 4000000 in
theorem lightPF : PFLight 37 := by
 intro s l w hl hs hlead
 obtain ⟨⟨c1, r1, e1, l1⟩, ⟨c2, r2, e2, l2⟩, hnp⟩ := lead_first hlead
 have HL := Lib.hid hl
 have HNP : Hid (NoPre (sgn l).1) := Lib.hid hnp
 have hs0 : 0 < s.size := by rw [hl.size, e1]; simp
 have hc0 : (s[0].toNat : Int) < 65 := by
  have := hl.get 0 hs0
  rw [e1] at this
  simp at this
  rw [← this]; omega
 have HE1 := Lib.hid e1
 have ht0 : ∀ r : ByteArray, StrIs r (sgn l).1 → ∃ h : 0 < r.size, (r[0].toNat : Int) < 65 := by
  intro r hr
  have h0 : 0 < r.size := by rw [hr.size, e2]; simp
  refine ⟨h0, ?_⟩
  have := hr.get 0 h0
  rw [e2] at this
  simp at this
  rw [← this]; omega
 clear e1 l1 e2 l2 hnp
 go_enter Tryz.func37, Tryz.ntmps37
 go_wp2_with fail
 refine (fold_no s _ _ hs0 hc0 (by decide) (by decide) (by omega)).mono ?_
 rintro e w' ⟨rfl, rfl⟩
 go_upto_region 6 with fail
 go_cut [33] from 22 to 32 (fun v wc => v = .bool (sgn l).2.2 ∧ w' = wc)
 case first =>
  have he : s.toList.isEmpty = false := by rw [Lib.toList_data, hl, HE1.out]; rfl
  have he2 : (!s.toList.isEmpty) = true := by rw [he]; rfl
  have h0s : s[0] = c1 := by
   have := hl.get 0 hs0
   rw [HE1.out] at this; simp at this; exact this.symm
  have HS : Hid ((sgn l).2.2 = (decide (c1 = 43) || decide (c1 = 45))) := Lib.hid (by
   rw [HE1.out, sgn_cons]
   by_cases h1 : c1 = 45
   ·simp [h1]
   ·rw [if_neg h1]
    by_cases h2 : c1 = 43
    ·simp [h2]
    ·rw [if_neg h2]; simp [h1, h2])
  have f1 := show ((c1.toNat : Int) == 45) = decide (c1 = 45) from byte_dec c1 45
  have f2 := show ((c1.toNat : Int) == 43) = decide (c1 = 43) from byte_dec c1 43
  by_cases h2 : c1 = 43
  ·rw [show decide (c1 = 43) = true by simp [h2]] at f2
   have HS2 : Hid ((sgn l).2.2 = true) := Lib.hid (by rw [HS.out]; simp [h2])
   clear HS f1 hl
   go_wp2
   go_meet
   case rel => exact ⟨by rw [HS2.out], rfl⟩
  ·rw [show decide (c1 = 43) = false by simp [h2]] at f2
   have HS2 : Hid ((sgn l).2.2 = decide (c1 = 45)) := Lib.hid (by rw [HS.out]; simp [h2])
   clear HS hl
   go_wp2
   go_meet
   case rel => exact ⟨by rw [HS2.out], rfl⟩
 case rest =>
 obtain ⟨rfl, rfl⟩ := hcut
 clear hl
 go_upto_if 33 with fail
 go_cut [6, 7] from 33 to 38 (fun v z wc => ∃ r, v = .string r ∧ z = .bool (sgn l).2.1 ∧ StrIs r (sgn l).1 ∧ r.size ≤ 200 ∧ Below w'.heap.size w' wc)
 case first =>
  cases hb : (sgn l).2.2
  ·have HS : Hid ((sgn l).1 = l) := Lib.hid (sgn_none hb)
   have HN : Hid ((sgn l).2.1 = false) := Lib.hid (by
    rw [HE1.out, sgn_cons] at hb ⊢
    by_cases h1 : c1 = 45
    ·rw [if_pos h1] at hb; cases hb
    ·rw [if_neg h1] at hb ⊢
     by_cases h2 : c1 = 43
     ·rw [if_pos h2] at hb; cases hb
     ·rw [if_neg h2])
   clear hb
   go_wp2
   go_meet
   case rel => exact ⟨s, rfl, by rw [HN.out], by rw [HS.out]; exact HL.out, hs, Below.refl _ _⟩
  ·have HS : Hid (StrIs (s.extract 1 s.size) (sgn l).1) := Lib.hid (by rw [sgn_some hb]; exact HL.out.drop 1)
   have HN : Hid ((sgn l).2.1 = ((s[0].toNat : Int) == 45)) := Lib.hid (by
    have h0s : s[0] = c1 := by
     have := HL.out.get 0 hs0
     rw [HE1.out] at this; simp at this; exact this.symm
    rw [h0s, show ((c1.toNat : Int) == 45) = decide (c1 = 45) from byte_dec c1 45]
    rw [HE1.out, sgn_cons]
    by_cases h1 : c1 = 45
    ·simp [h1]
    ·rw [if_neg h1]; split <;> simp [h1])
   have h1s : (1 : Int) ≤ (s.size : Int) := by omega
   have HRS : Hid ((s.extract 1 s.size).size ≤ 200) := Lib.hid (by simp; omega)
   clear hb
   go_wp2
   go_quiet (fail)
   go_wp2
   go_meet
   case rel => exact ⟨_, rfl, by rw [HN.out], HS.out, HRS.out, below_drewN (Below.refl _ _) _⟩
 case rest =>
 obtain ⟨r, rfl, rfl, hr, hrs, hB1⟩ := hcut
 obtain ⟨hr0, hr1⟩ := ht0 r hr
 have HR := Lib.hid hr
 have HB1 := Lib.hid hB1
 clear hr hB1 ht0
 go_wp2_with fail
 refine (formOf_any _).mono ?_
 rintro e w2 ⟨rfl, hB2⟩
 have HB2 := Lib.hid (HB1.out.trans (hB2.mono HB1.out.size))
 clear hB2
 go_upto_region 10 with (refine store128 rfl _ _ rfl _ _ rfl rfl (by rfl) (by rfl) 128 _ (heap_alloc_new _ _) (by rfl) ?_; rw [World.setRow_alloc_new])
 have hg := heap_alloc_new w2 (.cells #[.int .i64 52, .int .i64 11, .int .i64 (-1023)] 128)
 have HB3 : Hid (Below w'.heap.size w' (w2.alloc (.cells #[.int .i64 52, .int .i64 11, .int .i64 (-1023)] 128))) := Lib.hid (HB2.out.alloc HB2.out.size _)
 generalize w2.heap.size = g2 at *
 generalize hW : w2.alloc (.cells #[.int .i64 52, .int .i64 11, .int .i64 (-1023)] 128) = W3 at *
 clear hW
 obtain ⟨b0, b1, b2⟩ := box_cells hg
 generalize hneg : (sgn l).2.1 = neg at *
 have HNEG := Lib.hid hneg
 clear hneg
 go_upto_if 41 with fail
 go_cut [9] from 41 to 47 (fun z wc => z = .int .u64 (if neg = true then 9223372036854775808 else 0) ∧ W3 = wc)
 case first =>
  cases neg
  ·go_wp2
   go_meet
   case rel => exact ⟨rfl, rfl⟩
  ·go_wp2
   go_meet
   case rel => exact ⟨rfl, rfl⟩
 case rest =>
 obtain ⟨rfl, rfl⟩ := hcut
 generalize hsg : (if neg = true then 9223372036854775808 else 0 : Int) = sg at *
 have HSG := Lib.hid hsg
 clear hsg
 go_wp2_with fail
 refine (fold_no r _ _ hr0 hr1 (by decide) (by decide) (by omega)).mono ?_
 rintro e wx ⟨rfl, rfl⟩
 go_wp2_with fail
 refine (fold_no r _ _ hr0 hr1 (by decide) (by decide) (by omega)).mono ?_
 rintro e wy ⟨rfl, rfl⟩
 go_wp2_with fail
 refine (read_any r (sgn l).1 _ HR.out hrs HNP.out).mono ?_
 rintro e w4 ⟨hB4, hread⟩
 have HG4 : Hid (w4.heap[g2]? = some (.cells #[.int .i64 52, .int .i64 11, .int .i64 (-1023)] 128 (0, 0))) := Lib.hid ((hB4.block g2 (by obtain ⟨h, _⟩ := Array.getElem?_eq_some_iff.1 hg; exact h)).trans hg)
 have HB4 := Lib.hid (HB3.out.trans (hB4.mono HB3.out.size))
 cases hrp : readP (sgn l).1 with
 | none =>
  rw [hrp] at hread
  have HP : Hid (pf l = none) := Lib.hid (pf_none hrp)
  clear hrp hB4
  obtain rfl := hread
  go_wp2_with fail
  refine (fail_any _ _ _ _).mono ?_
  rintro e w5 ⟨⟨t, v, rfl⟩, hB5⟩
  go_wp2
  go_ret2
  exact ⟨HB4.out.trans (hB5.mono HB4.out.size), 0, _, rfl, Or.inr ⟨⟨t, v, rfl⟩, fun _ => HP.out⟩⟩
 | some q =>
  obtain ⟨ds, dp⟩ := q
  rw [hrp] at hread
  obtain ⟨rfl, hlen, v, hd⟩ := hread
  have HRP := Lib.hid hrp
  have HLEN := Lib.hid hlen
  clear hrp hB4 hlen
  cases hu : uok 2 (sgn l).1
  ·have HP : Hid (pf l = none) := Lib.hid (pf_low hu)
   go_wp2_with fail
   refine (underscores_any s l _ HL.out (by omega) HNP.out).mono ?_
   rw [hu]
   rintro e w5 ⟨rfl, rfl⟩
   go_wp2_with fail
   refine (fail_any _ _ _ _).mono ?_
   rintro e w5 ⟨⟨t, v, rfl⟩, hB5⟩
   go_wp2
   go_ret2
   exact ⟨HB4.out.trans (hB5.mono HB4.out.size), 0, _, rfl, Or.inr ⟨⟨t, v, rfl⟩, fun _ => HP.out⟩⟩
  ·go_wp2_with fail
   refine (underscores_any s l _ HL.out (by omega) HNP.out).mono ?_
   rw [hu]
   rintro e w5 ⟨rfl, rfl⟩
   obtain ⟨h1, h2, d, h3, h4⟩ := pf_some hu HRP.out
   have hcan := trim_canon h1 h2
   have h5 := same_trim h3
   have hlt : (trimR ds).length ≤ 200 := by
    have := trimR_len ds; have := HLEN.out; have := HR.out.size; omega
   obtain ⟨D, hD, hval⟩ : ∃ D, SameDec (trimR ds) (if trimR ds = [] then 0 else dp) D ∧ ∀ x, FltIs neg D x → pf l = x := ⟨d, h5, by rw [← HNEG.out]; exact h4⟩
   have HVAL := Lib.hid hval
   have HD := Lib.hid hD
   clear hval hD h5 h4 h3 h2 h1 hu
   generalize hds : trimR ds = ds' at *
   generalize hdp : (if ds' = [] then 0 else dp) = dp' at *
   clear hds hdp
   go_wp2_with (refine load128 rfl _ rfl g2 rfl 128 _ _ HG4.out rfl ?_)
   refine (bits_any _ _ v ds' dp' _ hd hcan hlt).mono ?_
   rintro e w6 ⟨b, ov, rfl, hb, hF⟩
   have hb2 := hb D HD.out
   have HG6 : Hid (w6.heap[g2]? = some (.cells #[.int .i64 52, .int .i64 11, .int .i64 (-1023)] 128 (0, 0))) := Lib.hid ((hF.block g2 (by obtain ⟨h, _⟩ := Array.getElem?_eq_some_iff.1 HG4.out; exact h) (by
    obtain ⟨h, _⟩ := Array.getElem?_eq_some_iff.1 hg; simp; omega)).trans HG4.out)
   have HB6 := Lib.hid (HB4.out.trans (hF.below HB3.out.size HB4.out.size))
   have hbl : b < 2 ^ 63 := by
    cases ov
    ·exact Nat.lt_trans (hb2.2 rfl).1 infR_lt
    ·rw [(hb2.1 rfl).1]; exact infR_lt
   obtain ⟨N, hN⟩ : ∃ N, N = (if neg = true then 2 ^ 63 else 0) + b := ⟨_, rfl⟩
   have HNN := Lib.hid hN
   have HOR : Hid (bits .or .u64 sg (b : Int) = (N : Int)) := Lib.hid (by
    rw [← HSG.out, hN]
    cases neg
    ·simp only [Bool.false_eq_true, if_false, Nat.zero_add]; exact or_zero b (Nat.lt_trans hbl (by decide))
    ·simp only [if_true]; exact or_sign b hbl)
   cases ov
   ·have HP : Hid (pf l = some N) := Lib.hid (HVAL.out _ ⟨b, (hb2.2 rfl).1, (hb2.2 rfl).2, hN⟩)
    clear hN hb hb2 hF hbl
    go_wp2_with (refine load128 rfl _ rfl g2 rfl 128 _ _ HG6.out rfl ?_)
    rw [HOR.out]
    refine (float_any _ _).mono ?_
    rintro e w7 ⟨rfl, hB7⟩
    go_wp2
    go_ret2
    exact ⟨HB6.out.trans (hB7.mono HB6.out.size), _, _, rfl, Or.inl ⟨rfl, fun _ => HP.out⟩⟩
   ·have HP : Hid (pf l = none) := Lib.hid (HVAL.out _ ((hb2.1 rfl).2 neg))
    clear hN hb hb2 hF hbl
    go_wp2_with (refine load128 rfl _ rfl g2 rfl 128 _ _ HG6.out rfl ?_)
    rw [HOR.out]
    refine (float_any _ _).mono ?_
    rintro e w7 ⟨rfl, hB7⟩
    have HB7 := Lib.hid (HB6.out.trans (hB7.mono HB6.out.size))
    clear hB7
    go_wp2_with fail
    refine (fail_any _ _ _ _).mono ?_
    rintro e w8 ⟨⟨t, v, rfl⟩, hB8⟩
    go_wp2
    go_ret2
    exact ⟨HB7.out.trans (hB8.mono HB7.out.size), _, _, rfl, Or.inr ⟨⟨t, v, rfl⟩, fun _ => HP.out⟩⟩
end Go.Proofs.YtillamhoakohdaaGreatDoor

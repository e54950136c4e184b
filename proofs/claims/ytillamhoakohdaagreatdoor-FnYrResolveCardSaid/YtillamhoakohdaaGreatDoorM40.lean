/-
  Walks: the library's exact road to a float.
-/
import Derived.Laws.FloatArith
import Derived.Test.YtillamhoakohdaaGreatDoorM16
import Derived.Test.YtillamhoakohdaaGreatDoorM37
set_option linter.unusedVariables false
set_option linter.unusedSimpArgs false
namespace Go.Proofs.YtillamhoakohdaaGreatDoor
open Go.RowKit

theorem neg_word (r : Nat) (h : r < 2 ^ 63) : Go.Op.negFloat .f64 r = 2 ^ 63 + r := by
 show r ^^^ 2 ^ 63 = 2 ^ 63 + r
 apply Nat.eq_of_testBit_eq
 intro j
 have e := Nat.testBit_two_pow_mul_add 1 h j
 rw [Nat.mul_one] at e
 rw [e, Nat.testBit_xor, Nat.testBit_two_pow]
 by_cases hj : j < 63
 ·rw [if_pos hj, show decide (63 = j) = false by simp; omega]; simp
 ·rw [if_neg hj]
  have hr : r.testBit j = false := Nat.testBit_lt_two_pow (Nat.lt_of_lt_of_le h (Nat.pow_le_pow_right (by omega) (by omega)))
  rw [hr, Bool.false_xor]
  by_cases h2 : 63 = j
  ·subst h2; decide
  ·rw [show decide (63 = j) = false by simp [h2]]
   obtain ⟨k, hk⟩ : ∃ k, j - 63 = k + 1 := ⟨j - 64, by omega⟩
   rw [hk]; simp [Nat.testBit_succ]
theorem word_sgn (neg : Bool) (r : Nat) : Ieee.double.word neg r = sgnW neg + r := by
 unfold Ieee.Format.word sgnW
 have : Ieee.double.signWeight = 2 ^ 63 := by decide
 rw [this]
 cases neg <;> simp
theorem floatOf_rung {d r : Nat} (h0 : d ≠ 0) (h : IsRung r d) : floatOfInt .f64 (d : Int) = r := by
 show Ieee.double.nearest (decide ((d : Int) < 0)) (d : Int).natAbs 0 = r
 rw [Int.natAbs_natCast, nearest_isRung _ h0 h, word_sgn, show decide ((d : Int) < 0) = false by simp]
 simp [sgnW]
def rungB (r N : Nat) : Bool := Nat.blt r infR && Nat.beq (rungU r) (N * 2 ^ 1074)
theorem rungB_ok {r N : Nat} (h : rungB r N = true) : IsRung r N := by
 unfold rungB at h
 rw [Bool.and_eq_true] at h
 exact ⟨by have := h.1; rwa [Nat.blt_eq] at this, by have := h.2; rwa [Nat.beq_eq] at this⟩
set_option maxRecDepth 100000 in
theorem pow10F_all : ∀ i : Fin 23, rungB (pow10F.getD i.val 0) (10 ^ i.val) = true := by decide +kernel
theorem pow10F_is (i : Nat) (h : i < pow10F.length) : IsRung pow10F[i] (10 ^ i) := by
 have := rungB_ok (pow10F_all ⟨i, h⟩)
 rw [List.getD_eq_getElem?_getD, List.getElem?_eq_getElem h] at this
 exact this
theorem r15_is : IsRung 4831355200913801216 (10 ^ 15) := rungB_ok (by decide +kernel)
theorem order_gt {q r : Nat} (hr : r < infR) (hq : q ≤ infR) (h : r < q) : Ieee.double.order (Ieee.double.word false q) (Ieee.double.word false r) = some .gt := by
 obtain ⟨n, j, e2, j1, v2⟩ := read_rung false r hr
 unfold Ieee.Format.order
 rw [e2]
 rcases Nat.lt_or_ge q infR with hlt | hge
 ·obtain ⟨m, i, e1, i1, v1⟩ := read_rung false q hlt
  rw [e1]
  have hU : rungU r < rungU q := Nat.lt_of_lt_of_le (rungU_step r) (rungU_le h)
  simp only [Ieee.Datum.order, Ieee.signed, Nat.shiftLeft_eq, Bool.false_eq_true, if_false]
  obtain ⟨a, ha⟩ : ∃ a : Nat, min i j = (a : Int) - 1074 := ⟨(min i j + 1074).toNat, by omega⟩
  rw [ha]
  have h1 : m * 2 ^ (i - ((a : Int) - 1074)).toNat * 2 ^ a = rungU q := by rw [Nat.mul_assoc, ← Nat.pow_add, ← v1]; congr 2; omega
  have h2 : n * 2 ^ (j - ((a : Int) - 1074)).toNat * 2 ^ a = rungU r := by rw [Nat.mul_assoc, ← Nat.pow_add, ← v2]; congr 2; omega
  generalize m * 2 ^ (i - ((a : Int) - 1074)).toNat = M at *
  generalize n * 2 ^ (j - ((a : Int) - 1074)).toNat = N at *
  have h3 : N < M := by
   rw [← h1, ← h2] at hU
   exact Nat.lt_of_mul_lt_mul_right hU
  congr 1
  rw [Std.compare_eq_gt]; omega
 ·obtain rfl : q = infR := by omega
  rw [show Ieee.double.read (Ieee.double.word false infR) = .infinity false by decide +kernel]
  rfl
theorem order_lt {q r : Nat} (hr : r < infR) (hq : q ≤ infR) (h : r < q) : Ieee.double.order (Ieee.double.word true q) (Ieee.double.word true r) = some .lt := by
 obtain ⟨n, j, e2, j1, v2⟩ := read_rung true r hr
 unfold Ieee.Format.order
 rw [e2]
 rcases Nat.lt_or_ge q infR with hlt | hge
 ·obtain ⟨m, i, e1, i1, v1⟩ := read_rung true q hlt
  rw [e1]
  have hU : rungU r < rungU q := Nat.lt_of_lt_of_le (rungU_step r) (rungU_le h)
  simp only [Ieee.Datum.order, Ieee.signed, Nat.shiftLeft_eq, if_true]
  obtain ⟨a, ha⟩ : ∃ a : Nat, min i j = (a : Int) - 1074 := ⟨(min i j + 1074).toNat, by omega⟩
  rw [ha]
  have h1 : m * 2 ^ (i - ((a : Int) - 1074)).toNat * 2 ^ a = rungU q := by rw [Nat.mul_assoc, ← Nat.pow_add, ← v1]; congr 2; omega
  have h2 : n * 2 ^ (j - ((a : Int) - 1074)).toNat * 2 ^ a = rungU r := by rw [Nat.mul_assoc, ← Nat.pow_add, ← v2]; congr 2; omega
  generalize m * 2 ^ (i - ((a : Int) - 1074)).toNat = M at *
  generalize n * 2 ^ (j - ((a : Int) - 1074)).toNat = N at *
  have h3 : N < M := by
   rw [← h1, ← h2] at hU
   exact Nat.lt_of_mul_lt_mul_right hU
  congr 1
  rw [Std.compare_eq_lt]; omega
 ·obtain rfl : q = infR := by omega
  rw [show Ieee.double.read (Ieee.double.word true infR) = .infinity true by decide +kernel]
  rfl
theorem both_no {neg : Bool} {q : Nat} (h1 : (Ieee.double.order (sgnW neg + min q infR) 4831355200913801216 == some .gt) = false)
  (h2 : (Ieee.double.order (sgnW neg + min q infR) 14054727237768577024 == some .lt) = false) : q ≤ 4831355200913801216 := by
 rcases Nat.lt_or_ge 4831355200913801216 q with h | h
 ·exfalso
  have hm : 4831355200913801216 < min q infR := by
   have : 4831355200913801216 < infR := by decide
   omega
  cases neg
  ·have := order_gt r15_is.1 (Nat.min_le_right q infR) hm
   rw [word_sgn, word_sgn, show sgnW false + 4831355200913801216 = 4831355200913801216 by decide] at this
   rw [this] at h1; cases h1
  ·have := order_lt r15_is.1 (Nat.min_le_right q infR) hm
   rw [word_sgn, word_sgn, show sgnW true + 4831355200913801216 = 14054727237768577024 by decide] at this
   rw [this] at h2; cases h2
 ·exact h
theorem near_fin {A B q : Nat} (h : Near A B q) (hA : A < (rungU (infR - 1) + rungU infR) * B) : q < infR := by
 rcases Nat.lt_or_ge q infR with h1 | h1
 ·exact h1
 ·exfalso
  have h2 : (rungU (infR - 1) + rungU infR) * B ≤ (rungU (q - 1) + rungU q) * B :=
   Nat.mul_le_mul_right _ (Nat.add_le_add (rungU_le (by omega)) (rungU_le h1))
  have : 0 < infR := by decide
  rcases h.1 with h3 | h3 | ⟨h3, _⟩ <;> omega
theorem top_big : 2 ^ 2098 ≤ rungU (infR - 1) + rungU infR := by decide +kernel
theorem flt_exact_pos {neg : Bool} {d k q : Nat} (hd : d < 2 ^ 52) (hk : k ≤ 37) (h : Near (d * 10 ^ k * 2 ^ 1075) 1 q) :
  FltIs neg (d, (k : Int)) (some (sgnW neg + min q infR)) := by
 have hlt : q < infR := near_fin h (by
  refine Nat.lt_of_lt_of_le ?_ (Nat.le_trans top_big (by omega))
  have h1 : 10 ^ k ≤ 10 ^ 37 := Nat.pow_le_pow_right (by omega) hk
  have h2 : d * 10 ^ k ≤ 2 ^ 52 * 10 ^ 37 := Nat.mul_le_mul (Nat.le_of_lt hd) h1
  have h3 := Nat.mul_le_mul_right (2 ^ 1075) h2
  exact Nat.lt_of_le_of_lt h3 (by decide +kernel))
 rw [Nat.min_eq_left (Nat.le_of_lt hlt)]
 refine ⟨q, hlt, ?_, rfl⟩
 unfold fracA fracB
 rw [if_pos (by show (0 : Int) ≤ k; omega), if_pos (by show (0 : Int) ≤ k; omega)]
 exact h
theorem flt_exact_neg {neg : Bool} {d k q : Nat} (hd : d < 2 ^ 52) (hk0 : 0 < k) (hk : k ≤ 22) (h : Near (d * 2 ^ 1075) (10 ^ k) q) :
  FltIs neg (d, -(k : Int)) (some (sgnW neg + min q infR)) := by
 have hlt : q < infR := near_fin h (by
  have h1 : (rungU (infR - 1) + rungU infR) * 1 ≤ (rungU (infR - 1) + rungU infR) * 10 ^ k := Nat.mul_le_mul_left _ (Nat.pow_pos (by omega))
  refine Nat.lt_of_lt_of_le ?_ (Nat.le_trans top_big (by omega))
  have h3 := Nat.mul_le_mul_right (2 ^ 1075) (Nat.le_of_lt hd)
  exact Nat.lt_of_le_of_lt h3 (by decide +kernel))
 rw [Nat.min_eq_left (Nat.le_of_lt hlt)]
 refine ⟨q, hlt, ?_, rfl⟩
 unfold fracA fracB
 rw [if_neg (by show ¬ (0 : Int) ≤ -(k : Int); omega), if_neg (by show ¬ (0 : Int) ≤ -(k : Int); omega)]
 show Near (d * 2 ^ 1075) (10 ^ (- -(k : Int)).toNat) q
 rw [show (- -(k : Int)).toNat = k by omega]
 exact h
theorem unary_neg_f64 (r : Nat) : Go.Op.unary .neg (.float .f64 r) = pure (.float .f64 (Go.Op.negFloat .f64 r)) := rfl
attribute [local go_sem] unary_neg_f64
set_option exponentiation.threshold 6000 in
theorem exact_any (neg : Bool) (d : Nat) (p : Int) (w : World) (HG : Glob w) (d0 : 0 < d) (d1 : d < 2 ^ 64) (p1 : -100000 ≤ p) (p2 : p ≤ 100000) :
  Calls Tryz.prog 144 #[.int .u64 d, .int .i64 p, .bool neg] w fun e w' => ∃ n ok, e = .returned (.tuple #[.float .f64 n, .bool ok]) ∧ (ok = true → FltIs neg (d, p) (some n)) ∧ w' = w := by
 have i0 := HG.i0
 have d1' : d < 18446744073709551616 := d1
 by_cases h52 : d < 4503599627370496
 ·have hz : ((d : Int) / 4503599627370496) = 0 := by omega
  obtain ⟨r, hr⟩ := isRung_ex d0 (show d < 2 ^ 53 from Nat.lt_trans h52 (by decide))
  have hfi := floatOf_rung (by omega) hr
  have hng' : neg = true → Go.Op.negFloat .f64 r = sgnW neg + r := fun h => by
   subst h; exact neg_word r (Nat.lt_trans hr.1 (by decide))
  have hng2 : neg = false → sgnW neg + r = r := fun h => by subst h; exact Nat.zero_add r
  obtain ⟨F, hF⟩ : ∃ F, F = sgnW neg + r := ⟨_, rfl⟩
  rw [← hF] at hng' hng2
  have hF1 := Lib.hid hF
  clear hF
  go_enter Tryz.func144, Tryz.ntmps144
  go_upto_region 3 with fail
  go_upto_if 15 with fail
  go_cut [6] from 15 to 17 (fun v wc => v = .float .f64 F ∧ w = wc)
  case first =>
   cases neg
   ·have e := hng2 rfl
    subst e
    clear hng'
    go_wp2
    go_meet
    case rel => exact ⟨rfl, rfl⟩
   ·have e := hng' rfl
    clear hng' hng2
    go_wp2
    go_meet
    case rel => exact ⟨rfl, rfl⟩
  case rest =>
  obtain ⟨rfl, rfl⟩ := hcut
  clear hfi hng' hng2
  have c10 := HG.p10
  by_cases hp0 : p = 0
  ·subst hp0
   have hf : FltIs neg (d, 0) (some F) := by
    rw [show F = sgnW neg + r from hF1]
    refine ⟨r, hr.1, ?_, rfl⟩
    have := near_self (r := r) (B := 1) (by omega)
    rw [hr.2, Nat.mul_one] at this
    have e : fracA (d, 0) = 2 * (d * 2 ^ 1074) := by
     unfold fracA
     rw [if_pos (Int.le_refl _)]
     show d * 10 ^ 0 * 2 ^ 1075 = _
     rw [Nat.pow_zero, Nat.mul_one, Nat.pow_succ]; simp only [Nat.mul_assoc, Nat.mul_comm, Nat.mul_left_comm]
    rw [e]; exact this
   clear hF1 hr
   go_wp2
   go_ret2
   exact ⟨F, true, rfl, fun _ => hf, rfl⟩
  ·obtain ⟨b8, o8, c8, hb8, g8, g8c⟩ := c10
   by_cases hpos : 0 < p ∧ p ≤ 22
   ·obtain ⟨k, rfl⟩ : ∃ k : Nat, p = k := ⟨p.toNat, by omega⟩
    have hk : k < pow10F.length := by show k < 23; omega
    have hcell := g8c k hk
    have hpk := pow10F_is k hk
    obtain ⟨q, hq1, hq2⟩ := mul_near (neg := neg) hr hpk d0 (Nat.pow_pos (by omega))
    rw [word_sgn, word_sgn, word_sgn, show sgnW false = 0 from rfl, Nat.zero_add, ← (show F = sgnW neg + r from hF1)] at hq2
    generalize pow10F[k] = Pk at *
    have hf : FltIs neg (d, (k : Int)) (some (sgnW neg + min q infR)) := flt_exact_pos h52 (by omega) hq1
    have hrun := fun w => run_float_arith (P := Tryz.prog) w .mul 52 .f64 F Pk _ hq2
    have hp1 : (0 : Int) < k := by omega
    have hp22 : (k : Int) ≤ 22 := by omega
    generalize sgnW neg + min q infR = R at *
    clear hF1 hr hpk hq1 hq2 g8c
    cases c1 : (FloatKind.f64.format.order F 4831355200913801216 == some Ordering.gt)
    ·cases c2 : (FloatKind.f64.format.order F 14054727237768577024 == some Ordering.lt)
     ·go_wp2
      go_ret2
      exact ⟨R, true, rfl, fun _ => hf, rfl⟩
     ·go_wp2
      go_ret2
      exact ⟨F, false, rfl, fun h => (by cases h), rfl⟩
    ·go_wp2
     go_ret2
     exact ⟨F, false, rfl, fun h => (by cases h), rfl⟩
   ·by_cases hpos2 : 0 < p ∧ p ≤ 37
    ·obtain ⟨k, hpe⟩ : ∃ k : Nat, p = ((k + 22 : Nat) : Int) := ⟨(p - 22).toNat, by omega⟩
     have hk : k < pow10F.length := by show k < 23; omega
     have hcell := g8c k hk
     have hpk := pow10F_is k hk
     have hcell2 := g8c 22 (by decide)
     have hpk2 := pow10F_is 22 (by decide)
     obtain ⟨q, hq1, hq2⟩ := mul_near (neg := neg) hr hpk d0 (Nat.pow_pos (by omega))
     rw [word_sgn, word_sgn, word_sgn, show sgnW false = 0 from rfl, Nat.zero_add, ← (show F = sgnW neg + r from hF1)] at hq2
     generalize pow10F[k] = Pk at *
     generalize pow10F[22] = P22 at *
     have hboth := both_no (neg := neg) (q := q)
     have hrun := fun w => run_float_arith (P := Tryz.prog) w .mul 52 .f64 F Pk _ hq2
     have hnext : (Ieee.double.order (sgnW neg + min q infR) 4831355200913801216 == some .gt) = false → (Ieee.double.order (sgnW neg + min q infR) 14054727237768577024 == some .lt) = false →
       ∃ R2, floatBits .mul .f64 (sgnW neg + min q infR) P22 = some R2 ∧ FltIs neg (d, p) (some R2) := by
      intro a1 a2
      rw [hpe]
      have hq15 := hboth a1 a2
      have hN := near_below hq1 r15_is hq15
      obtain ⟨r2, hr2⟩ := isRung_ex (N := d * 10 ^ k) (Nat.mul_pos d0 (Nat.pow_pos (by omega))) (Nat.lt_of_le_of_lt hN (by decide))
      obtain rfl := near_isRung hr2 hq1
      obtain ⟨q2, h3, h4⟩ := mul_near (neg := neg) hr2 hpk2 (Nat.mul_pos d0 (Nat.pow_pos (by omega))) (Nat.pow_pos (by omega))
      rw [word_sgn, word_sgn, word_sgn, show sgnW false = 0 from rfl, Nat.zero_add] at h4
      rw [Nat.min_eq_left (Nat.le_of_lt hr2.1)]
      refine ⟨_, h4, flt_exact_pos h52 (by omega) ?_⟩
      rw [Nat.pow_add, ← Nat.mul_assoc]; exact h3
     clear hboth hq1 hq2 hpk hpk2 hr hF1
     generalize sgnW neg + min q infR = R at *
     have hge : 22 < p := by omega
     have hle : p ≤ 37 := by omega
     have hk0 : 0 < p := by omega
     have i5 : p - 22 = k := by omega
     have hk15 : (k : Int) < 23 := by omega
     clear g8c hpe
     cases c1 : (FloatKind.f64.format.order R 4831355200913801216 == some Ordering.gt)
     ·cases c2 : (FloatKind.f64.format.order R 14054727237768577024 == some Ordering.lt)
      ·obtain ⟨R2, hb2, hf⟩ := hnext c1 c2
       have hrun2 := fun w => run_float_arith (P := Tryz.prog) w .mul 52 .f64 R P22 _ hb2
       clear hnext hb2
       go_wp2
       go_ret2
       exact ⟨R2, true, rfl, fun _ => hf, rfl⟩
      ·clear hnext
       go_wp2
       go_ret2
       exact ⟨R, false, rfl, fun h => (by cases h), rfl⟩
     ·clear hnext
      go_wp2
      go_ret2
      exact ⟨R, false, rfl, fun h => (by cases h), rfl⟩
    ·by_cases hneg : p < 0 ∧ -22 ≤ p
     ·obtain ⟨k, rfl⟩ : ∃ k : Nat, p = -(k : Int) := ⟨(-p).toNat, by omega⟩
      have hk : k < pow10F.length := by show k < 23; omega
      have hcell := g8c k hk
      have hpk := pow10F_is k hk
      obtain ⟨q, hq1, hq2⟩ := div_near (neg := neg) hr hpk d0 (Nat.pow_pos (by omega))
      rw [word_sgn, word_sgn, word_sgn, show sgnW false = 0 from rfl, Nat.zero_add, ← (show F = sgnW neg + r from hF1)] at hq2
      generalize pow10F[k] = Pk at *
      have hf : FltIs neg (d, -(k : Int)) (some (sgnW neg + min q infR)) := flt_exact_neg h52 (by omega) (by omega) hq1
      have hrun := fun w => run_float_arith (P := Tryz.prog) w .quo 52 .f64 F Pk _ hq2
      generalize sgnW neg + min q infR = R at *
      clear hF1 hr hpk hq1 hq2 g8c
      have hk1 : 0 < k := by omega
      have hk2 : (k : Int) ≤ 22 := by omega
      go_wp2
      go_ret2
      first | exact ⟨R, true, rfl, fun _ => hf, rfl⟩ | exact ⟨R, Or.inr ⟨rfl, hf, rfl⟩⟩
     ·clear hF1 hr g8c
      have n1 : decide (0 < p) = true → decide (p ≤ 37) = false := by
       intro h; simp at h; simp; omega
      have n2 : p < 0 → p < -22 := by omega
      go_wp2
      all_goals (go_ret2; exact ⟨F, Or.inl ⟨rfl, rfl⟩⟩)
 ·have hz : ((d : Int) / 4503599627370496 != 0) = true := by rw [bne_iff_ne]; omega
  go_enter Tryz.func144, Tryz.ntmps144
  go_wp2
  go_ret2
  exact ⟨0, false, rfl, fun h => (by cases h), rfl⟩
end Go.Proofs.YtillamhoakohdaaGreatDoor

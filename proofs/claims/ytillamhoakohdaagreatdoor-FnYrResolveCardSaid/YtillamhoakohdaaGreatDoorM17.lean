/-
  Plain law: a decimal that is scaled by powers of two; its rounding; the float that is nearest to it. Plain law: the decimal road to a float: by halves and doubles to between one half and one, then 53 places on, then to the nearest whole number. Plain law: how both libraries scan a float's text, and that it is what the reference says.
-/
import Derived.Test.YtillamhoakohdaaGreatDoorM01
import Derived.Test.YtillamhoakohdaaGreatDoorM16
set_option linter.unusedVariables false
set_option linter.unusedSimpArgs false
namespace Go.Proofs.YtillamhoakohdaaGreatDoor

def nearUpB (ds : List UInt8) (n : Int) : Bool :=
 if n < 0 ∨ (ds.length : Int) ≤ n then false
 else if dig0 ds n.toNat = 5 ∧ n + 1 = ds.length then decide (0 < n) && decide (dig0 ds (n.toNat - 1) % 2 ≠ 0)
 else decide (5 ≤ dig0 ds n.toNat)

theorem pre_split (ds : List UInt8) (n : Nat) : ∀ j, pre ds (n + j) = pre ds n * 10 ^ j + pre (ds.drop n) j
 | 0 => by simp [pre]
 | j + 1 => by
  rw [← Nat.add_assoc, pre, pre_split ds n j, pre]
  have : dig0 (ds.drop n) j = dig0 ds (n + j) := by unfold dig0; rw [List.getElem?_drop]
  rw [this, Nat.pow_succ, Nat.mul_add, ← Nat.mul_assoc]
  have : 10 * pre ds n * 10 ^ j = pre ds n * (10 ^ j * 10) := by simp only [Nat.mul_assoc, Nat.mul_comm, Nat.mul_left_comm]
  omega
theorem decV_split (ds : List UInt8) (n : Nat) (h : n ≤ ds.length) : decV ds = pre ds n * 10 ^ (ds.length - n) + decV (ds.drop n) := by
 have := pre_split ds n (ds.length - n)
 rw [show n + (ds.length - n) = ds.length by omega] at this
 unfold decV
 rw [this, List.length_drop]
theorem decV_lt {ds : List UInt8} (h : Dig ds) : decV ds < 10 ^ ds.length := pre_lt h _
theorem Dig.drop {ds : List UInt8} (h : Dig ds) (n : Nat) : Dig (ds.drop n) := fun d hd => h d (List.mem_of_mem_drop hd)
theorem Dig.tail {d : UInt8} {l : List UInt8} (h : Dig (d :: l)) : Dig l := fun x hx => h x (List.mem_cons_of_mem _ hx)
theorem decV_first {ds : List UInt8} (h : Dig ds) (h0 : 0 < ds.length) : dig0 ds 0 * 10 ^ (ds.length - 1) ≤ decV ds ∧ decV ds < (dig0 ds 0 + 1) * 10 ^ (ds.length - 1) := by
 cases ds with
 | nil => simp at h0
 | cons d l =>
  rw [decV_cons]
  have := decV_lt h.tail
  have e : dig0 (d :: l) 0 = d.toNat := rfl
  rw [e, List.length_cons, Nat.add_sub_cancel, Nat.add_mul]
  omega
theorem decV_above {ds : List UInt8} (hl : ds.getLast? ≠ some 0) (h1 : 1 < ds.length) : dig0 ds 0 * 10 ^ (ds.length - 1) < decV ds := by
 cases ds with
 | nil => simp at h1
 | cons d l =>
  rw [decV_cons]
  have e : dig0 (d :: l) 0 = d.toNat := rfl
  rw [e, List.length_cons, Nat.add_sub_cancel]
  have : 0 < decV l := by
   rcases List.eq_nil_or_concat l with rfl | ⟨l', x, rfl⟩
   ·simp at h1
   ·rw [List.concat_eq_append] at *
    rw [decV_snoc]
    have : x ≠ 0 := by
     intro hx; subst hx; apply hl
     rw [← List.cons_append, List.getLast?_concat]
    have : x.toNat ≠ 0 := fun h => this (UInt8.toNat_inj.1 h)
    omega
  omega
section
variable {K : Nat} {ds : List UInt8} {dp : Int}
theorem ival_lt (h : Dig ds) (hK : 0 ≤ (K : Int) + dp - ds.length) : ival K ds dp < 10 ^ ((K : Int) + dp).toNat := by
 unfold ival
 have : ((K : Int) + dp).toNat = ds.length + ((K : Int) + dp - ds.length).toNat := by omega
 rw [this, Nat.pow_add]
 exact Nat.mul_lt_mul_of_pos_right (decV_lt h) (Nat.pow_pos (by omega))
theorem ival_first (h : Dig ds) (h0 : 0 < ds.length) (hK : 0 ≤ (K : Int) + dp - ds.length) :
  dig0 ds 0 * 10 ^ ((K : Int) + dp - 1).toNat ≤ ival K ds dp ∧ ival K ds dp < (dig0 ds 0 + 1) * 10 ^ ((K : Int) + dp - 1).toNat := by
 unfold ival
 have e : ((K : Int) + dp - 1).toNat = (ds.length - 1) + ((K : Int) + dp - ds.length).toNat := by omega
 rw [e, Nat.pow_add, ← Nat.mul_assoc, ← Nat.mul_assoc]
 exact ⟨Nat.mul_le_mul_right _ (decV_first h h0).1, Nat.mul_lt_mul_of_pos_right (decV_first h h0).2 (Nat.pow_pos (by omega))⟩
theorem ival_ge (h : Canon ds) (hK : 0 ≤ (K : Int) + dp - ds.length) : 10 ^ ((K : Int) + dp - 1).toNat ≤ ival K ds dp := by
 refine Nat.le_trans ?_ (ival_first h.dig h.pos hK).1
 exact Nat.le_mul_of_pos_left _ (by have := h.head; omega)
end
theorem pow10_lt {a b : Nat} (h : 10 ^ a < 10 ^ b) : a < b := (Nat.pow_lt_pow_iff_right (by omega)).1 h

theorem whole_rne {K : Nat} {ds : List UInt8} {dp : Int} (hc : Canon ds) (hK : 0 ≤ (K : Int) + dp - ds.length) (hK1 : 0 < K) :
  Rne (2 * ival K ds dp) (10 ^ K) (pre ds dp.toNat + (if nearUpB ds dp = true then 1 else 0)) := by
 have hQ : 0 < 10 ^ K := Nat.pow_pos (by omega)
 obtain ⟨K', rfl⟩ : ∃ K', K = K' + 1 := ⟨K - 1, by omega⟩
 have eQ : 10 ^ (K' + 1) = 10 * 10 ^ K' := by rw [Nat.pow_succ, Nat.mul_comm]
 by_cases h0 : dp < 0
 ·have e1 : nearUpB ds dp = false := by unfold nearUpB; rw [if_pos (Or.inl h0)]
  have e2 : dp.toNat = 0 := by omega
  rw [e1, e2]
  have h1 := ival_lt hc.dig hK
  have h2 : 10 ^ (((K' + 1 : Nat) : Int) + dp).toNat ≤ 10 ^ K' := Nat.pow_le_pow_right (by omega) (by omega)
  refine ⟨Or.inl (by simp [pre]), Or.inl ?_⟩
  rw [show pre ds 0 + (if false = true then 1 else 0) = 0 by simp [pre], eQ]
  omega
 obtain ⟨n, rfl⟩ : ∃ n : Nat, dp = n := ⟨dp.toNat, by omega⟩
 rw [Int.toNat_natCast]
 by_cases hn : ds.length ≤ n
 ·have e1 : nearUpB ds n = false := by unfold nearUpB; rw [if_pos (Or.inr (by omega))]
  have e2 : ival (K' + 1) ds n = pre ds n * 10 ^ (K' + 1) := by
   obtain ⟨j, rfl⟩ : ∃ j, n = ds.length + j := ⟨n - ds.length, by omega⟩
   unfold ival
   rw [pre_out, Nat.mul_assoc, ← Nat.pow_add]
   congr 2; omega
  rw [e1, e2]
  simp only [Bool.false_eq_true, if_false, Nat.add_zero]
  generalize pre ds n = m
  have e3 : ∀ a : Nat, 2 * a * 10 ^ (K' + 1) = 2 * (a * 10 ^ (K' + 1)) := fun a => Nat.mul_assoc _ _ _
  refine ⟨?_, Or.inl ?_⟩
  ·rcases Nat.eq_zero_or_pos m with hm | hm
   ·exact Or.inl hm
   ·refine Or.inr (Or.inl ?_)
    rw [← e3]; exact Nat.mul_lt_mul_of_pos_right (by omega) hQ
  ·rw [← e3]; exact Nat.mul_lt_mul_of_pos_right (by omega) hQ
 ·have hlen : n < ds.length := by omega
  obtain ⟨s, hs⟩ : ∃ s, ds.length = n + s + 1 := ⟨ds.length - n - 1, by omega⟩
  obtain ⟨E, hE⟩ : ∃ E, K' = s + E := ⟨K' - s, by omega⟩
  have e2 : ival (K' + 1) ds n = pre ds n * 10 ^ (K' + 1) + decV (ds.drop n) * 10 ^ E := by
   unfold ival
   rw [decV_split ds n (by omega), Nat.add_mul, Nat.mul_assoc, ← Nat.pow_add]
   congr 3 <;> omega
  have hdl : (ds.drop n).length = s + 1 := by rw [List.length_drop]; omega
  have hd0 : dig0 (ds.drop n) 0 = dig0 ds n := by unfold dig0; rw [List.getElem?_drop, Nat.add_zero]
  have f1 := decV_first (hc.dig.drop n) (by omega)
  rw [hdl, hd0, Nat.add_sub_cancel] at f1
  have hlast : (ds.drop n).getLast? = ds.getLast? := by
   rw [List.getLast?_drop, if_neg (by omega)]
  have pow1 : 10 ^ s * 10 ^ E = 10 ^ K' := by rw [← Nat.pow_add, ← hE]
  have pE : 0 < 10 ^ E := Nat.pow_pos (by omega)
  rw [e2]
  have t1 : dig0 ds n * 10 ^ K' ≤ decV (ds.drop n) * 10 ^ E := by
   rw [← pow1, ← Nat.mul_assoc]; exact Nat.mul_le_mul_right _ f1.1
  have t2 : decV (ds.drop n) * 10 ^ E < (dig0 ds n + 1) * 10 ^ K' := by
   rw [← pow1, ← Nat.mul_assoc]; exact Nat.mul_lt_mul_of_pos_right f1.2 pE
  have t3 : 0 < s → dig0 ds n * 10 ^ K' < decV (ds.drop n) * 10 ^ E := by
   intro hs0
   have := decV_above (ds := ds.drop n) (by rw [hlast]; exact hc.last) (by omega)
   rw [hdl, hd0, Nat.add_sub_cancel] at this
   rw [← pow1, ← Nat.mul_assoc]; exact Nat.mul_lt_mul_of_pos_right this pE
  have t4 : s = 0 → decV (ds.drop n) * 10 ^ E = dig0 ds n * 10 ^ K' := by
   rintro rfl
   have : decV (ds.drop n) = dig0 ds n := by simp at f1; omega
   rw [this, hE]; simp
  generalize decV (ds.drop n) * 10 ^ E = T at *
  have hpar : n ≠ 0 → pre ds n % 2 = dig0 ds (n - 1) % 2 := by
   intro h
   obtain ⟨j, rfl⟩ : ∃ j, n = j + 1 := ⟨n - 1, by omega⟩
   rw [pre]; simp; omega
  have hd9 := dig0_lt hc.dig n
  have hnu : nearUpB ds n = if dig0 ds n = 5 ∧ s = 0 then decide (n ≠ 0) && decide (dig0 ds (n - 1) % 2 ≠ 0) else decide (5 ≤ dig0 ds n) := by
   unfold nearUpB
   rw [if_neg (by omega), Int.toNat_natCast]
   by_cases h : dig0 ds n = 5 ∧ s = 0
   ·rw [if_pos ⟨h.1, by omega⟩, if_pos h]
    congr 1
    rw [Bool.eq_iff_iff]; simp; omega
   ·rw [if_neg (by omega), if_neg h]
  have hm0 : n = 0 → pre ds n = 0 := by rintro rfl; rfl
  rw [hnu]
  clear hnu
  generalize pre ds n = m at *
  generalize dig0 ds n = d at *
  generalize dig0 ds (n - 1) = d1 at *
  rw [eQ]
  rw [eQ] at hQ
  obtain ⟨q, hq⟩ : ∃ q, q = 10 ^ K' := ⟨_, rfl⟩
  rw [← hq] at t1 t2 t3 t4 hQ ⊢
  clear pow1 f1 pE eQ e2 hq hE
  have t2' : T < d * q + q := by rw [Nat.add_mul, Nat.one_mul] at t2; exact t2
  have x1 : ∀ a : Nat, a * (10 * q) = 10 * (a * q) := fun a => by simp only [Nat.mul_assoc, Nat.mul_comm, Nat.mul_left_comm]
  have x2 : ∀ a b : Nat, (a + b) * q = a * q + b * q := fun a b => Nat.add_mul _ _ _
  have x3 : ∀ a : Nat, 2 * a * q = 2 * (a * q) := fun a => Nat.mul_assoc _ _ _
  by_cases h5 : d = 5 ∧ s = 0
  ·rw [if_pos h5]
   have hT := t4 h5.2
   rw [h5.1] at hT
   by_cases hodd : n ≠ 0 ∧ d1 % 2 ≠ 0
   ·have : (decide (n ≠ 0) && decide (d1 % 2 ≠ 0)) = true := by simp [hodd.1]; omega
    rw [this]
    simp only [if_true]
    have hp := hpar hodd.1
    refine ⟨Or.inr (Or.inr ⟨?_, by omega⟩), Or.inl ?_⟩
    ·rw [show 2 * (m + 1) - 1 = 2 * m + 1 by omega, x1, x1, x2, x3]; omega
    ·rw [show 2 * (m + 1) + 1 = 2 * m + 3 by omega, x1, x1, x2, x3]; omega
   ·have : (decide (n ≠ 0) && decide (d1 % 2 ≠ 0)) = false := by
     rw [Bool.and_eq_false_iff]; simp; omega
    rw [this]
    simp only [Bool.false_eq_true, if_false, Nat.add_zero]
    have hp : m % 2 = 0 := by
     by_cases h : n = 0
     ·rw [hm0 h]
     ·rw [hpar h]; omega
    refine ⟨?_, Or.inr ⟨?_, hp⟩⟩
    ·rcases Nat.eq_zero_or_pos m with hm | hm
     ·exact Or.inl hm
     ·refine Or.inr (Or.inl ?_)
      have : (2 * m - 1) * (10 * q) < 2 * m * (10 * q) := Nat.mul_lt_mul_of_pos_right (by omega) hQ
      rw [Nat.mul_assoc 2] at this; omega
    ·rw [x1, x1, x2, x3]; omega
  ·rw [if_neg h5]
   by_cases h6 : 5 ≤ d
   ·simp only [h6, decide_true, if_true]
    have hT : 5 * q < T := by
     by_cases h7 : d = 5
     ·subst h7; exact t3 (by omega)
     ·have : 6 * q ≤ d * q := Nat.mul_le_mul_right _ (by omega)
      omega
    have hT2 : T < 10 * q := by
     have : d * q ≤ 9 * q := Nat.mul_le_mul_right _ (by omega)
     omega
    refine ⟨Or.inr (Or.inl ?_), Or.inl ?_⟩
    ·rw [show 2 * (m + 1) - 1 = 2 * m + 1 by omega, x1, x1, x2, x3]; omega
    ·rw [show 2 * (m + 1) + 1 = 2 * m + 3 by omega, x1, x1, x2, x3]; omega
   ·have : decide (5 ≤ d) = false := by simp; omega
    rw [this]
    simp only [Bool.false_eq_true, if_false, Nat.add_zero]
    have hT2 : T < 5 * q := by
     have : d * q ≤ 4 * q := Nat.mul_le_mul_right _ (by omega)
     omega
    refine ⟨?_, Or.inl ?_⟩
    ·rcases Nat.eq_zero_or_pos m with hm | hm
     ·exact Or.inl hm
     ·refine Or.inr (Or.inl ?_)
      have : (2 * m - 1) * (10 * q) < 2 * m * (10 * q) := Nat.mul_lt_mul_of_pos_right (by omega) hQ
      rw [Nat.mul_assoc 2] at this; omega
    ·rw [x1, x1, x2, x3]; omega
end Go.Proofs.YtillamhoakohdaaGreatDoor
namespace Go.Proofs.YtillamhoakohdaaGreatDoor

def SameDec (ds : List UInt8) (dp : Int) (d : Nat × Int) : Prop := ∃ a b : Nat, decV ds * 10 ^ a = d.1 * 10 ^ b ∧ (b : Int) - a = d.2 - dp + ds.length
theorem same_frac {K : Nat} {ds : List UInt8} {dp : Int} {d : Nat × Int} (h : SameDec ds dp d) (hK : 0 ≤ (K : Int) + dp - ds.length) :
  ival K ds dp * (fracB d * 2 ^ 1075) = fracA d * 10 ^ K := by
 obtain ⟨a, b, e, hab⟩ := h
 unfold ival
 obtain ⟨E, hE⟩ : ∃ E : Nat, (E : Int) = (K : Int) + dp - ds.length := ⟨((K : Int) + dp - ds.length).toNat, by omega⟩
 rw [← hE, Int.toNat_natCast]
 refine Nat.eq_of_mul_eq_mul_right (show 0 < 10 ^ a from Nat.pow_pos (by omega)) ?_
 have e1 : decV ds * 10 ^ E * (fracB d * 2 ^ 1075) * 10 ^ a = decV ds * 10 ^ a * (10 ^ E * fracB d * 2 ^ 1075) := by
  simp only [Nat.mul_assoc, Nat.mul_comm, Nat.mul_left_comm]
 rw [e1, e]
 unfold fracA fracB
 generalize 2 ^ 1075 = T
 by_cases h0 : 0 ≤ d.2
 ·rw [if_pos h0, if_pos h0, Nat.mul_one]
  have e2 : d.1 * 10 ^ b * (10 ^ E * T) = d.1 * T * 10 ^ (b + E) := by rw [Nat.pow_add]; simp only [Nat.mul_assoc, Nat.mul_comm, Nat.mul_left_comm]
  have e3 : d.1 * 10 ^ d.2.toNat * T * 10 ^ K * 10 ^ a = d.1 * T * 10 ^ (d.2.toNat + K + a) := by rw [Nat.pow_add, Nat.pow_add]; simp only [Nat.mul_assoc, Nat.mul_comm, Nat.mul_left_comm]
  rw [e2, e3]; congr 2; omega
 ·rw [if_neg h0, if_neg h0]
  have e2 : d.1 * 10 ^ b * (10 ^ E * 10 ^ (-d.2).toNat * T) = d.1 * T * 10 ^ (b + E + (-d.2).toNat) := by rw [Nat.pow_add, Nat.pow_add]; simp only [Nat.mul_assoc, Nat.mul_comm, Nat.mul_left_comm]
  have e3 : d.1 * T * 10 ^ K * 10 ^ a = d.1 * T * 10 ^ (K + a) := by rw [Nat.pow_add]; simp only [Nat.mul_assoc]
  rw [e2, e3]; congr 2; omega

set_option exponentiation.threshold 6000 in
theorem flt_none {d : Nat × Int} {neg : Bool} (h : 2 ^ 2099 * fracB d ≤ fracA d) : FltIs neg d none := by
 show (rungU (infR - 1) + rungU infR) * fracB d ≤ fracA d
 refine Nat.le_trans (Nat.mul_le_mul_right _ ?_) h
 have e0 : infR = 2046 * 2 ^ 52 + 2 ^ 52 := by decide
 have h1 : rungU infR = 2 ^ 52 * 2 ^ 2046 := by rw [e0]; exact rungU_pm (p := 2046) (m := 2 ^ 52) (Or.inr (Nat.le_refl _)) (by omega)
 have h2 := rungU_step (infR - 1)
 rw [show infR - 1 + 1 = infR by unfold infR; omega] at h2
 have h3 : 2 ^ 2099 = 2 ^ 52 * 2 ^ 2046 + 2 ^ 52 * 2 ^ 2046 := by
  rw [← Nat.pow_add, ← Nat.two_mul, Nat.mul_comm, ← Nat.pow_succ]
 rw [h3, ← h1]
 exact Nat.add_le_add_right (Nat.le_of_lt h2) _

theorem c331 : 2 ^ 1075 < 10 ^ 330 := by decide +kernel
theorem c310 : 2 ^ 1024 < 10 ^ 310 := by decide +kernel
theorem c1030 : 10 ^ 310 < 2 ^ 1030 := by decide +kernel
theorem c1100 : 10 ^ 331 < 2 ^ 1100 := by decide +kernel

set_option exponentiation.threshold 6000 in
theorem flt_small {ds : List UInt8} {dp : Int} {d : Nat × Int} (neg : Bool) (h : SameDec ds dp d) (hd : Dig ds) (hdp : dp < -330) : Near (fracA d) (fracB d) 0 := by
 obtain ⟨K, hK⟩ : ∃ K : Nat, (K : Int) = ds.length - dp := ⟨((ds.length : Int) - dp).toNat, by omega⟩
 have e := same_frac (K := K) h (by omega)
 have h1 := ival_lt (K := K) (dp := dp) hd (by omega)
 have h2 : 10 ^ ((K : Int) + dp).toNat * 10 ^ 330 ≤ 10 ^ K := by rw [← Nat.pow_add]; exact Nat.pow_le_pow_right (by omega) (by omega)
 have hB := fracB_pos d
 refine ⟨Or.inl rfl, Or.inl ?_⟩
 rw [show (rungU 0 + rungU (0 + 1)) = 1 by decide, Nat.one_mul]
 refine Nat.lt_of_mul_lt_mul_right (a := 10 ^ K) ?_
 rw [← e]
 have h3 : ival K ds dp * 2 ^ 1075 < 10 ^ K := by
  refine Nat.lt_of_lt_of_le ?_ h2
  exact Nat.lt_of_le_of_lt (Nat.mul_le_mul_left _ (Nat.le_of_lt c331)) (Nat.mul_lt_mul_of_pos_right h1 (Nat.pow_pos (by omega)))
 rw [Nat.mul_left_comm]
 exact Nat.mul_lt_mul_of_pos_left h3 hB
set_option exponentiation.threshold 6000 in
theorem flt_large {ds : List UInt8} {dp : Int} {d : Nat × Int} (neg : Bool) (h : SameDec ds dp d) (hc : Canon ds) (hdp : 310 < dp) : FltIs neg d none := by
 refine flt_none ?_
 obtain ⟨K, hK⟩ : ∃ K : Nat, (K : Int) = ds.length := ⟨ds.length, rfl⟩
 have e := same_frac (K := K) h (by omega)
 have h1 := ival_ge (K := K) (dp := dp) hc (by omega)
 have h2 : 10 ^ K * 10 ^ 310 ≤ 10 ^ ((K : Int) + dp - 1).toNat := by rw [← Nat.pow_add]; exact Nat.pow_le_pow_right (by omega) (by omega)
 refine Nat.le_of_mul_le_mul_right (c := 10 ^ K) ?_ (Nat.pow_pos (by omega))
 rw [← e, show 2099 = 1024 + 1075 by rfl, Nat.pow_add]
 have h3 : 2 ^ 1024 * 10 ^ K ≤ ival K ds dp := by
  refine Nat.le_trans ?_ (Nat.le_trans h2 h1)
  rw [Nat.mul_comm]; exact Nat.mul_le_mul_left _ (Nat.le_of_lt c310)
 have h4 := Nat.mul_le_mul_right (fracB d * 2 ^ 1075) h3
 refine Nat.le_trans (Nat.le_of_eq ?_) h4
 simp only [Nat.mul_assoc, Nat.mul_comm, Nat.mul_left_comm]

section
variable {k : Nat} {ds ds' : List UInt8} {dp dp' : Int}
theorem Halved.pt (h : Halved k ds dp ds' dp') (hc : Canon ds) : dp' ≤ dp ∧ dp - k ≤ dp' := by
 obtain ⟨K, hK⟩ : ∃ K : Nat, 0 ≤ (K : Int) + dp - ds.length ∧ 0 ≤ (K : Int) + dp' - ds'.length := ⟨((ds.length : Int) - dp).toNat + ((ds'.length : Int) - dp').toNat, by omega⟩
 have e := h.val K hK.1 hK.2
 have p1 := hc.pos; have p2 := h.canon.pos
 have a1 := ival_ge hc hK.1; have a2 := ival_lt hc.dig hK.1
 have b1 := ival_ge h.canon hK.2; have b2 := ival_lt h.canon.dig hK.2
 have hk : 2 ^ k ≤ 10 ^ k := Nat.pow_le_pow_left (by omega) k
 have hk0 : 0 < 2 ^ k := Nat.pow_pos (by omega)
 constructor
 ·have : 10 ^ ((K : Int) + dp' - 1).toNat < 10 ^ ((K : Int) + dp).toNat := by
   refine Nat.lt_of_le_of_lt b1 (Nat.lt_of_le_of_lt ?_ a2)
   rw [e]; exact Nat.le_mul_of_pos_left _ hk0
  have := pow10_lt this; omega
 ·have : 10 ^ ((K : Int) + dp - 1).toNat < 10 ^ (k + ((K : Int) + dp').toNat) := by
   refine Nat.lt_of_le_of_lt a1 ?_
   rw [e, Nat.pow_add]
   exact Nat.lt_of_le_of_lt (Nat.mul_le_mul_right _ hk) (Nat.mul_lt_mul_of_pos_left b2 (Nat.pow_pos (by omega)))
  have := pow10_lt this; omega
theorem Doubled.pt (h : Doubled k ds dp ds' dp') (hc : Canon ds) : dp ≤ dp' ∧ dp' ≤ dp + k := by
 have hf := h.frac
 obtain ⟨K, hK⟩ : ∃ K : Nat, 0 ≤ (K : Int) + dp - ds.length := ⟨((ds.length : Int) - dp).toNat, by omega⟩
 have e := h.val K hK
 have p1 := hc.pos; have p2 := h.canon.pos
 have a1 := ival_ge hc hK; have a2 := ival_lt hc.dig hK
 have b1 := ival_ge (K := K) (dp := dp') h.canon (by omega); have b2 := ival_lt (K := K) (dp := dp') h.canon.dig (by omega)
 have hk : 2 ^ k ≤ 10 ^ k := Nat.pow_le_pow_left (by omega) k
 have hk0 : 0 < 2 ^ k := Nat.pow_pos (by omega)
 constructor
 ·have : 10 ^ ((K : Int) + dp - 1).toNat < 10 ^ ((K : Int) + dp').toNat := by
   refine Nat.lt_of_le_of_lt a1 (Nat.lt_of_le_of_lt ?_ b2)
   rw [e]; exact Nat.le_mul_of_pos_left _ hk0
  have := pow10_lt this; omega
 ·have : 10 ^ ((K : Int) + dp' - 1).toNat < 10 ^ (k + ((K : Int) + dp).toNat) := by
   refine Nat.lt_of_le_of_lt b1 ?_
   rw [e, Nat.pow_add]
   exact Nat.lt_of_le_of_lt (Nat.mul_le_mul_right _ hk) (Nat.mul_lt_mul_of_pos_left a2 (Nat.pow_pos (by omega)))
  have := pow10_lt this; omega
end

structure Sc (ds0 : List UInt8) (dp0 : Int) (ds : List UInt8) (dp e F : Int) : Prop where
 canon : Canon ds
 fr : (ds.length : Int) - dp ≤ F
 F5 : F ≤ 5000
 eq : ∃ x y : Nat, (x : Int) - y = e ∧ ival 5000 ds dp * 2 ^ x = ival 5000 ds0 dp0 * 2 ^ y
theorem Sc.start {ds : List UInt8} {dp F : Int} (hc : Canon ds) (h : (ds.length : Int) - dp ≤ F) (h5 : F ≤ 5000) : Sc ds dp ds dp 0 F := ⟨hc, h, h5, 0, 0, rfl, rfl⟩
section
variable {ds0 ds ds' : List UInt8} {dp0 dp dp' e F : Int} {k : Nat}
theorem Sc.half (h : Sc ds0 dp0 ds dp e F) (H : Halved k ds dp ds' dp') (h5 : F + k ≤ 5000) : Sc ds0 dp0 ds' dp' (e + k) (F + k) := by
 have h1 := h.fr; have h2 := H.frac; have h3 := h.F5
 refine ⟨H.canon, by omega, h5, ?_⟩
 obtain ⟨x, y, hxy, e1⟩ := h.eq
 refine ⟨x + k, y, by omega, ?_⟩
 rw [← e1, H.val 5000 (by omega) (by omega), Nat.pow_add]
 simp only [Nat.mul_assoc, Nat.mul_comm, Nat.mul_left_comm]
theorem Sc.double (h : Sc ds0 dp0 ds dp e F) (H : Doubled k ds dp ds' dp') : Sc ds0 dp0 ds' dp' (e - k) F := by
 have h1 := h.fr; have h2 := H.frac; have h3 := h.F5
 refine ⟨H.canon, by omega, h3, ?_⟩
 obtain ⟨x, y, hxy, e1⟩ := h.eq
 refine ⟨x, y + k, by omega, ?_⟩
 rw [H.val 5000 (by omega), Nat.pow_add, ← Nat.mul_assoc, ← e1]
 simp only [Nat.mul_assoc, Nat.mul_comm, Nat.mul_left_comm]
set_option exponentiation.threshold 6000 in
theorem Sc.below (h : Sc ds0 dp0 ds dp e F) (hc0 : Canon ds0) (hf0 : (ds0.length : Int) - dp0 ≤ 5000) (hdp0 : dp0 ≤ 310) (hdp : 0 < dp) : e < 1030 := by
 obtain ⟨x, y, hxy, e1⟩ := h.eq
 have h1 := h.fr; have h3 := h.F5
 have a1 := ival_ge (K := 5000) (dp := dp) h.canon (by omega)
 have a2 := ival_lt (K := 5000) (dp := dp0) hc0.dig (by omega)
 have b1 : 10 ^ 5000 ≤ 10 ^ (((5000 : Nat) : Int) + dp - 1).toNat := Nat.pow_le_pow_right (by omega) (by omega)
 have b2 : 10 ^ (((5000 : Nat) : Int) + dp0).toNat ≤ 10 ^ 5000 * 10 ^ 310 := by rw [← Nat.pow_add]; exact Nat.pow_le_pow_right (by omega) (by omega)
 have c : 10 ^ 5000 * 2 ^ x < 10 ^ 5000 * 2 ^ (1030 + y) := by
  refine Nat.lt_of_le_of_lt (Nat.mul_le_mul_right _ (Nat.le_trans b1 a1)) ?_
  rw [e1, Nat.pow_add, ← Nat.mul_assoc]
  refine Nat.mul_lt_mul_of_pos_right ?_ (Nat.pow_pos (by omega))
  refine Nat.lt_of_lt_of_le a2 (Nat.le_trans b2 (Nat.mul_le_mul_left _ (Nat.le_of_lt c1030)))
 have := (Nat.pow_lt_pow_iff_right (by omega : 1 < 2)).1 (Nat.lt_of_mul_lt_mul_left c)
 omega
set_option exponentiation.threshold 6000 in
theorem Sc.above (h : Sc ds0 dp0 ds dp e F) (hc0 : Canon ds0) (hf0 : (ds0.length : Int) - dp0 ≤ 5000) (hdp0 : -330 ≤ dp0) (hdp : dp ≤ 0) : -1100 < e := by
 obtain ⟨x, y, hxy, e1⟩ := h.eq
 have h1 := h.fr; have h3 := h.F5
 have p0 := hc0.pos
 have a1 := ival_ge (K := 5000) (dp := dp0) hc0 (by omega)
 have a2 := ival_lt (K := 5000) (dp := dp) h.canon.dig (by omega)
 have b1 : 10 ^ 5000 ≤ 10 ^ (((5000 : Nat) : Int) + dp0 - 1).toNat * 10 ^ 331 := by rw [← Nat.pow_add]; exact Nat.pow_le_pow_right (by omega) (by omega)
 have b2 : 10 ^ (((5000 : Nat) : Int) + dp).toNat ≤ 10 ^ 5000 := Nat.pow_le_pow_right (by omega) (by omega)
 have c : 10 ^ 5000 * 2 ^ y < 10 ^ 5000 * 2 ^ (1100 + x) := by
  have q1 : 10 ^ 5000 * 2 ^ y ≤ ival 5000 ds0 dp0 * 2 ^ y * 10 ^ 331 := by
   rw [Nat.mul_right_comm]
   exact Nat.mul_le_mul_right _ (Nat.le_trans b1 (Nat.mul_le_mul_right _ a1))
  rw [← e1] at q1
  refine Nat.lt_of_le_of_lt q1 ?_
  rw [Nat.pow_add, Nat.mul_assoc, Nat.mul_comm (2 ^ x)]
  have q2 : ival 5000 ds dp < 10 ^ 5000 := Nat.lt_of_lt_of_le a2 b2
  have q3 : 0 < 10 ^ 331 * 2 ^ x := Nat.mul_pos (Nat.pow_pos (by omega)) (Nat.pow_pos (by omega))
  exact Nat.lt_of_lt_of_le (Nat.mul_lt_mul_of_pos_right q2 q3) (Nat.mul_le_mul_left _ (Nat.mul_le_mul_right _ (Nat.le_of_lt c1100)))
 have := (Nat.pow_lt_pow_iff_right (by omega : 1 < 2)).1 (Nat.lt_of_mul_lt_mul_left c)
 omega
theorem doubled_low (H : Doubled k ds dp ds' dp') (hc : Canon ds) (hdp : dp ≤ 0) (hk : (dp < 0 ∧ (k : Int) ≤ -3 * dp) ∨ (dp = 0 ∧ dig0 ds 0 < 5 ∧ k = 1)) : dp' ≤ 0 := by
 have hf := H.frac
 have p1 := hc.pos; have p2 := H.canon.pos
 obtain ⟨K, hK⟩ : ∃ K : Nat, 0 ≤ (K : Int) + dp - ds.length := ⟨((ds.length : Int) - dp).toNat, by omega⟩
 have e := H.val K hK
 have a2 := ival_lt hc.dig hK
 have b1 := ival_ge (K := K) (dp := dp') H.canon (by omega)
 have q : ival K ds' dp' < 10 ^ K := by
  rw [e]
  rcases hk with ⟨hn, hk⟩ | ⟨h0, h5, rfl⟩
  ·obtain ⟨n, hn⟩ : ∃ n : Nat, dp = -(n : Int) := ⟨(-dp).toNat, by omega⟩
   have k1 : 2 ^ k ≤ 10 ^ n := by
    refine Nat.le_trans (Nat.pow_le_pow_right (by omega) (show k ≤ 3 * n by omega)) ?_
    rw [Nat.pow_mul]; exact Nat.pow_le_pow_left (by decide) n
   have k2 : 10 ^ n * 10 ^ ((K : Int) + dp).toNat = 10 ^ K := by rw [← Nat.pow_add]; congr 1; omega
   rw [← k2]
   exact Nat.lt_of_le_of_lt (Nat.mul_le_mul_right _ k1) (Nat.mul_lt_mul_of_pos_left a2 (Nat.pow_pos (by omega)))
  ·have f := (ival_first hc.dig hc.pos hK).2
   have : 10 ^ K = 10 * 10 ^ ((K : Int) + dp - 1).toNat := by rw [Nat.mul_comm, ← Nat.pow_succ]; congr 1; omega
   have h6 : (dig0 ds 0 + 1) * 10 ^ ((K : Int) + dp - 1).toNat ≤ 5 * 10 ^ ((K : Int) + dp - 1).toNat := Nat.mul_le_mul_right _ (by omega)
   rw [this]; omega
 have := pow10_lt (Nat.lt_of_le_of_lt b1 q)
 omega
end
structure Ready (ds0 : List UInt8) (dp0 : Int) (ds : List UInt8) (dp E : Int) : Prop where
 sc : Sc ds0 dp0 ds dp E 5000
 lt : dp ≤ 0
 ge : -1021 ≤ E
 nrm : E = -1021 ∨ 10 ^ 5000 ≤ 2 * ival 5000 ds dp
section
variable {ds0 ds ds' : List UInt8} {dp0 dp dp' E : Int} {d : Nat × Int} {m : Nat}
set_option exponentiation.threshold 6000 in
theorem Ready.over (h : Ready ds0 dp0 ds dp E) (hs : SameDec ds0 dp0 d) (hf0 : (ds0.length : Int) - dp0 ≤ 5000) (neg : Bool) (hE : 1025 ≤ E) : FltIs neg d none := by
 refine flt_none ?_
 obtain ⟨x, y, hxy, e1⟩ := h.sc.eq
 have e := same_frac (K := 5000) hs (by omega)
 have hn := h.nrm.resolve_left (by omega)
 have hp : 0 < 10 ^ 5000 * 2 ^ y := Nat.mul_pos (Nat.pow_pos (by omega)) (Nat.pow_pos (by omega))
 refine Nat.le_of_mul_le_mul_right (c := 10 ^ 5000 * 2 ^ y) ?_ hp
 rw [← Nat.mul_assoc (fracA d), ← e]
 have q1 : ival 5000 ds0 dp0 * (fracB d * 2 ^ 1075) * 2 ^ y = ival 5000 ds dp * 2 ^ x * (fracB d * 2 ^ 1075) := by rw [e1]; simp only [Nat.mul_assoc, Nat.mul_comm, Nat.mul_left_comm]
 rw [q1]
 obtain ⟨z, hz⟩ : ∃ z, x = 1025 + y + z := ⟨x - 1025 - y, by omega⟩
 have q2 : 2 ^ 2099 * fracB d * (10 ^ 5000 * 2 ^ y) = 10 ^ 5000 * (2 ^ 1024 * 2 ^ y) * (fracB d * 2 ^ 1075) := by
  rw [show 2099 = 1024 + 1075 by rfl, Nat.pow_add]; simp only [Nat.mul_assoc, Nat.mul_comm, Nat.mul_left_comm]
 rw [q2]
 refine Nat.mul_le_mul_right _ ?_
 have q3 : 10 ^ 5000 * (2 ^ 1024 * 2 ^ y) ≤ 2 * ival 5000 ds dp * (2 ^ 1024 * 2 ^ y) := Nat.mul_le_mul_right _ hn
 refine Nat.le_trans q3 ?_
 have q4 : 2 * ival 5000 ds dp * (2 ^ 1024 * 2 ^ y) = ival 5000 ds dp * 2 ^ (1025 + y) := by
  rw [Nat.pow_add, Nat.pow_succ 2 1024]; simp only [Nat.mul_assoc, Nat.mul_comm, Nat.mul_left_comm]
 rw [q4]
 exact Nat.mul_le_mul_left _ (Nat.pow_le_pow_right (by omega) (by omega))
set_option exponentiation.threshold 6000 in
theorem Ready.near (h : Ready ds0 dp0 ds dp E) (hs : SameDec ds0 dp0 d) (hf0 : (ds0.length : Int) - dp0 ≤ 5000) (H : Doubled 53 ds dp ds' dp')
  (hm : Rne (2 * ival 5000 ds' dp') (10 ^ 5000) m) : Near (fracA d) (fracB d) ((E + 1021).toNat * 2 ^ 52 + m) ∧ m ≤ 2 ^ 53 ∧ (E = -1021 ∨ 2 ^ 52 ≤ m) := by
 obtain ⟨x, y, hxy, e1⟩ := h.sc.eq
 have hfr := h.sc.fr
 have e := same_frac (K := 5000) hs (by omega)
 have hv := H.val 5000 (by omega)
 have hge := h.ge
 have hlt : ival 5000 ds dp < 10 ^ 5000 := Nat.lt_of_lt_of_le (ival_lt h.sc.canon.dig (by omega)) (Nat.pow_le_pow_right (by omega) (by have := h.lt; omega))
 have hQ : 0 < 10 ^ 5000 := Nat.pow_pos (by omega)
 have hi : 2 * ival 5000 ds' dp' < 2 ^ 54 * 10 ^ 5000 := by
  rw [hv]
  generalize ival 5000 ds dp = I at *
  generalize 10 ^ 5000 = Q at *
  omega
 have lo : (E + 1021).toNat = 0 ∨ 2 ^ 53 * 10 ^ 5000 ≤ 2 * ival 5000 ds' dp' := by
  rcases h.nrm with h1 | h1
  ·left; omega
  ·right
   rw [hv]
   generalize ival 5000 ds dp = I at *
   generalize 10 ^ 5000 = Q at *
   omega
 refine ⟨near_ratio hQ (fracB_pos d) ?_ lo hi hm, rne_lt hQ hi hm, ?_⟩
 ·refine Nat.eq_of_mul_eq_mul_right (show 0 < 2 ^ y from Nat.pow_pos (by omega)) ?_
  rw [← e, hv]
  have q1 : ival 5000 ds0 dp0 * (fracB d * 2 ^ 1075) * 2 ^ y = ival 5000 ds dp * fracB d * 2 ^ (x + 1075) := by
   rw [Nat.pow_add]
   have : ival 5000 ds0 dp0 * (fracB d * 2 ^ 1075) * 2 ^ y = ival 5000 ds0 dp0 * 2 ^ y * (fracB d * 2 ^ 1075) := by simp only [Nat.mul_assoc, Nat.mul_comm, Nat.mul_left_comm]
   rw [this, ← e1]; simp only [Nat.mul_assoc, Nat.mul_comm, Nat.mul_left_comm]
  have q2 : 2 * (2 ^ 53 * ival 5000 ds dp) * (fracB d * 2 ^ (E + 1021).toNat) * 2 ^ y = ival 5000 ds dp * fracB d * 2 ^ (54 + (E + 1021).toNat + y) := by
   rw [Nat.pow_add, Nat.pow_add, Nat.pow_succ 2 53]; simp only [Nat.mul_assoc, Nat.mul_comm, Nat.mul_left_comm]
  have hx : x + 1075 = 54 + (E + 1021).toNat + y := by omega
  rw [q1, q2, hx]
 ·rcases lo with h1 | h1
  ·left; omega
  ·exact Or.inr (rne_ge hQ h1 hm)
end
theorem ival_more {K : Nat} {ds : List UInt8} {dp : Int} (j : Nat) (hK : 0 ≤ (K : Int) + dp - ds.length) : ival (K + j) ds dp = ival K ds dp * 10 ^ j := by
 unfold ival
 rw [Nat.mul_assoc, ← Nat.pow_add]
 congr 2; omega
theorem Halved.refl {ds : List UInt8} {dp : Int} (hc : Canon ds) : Halved 0 ds dp ds dp := ⟨hc, by omega, fun K _ _ => by rw [Nat.pow_zero, Nat.one_mul]⟩
theorem Halved.trans {k1 k2 : Nat} {a b c : List UInt8} {pa pb pc : Int} (h1 : Halved k1 a pa b pb) (h2 : Halved k2 b pb c pc) : Halved (k1 + k2) a pa c pc := by
 refine ⟨h2.canon, by have := h1.frac; have := h2.frac; omega, ?_⟩
 intro K hK1 hK2
 obtain ⟨j, hj⟩ : ∃ j : Nat, 0 ≤ ((K + j : Nat) : Int) + pb - b.length := ⟨((b.length : Int) - pb).toNat, by omega⟩
 have e1 := h1.val (K + j) (by omega) hj
 have e2 := h2.val (K + j) hj (by omega)
 rw [e2, ival_more j hK1, ival_more j hK2] at e1
 refine Nat.eq_of_mul_eq_mul_right (show 0 < 10 ^ j from Nat.pow_pos (by omega)) ?_
 rw [e1, Nat.pow_add]
 simp only [Nat.mul_assoc]
end Go.Proofs.YtillamhoakohdaaGreatDoor
namespace Go.Proofs.YtillamhoakohdaaGreatDoor

def scan : Bool → Bool → Bs → Int → Bs → Bool × Bs × Int × Bs
  | _, some', ds, dp, [] => (some', ds, dp, [])
  | dot, some', ds, dp, c :: l =>
    if c = 95 then scan dot some' ds dp l
    else if c = 46 ∧ dot = false then scan true some' ds dp l
    else if isDig c = true then
      (if ds ≠ [] ∨ c ≠ 48 then scan dot true (ds ++ [c - 48]) (if dot = true then dp else dp + 1) l
       else scan dot true ds (if dot = true then dp - 1 else dp) l)
    else (some', ds, dp, c :: l)
def expGo : Nat → Bs → Nat × Bs
 | e, [] => (e, [])
 | e, c :: l => if isDig c = true then expGo (if e < 10000 then e * 10 + (c.toNat - 48) else e) l else if c = 95 then expGo e l else (e, c :: l)
def hd (l : Bs) : Bool := match l with | c :: _ => isDig c | [] => false
def expR (l : Bs) : Option Int :=
 match l with
 | [] => some 0
 | c :: r => if c = 101 ∨ c = 69 then
   (if hd (sgn r).1 = true ∧ (expGo 0 (sgn r).1).2 = [] then some (if (sgn r).2.1 = true then -((expGo 0 (sgn r).1).1 : Int) else ((expGo 0 (sgn r).1).1 : Int)) else none)
  else none
def readP (t : Bs) : Option (Bs × Int) :=
 let s := scan false false [] 0 t
 if s.1 = true then (expR s.2.2.2).map fun e => (s.2.1, s.2.2.1 + e) else none

theorem isDig_eq (c : UInt8) : isDig c = decide (48 ≤ c.toNat ∧ c.toNat ≤ 57) := by
 unfold isDig; first | rfl | (rw [Bool.eq_iff_iff]; simp)
theorem bare_cons_yes {c : UInt8} {l : Bs} (h : c ≠ 95) : bare (c :: l) = c :: bare l := by unfold bare; rw [List.filter_cons]; simp [h]
theorem bare_cons_no (l : Bs) : bare (95 :: l) = bare l := by unfold bare; rw [List.filter_cons]; simp
theorem isDig_95 : isDig 95 = false := by decide
theorem isDig_ne95 {c : UInt8} (h : isDig c = true) : c ≠ 95 := by rintro rfl; exact absurd h (by decide)
theorem isDig_ne46 {c : UInt8} (h : isDig c = true) : c ≠ 46 := by rintro rfl; exact absurd h (by decide)

theorem scan_bare : ∀ (l : Bs) (dot sm : Bool) (ds : Bs) (dp : Int),
  scan dot sm ds dp (bare l) = ((scan dot sm ds dp l).1, (scan dot sm ds dp l).2.1, (scan dot sm ds dp l).2.2.1, bare (scan dot sm ds dp l).2.2.2)
 | [], dot, sm, ds, dp => by simp [bare, scan]
 | c :: l, dot, sm, ds, dp => by
  by_cases h1 : c = 95
  ·subst h1; rw [bare_cons_no, scan_bare l]; simp only [scan, if_true]
  ·rw [bare_cons_yes h1, scan, scan, if_neg h1, if_neg h1]
   by_cases h2 : c = 46 ∧ dot = false
   ·rw [if_pos h2, if_pos h2, scan_bare l]
   ·rw [if_neg h2, if_neg h2]
    by_cases h3 : isDig c = true
    ·rw [if_pos h3, if_pos h3]
     by_cases h4 : ds ≠ [] ∨ c ≠ 48
     ·rw [if_pos h4, if_pos h4, scan_bare l]
     ·rw [if_neg h4, if_neg h4, scan_bare l]
    ·rw [if_neg h3, if_neg h3, bare_cons_yes h1]
theorem uok_tail {k : Nat} {c : UInt8} {l : Bs} (h : uok k (c :: l) = true) : ∃ k', uok k' l = true := by
 unfold uok at h
 split at h
 ·exact ⟨_, h⟩
 ·split at h
  ·split at h
   ·exact ⟨_, h⟩
   ·cases h
  ·split at h
   ·cases h
   ·exact ⟨_, h⟩
theorem scan_uok : ∀ (l : Bs) (dot sm : Bool) (ds : Bs) (dp : Int) (k : Nat), uok k l = true → ∃ k', uok k' (scan dot sm ds dp l).2.2.2 = true
 | [], _, _, _, _, k, h => ⟨k, h⟩
 | c :: l, dot, sm, ds, dp, k, h => by
  obtain ⟨k', h'⟩ := uok_tail h
  rw [scan]
  split
  ·exact scan_uok l _ _ _ _ k' h'
  ·split
   ·exact scan_uok l _ _ _ _ k' h'
   ·split
    ·split
     ·exact scan_uok l _ _ _ _ k' h'
     ·exact scan_uok l _ _ _ _ k' h'
    ·exact ⟨k, h⟩
theorem expGo_bare : ∀ (l : Bs) (e : Nat), expGo e (bare l) = ((expGo e l).1, bare (expGo e l).2)
 | [], e => by simp [bare, expGo]
 | c :: l, e => by
  by_cases h1 : c = 95
  ·subst h1; rw [bare_cons_no, expGo_bare l]; simp [expGo, isDig_95]
  ·rw [bare_cons_yes h1, expGo, expGo]
   by_cases h2 : isDig c = true
   ·rw [if_pos h2, if_pos h2, expGo_bare l]
   ·rw [if_neg h2, if_neg h2, if_neg h1, if_neg h1, bare_cons_yes h1]
theorem expGo_end : ∀ (l : Bs) (e : Nat), (expGo e l).2 = [] ∨ ∃ c r, (expGo e l).2 = c :: r ∧ c ≠ 95
 | [], e => Or.inl rfl
 | c :: l, e => by
  rw [expGo]
  split
  ·exact expGo_end l _
  ·split
   ·exact expGo_end l _
   ·rename_i h; exact Or.inr ⟨c, l, rfl, h⟩
theorem expGo_nil (l : Bs) (e : Nat) : ((expGo e (bare l)).2 = []) ↔ ((expGo e l).2 = []) := by
 rw [expGo_bare]
 constructor
 ·intro h
  rcases expGo_end l e with h1 | ⟨c, r, h1, h2⟩
  ·exact h1
  ·simp only at h; rw [h1, bare_cons_yes h2] at h; cases h
 ·intro h; simp only; rw [h]; rfl
theorem uok_two_ne {c : UInt8} {r : Bs} (h : uok 2 (c :: r) = true) : c ≠ 95 := by
 rintro rfl
 unfold uok at h
 rw [if_neg (by rw [isDig_95]; decide), if_pos rfl, if_neg (by decide)] at h
 cases h
theorem sgn_cons (c : UInt8) (r : Bs) : sgn (c :: r) = if c = 45 then (r, true, true) else if c = 43 then (r, false, true) else (c :: r, false, false) := rfl
theorem decN_cons (n : Nat) (c : UInt8) (l : Bs) : decN n (c :: l) = decN (10 * n + (c.toNat - 48)) l := by conv => lhs; unfold decN
theorem uok_cons_other {k : Nat} {c : UInt8} {r : Bs} (h : uok k (c :: r) = true) (h1 : ¬ isDig c = true) (h2 : c ≠ 95) : uok 2 r = true := by
 unfold uok at h
 rw [if_neg h1, if_neg h2] at h
 split at h
 ·cases h
 ·exact h
theorem sgn_bare {l : Bs} (h : uok 2 l = true) : sgn (bare l) = (bare (sgn l).1, (sgn l).2.1, (sgn l).2.2) ∧ uok 2 (sgn l).1 = true := by
 cases l with
 | nil => exact ⟨rfl, h⟩
 | cons c r =>
  have h1 := uok_two_ne h
  rw [bare_cons_yes h1, sgn_cons, sgn_cons]
  by_cases h2 : c = 45
  ·rw [if_pos h2, if_pos h2]
   exact ⟨rfl, uok_cons_other h (by rw [h2]; decide) h1⟩
  ·rw [if_neg h2, if_neg h2]
   by_cases h3 : c = 43
   ·rw [if_pos h3, if_pos h3]
    exact ⟨rfl, uok_cons_other h (by rw [h3]; decide) h1⟩
   ·rw [if_neg h3, if_neg h3]
    exact ⟨by rw [bare_cons_yes h1], h⟩
theorem hd_bare {l : Bs} (h : uok 2 l = true) : hd (bare l) = hd l := by
 cases l with
 | nil => rfl
 | cons c r => rw [bare_cons_yes (uok_two_ne h)]; rfl
theorem expR_bare {l : Bs} {k : Nat} (h : uok k l = true) (hl : ∀ c r, l = c :: r → c ≠ 95) : expR (bare l) = expR l := by
 cases l with
 | nil => rfl
 | cons c r =>
  rw [bare_cons_yes (hl c r rfl)]
  unfold expR
  by_cases he : c = 101 ∨ c = 69
  ·have hu : uok 2 r = true := uok_cons_other h (by rcases he with rfl | rfl <;> decide) (hl c r rfl)
   obtain ⟨h3, h4⟩ := sgn_bare hu
   have q1 := expGo_nil (sgn r).1 0
   have q2 : (expGo 0 (bare (sgn r).1)).1 = (expGo 0 (sgn r).1).1 := by rw [expGo_bare]
   simp only [if_pos he, h3, hd_bare h4, q1, q2]
  ·simp only [if_neg he]
theorem scan_end : ∀ (l : Bs) (dot sm : Bool) (ds : Bs) (dp : Int) (c : UInt8) (r : Bs), (scan dot sm ds dp l).2.2.2 = c :: r → c ≠ 95
 | [], _, _, _, _, _, _, h => by cases h
 | x :: l, dot, sm, ds, dp, c, r, h => by
  rw [scan] at h
  split at h
  ·exact scan_end l _ _ _ _ c r h
  ·rename_i h95
   split at h
   ·exact scan_end l _ _ _ _ c r h
   ·split at h
    ·split at h
     ·exact scan_end l _ _ _ _ c r h
     ·exact scan_end l _ _ _ _ c r h
    ·simp only [List.cons.injEq] at h; rw [← h.1]; exact h95
theorem readP_bare {t : Bs} (h : uok 2 t = true) : readP (bare t) = readP t := by
 unfold readP
 rw [scan_bare]
 simp only
 obtain ⟨k, hk⟩ := scan_uok t false false [] 0 2 h
 rw [expR_bare hk (scan_end t _ _ _ _)]

structure Scanned (ds : Bs) (dp : Int) (n f : Nat) : Prop where
 dig : Dig ds
 head : ds = [] ∨ dig0 ds 0 ≠ 0
 num : decV ds = n
 pt : dp = ds.length - f
theorem sub48 {c : UInt8} (h : isDig c = true) : (c - 48).toNat = c.toNat - 48 ∧ c.toNat - 48 < 10 := by
 rw [isDig_eq] at h
 simp at h
 rw [UInt8.toNat_sub_of_le _ _ (by rw [UInt8.le_iff_toNat_le]; exact h.1)]
 have : (48 : UInt8).toNat = 48 := rfl
 omega
theorem Scanned.step {ds : Bs} {dp : Int} {n f : Nat} (h : Scanned ds dp n f) {c : UInt8} (hc : isDig c = true) (dot : Bool) :
  (ds ≠ [] ∨ c ≠ 48 → Scanned (ds ++ [c - 48]) (if dot = true then dp else dp + 1) (10 * n + (c.toNat - 48)) (if dot = true then f + 1 else f)) ∧
  (¬ (ds ≠ [] ∨ c ≠ 48) → Scanned ds (if dot = true then dp - 1 else dp) (10 * n + (c.toNat - 48)) (if dot = true then f + 1 else f)) := by
 have h48 := sub48 hc
 constructor
 ·intro h1
  refine ⟨?_, Or.inr ?_, by rw [decV_snoc, h.num, h48.1], ?_⟩
  ·intro d hd
   rcases List.mem_append.1 hd with h2 | h2
   ·exact h.dig d h2
   ·rw [List.mem_singleton.1 h2, h48.1]; exact h48.2
  ·cases ds with
   | nil =>
    show (c - 48).toNat ≠ 0
    rw [h48.1]
    have : c ≠ 48 := h1.resolve_left (fun h => h rfl)
    have : c.toNat ≠ 48 := fun e => this (UInt8.toNat_inj.1 e)
    rw [isDig_eq] at hc; simp at hc
    omega
   | cons d r => exact h.head.resolve_left (by simp)
  ·have := h.pt
   rw [List.length_append, List.length_singleton]
   cases dot <;> simp <;> omega
 ·intro h1
  have h2 : ds = [] := Classical.byContradiction fun h3 => h1 (Or.inl h3)
  have h3 : c = 48 := Classical.byContradiction fun h3 => h1 (Or.inr h3)
  subst h2 h3
  have hn := h.num
  have hp := h.pt
  rw [show decV ([] : Bs) = 0 from rfl] at hn
  refine ⟨h.dig, Or.inl rfl, ?_, ?_⟩
  ·rw [← hn]; decide
  ·cases dot <;> simp at hp ⊢ <;> omega
theorem digits_cons_yes {c : UInt8} {l : Bs} (h : isDig c = true) : digits (c :: l) = digits l + 1 := by
 rw [isDig_eq] at h; simp at h; rw [digits, if_pos h]
theorem digits_cons_no {c : UInt8} {l : Bs} (h : ¬ isDig c = true) : digits (c :: l) = 0 := by
 rw [isDig_eq] at h; simp at h; rw [digits, if_neg (by omega)]
theorem scan_digits : ∀ (l : Bs) (dot sm : Bool) (ds : Bs) (dp : Int) (n f : Nat), Scanned ds dp n f →
  ∃ ds' dp', scan dot sm ds dp l = scan dot (sm || decide (digits l ≠ 0)) ds' dp' (l.drop (digits l)) ∧ Scanned ds' dp' (decN n (l.take (digits l))) (if dot = true then f + digits l else f)
 | [], dot, sm, ds, dp, n, f, h => ⟨ds, dp, by rw [show digits [] = 0 from rfl]; cases sm <;> rfl, by rw [show digits [] = 0 from rfl]; cases dot <;> exact h⟩
 | c :: l, dot, sm, ds, dp, n, f, h => by
  by_cases hc : isDig c = true
  ·rw [digits_cons_yes hc, scan, if_neg (isDig_ne95 hc), if_neg (fun h => isDig_ne46 hc h.1), if_pos hc]
   by_cases h1 : ds ≠ [] ∨ c ≠ 48
   ·rw [if_pos h1]
    obtain ⟨ds', dp', e1, e2⟩ := scan_digits l dot true _ _ _ _ ((h.step hc dot).1 h1)
    refine ⟨ds', dp', by rw [e1, List.drop_succ_cons, Bool.true_or, show decide (digits l + 1 ≠ 0) = true by simp, Bool.or_true], ?_⟩
    rw [List.take_succ_cons, decN_cons]
    cases dot
    ·exact e2
    ·simp only [if_true] at e2 ⊢; rw [show f + (digits l + 1) = f + 1 + digits l by omega]; exact e2
   ·rw [if_neg h1]
    obtain ⟨ds', dp', e1, e2⟩ := scan_digits l dot true _ _ _ _ ((h.step hc dot).2 h1)
    refine ⟨ds', dp', by rw [e1, List.drop_succ_cons, Bool.true_or, show decide (digits l + 1 ≠ 0) = true by simp, Bool.or_true], ?_⟩
    rw [List.take_succ_cons, decN_cons]
    cases dot
    ·exact e2
    ·simp only [if_true] at e2 ⊢; rw [show f + (digits l + 1) = f + 1 + digits l by omega]; exact e2
  ·rw [digits_cons_no hc]
   exact ⟨ds, dp, by cases sm <;> rfl, by cases dot <;> exact h⟩
theorem decN_append : ∀ (a b : Bs) (n : Nat), decN n (a ++ b) = decN (decN n a) b
 | [], b, n => rfl
 | c :: a, b, n => by rw [List.cons_append, decN_cons, decN_cons, decN_append a b]
theorem drop_digits : ∀ (l : Bs), ∀ c r, l.drop (digits l) = c :: r → ¬ isDig c = true
 | [], c, r, h => by simp at h
 | x :: l, c, r, h => by
  by_cases hx : isDig x = true
  ·rw [digits_cons_yes hx] at h; exact drop_digits l c r h
  ·rw [digits_cons_no hx] at h; simp only [List.drop_zero, List.cons.injEq] at h; rw [← h.1]; exact hx
theorem scan_bareIs (b : Bs) (hb : ∀ c ∈ b, c ≠ 95) : ∃ ds dp, scan false false [] 0 b = (decide ((dotted (digits b) (b.drop (digits b))).2 ≠ 0), ds, dp, (dotted (digits b) (b.drop (digits b))).1) ∧
  (dotted (digits b) (b.drop (digits b))).1 = (parts b).2.2 ∧ Scanned ds dp (decN 0 ((parts b).1 ++ (parts b).2.1)) (parts b).2.1.length := by
 have s0 : Scanned [] 0 0 0 := ⟨by simp [Dig], Or.inl rfl, rfl, rfl⟩
 obtain ⟨ds, dp, e1, h1⟩ := scan_digits b false false [] 0 0 0 s0
 simp only [Bool.false_or, Bool.false_eq_true, if_false] at e1 h1
 rw [e1]
 have hdrop : ∀ c r, b.drop (digits b) = c :: r → ¬ isDig c = true := drop_digits b
 unfold parts
 cases hq : b.drop (digits b) with
 | nil => exact ⟨ds, dp, rfl, rfl, by simpa using h1⟩
 | cons c r =>
  have hcm : c ∈ b := List.mem_of_mem_drop (by rw [hq]; exact List.mem_cons_self)
  have hc95 := hb c hcm
  have hnd := hdrop c r hq
  by_cases h46 : c = 46
  ·subst h46
   rw [scan, if_neg hc95, if_pos ⟨rfl, rfl⟩]
   obtain ⟨ds2, dp2, e2, h2⟩ := scan_digits r true (decide (digits b ≠ 0)) ds dp _ _ h1
   simp only [if_true, Nat.zero_add] at e2 h2
   rw [e2]
   have hdr : ∀ x y, r.drop (digits r) = x :: y → ¬ isDig x = true := drop_digits r
   refine ⟨ds2, dp2, ?_, by simp [dotted], ?_⟩
   ·simp only [dotted, if_true]
    have hsm : (decide (digits b ≠ 0) || decide (digits r ≠ 0)) = decide (digits b + digits r ≠ 0) := by
     rw [Bool.eq_iff_iff]; simp; try omega
    rw [hsm]
    cases hq2 : r.drop (digits r) with
    | nil => simp [scan]
    | cons x y =>
     have hx95 : x ≠ 95 := hb x (List.mem_of_mem_drop (by rw [hq]; exact List.mem_cons_of_mem _ (List.mem_of_mem_drop (by rw [hq2]; exact List.mem_cons_self))))
     rw [scan, if_neg hx95, if_neg (by simp), if_neg (hdr x y hq2)]
   ·simp only [if_true]
    rw [decN_append, List.length_take, Nat.min_eq_left (digits_le r)]
    exact h2
  ·refine ⟨ds, dp, ?_, ?_, ?_⟩
   ·rw [scan, if_neg hc95, if_neg (fun h => h46 h.1), if_neg hnd]
    simp [dotted, h46]
   ·simp [dotted, h46]
   ·simp only [if_neg h46]; simpa using h1
theorem expGo_all : ∀ (l : Bs) (e : Nat), (∀ c ∈ l, c ≠ 95) → ((expGo e l).2 = [] ↔ l.drop (digits l) = []) ∧ (l.drop (digits l) = [] → (expGo e l).1 = expN e l)
 | [], e, _ => ⟨by simp [expGo, digits], fun _ => rfl⟩
 | c :: l, e, h => by
  by_cases hc : isDig c = true
  ·have ih := expGo_all l (if e < 10000 then e * 10 + (c.toNat - 48) else e) (fun x hx => h x (List.mem_cons_of_mem _ hx))
   rw [digits_cons_yes hc, expGo, if_pos hc]
   exact ih
  ·rw [digits_cons_no hc, expGo, if_neg hc, if_neg (h c List.mem_cons_self)]
   simp
theorem sgn_mem {l : Bs} (h : ∀ c ∈ l, c ≠ 95) : ∀ c ∈ (sgn l).1, c ≠ 95 := by
 intro c hc
 cases l with
 | nil => exact h c hc
 | cons x r =>
  rw [sgn_cons] at hc
  by_cases h1 : x = 45
  ·rw [if_pos h1] at hc; exact h c (List.mem_cons_of_mem _ hc)
  ·rw [if_neg h1] at hc
   by_cases h2 : x = 43
   ·rw [if_pos h2] at hc; exact h c (List.mem_cons_of_mem _ hc)
   ·rw [if_neg h2] at hc; exact h c hc
theorem expR_is (l : Bs) (h : ∀ c ∈ l, c ≠ 95) : expR l = if expo l = true then some (tenTo l) else none := by
 cases l with
 | nil => rfl
 | cons c r =>
  unfold expR expo tenTo
  by_cases he : c = 101 ∨ c = 69
  ·simp only [if_pos he]
   have hm := sgn_mem (l := r) (fun x hx => h x (List.mem_cons_of_mem _ hx))
   have ih := expGo_all (sgn r).1 0 hm
   have hh : hd (sgn r).1 = decide (digits (sgn r).1 ≠ 0) := by
    unfold hd
    cases (sgn r).1 with
    | nil => simp [digits]
    | cons x y =>
     by_cases hx : isDig x = true
     ·rw [digits_cons_yes hx]; show isDig x = _; rw [hx]; simp
     ·rw [digits_cons_no hx]; show isDig x = _; simp at hx ⊢; exact hx
   have h2 : ((expGo 0 (sgn r).1).2 = []) ↔ (((sgn r).1.drop (digits (sgn r).1)).isEmpty = true) := by rw [ih.1, List.isEmpty_iff]
   by_cases h3 : hd (sgn r).1 = true ∧ (expGo 0 (sgn r).1).2 = []
   ·have q : (decide (digits (sgn r).1 ≠ 0) && ((sgn r).1.drop (digits (sgn r).1)).isEmpty) = true := by rw [Bool.and_eq_true, ← hh]; exact ⟨h3.1, h2.1 h3.2⟩
    rw [if_pos h3, if_pos q, ih.2 (ih.1.1 h3.2)]
   ·have q : ¬ (decide (digits (sgn r).1 ≠ 0) && ((sgn r).1.drop (digits (sgn r).1)).isEmpty) = true := by rw [Bool.and_eq_true, ← hh]; exact fun h4 => h3 ⟨h4.1, h2.2 h4.2⟩
    rw [if_neg h3, if_neg q]
  ·simp [if_neg he]
theorem bare_mem (l : Bs) : ∀ c ∈ bare l, c ≠ 95 := by
 intro c hc; unfold bare at hc; have := (List.mem_filter.1 hc).2; simpa using this
theorem readP_is (l : Bs) (h : uok 2 l = true) :
  (real (bare l) = true → ∃ ds dp, readP (sgn l).1 = some (ds, dp) ∧ Dig ds ∧ (ds = [] ∨ dig0 ds 0 ≠ 0) ∧ SameDec ds dp (deci (sgn (bare l)).1)) ∧
  (real (bare l) = false → readP (sgn l).1 = none) := by
 obtain ⟨h1, h2⟩ := sgn_bare h
 rw [← readP_bare h2]
 have hb : bare (sgn l).1 = (sgn (bare l)).1 := by rw [h1]
 rw [hb]
 have hm := sgn_mem (bare_mem l)
 generalize (sgn (bare l)).1 = b at *
 have hreal : real (bare l) = (decide ((dotted (digits b) (b.drop (digits b))).2 ≠ 0) && expo (dotted (digits b) (b.drop (digits b))).1) := by
  unfold real; rw [← hb, h1]
 obtain ⟨ds, dp, e1, e2, h3⟩ := scan_bareIs b hm
 have hrm : ∀ c ∈ (parts b).2.2, c ≠ 95 := by
  rw [← e2]
  intro c hc
  refine hm c ?_
  unfold dotted at hc
  split at hc
  ·rename_i x r hq
   split at hc
   ·exact List.mem_of_mem_drop (by rw [hq]; exact List.mem_cons_of_mem _ (List.mem_of_mem_drop hc))
   ·exact List.mem_of_mem_drop (by rw [hq]; exact hc)
  ·cases hc
 have e3 : readP b = if decide ((dotted (digits b) (b.drop (digits b))).2 ≠ 0) = true then (expR (parts b).2.2).map fun e => (ds, dp + e) else none := by
  unfold readP; rw [e1]; simp only [e2]
 rw [e3, expR_is _ hrm, hreal, e2]
 constructor
 ·intro h4
  rw [Bool.and_eq_true] at h4
  rw [if_pos h4.1, if_pos h4.2]
  refine ⟨ds, dp + tenTo (parts b).2.2, rfl, h3.dig, h3.head, 0, 0, ?_, ?_⟩
  ·rw [Nat.pow_zero, Nat.mul_one, Nat.mul_one]; exact h3.num
  ·show ((0 : Nat) : Int) - ((0 : Nat) : Int) = (tenTo (parts b).2.2 - ((parts b).2.1.length : Int)) - (dp + tenTo (parts b).2.2) + ds.length
   have := h3.pt
   omega
 ·intro h4
  rw [Bool.and_eq_false_iff] at h4
  rcases h4 with h4 | h4
  ·rw [h4]; simp
  ·rw [h4]; simp
end Go.Proofs.YtillamhoakohdaaGreatDoor

/-
  Plain law: a whole number times a power of ten by the unrounded scaling has the nearest rung. Plain law: the model's floats (their reading, their writing, product and quotient) have the nearest rungs. Plain law: floats that are whole numbers; their product and their quotient.
-/
import Ieee.Arith
import Derived.Test.YtillamhoakohdaaGreatDoorM03
set_option linter.unusedVariables false
set_option linter.unusedSimpArgs false
namespace Go.Proofs.YtillamhoakohdaaGreatDoor

def stick (u : Nat) : Nat := u / 2 / 2 * 2 + (if u / 2 % 2 = 1 ∨ u % 2 = 1 then 1 else 0)
def rndN (u : Nat) : Nat := (u + 1 + u / 4 % 2) / 4
def lpI (p : Int) : Int := p * 108853 / 32768
def exI (b : Nat) (p : Int) : Int := min 1074 (53 - b - lpI p)
def uN (d : Nat) (p : Int) : Nat :=
 let r := powT[(p + 345).toNat]!
 uscaleN (d * 2 ^ (64 - (d.log2 + 1))) r.1 r.2.1 (61 - (d.log2 + 1 : Nat) - lpI p - exI (d.log2 + 1) p).toNat
def mN (d : Nat) (p : Int) : Nat := if 2 ^ 55 - 2 ≤ uN d p then rndN (stick (uN d p)) else rndN (uN d p)
def eN (d : Nat) (p : Int) : Int := if 2 ^ 55 - 2 ≤ uN d p then exI (d.log2 + 1) p - 1 else exI (d.log2 + 1) p
def scaledR (d : Nat) (p : Int) : Nat :=
 if 64 ≤ 61 - ((d.log2 + 1 : Nat) : Int) - lpI p - exI (d.log2 + 1) p then 0 else (1074 - eN d p).toNat * 2 ^ 52 + mN d p

theorem stk_ratio {a b a' b' u : Nat} (hb : 0 < b) (hb' : 0 < b') (e : a * b' = a' * b) (h : Stk a b u) : Stk a' b' u := by
 refine stk_scale hb ?_
 rw [← e, Nat.mul_comm b' b]
 unfold Stk at *
 rcases h with ⟨h1, h2⟩ | ⟨h1, h2, h3⟩
 ·exact Or.inl ⟨h1, by rw [h2, Nat.mul_assoc]⟩
 ·refine Or.inr ⟨h1, ?_, ?_⟩
  ·rw [← Nat.mul_assoc]; exact Nat.mul_lt_mul_of_pos_right h2 hb'
  ·rw [← Nat.mul_assoc]; exact Nat.mul_lt_mul_of_pos_right h3 hb'

theorem pw_up {z B : Nat} (h : z * (2 ^ 29 + 1) ≤ 2 ^ 64 * (B * 2 ^ 20)) : z * 2 ≤ B * 72057594036879360 := by omega
theorem pw_dn {z B : Nat} (h : 2 ^ 63 * B ≤ z * 2 ^ 10) : 2 ^ 53 * B ≤ z := by omega
theorem pw_u2 {z B T : Nat} (h : z * 2 ≤ B * 72057594036879360) (h1 : B * 1 ≤ T) (hB : 0 < B) : z < 2 ^ 55 * T := by omega
theorem pw_u3 {z B T : Nat} (h : z * 2 ≤ B * 72057594036879360) (h1 : B * 2 ≤ T) (hB : 0 < B) : z < 2 ^ 54 * T := by omega
theorem pw_u4 {z B T : Nat} (h : z * 2 ≤ B * 72057594036879360) (h1 : B * 2 ^ 56 ≤ T) (hB : 0 < B) : z < 1 * T := by omega
theorem pw_u5 {z B : Nat} (h : z * 2 ≤ B * 72057594036879360) : z * 2 ≤ 36028797018439680 * B * 2 := by omega
theorem pw_u6 {A Q m : Nat} (hQ : 0 < Q) (h : (2 * m - 1) * Q ≤ A) (h2 : A * 2 ≤ 36028797018439680 * Q) : m < 2 ^ 53 := by
 rcases Nat.lt_or_ge m (2 ^ 53) with hm | hm
 ·exact hm
 ·exfalso
  have h3 : (2 ^ 54 - 1) * Q ≤ (2 * m - 1) * Q := Nat.mul_le_mul_right _ (by omega)
  have h4 : (2 ^ 54 - 1) * Q ≤ A := Nat.le_trans h3 h
  clear h3 h
  omega
set_option exponentiation.threshold 6000 in
theorem near_scaled {d : Nat} {p : Int} (d0 : 0 < d) (d1 : d < 2 ^ 64) (p1 : -345 ≤ p) (p2 : p ≤ 310) : Near (fracA (d, p)) (fracB (d, p)) (scaledR d p) ∧
    (64 ≤ 61 - ((d.log2 + 1 : Nat) : Int) - lpI p - exI (d.log2 + 1) p ∨ (mN d p < 2 ^ 53 ∧ (mN d p < 2 ^ 52 → eN d p = 1074) ∧ -1200 ≤ eN d p ∧ eN d p ≤ 1074)) := by
  have hi : (p + 345).toNat < powT.length := by rw [powT_len]; omega
  have row := powT_ok _ hi
  unfold scaledR mN eN uN
  rw [getElem!_pos powT _ hi]
  generalize powT[(p + 345).toNat] = r at row ⊢
  obtain ⟨hi', lo, q, h⟩ := r
  simp only at row ⊢
  have hb1 : d.log2 + 1 ≤ 64 := by have := (Nat.log2_lt (by omega)).2 d1; omega
  have hd1 : 2 ^ d.log2 ≤ d := Nat.log2_self_le (by omega)
  have hd2 : d < 2 ^ (d.log2 + 1) := Nat.lt_log2_self
  generalize hb : d.log2 + 1 = b at *
  have x1 : 2 ^ 63 ≤ d * 2 ^ (64 - b) := by
    have : 2 ^ 63 = 2 ^ d.log2 * 2 ^ (64 - b) := by rw [← Nat.pow_add]; congr 1; omega
    rw [this]; exact Nat.mul_le_mul_right _ hd1
  have x2 : d * 2 ^ (64 - b) < 2 ^ 64 := by
    have : 2 ^ 64 = 2 ^ b * 2 ^ (64 - b) := by rw [← Nat.pow_add]; congr 1; omega
    rw [this]; exact Nat.mul_lt_mul_of_pos_right hd2 (Nat.pow_pos (by omega))
  have hlp : -1147 ≤ lpI p ∧ lpI p ≤ 1030 := by unfold lpI; omega
  have he : exI b p ≤ 1074 ∧ exI b p ≤ 53 - b - lpI p ∧ (exI b p = 1074 ∨ exI b p = 53 - b - lpI p) := by unfold exI; omega
  obtain ⟨t, ht⟩ : ∃ t : Nat, (t : Int) = 53 - b - lpI p - exI b p := ⟨(53 - b - lpI p - exI b p).toNat, by omega⟩
  obtain ⟨pp, hpp⟩ : ∃ pp : Nat, (pp : Int) = 1074 - exI b p := ⟨(1074 - exI b p).toNat, by omega⟩
  rw [show (61 - ((b : Nat) : Int) - lpI p - exI b p) = ((8 + t : Nat) : Int) by omega, Int.toNat_natCast]
  have stk := uscale_stk (t := t) row.hB row.p0 row.p1 row.p2 row.lo64 row.cert x1 x2
  generalize hA : powA (p + 345).toNat = A at *
  generalize hBB : powB (p + 345).toNat = B at *
  -- the number in both forms
  have fB : 0 < fracB (d, p) := fracB_pos _
  have cross : d * 2 ^ (64 - b) * A * (fracB (d, p) * 2 ^ pp) = fracA (d, p) * (B * 2 ^ t) := by
    unfold fracA fracB
    unfold lpI at ht hlp he
    by_cases h0 : 0 ≤ p
    · simp only [if_pos h0]
      have e1 : A = 10 ^ p.toNat := by rw [← hA]; unfold powA; rw [if_pos (by omega), show (p + 345).toNat - 345 = p.toNat by omega]
      have e2 : B = 2 ^ (10 + p.toNat * 108853 / 32768) := by rw [← hBB]; unfold powB; rw [if_pos (by omega), show (p + 345).toNat - 345 = p.toNat by omega]
      rw [e1, e2, ← Nat.pow_add, Nat.one_mul, Nat.mul_right_comm d, Nat.mul_assoc, Nat.mul_assoc (d * 10 ^ p.toNat), ← Nat.pow_add, ← Nat.pow_add]
      congr 2
      omega
    · simp only [if_neg h0]
      have e1 : A = 2 ^ (((-p).toNat * 108853 + 32767) / 32768) := by rw [← hA]; unfold powA; rw [if_neg (by omega), show 345 - (p + 345).toNat = (-p).toNat by omega]
      have e2 : B = 10 ^ (-p).toNat * 2 ^ 10 := by rw [← hBB]; unfold powB; rw [if_neg (by omega), show 345 - (p + 345).toNat = (-p).toNat by omega]
      rw [e1, e2]
      have e3 : ∀ a c e f g T : Nat, d * 2 ^ a * 2 ^ c * (T * 2 ^ e) = d * T * 2 ^ (a + c + e) := fun a c e f g T => by
        rw [Nat.pow_add, Nat.pow_add]; simp only [Nat.mul_assoc, Nat.mul_comm, Nat.mul_left_comm]
      have e4 : ∀ a c e T : Nat, d * 2 ^ a * (T * 2 ^ c * 2 ^ e) = d * T * 2 ^ (a + c + e) := fun a c e T => by
        rw [Nat.pow_add, Nat.pow_add]; simp only [Nat.mul_assoc, Nat.mul_comm, Nat.mul_left_comm]
      rw [e3 _ _ _ 0 0, e4]
      congr 2
      omega
  have hQ : 0 < fracB (d, p) * 2 ^ pp := Nat.mul_pos fB (Nat.pow_pos (by omega))
  have hBt : 0 < B * 2 ^ t := Nat.mul_pos row.hB (Nat.pow_pos (by omega))
  have stk2 := stk_ratio hBt hQ cross stk
  -- the bounds
  have up1 : d * 2 ^ (64 - b) * A * 2 ≤ B * 72057594036879360 := by
    have h2 : d * 2 ^ (64 - b) * (A * (2 ^ 29 + 1)) ≤ 2 ^ 64 * (B * 2 ^ 20) := Nat.mul_le_mul (Nat.le_of_lt x2) row.up
    rw [← Nat.mul_assoc] at h2
    exact pw_up h2
  have dn1 : 2 ^ 53 * B ≤ d * 2 ^ (64 - b) * A := by
    have h2 : 2 ^ 63 * B ≤ d * 2 ^ (64 - b) * (A * 2 ^ 10) := Nat.mul_le_mul x1 row.dn
    rw [← Nat.mul_assoc] at h2
    exact pw_dn h2
  -- carried over
  have carry_up : ∀ c : Nat, d * 2 ^ (64 - b) * A < c * (B * 2 ^ t) → fracA (d, p) < c * (fracB (d, p) * 2 ^ pp) := by
    intro c hc
    refine Nat.lt_of_mul_lt_mul_right (a := B * 2 ^ t) ?_
    rw [← cross, Nat.mul_right_comm c]
    exact Nat.mul_lt_mul_of_pos_right hc hQ
  have carry_dn : ∀ c : Nat, c * (B * 2 ^ t) ≤ d * 2 ^ (64 - b) * A → c * (fracB (d, p) * 2 ^ pp) ≤ fracA (d, p) := by
    intro c hc
    refine Nat.le_of_mul_le_mul_right (c := B * 2 ^ t) ?_ hBt
    rw [← cross, Nat.mul_right_comm c]
    exact Nat.mul_le_mul_right _ hc
  have small : t ≠ 0 → pp = 0 := by omega
  have lower : pp = 0 ∨ 2 ^ 53 * (fracB (d, p) * 2 ^ pp) ≤ fracA (d, p) := by
    by_cases h0 : t = 0
    · right; refine carry_dn _ ?_; rw [h0]; simpa using dn1
    · exact Or.inl (small h0)
  have upper : fracA (d, p) < 2 ^ 55 * (fracB (d, p) * 2 ^ pp) := by
    refine carry_up _ ?_
    have h1 : B * 1 ≤ B * 2 ^ t := Nat.mul_le_mul_left _ (Nat.pow_pos (by omega))
    exact pw_u2 up1 h1 row.hB
  have upper2 : t ≠ 0 → fracA (d, p) < 2 ^ 54 * (fracB (d, p) * 2 ^ pp) := by
    intro h0
    refine carry_up _ ?_
    have h1 : B * 2 ≤ B * 2 ^ t := Nat.mul_le_mul_left _ (by rw [show t = t - 1 + 1 by omega, Nat.pow_succ]; have : 0 < 2 ^ (t - 1) := Nat.pow_pos (by omega)
                                                             omega)
    exact pw_u3 up1 h1 row.hB
  split
  · rename_i hs
    have hpp0 : pp = 0 := small (by omega)
    have h56 : fracA (d, p) < 1 * (fracB (d, p) * 2 ^ pp) := by
      refine carry_up _ ?_
      have h1 : B * 2 ^ 56 ≤ B * 2 ^ t := Nat.mul_le_mul_left _ (Nat.pow_le_pow_right (by omega) (by omega))
      exact pw_u4 up1 h1 row.hB
    refine ⟨?_, Or.inl hs⟩
    subst hpp0
    have := near_pm (p := 0) (m := 0) fB (Or.inl rfl) (A := fracA (d, p)) (by
      refine Nat.lt_of_lt_of_le h56 (Nat.mul_le_mul_right _ (by omega))) ⟨Or.inl rfl, Or.inl (by simpa using h56)⟩
    simpa using this
  · rename_i hs64
    rw [or_iff_right hs64]
    generalize hu : uscaleN (d * 2 ^ (64 - b)) hi' lo (8 + t) = u at *
    have eP : (1074 - exI b p).toNat = pp := by omega
    have eP1 : (1074 - (exI b p - 1)).toNat = pp + 1 := by omega
    by_cases hc : 2 ^ 55 - 2 ≤ u
    · rw [if_pos hc, if_pos hc, eP1]
      by_cases h54 : fracA (d, p) < 2 ^ 54 * (fracB (d, p) * 2 ^ pp)
      · have hu2 : u / 2 < 2 ^ 54 := by
          refine Nat.lt_of_mul_lt_mul_right (a := fracB (d, p) * 2 ^ pp) ?_
          refine Nat.lt_of_le_of_lt ?_ h54
          rcases stk2 with ⟨_, h2⟩ | ⟨_, h2, _⟩
          · exact Nat.le_of_eq h2.symm
          · exact Nat.le_of_lt h2
        have e1 : rndN (stick u) = 2 ^ 52 := by
          have : stick u = 2 ^ 54 - 1 := by
            unfold stick
            rw [if_pos (Or.inl (by omega))]; omega
          rw [this]; decide
        have e2 : (u + 1 + u / 4 % 2) / 4 = 2 ^ 53 := by omega
        have rne := stk_rne hQ stk2
        rw [e2] at rne
        have := near_pm fB lower h54 rne
        rw [e1, show (pp + 1) * 2 ^ 52 + 2 ^ 52 = pp * 2 ^ 52 + 2 ^ 53 by omega]
        exact ⟨this, by decide, fun h => absurd h (by decide), by omega, by omega⟩
      · have e3 : fracB (d, p) * 2 ^ pp * 2 = fracB (d, p) * 2 ^ (pp + 1) := by rw [Nat.mul_assoc, ← Nat.pow_succ]
        have h5 := stk_half hQ stk2
        rw [e3] at h5
        have hQ2 : 0 < fracB (d, p) * 2 ^ (pp + 1) := by rw [← e3]; omega
        have rne := stk_rne hQ2 h5
        have hge : 2 ^ 53 * (fracB (d, p) * 2 ^ (pp + 1)) ≤ fracA (d, p) := by rw [← e3]; omega
        have hlt : fracA (d, p) < 2 ^ 54 * (fracB (d, p) * 2 ^ (pp + 1)) := by rw [← e3]; omega
        have m1 := rne_ge hQ2 hge rne
        refine ⟨near_pm fB (Or.inr hge) hlt rne, ?_, fun h => absurd h (Nat.not_lt.2 m1), by omega, by omega⟩
        have hup : fracA (d, p) * 2 ≤ 36028797018439680 * (fracB (d, p) * 2 ^ (pp + 1)) := by
          have ht0 : t = 0 := by
            rcases Nat.eq_zero_or_pos t with h | h
            · exact h
            · exact absurd (upper2 (by omega)) h54
          refine Nat.le_of_mul_le_mul_right (c := B * 2 ^ t) ?_ hBt
          rw [Nat.mul_right_comm, ← cross, ← e3, Nat.mul_right_comm _ _ (B * 2 ^ t), ht0, Nat.pow_zero, Nat.mul_one]
          rw [Nat.mul_right_comm _ _ 2, ← Nat.mul_assoc _ (fracB (d, p) * 2 ^ pp) 2, Nat.mul_right_comm _ (fracB (d, p) * 2 ^ pp) 2]
          refine Nat.mul_le_mul_right _ ?_
          exact pw_u5 up1
        rcases rne.1 with h9 | h9 | ⟨h9, _⟩
        · omega
        · exact pw_u6 hQ2 (Nat.le_of_lt h9) hup
        · exact pw_u6 hQ2 (Nat.le_of_eq h9) hup
    · rw [if_neg hc, if_neg hc, eP]
      have hlt : fracA (d, p) < 2 ^ 54 * (fracB (d, p) * 2 ^ pp) := ?_
      refine ⟨near_pm fB lower hlt (stk_rne hQ stk2), ?_, fun h => ?_, by omega, by omega⟩
      · show rndN u < _
        unfold rndN; omega
      · rcases lower with h0 | h0
        · omega
        · exact absurd h (Nat.not_lt.2 (rne_ge hQ h0 (stk_rne hQ stk2)))
      refine Nat.lt_of_lt_of_le (m := (u / 2 + 1) * (fracB (d, p) * 2 ^ pp)) ?_ (Nat.mul_le_mul_right _ (by omega))
      rcases stk2 with ⟨_, h2⟩ | ⟨_, _, h2⟩
      · rw [h2]; exact Nat.mul_lt_mul_of_pos_right (by omega) hQ
      · exact h2
end Go.Proofs.YtillamhoakohdaaGreatDoor
namespace Go.Proofs.YtillamhoakohdaaGreatDoor
open Ieee

theorem rne_ratio {a b a' b' m : Nat} (hb : 0 < b) (hb' : 0 < b') (e : a * b' = a' * b) (h : Rne a b m) : Rne a' b' m := by
 have up : ∀ c, c * b < a → c * b' < a' := fun c hc => by
  refine Nat.lt_of_mul_lt_mul_right (a := b) ?_
  rw [← e, Nat.mul_right_comm]; exact Nat.mul_lt_mul_of_pos_right hc hb'
 have dn : ∀ c, a < c * b → a' < c * b' := fun c hc => by
  refine Nat.lt_of_mul_lt_mul_right (a := b) ?_
  rw [← e, Nat.mul_right_comm c]; exact Nat.mul_lt_mul_of_pos_right hc hb'
 have eq : ∀ c, c * b = a → c * b' = a' := fun c hc => by
  refine Nat.eq_of_mul_eq_mul_right hb ?_
  rw [← e, Nat.mul_right_comm, hc]
 refine ⟨?_, ?_⟩
 ·rcases h.1 with h1 | h1 | h1
  ·exact Or.inl h1
  ·exact Or.inr (Or.inl (up _ h1))
  ·exact Or.inr (Or.inr ⟨eq _ h1.1, h1.2⟩)
 ·rcases h.2 with h1 | h1
  ·exact Or.inl (dn _ h1)
  ·exact Or.inr ⟨(eq _ h1.1.symm).symm, h1.2⟩

theorem cut_rne (neg : Bool) (n drop : Nat) (hn : n ≠ 0) : Rne (2 * n) (2 ^ drop) (Toward.even.cut neg n drop) := by
 unfold Toward.cut
 simp only [Nat.one_shiftLeft]
 have hl : n < 2 ^ (n.log2 + 1) := Nat.lt_log2_self
 by_cases hd : drop ≤ n.log2 + 2
 ·rw [Nat.min_eq_left hd]
  have hg : 0 < 2 ^ drop := Nat.pow_pos (by omega)
  generalize 2 ^ drop = g at *
  have e := Nat.div_add_mod' n g
  have hr := Nat.mod_lt n hg
  generalize n / g = q at *
  generalize n % g = r at *
  have e2 : ∀ k : Nat, 2 * k * g = 2 * (k * g) := fun k => Nat.mul_assoc _ _ _
  by_cases h1 : g < 2 * r
  ·simp only [h1, decide_true, Bool.true_or, Bool.toNat_true]
   refine ⟨Or.inr (Or.inl ?_), Or.inl ?_⟩
   ·rw [show 2 * (q + 1) - 1 = 2 * q + 1 by omega, Nat.add_mul, e2]; omega
   ·rw [show 2 * (q + 1) + 1 = 2 * q + 3 by omega, Nat.add_mul, e2]; omega
  ·by_cases h2 : g = 2 * r
   ·by_cases h3 : q % 2 = 1
    ·have : (decide (g < 2 * r) || (g == 2 * r && q % 2 == 1)) = true := by simp [h2, h3]
     rw [this, Bool.toNat_true]
     refine ⟨Or.inr (Or.inr ⟨?_, by omega⟩), Or.inl ?_⟩
     ·rw [show 2 * (q + 1) - 1 = 2 * q + 1 by omega, Nat.add_mul, e2]; omega
     ·rw [show 2 * (q + 1) + 1 = 2 * q + 3 by omega, Nat.add_mul, e2]; omega
    ·have : (decide (g < 2 * r) || (g == 2 * r && q % 2 == 1)) = false := by simp [h2, h3]
     rw [this, Bool.toNat_false, Nat.add_zero]
     refine ⟨?_, Or.inr ⟨?_, by omega⟩⟩
     ·rcases Nat.eq_zero_or_pos q with h0 | h0
      ·exact Or.inl h0
      ·refine Or.inr (Or.inl ?_)
       have : (2 * q - 1) * g < (2 * q + 1) * g := Nat.mul_lt_mul_of_pos_right (by omega) hg
       rw [Nat.add_mul (2 * q) 1, e2] at this; omega
     ·rw [Nat.add_mul, e2]; omega
   ·have : (decide (g < 2 * r) || (g == 2 * r && q % 2 == 1)) = false := by simp [h1, h2]
    rw [this, Bool.toNat_false, Nat.add_zero]
    refine ⟨?_, Or.inl ?_⟩
    ·rcases Nat.eq_zero_or_pos q with h0 | h0
     ·exact Or.inl h0
     ·refine Or.inr (Or.inl ?_)
      have : (2 * q - 1) * g < 2 * q * g := Nat.mul_lt_mul_of_pos_right (by omega) hg
      rw [e2] at this; omega
    ·rw [Nat.add_mul, e2]; omega
 ·rw [Nat.min_eq_right (by omega)]
  have h1 : 2 * n < 2 ^ (n.log2 + 2) := by rw [Nat.pow_succ]; omega
  rw [Nat.div_eq_of_lt (by omega), Nat.mod_eq_of_lt (by omega)]
  have : (decide (2 ^ (n.log2 + 2) < 2 * n) || (2 ^ (n.log2 + 2) == 2 * n && 0 % 2 == 1)) = false := by
   have h2 : ¬ 2 ^ (n.log2 + 2) < 2 * n := by omega
   simp [h2]
  rw [this]
  refine ⟨Or.inl rfl, Or.inl ?_⟩
  have : 2 ^ (n.log2 + 2) ≤ 2 ^ drop := Nat.pow_le_pow_right (by omega) (by omega)
  simp; omega

theorem nearest_rne {mag : Nat} {place : Int} (neg : Bool) (hm : mag ≠ 0) :
  ∃ p kept aa drop : Nat, double.nearest neg mag place = double.word neg (min (p * 2 ^ 52 + kept) infR) ∧ (aa = 0 ∨ drop = 0) ∧ (drop : Int) - aa = p - 1074 - place ∧
   Rne (2 * (mag * 2 ^ aa)) (2 ^ drop) kept ∧ (p = 0 ∨ 2 ^ 53 * 2 ^ drop ≤ 2 * (mag * 2 ^ aa)) ∧ 2 * (mag * 2 ^ aa) < 2 ^ 54 * 2 ^ drop ∧ (54 ≤ mag.log2 → 2 ≤ drop) := by
 unfold Format.nearest
 rw [if_neg hm]
 have hlp : double.leastPlace = -1074 := by decide
 have hfb : (double.fractionBits : Int) = 52 := by decide
 have hbi : double.binade = 2 ^ 52 := by decide
 have hir : double.infRung = infR := by decide
 simp only [hlp, hfb, hbi, hir]
 generalize hlast : max (place + (mag.log2 : Int) - 52) (-1074) = last
 obtain ⟨p, hpp⟩ : ∃ p : Nat, (p : Int) = last + 1074 := ⟨(last + 1074).toNat, by omega⟩
 have e0 : (last - -1074).toNat = p := by omega
 rw [e0]
 have hmag : mag <<< (place - last).toNat ≠ 0 := by
  rw [Nat.shiftLeft_eq]
  exact Nat.mul_ne_zero hm (Nat.ne_of_gt (Nat.pow_pos (by omega)))
 have rne := cut_rne neg _ (last - place).toNat hmag
 generalize Toward.even.cut neg (mag <<< (place - last).toNat) (last - place).toNat = kept at *
 rw [Nat.shiftLeft_eq] at rne
 refine ⟨p, kept, (place - last).toNat, (last - place).toNat, rfl, by omega, by omega, rne, ?_, ?_, by omega⟩
 ·by_cases h0 : p = 0
  ·exact Or.inl h0
  ·right
   have hl1 : last = place + (mag.log2 : Int) - 52 := by omega
   have h2 : 2 ^ mag.log2 ≤ mag := Nat.log2_self_le hm
   have h3 : 2 ^ mag.log2 * 2 ^ (place - last).toNat ≤ mag * 2 ^ (place - last).toNat := Nat.mul_le_mul_right _ h2
   have h4 : 2 ^ 53 * 2 ^ (last - place).toNat = 2 * (2 ^ mag.log2 * 2 ^ (place - last).toNat) := by
    rw [← Nat.pow_add, ← Nat.pow_add, Nat.mul_comm 2, ← Nat.pow_succ]
    congr 1; omega
   omega
 ·have h2 : mag < 2 ^ (mag.log2 + 1) := Nat.lt_log2_self
  have h3 : mag * 2 ^ (place - last).toNat < 2 ^ (mag.log2 + 1) * 2 ^ (place - last).toNat := Nat.mul_lt_mul_of_pos_right h2 (Nat.pow_pos (by omega))
  have h4 : 2 * (2 ^ (mag.log2 + 1) * 2 ^ (place - last).toNat) ≤ 2 ^ 54 * 2 ^ (last - place).toNat := by
   rw [← Nat.pow_add, ← Nat.pow_add, Nat.mul_comm 2, ← Nat.pow_succ]
   exact Nat.pow_le_pow_right (by omega) (by omega)
  omega
theorem near_ratio {a b A B p m : Nat} (hb : 0 < b) (hB : 0 < B) (e : a * (B * 2 ^ p) = A * b) (lo : p = 0 ∨ 2 ^ 53 * b ≤ a) (hi : a < 2 ^ 54 * b) (rne : Rne a b m) : Near A B (p * 2 ^ 52 + m) := by
 have hBp : 0 < B * 2 ^ p := Nat.mul_pos hB (Nat.pow_pos (by omega))
 refine near_pm hB ?_ ?_ (rne_ratio hb hBp e rne)
 ·refine lo.imp_right fun lo => ?_
  refine Nat.le_of_mul_le_mul_right (c := b) ?_ hb
  rw [← e, Nat.mul_right_comm (2 ^ 53)]
  exact Nat.mul_le_mul_right _ lo
 ·refine Nat.lt_of_mul_lt_mul_right (a := b) ?_
  rw [← e, Nat.mul_right_comm (2 ^ 54)]
  exact Nat.mul_lt_mul_of_pos_right hi hBp
theorem nearest_near {A B mag c e : Nat} {place : Int} (neg : Bool) (hB : 0 < B) (hm : mag ≠ 0) (hp : (e : Int) - c = place + 1075) (hA : A * 2 ^ c = mag * 2 ^ e * B) :
  ∃ r, Near A B r ∧ double.nearest neg mag place = double.word neg (min r infR) := by
 obtain ⟨p, kept, aa, drop, h1, h2, h3, rne, lo, hi, _⟩ := nearest_rne (place := place) neg hm
 refine ⟨_, near_ratio (Nat.pow_pos (by omega)) hB ?_ lo hi rne, h1⟩
 have pc : 0 < 2 ^ c := Nat.pow_pos (by omega)
 refine Nat.eq_of_mul_eq_mul_right pc ?_
 rw [Nat.mul_right_comm A, hA]
 have e1 : ∀ x y z : Nat, 2 * (mag * 2 ^ x) * (B * 2 ^ y) * 2 ^ z = mag * B * 2 ^ (1 + x + y + z) := fun x y z => by
  rw [Nat.pow_add, Nat.pow_add, Nat.pow_add]; simp only [Nat.mul_assoc, Nat.mul_comm, Nat.mul_left_comm, Nat.pow_one]
 have e2 : ∀ x y : Nat, mag * 2 ^ x * B * 2 ^ y = mag * B * 2 ^ (x + y) := fun x y => by
  rw [Nat.pow_add]; simp only [Nat.mul_assoc, Nat.mul_comm, Nat.mul_left_comm]
 rw [e1, e2]
 congr 2
 omega
theorem nearest_quot {A B D n c e : Nat} {place : Int} (neg : Bool) (hB : 0 < B) (hn : 0 < n) (hk : 2 ^ 53 ≤ D / n) (hp : (e : Int) - c = place + 1075) (hA : A * (n * 2 ^ c) = 2 * D * 2 ^ e * B) :
  ∃ r, Near A B r ∧ double.nearest neg (2 * (D / n) + (D % n != 0).toNat) place = double.word neg (min r infR) := by
 have hm : 2 * (D / n) + (D % n != 0).toNat ≠ 0 := by omega
 have hlog : 54 ≤ (2 * (D / n) + (D % n != 0).toNat).log2 := (Nat.le_log2 hm).2 (by omega)
 obtain ⟨p, kept, aa, drop, h1, h2, h3, rne, lo, hi, hd⟩ := nearest_rne (place := place) neg hm
 have hdrop := hd hlog
 have haa : aa = 0 := by omega
 subst haa
 obtain ⟨g, hg⟩ : ∃ g, 2 ^ drop = 4 * g := ⟨2 ^ (drop - 2), by rw [show 4 = 2 ^ 2 by decide, ← Nat.pow_add]; congr 1; omega⟩
 have hg0 : 0 < g := by
  have : 0 < 2 ^ drop := Nat.pow_pos (by omega)
  omega
 rw [Nat.pow_zero, Nat.mul_one, hg] at rne lo hi
 refine ⟨_, near_ratio (a := 4 * D) (b := n * (4 * g)) (Nat.mul_pos hn (by omega)) hB ?_ ?_ ?_ ?_, h1⟩
 ·have pc : 0 < 2 ^ c := Nat.pow_pos (by omega)
  refine Nat.eq_of_mul_eq_mul_right pc ?_
  rw [Nat.mul_assoc A, Nat.mul_right_comm n, ← Nat.mul_assoc A, hA, ← hg]
  have e1 : ∀ y z : Nat, 4 * D * (B * 2 ^ y) * 2 ^ z = 2 * D * B * 2 ^ (1 + y + z) := fun y z => by
   rw [Nat.pow_add, Nat.pow_add, show 4 = 2 * 2 by decide]; simp only [Nat.mul_assoc, Nat.mul_comm, Nat.mul_left_comm, Nat.pow_one]
  have e2 : ∀ x y : Nat, 2 * D * 2 ^ x * B * 2 ^ y = 2 * D * B * 2 ^ (x + y) := fun x y => by
   rw [Nat.pow_add]; simp only [Nat.mul_assoc, Nat.mul_comm, Nat.mul_left_comm]
  rw [e1, e2]
  congr 2
  omega
 all_goals
  have hdm := Nat.div_add_mod' D n
  have hr := Nat.mod_lt D hn
  generalize D / n = k at *
  generalize D % n = r at *
  have hx : ∀ x, x * (n * (4 * g)) = 4 * (x * g) * n := fun x => by simp only [Nat.mul_assoc, Nat.mul_comm, Nat.mul_left_comm]
  have hy : ∀ x, x * (4 * g) = 4 * (x * g) := fun x => by simp only [Nat.mul_assoc, Nat.mul_comm, Nat.mul_left_comm]
  have hle : ∀ x, x ≤ k → 4 * x * n ≤ 4 * D := fun x h => by
   have := Nat.mul_le_mul_right n h
   rw [Nat.mul_assoc]; omega
  have hlt : ∀ x, x < k → 4 * x * n < 4 * D := fun x h => by
   have := Nat.mul_lt_mul_of_pos_right h hn
   rw [Nat.mul_assoc]; omega
  have hle' : ∀ x, x ≤ k → r ≠ 0 → 4 * x * n < 4 * D := fun x h h0 => by
   have := Nat.mul_le_mul_right n h
   rw [Nat.mul_assoc]; omega
  have hgt : ∀ x, k < x → 4 * D < 4 * x * n := fun x h => by
   have := Nat.mul_le_mul_right n (show k + 1 ≤ x from h)
   rw [Nat.add_mul] at this
   rw [Nat.mul_assoc]; omega
  have sig : (r != 0).toNat = 0 ∧ r = 0 ∨ (r != 0).toNat = 1 ∧ r ≠ 0 := by
   by_cases h0 : r = 0
   ·exact Or.inl ⟨by simp [h0], h0⟩
   ·exact Or.inr ⟨by simp [h0], h0⟩
  generalize (r != 0).toNat = s at *
 ·refine lo.imp_right fun lo => ?_
  rw [hy] at lo
  rw [hx]
  exact hle _ (by omega)
 ·rw [hy] at hi
  rw [hx]
  exact hgt _ (by omega)
 ·refine ⟨?_, ?_⟩
  ·rw [hx]
   rcases rne.1 with h | h | ⟨h, h'⟩
   ·exact Or.inl h
   ·rw [hy] at h
    rcases sig with ⟨s0, r0⟩ | ⟨s1, r1⟩
    ·exact Or.inr (Or.inl (hlt _ (by omega)))
    ·exact Or.inr (Or.inl (hle' _ (by omega) r1))
   ·rw [hy] at h
    refine Or.inr (Or.inr ⟨?_, h'⟩)
    have : (2 * kept - 1) * g = k := by omega
    rw [this, Nat.mul_assoc]
    omega
  ·rw [hx]
   rcases rne.2 with h | ⟨h, h'⟩
   ·rw [hy] at h
    exact Or.inl (hgt _ (by omega))
   ·rw [hy] at h
    refine Or.inr ⟨?_, h'⟩
    have : (2 * kept + 1) * g = k := by omega
    rw [this, Nat.mul_assoc]
    omega
theorem read_rung (neg : Bool) (r : Nat) (h : r < infR) : ∃ m i, double.read (double.word neg r) = .number neg m i ∧ -1074 ≤ i ∧ m * 2 ^ (i + 1074).toNat = rungU r := by
 have hlp : double.leastPlace = -1074 := by decide
 have hbi : double.binade = 2 ^ 52 := by decide
 have hir : double.infRung = infR := by decide
 have hsw : double.signWeight = 2 ^ 63 := by decide
 have hlt : r < 2 ^ 63 := Nat.lt_of_lt_of_le h (by decide)
 have e1 : double.word neg r / double.signWeight % 2 = (if neg = true then 1 else 0) := by
  unfold Format.word; rw [hsw]; cases neg <;> simp <;> omega
 have e2 : double.word neg r % double.signWeight = r := by
  unfold Format.word; rw [hsw]; cases neg <;> simp <;> omega
 have e3 : (double.word neg r / double.signWeight % 2 == 1) = neg := by rw [e1]; cases neg <;> decide
 unfold Format.read
 simp only [e3, e2, hlp, hbi, hir]
 unfold rungU
 by_cases h1 : r < 2 ^ 52
 ·rw [if_pos h1, if_pos h1]
  exact ⟨_, _, rfl, by omega, by simp⟩
 ·rw [if_neg h1, if_neg h1, if_pos h]
  refine ⟨_, _, rfl, by omega, ?_⟩
  congr 2
  omega
end Go.Proofs.YtillamhoakohdaaGreatDoor
namespace Go.Proofs.YtillamhoakohdaaGreatDoor
open Ieee

def IsRung (r N : Nat) : Prop := r < infR ∧ rungU r = N * 2 ^ 1074

theorem rungU_inj {q r : Nat} (h : rungU q = rungU r) : q = r := by
 rcases Nat.lt_trichotomy q r with h1 | h1 | h1
 ·have := rungU_le (show q + 1 ≤ r from h1); have := rungU_step q; omega
 ·exact h1
 ·have := rungU_le (show r + 1 ≤ q from h1); have := rungU_step r; omega
theorem near_self {r B : Nat} (hB : 0 < B) : Near (2 * rungU r * B) B r := by
 constructor
 ·rcases Nat.eq_zero_or_pos r with h | h
  ·exact Or.inl h
  ·refine Or.inr (Or.inl (Nat.mul_lt_mul_of_pos_right ?_ hB))
   have := rungU_step (r - 1); rw [show r - 1 + 1 = r by omega] at this; omega
 ·refine Or.inl (Nat.mul_lt_mul_of_pos_right ?_ hB)
  have := rungU_step r; omega
theorem isRung_ex {N : Nat} (h0 : 0 < N) (h1 : N < 2 ^ 53) : ∃ r, IsRung r N := by
 have hl : N.log2 < 53 := (Nat.log2_lt (by omega)).2 h1
 have h2 : 2 ^ N.log2 ≤ N := Nat.log2_self_le (by omega)
 have h3 : N < 2 ^ (N.log2 + 1) := Nat.lt_log2_self
 generalize N.log2 = b at *
 have e1 : N * 2 ^ (52 - b) < 2 ^ 53 := by
  have : N * 2 ^ (52 - b) < 2 ^ (b + 1) * 2 ^ (52 - b) := Nat.mul_lt_mul_of_pos_right h3 (Nat.pow_pos (by omega))
  rw [← Nat.pow_add, show b + 1 + (52 - b) = 53 by omega] at this
  exact this
 have e2 : 2 ^ 52 ≤ N * 2 ^ (52 - b) := by
  have : 2 ^ b * 2 ^ (52 - b) ≤ N * 2 ^ (52 - b) := Nat.mul_le_mul_right _ h2
  rw [← Nat.pow_add, show b + (52 - b) = 52 by omega] at this
  exact this
 refine ⟨(1074 - (52 - b)) * 2 ^ 52 + N * 2 ^ (52 - b), ?_, ?_⟩
 ·have : (1074 - (52 - b)) * 2 ^ 52 ≤ 1074 * 2 ^ 52 := Nat.mul_le_mul_right _ (by omega)
  generalize N * 2 ^ (52 - b) = x at *
  unfold infR; omega
 ·rw [rungU_pm (Or.inr e2) (Nat.le_of_lt e1), Nat.mul_assoc, ← Nat.pow_add]
  congr 2; omega
set_option exponentiation.threshold 6000 in
theorem near_isRung {r q N : Nat} (h1 : IsRung r N) (h2 : Near (N * 2 ^ 1075) 1 q) : q = r := by
 refine near_one (by omega) h2 ?_
 have := near_self (r := r) (B := 1) (by omega)
 rw [h1.2, Nat.mul_one] at this
 rwa [show N * 2 ^ 1075 = 2 * (N * 2 ^ 1074) by rw [Nat.pow_succ]; simp only [Nat.mul_assoc, Nat.mul_comm, Nat.mul_left_comm]]
set_option exponentiation.threshold 6000 in
theorem near_whole {N : Nat} (neg : Bool) (h0 : N ≠ 0) : ∃ r, Near (N * 2 ^ 1075) 1 r ∧ double.nearest neg N 0 = double.word neg (min r infR) :=
 nearest_near (c := 0) (e := 1075) neg (by omega) h0 (by omega) (by simp)
theorem nearest_isRung {N r : Nat} (neg : Bool) (h0 : N ≠ 0) (h : IsRung r N) : double.nearest neg N 0 = double.word neg r := by
 obtain ⟨q, h1, h2⟩ := near_whole neg h0
 rw [h2, near_isRung h h1, Nat.min_eq_left (Nat.le_of_lt h.1)]
set_option exponentiation.threshold 6000 in
theorem mul_near {neg : Bool} {ra rb N M : Nat} (ha : IsRung ra N) (hb : IsRung rb M) (hN : 0 < N) (hM : 0 < M) :
  ∃ r, Near (N * M * 2 ^ 1075) 1 r ∧ double.mul (double.word neg ra) (double.word false rb) = some (double.word neg (min r infR)) := by
 obtain ⟨m, i, e1, i1, v1⟩ := read_rung neg ra ha.1
 obtain ⟨n, j, e2, j1, v2⟩ := read_rung false rb hb.1
 unfold Format.mul
 rw [e1, e2]
 simp only [Datum.product, Option.map_some, Bool.xor_false, Format.write]
 rw [ha.2] at v1; rw [hb.2] at v2
 have hp : 0 < N * 2 ^ 1074 := Nat.mul_pos hN (Nat.pow_pos (by omega))
 have hq : 0 < M * 2 ^ 1074 := Nat.mul_pos hM (Nat.pow_pos (by omega))
 have hm : m ≠ 0 := fun h => by rw [h, Nat.zero_mul] at v1; omega
 have hn : n ≠ 0 := fun h => by rw [h, Nat.zero_mul] at v2; omega
 have := nearest_near (A := N * M * 2 ^ 1075) (B := 1) (mag := m * n) (c := 1073) (e := (i + 1074).toNat + (j + 1074).toNat) (place := i + j) neg (by omega) (Nat.mul_ne_zero hm hn) (by omega) (by
  have h3 : m * n * 2 ^ ((i + 1074).toNat + (j + 1074).toNat) = (N * 2 ^ 1074) * (M * 2 ^ 1074) := by
   rw [← v1, ← v2, Nat.pow_add]; simp only [Nat.mul_assoc, Nat.mul_comm, Nat.mul_left_comm]
  rw [h3, Nat.mul_one, Nat.mul_assoc (N * M), ← Nat.pow_add, show 1075 + 1073 = 1074 + 1074 by omega, Nat.pow_add]
  simp only [Nat.mul_assoc, Nat.mul_comm, Nat.mul_left_comm])
 obtain ⟨r, h1, h2⟩ := this
 exact ⟨r, h1, by rw [h2]⟩
set_option exponentiation.threshold 6000 in
theorem div_near {neg : Bool} {ra rb N M : Nat} (ha : IsRung ra N) (hb : IsRung rb M) (hN : 0 < N) (hM : 0 < M) :
  ∃ r, Near (N * 2 ^ 1075) M r ∧ double.div (double.word neg ra) (double.word false rb) = some (double.word neg (min r infR)) := by
 obtain ⟨m, i, e1, i1, v1⟩ := read_rung neg ra ha.1
 obtain ⟨n, j, e2, j1, v2⟩ := read_rung false rb hb.1
 unfold Format.div
 rw [e1, e2]
 have hfb : double.fractionBits + 2 = 54 := by decide
 rw [ha.2] at v1; rw [hb.2] at v2
 have hp : 0 < N * 2 ^ 1074 := Nat.mul_pos hN (Nat.pow_pos (by omega))
 have hq : 0 < M * 2 ^ 1074 := Nat.mul_pos hM (Nat.pow_pos (by omega))
 have hm : m ≠ 0 := fun h => by rw [h, Nat.zero_mul] at v1; omega
 have hn : n ≠ 0 := fun h => by rw [h, Nat.zero_mul] at v2; omega
 simp only [Datum.quotient, hfb, if_neg hn, Option.map_some, Bool.xor_false, Format.write]
 have hk : 2 ^ 53 ≤ m <<< (54 + n.log2 - m.log2) / n := by
  rw [Nat.le_div_iff_mul_le (by omega), Nat.shiftLeft_eq]
  have h2 : 2 ^ m.log2 ≤ m := Nat.log2_self_le hm
  have h3 : n < 2 ^ (n.log2 + 1) := Nat.lt_log2_self
  have h4 : 2 ^ m.log2 * 2 ^ (54 + n.log2 - m.log2) ≤ m * 2 ^ (54 + n.log2 - m.log2) := Nat.mul_le_mul_right _ h2
  rw [← Nat.pow_add] at h4
  have h5 : 2 ^ (54 + n.log2) ≤ 2 ^ (m.log2 + (54 + n.log2 - m.log2)) := Nat.pow_le_pow_right (by omega) (by omega)
  have h6 : 2 ^ 53 * n ≤ 2 ^ 53 * 2 ^ (n.log2 + 1) := Nat.mul_le_mul_left _ (Nat.le_of_lt h3)
  rw [← Nat.pow_add, show 53 + (n.log2 + 1) = 54 + n.log2 by omega] at h6
  exact Nat.le_trans h6 (Nat.le_trans h5 h4)
 generalize hmore : 54 + n.log2 - m.log2 = more at *
 have := nearest_quot (A := N * 2 ^ 1075) (B := M) (D := m <<< more) (n := n) (c := (j + 1074).toNat + more) (e := (i + 1074).toNat + 1074) (place := i - j - more - 1) neg hM (by omega) hk (by omega) (by
  rw [Nat.shiftLeft_eq]
  have h3 : n * 2 ^ ((j + 1074).toNat + more) = M * 2 ^ 1074 * 2 ^ more := by rw [← v2, Nat.pow_add, Nat.mul_assoc]
  have h4 : 2 * (m * 2 ^ more) * 2 ^ ((i + 1074).toNat + 1074) = 2 * (N * 2 ^ 1074) * 2 ^ more * 2 ^ 1074 := by
   rw [← v1, Nat.pow_add]; simp only [Nat.mul_assoc, Nat.mul_comm, Nat.mul_left_comm]
  rw [h3, h4, Nat.pow_succ]
  simp only [Nat.mul_assoc, Nat.mul_comm, Nat.mul_left_comm])
 obtain ⟨r, h1, h2⟩ := this
 exact ⟨r, h1, by rw [h2]⟩
set_option exponentiation.threshold 6000 in
theorem n1075 (N : Nat) : N * 2 ^ 1075 = 2 * (N * 2 ^ 1074) := by rw [Nat.pow_succ]; simp only [Nat.mul_assoc, Nat.mul_comm, Nat.mul_left_comm]
theorem near_below {r r15 N : Nat} (h : Near (N * 2 ^ 1075) 1 r) (h15 : IsRung r15 (10 ^ 15)) (hr : r ≤ r15) : N ≤ 10 ^ 15 := by
 rcases Nat.lt_or_ge (10 ^ 15) N with hN | hN
 ·exfalso
  obtain ⟨q, hq⟩ := isRung_ex (N := 10 ^ 15 + 1) (by omega) (by decide)
  have hlt : r15 < q := by
   rcases Nat.lt_or_ge r15 q with h1 | h1
   ·exact h1
   ·have := rungU_le h1; rw [hq.2, h15.2] at this
    have := Nat.le_of_mul_le_mul_right this (Nat.pow_pos (a := 2) (n := 1074) (by omega))
    omega
  have h2 : midU r ≤ midU r15 := midU_le hr
  have h3 : midU r15 ≤ 2 * rungU (r15 + 1) := by unfold midU; have := rungU_step r15; omega
  have h4 : rungU (r15 + 1) ≤ rungU q := rungU_le hlt
  have h5 := rungU_step r15
  have h6 : ∀ k, (10 ^ 15 + 1) * k ≤ N * k := fun k => Nat.mul_le_mul_right k hN
  have h6 := h6 (2 ^ 1074)
  have h7 := n1075 N
  have h8 := h.2
  rw [h7] at h8
  rw [hq.2] at h4
  have h9 : midU r15 < 2 * rungU (r15 + 1) := by unfold midU; omega
  change 2 * (N * 2 ^ 1074) < midU r * 1 ∨ (2 * (N * 2 ^ 1074) = midU r * 1 ∧ _) at h8
  generalize N * 2 ^ 1074 = x at *
  generalize (10 ^ 15 + 1) * 2 ^ 1074 = y at *
  omega
 ·exact hN
end Go.Proofs.YtillamhoakohdaaGreatDoor

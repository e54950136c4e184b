/-
  Plain law: the slow decimal's road to a float: shifts to between one half and one, 53 places on, to the nearest whole number. Plain law: the slow decimal's last steps: 53 places on, the nearest whole number by its digits.
-/
import Derived.Test.YtillamhoakohdaaGreatDoorM02
import Derived.Test.YtillamhoakohdaaGreatDoorM17
set_option linter.unusedVariables false
set_option linter.unusedSimpArgs false
namespace Go.Proofs.YtillamhoakohdaaGreatDoor

def SameN (D : Nat) (x : Int) (d : Nat × Int) : Prop := ∃ a b : Nat, D * 10 ^ a = d.1 * 10 ^ b ∧ (b : Int) - a = d.2 - x
theorem sameN_self (D : Nat) (x : Int) : SameN D x (D, x) := ⟨0, 0, rfl, by show ((0 : Nat) : Int) - ((0 : Nat) : Int) = x - x; omega⟩
theorem sameN_frac {K D : Nat} {x : Int} {d : Nat × Int} (h : SameN D x d) (hK : 0 ≤ (K : Int) + x) :
  D * 10 ^ ((K : Int) + x).toNat * (fracB d * 2 ^ 1075) = fracA d * 10 ^ K := by
 obtain ⟨a, b, e, hab⟩ := h
 obtain ⟨E, hE⟩ : ∃ E : Nat, (E : Int) = (K : Int) + x := ⟨((K : Int) + x).toNat, by omega⟩
 rw [← hE, Int.toNat_natCast]
 refine Nat.eq_of_mul_eq_mul_right (show 0 < 10 ^ a from Nat.pow_pos (by omega)) ?_
 have e1 : D * 10 ^ E * (fracB d * 2 ^ 1075) * 10 ^ a = D * 10 ^ a * (10 ^ E * fracB d * 2 ^ 1075) := by
  simp only [Nat.mul_assoc, Nat.mul_comm, Nat.mul_left_comm]
 rw [e1, e]
 unfold fracA fracB
 generalize 2 ^ 1075 = T
 by_cases h0 : 0 ≤ d.2
 ·rw [if_pos h0, if_pos h0, Nat.mul_one]
  have e2 : d.1 * 10 ^ b * (10 ^ E * T) = d.1 * T * 10 ^ (b + E) := by rw [Nat.pow_add]; simp only [Nat.mul_assoc, Nat.mul_comm, Nat.mul_left_comm]
  have e3 : d.1 * 10 ^ d.2.toNat * T * 10 ^ K * 10 ^ a = d.1 * T * 10 ^ (d.2.toNat + K + a) := by rw [Nat.pow_add, Nat.pow_add]; simp only [Nat.mul_assoc, Nat.mul_comm, Nat.mul_left_comm]
  rw [e2, e3]; congr 2; omega
 ·rw [if_neg h0, if_neg h0]
  have e2 : d.1 * 10 ^ b * (10 ^ E * 10 ^ (-d.2).toNat * T) = d.1 * T * 10 ^ (b + E + (-d.2).toNat) := by rw [Nat.pow_add, Nat.pow_add]; simp only [Nat.mul_assoc, Nat.mul_comm, Nat.mul_left_comm]
  have e3 : d.1 * T * 10 ^ K * 10 ^ a = d.1 * T * 10 ^ (K + a) := by rw [Nat.pow_add]; simp only [Nat.mul_assoc]
  rw [e2, e3]; congr 2; omega
section
variable {g : Nat → Nat} {nd : Nat} {dp : Int} {d : Nat × Int}
theorem valK_lt {K : Nat} (h : DigN g nd) (hs : 0 ≤ (K : Int) + (dp - nd)) : dn g nd * 10 ^ ((K : Int) + (dp - nd)).toNat < 10 ^ ((K : Int) + dp).toNat := by
 have := Nat.mul_lt_mul_of_pos_right (dn_lt h) (show 0 < 10 ^ ((K : Int) + (dp - nd)).toNat from Nat.pow_pos (by omega))
 rwa [← Nat.pow_add, show nd + ((K : Int) + (dp - nd)).toNat = ((K : Int) + dp).toNat by omega] at this
theorem valK_ge {K : Nat} (h : Can0 g nd) (hs : 0 ≤ (K : Int) + (dp - nd)) : 10 ^ ((K : Int) + dp - 1).toNat ≤ dn g nd * 10 ^ ((K : Int) + (dp - nd)).toNat := by
 have := Nat.mul_le_mul_right (10 ^ ((K : Int) + (dp - nd)).toNat) h.ge
 have hp := h.pos
 rwa [← Nat.pow_add, show nd - 1 + ((K : Int) + (dp - nd)).toNat = ((K : Int) + dp - 1).toNat by omega] at this
set_option exponentiation.threshold 6000 in
theorem slow_zero (h : SameN (dn g nd) (dp - nd) d) (h0 : dn g nd = 0) : Near (fracA d) (fracB d) 0 := by
 obtain ⟨a, b, e, _⟩ := h
 have hd : d.1 = 0 := by
  rw [h0, Nat.zero_mul] at e
  rcases Nat.mul_eq_zero.1 e.symm with h | h
  ·exact h
  ·exact absurd h (Nat.ne_of_gt (Nat.pow_pos (by omega)))
 have hA : fracA d = 0 := by unfold fracA; rw [hd]; simp
 have hB := fracB_pos d
 refine ⟨Or.inl rfl, Or.inl ?_⟩
 rw [hA, show (rungU 0 + rungU (0 + 1)) = 1 by decide, Nat.one_mul]; exact hB
set_option exponentiation.threshold 6000 in
theorem slow_small (h : SameN (dn g nd) (dp - nd) d) (hd : DigN g nd) (hdp : dp < -330) : Near (fracA d) (fracB d) 0 := by
 obtain ⟨K, hK⟩ : ∃ K : Nat, (K : Int) = nd - dp := ⟨((nd : Int) - dp).toNat, by omega⟩
 have e := sameN_frac (K := K) h (by omega)
 have h1 := valK_lt (K := K) (dp := dp) hd (by omega)
 have h2 : 10 ^ ((K : Int) + dp).toNat * 10 ^ 330 ≤ 10 ^ K := by rw [← Nat.pow_add]; exact Nat.pow_le_pow_right (by omega) (by omega)
 have hB := fracB_pos d
 refine ⟨Or.inl rfl, Or.inl ?_⟩
 rw [show (rungU 0 + rungU (0 + 1)) = 1 by decide, Nat.one_mul]
 refine Nat.lt_of_mul_lt_mul_right (a := 10 ^ K) ?_
 rw [← e]
 have h3 : dn g nd * 10 ^ ((K : Int) + (dp - nd)).toNat * 2 ^ 1075 < 10 ^ K := by
  refine Nat.lt_of_lt_of_le ?_ h2
  exact Nat.lt_of_le_of_lt (Nat.mul_le_mul_left _ (Nat.le_of_lt c331)) (Nat.mul_lt_mul_of_pos_right h1 (Nat.pow_pos (by omega)))
 rw [Nat.mul_left_comm]
 exact Nat.mul_lt_mul_of_pos_left h3 hB
set_option exponentiation.threshold 6000 in
theorem slow_large (neg : Bool) (h : SameN (dn g nd) (dp - nd) d) (hc : Can0 g nd) (hdp : 310 < dp) : FltIs neg d none := by
 refine flt_none ?_
 obtain ⟨K, hK⟩ : ∃ K : Nat, (K : Int) = nd := ⟨nd, rfl⟩
 have e := sameN_frac (K := K) h (by omega)
 have h1 := valK_ge (K := K) (dp := dp) hc (by omega)
 have h2 : 10 ^ K * 10 ^ 310 ≤ 10 ^ ((K : Int) + dp - 1).toNat := by rw [← Nat.pow_add]; exact Nat.pow_le_pow_right (by omega) (by omega)
 refine Nat.le_of_mul_le_mul_right (c := 10 ^ K) ?_ (Nat.pow_pos (by omega))
 rw [← e, show 2099 = 1024 + 1075 by rfl, Nat.pow_add]
 have h3 : 2 ^ 1024 * 10 ^ K ≤ dn g nd * 10 ^ ((K : Int) + (dp - nd)).toNat := by
  refine Nat.le_trans ?_ (Nat.le_trans h2 h1)
  rw [Nat.mul_comm]; exact Nat.mul_le_mul_left _ (Nat.le_of_lt c310)
 have h4 := Nat.mul_le_mul_right (fracB d * 2 ^ 1075) h3
 refine Nat.le_trans (Nat.le_of_eq ?_) h4
 simp only [Nat.mul_assoc, Nat.mul_comm, Nat.mul_left_comm]
theorem slow_start (h : SameN (dn g nd) (dp - nd) d) (hs : 0 ≤ 4000 + dp - nd) : Cmp (fracA d) (fracB d) 1100 1100 (tS g nd dp) false := by
 have e := sameN_frac (K := 4000) h (by omega)
 refine Cmp.start (N := 1) (tS g nd dp) Nat.one_pos ?_ (fracB_pos d)
 rw [← e, show (((4000 : Nat) : Int) + (dp - nd)).toNat = (4000 + dp - nd).toNat by omega]
 show _ = dn g nd * 10 ^ (4000 + dp - nd).toNat * 2 ^ 1075 * fracB d
 generalize dn g nd * 10 ^ (4000 + dp - nd).toNat = x
 generalize 2 ^ 1075 = y
 simp only [Nat.mul_assoc, Nat.mul_comm, Nat.mul_left_comm]
end
theorem pow10_le {a b : Nat} (h : a ≤ b) : 10 ^ a ≤ 10 ^ b := Nat.pow_le_pow_right (by omega) h
structure St1 (A B T0 : Nat) (g : Nat → Nat) (nd : Nat) (dp : Int) (tr : Bool) (x : Nat) : Prop where
 can : Can0 g nd
 x1 : x ≤ 1057
 cmp : Cmp A B (1100 - x) (1100 - x) (tS g nd dp) tr
 top : tS g nd dp * 2 ^ x ≤ T0
 low : (x = 0 ∧ 10 ^ 3669 ≤ tS g nd dp) ∨ 10 ^ 3999 ≤ tS g nd dp
 d1 : -330 ≤ dp
 d2 : dp ≤ 310
set_option exponentiation.threshold 6000 in
theorem St1.start {A B : Nat} {g : Nat → Nat} {nd : Nat} {dp : Int} (hc : Can0 g nd) (h : Cmp A B 1100 1100 (tS g nd dp) false) (h1 : -330 ≤ dp) (h2 : dp ≤ 310) : St1 A B (tS g nd dp) g nd dp false 0 := by
 have hp := hc.pos; have hl := hc.le
 refine ⟨hc, by omega, h, ?_, Or.inl ⟨rfl, ?_⟩, h1, h2⟩
 ·rw [Nat.pow_zero, Nat.mul_one]; exact Nat.le_refl _
 ·exact Nat.le_trans (pow10_le (by omega)) (tS_ge hc (by omega))
section
variable {A B T0 : Nat} {g g' : Nat → Nat} {nd nd' : Nat} {dp dp' : Int} {tr tr' : Bool} {x k K : Nat}
set_option exponentiation.threshold 6000 in
theorem St1.lt (h : St1 A B T0 g nd dp tr x) (hT : T0 < 10 ^ (3999 + 311)) (hdp : 0 < dp) : x < 1030 := by
 have hp := h.can.pos; have hl := h.can.le; have h1 := h.d1
 have a := tS_ge h.can (dp := dp) (by omega)
 have b : 10 ^ 4000 ≤ tS g nd dp := Nat.le_trans (pow10_le (by omega)) a
 have c : 10 ^ 4000 * 2 ^ x < 10 ^ 4000 * 10 ^ 310 := by
  rw [← Nat.pow_add]
  exact Nat.lt_of_le_of_lt (Nat.le_trans (Nat.mul_le_mul_right _ b) h.top) hT
 have c2 : 2 ^ x < 2 ^ 1030 := Nat.lt_trans (Nat.lt_of_mul_lt_mul_left c) c1030
 exact (Nat.pow_lt_pow_iff_right (by omega)).1 c2
set_option exponentiation.threshold 6000 in
theorem St1.step (h : St1 A B T0 g nd dp tr x) (hx : x < 1030) (hdp : 0 < dp) (hk : k ≤ 27) (hk2 : 2 ^ k ≤ 10 ^ dp.toNat) (hc : Can0 g' nd') (hD : Down k (tS g nd dp) tr (tS g' nd' dp') tr') (h2 : dp' ≤ dp) (h3 : dp - k ≤ dp') :
  St1 A B T0 g' nd' dp' tr' (x + k) ∧ 0 ≤ dp' := by
 have hp := h.can.pos; have hl := h.can.le; have h1 := h.d2
 have hp' := hc.pos; have hl' := hc.le
 obtain ⟨D1, D2, D3⟩ := hD
 have low : 10 ^ 3999 ≤ tS g' nd' dp' := by
  have a := tS_ge h.can (dp := dp) (by omega)
  have b : 2 ^ k * 10 ^ 3999 ≤ tS g nd dp := by
   refine Nat.le_trans (Nat.mul_le_mul_right _ hk2) ?_
   rw [← Nat.pow_add]
   exact Nat.le_trans (pow10_le (by omega)) a
  have c := D2 1 3999 (by rw [Nat.one_mul]; exact Nat.lt_of_le_of_lt (Nat.pow_le_pow_right (by omega) hk) (by decide +kernel)) (by rw [Nat.one_mul]; exact b)
  rwa [Nat.one_mul] at c
 have dp0 : 0 ≤ dp' := by
  have a := tS_lt hc.dig (dp := dp') (by omega)
  have := (Nat.pow_lt_pow_iff_right (by omega)).1 (Nat.lt_of_le_of_lt low a)
  omega
 refine ⟨⟨hc, by omega, ?_, ?_, Or.inr low, by omega, by omega⟩, dp0⟩
 ·refine D1 A B (1100 - (x + k)) (1100 - (x + k)) (Nat.le_refl _) (by omega) ?_
  rw [show 1100 - (x + k) + k = 1100 - x by omega]
  exact h.cmp.mono (by omega)
 ·rw [Nat.add_comm x, Nat.pow_add, ← Nat.mul_assoc]
  exact Nat.le_trans (Nat.mul_le_mul_right _ D3) h.top
structure St2 (A B x y0 : Nat) (g : Nat → Nat) (nd : Nat) (dp : Int) (tr : Bool) (K : Nat) : Prop where
 can : Can0 g nd
 x1 : x ≤ 1057
 y : (x = 0 ∧ y0 = 3669) ∨ y0 = 3999
 cmp : Cmp A B (1100 - x) (1100 - x + K) (tS g nd dp) tr
 low : 2 ^ K * 10 ^ y0 ≤ tS g nd dp
 K1 : K ≤ 1127
 K2 : y0 = 3999 → K ≤ 31
 d1 : -330 ≤ dp
 d2 : dp ≤ 0
set_option exponentiation.threshold 6000 in
theorem St1.next (h : St1 A B T0 g nd dp tr x) (hdp : dp ≤ 0) : ∃ y0, St2 A B x y0 g nd dp tr 0 := by
 rcases h.low with ⟨h0, hl⟩ | hl
 ·exact ⟨3669, h.can, h.x1, Or.inl ⟨h0, rfl⟩, h.cmp, by rw [Nat.pow_zero, Nat.one_mul]; exact hl, by omega, fun _ => by omega, h.d1, hdp⟩
 ·exact ⟨3999, h.can, h.x1, Or.inr rfl, h.cmp, by rw [Nat.pow_zero, Nat.one_mul]; exact hl, by omega, fun _ => by omega, h.d1, hdp⟩
set_option exponentiation.threshold 6000 in
theorem St2.lt {y0 : Nat} (h : St2 A B x y0 g nd dp tr K) : K < 1100 ∧ (y0 = 3999 → K < 4) := by
 have hp := h.can.pos; have hl := h.can.le; have h1 := h.d1; have h2 := h.d2
 have a := tS_lt h.can.dig (dp := dp) (by omega)
 have b : 2 ^ K * 10 ^ y0 < 10 ^ 4000 := Nat.lt_of_le_of_lt h.low (Nat.lt_of_lt_of_le a (pow10_le (by omega)))
 have hy : y0 = 3669 ∨ y0 = 3999 := by rcases h.y with h | h <;> omega
 have b2 : 2 ^ K * 10 ^ y0 < 10 ^ (4000 - y0) * 10 ^ y0 := by rw [← Nat.pow_add, show 4000 - y0 + y0 = 4000 by omega]; exact b
 have c := Nat.lt_of_mul_lt_mul_right b2
 constructor
 ·have : 2 ^ K < 2 ^ 1100 := Nat.lt_of_lt_of_le c (Nat.le_trans (pow10_le (by omega)) (Nat.le_of_lt c1100))
  exact (Nat.pow_lt_pow_iff_right (by omega)).1 this
 ·intro e
  subst e
  have : 2 ^ K < 2 ^ 4 := Nat.lt_trans c (by decide)
  exact (Nat.pow_lt_pow_iff_right (by omega)).1 this
theorem first_lt (hc : Can0 g nd) (h : g 0 < 53) : dn g nd < 5 * 10 ^ (nd - 1) := by
 have e := dn_top hc.dig (nd - 1) (by omega)
 have hp := hc.pos
 rw [show nd - (nd - 1) = 1 by omega] at e
 have h0 := hc.dig 0 hp
 have e1 : dn g 1 = g 0 - 48 := by rw [show 1 = 0 + 1 by rfl, dn_succ]; simp [dn, pz]
 have h2 : dn g nd / 10 ^ (nd - 1) < 5 := by omega
 exact (Nat.div_lt_iff_lt_mul (Nat.pow_pos (by omega))).1 h2
theorem first_ge (hc : Can0 g nd) (h : 53 ≤ g 0) : 5 * 10 ^ (nd - 1) ≤ dn g nd := by
 have e := dn_top hc.dig (nd - 1) (by omega)
 have hp := hc.pos
 rw [show nd - (nd - 1) = 1 by omega] at e
 have h0 := hc.dig 0 hp
 have e1 : dn g 1 = g 0 - 48 := by rw [show 1 = 0 + 1 by rfl, dn_succ]; simp [dn, pz]
 have h2 : 5 ≤ dn g nd / 10 ^ (nd - 1) := by omega
 exact (Nat.le_div_iff_mul_le (Nat.pow_pos (by omega))).1 h2
set_option exponentiation.threshold 6000 in
theorem St2.step {y0 : Nat} (h : St2 A B x y0 g nd dp tr K) (hk : k ≤ 27) (hk2 : (dp < 0 ∧ 2 ^ k ≤ 10 ^ (-dp).toNat) ∨ (dp = 0 ∧ g 0 < 53 ∧ k = 1)) (hc : Can0 g' nd') (hU : Up k (tS g nd dp) tr (tS g' nd' dp') tr') (h3 : dp ≤ dp') (h4 : dp' ≤ dp + k) :
  St2 A B x y0 g' nd' dp' tr' (K + k) := by
 have hlt := h.lt
 have hp := h.can.pos; have hl := h.can.le; have h1 := h.d1; have h2 := h.d2
 have hp' := hc.pos; have hl' := hc.le
 have hx := h.x1
 obtain ⟨U1, U2, U3⟩ := hU
 have top : tS g' nd' dp' < 10 ^ 4000 := by
  refine Nat.lt_of_le_of_lt U3 ?_
  rcases hk2 with ⟨hn, hk2⟩ | ⟨rfl, h5, rfl⟩
  ·have a := tS_lt h.can.dig (dp := dp) (by omega)
   have b : tS g nd dp * 2 ^ k < 10 ^ (4000 + dp).toNat * 10 ^ (-dp).toNat :=
    Nat.lt_of_le_of_lt (Nat.mul_le_mul_left _ hk2) (Nat.mul_lt_mul_of_pos_right a (Nat.pow_pos (by omega)))
   rwa [← Nat.pow_add, show (4000 + dp).toNat + (-dp).toNat = 4000 by omega] at b
  ·have a := Nat.mul_lt_mul_of_pos_right (first_lt h.can h5) (show 0 < 10 ^ (4000 + 0 - (nd : Int)).toNat from Nat.pow_pos (by omega))
   rw [Nat.mul_assoc, ← Nat.pow_add, show nd - 1 + (4000 + 0 - (nd : Int)).toNat = 3999 by omega] at a
   have a' : tS g nd 0 < 5 * 10 ^ 3999 := a
   have e : 10 ^ 4000 = 10 * 10 ^ 3999 := by rw [Nat.pow_succ 10 3999, Nat.mul_comm]
   rw [e]
   generalize 10 ^ 3999 = z at *
   rw [Nat.pow_one]
   omega
 refine ⟨hc, hx, h.y, ?_, ?_, by omega, fun e => by have := hlt.2 e; omega, by omega, ?_⟩
 ·rw [← Nat.add_assoc]
  exact U1 A B (1100 - x) (1100 - x + K) (by omega) (by omega) h.cmp
 ·refine U2 (2 ^ (K + k)) y0 (Nat.lt_of_le_of_lt (Nat.pow_le_pow_right (by omega) (show K + k ≤ 1127 by omega)) (by decide +kernel)) ?_
  rw [Nat.pow_add, Nat.mul_assoc, Nat.mul_comm (2 ^ k), ← Nat.mul_assoc]
  exact Nat.mul_le_mul_right _ h.low
 ·have a := Nat.lt_of_le_of_lt (tS_ge hc (dp := dp') (by omega)) top
  have := (Nat.pow_lt_pow_iff_right (by omega)).1 a
  omega
structure St3 (A B L : Nat) (g : Nat → Nat) (nd : Nat) (tr : Bool) (E : Int) : Prop where
 can : Can0 g nd
 e1 : -1127 ≤ E
 e2 : E ≤ 1057
 cmp : Cmp A B L (1100 - E).toNat (tS g nd 0) tr
 lo : 5 * 10 ^ 3999 ≤ tS g nd 0
 hi : tS g nd 0 < 10 ^ 4000
 c1 : -1021 ≤ E → 1154 - E ≤ L + 1120
 c2 : E < -1021 → L = 1100
 c3 : L ≤ (1100 - E).toNat ∧ L ≤ 1100
set_option exponentiation.threshold 6000 in
theorem St2.next {y0 : Nat} (h : St2 A B x y0 g nd 0 tr K) (h5 : 53 ≤ g 0) : St3 A B (1100 - x) g nd tr ((x : Int) - K) := by
 have hlt := h.lt
 have hp := h.can.pos; have hl := h.can.le
 have hx := h.x1
 have hk := h.K1
 have hy : (x = 0 ∧ K < 1100) ∨ K < 4 := by
  rcases h.y with ⟨h, _⟩ | h
  ·exact Or.inl ⟨h, hlt.1⟩
  ·exact Or.inr (hlt.2 h)
 refine ⟨h.can, by omega, by omega, ?_, ?_, ?_, by omega, by omega, by omega, by omega⟩
 ·rw [show (1100 - ((x : Int) - K)).toNat = 1100 - x + K by omega]; exact h.cmp
 ·have a := Nat.mul_le_mul_right (10 ^ (4000 + 0 - (nd : Int)).toNat) (first_ge h.can h5)
  rw [Nat.mul_assoc, ← Nat.pow_add, show nd - 1 + (4000 + 0 - (nd : Int)).toNat = 3999 by omega] at a
  exact a
 ·exact tS_lt h.can.dig (dp := 0) (by omega)
end
set_option exponentiation.threshold 6000 in
theorem z_half : 10 ^ 4000 = 2 * (5 * 10 ^ 3999) := by decide +kernel
def FinAt (A Q T Z : Nat) (tr : Bool) : Prop := ∀ F, F < 2 ^ 55 → (A < F * Q ↔ 2 * T < F * Z) ∧ (A ≤ F * Q ↔ (2 * T < F * Z ∨ (2 * T = F * Z ∧ tr = false)))
section
variable {A B L T : Nat} {tr : Bool}
theorem fin_of {a p : Nat} (h : Cmp A B L a T tr) (ha : a + p = 2174) (hL : a + 1 ≤ L + 1120) : FinAt A (B * 2 ^ p) T (10 ^ 4000) tr := by
 intro F hF
 obtain ⟨c1, c2⟩ := h F (a + 1) hF hL
 have hpa : 0 < 2 ^ a := Nat.pow_pos (by omega)
 have hpe : 0 < 2 ^ (a + 1) := Nat.pow_pos (by omega)
 have e1 : F * 2 ^ 2175 * B = F * (B * 2 ^ p) * 2 ^ (a + 1) := by
  rw [show 2175 = p + (a + 1) by omega, Nat.pow_add]; simp only [Nat.mul_assoc, Nat.mul_comm, Nat.mul_left_comm]
 have e2 : T * 2 ^ (a + 1) = 2 * T * 2 ^ a := by rw [Nat.pow_succ]; simp only [Nat.mul_assoc, Nat.mul_comm, Nat.mul_left_comm]
 have e3 : F * 2 ^ a * 10 ^ 4000 = F * 10 ^ 4000 * 2 ^ a := by generalize 10 ^ 4000 = z; simp only [Nat.mul_assoc, Nat.mul_comm, Nat.mul_left_comm]
 rw [e1, e2, e3, Nat.mul_lt_mul_right hpe, Nat.mul_lt_mul_right hpa] at c1
 rw [e1, e2, e3, Nat.mul_lt_mul_right hpa] at c2
 refine ⟨c1, ?_⟩
 have q1 : A * 2 ^ (a + 1) ≤ F * (B * 2 ^ p) * 2 ^ (a + 1) ↔ A ≤ F * (B * 2 ^ p) := ⟨fun h => Nat.le_of_mul_le_mul_right h hpe, fun h => Nat.mul_le_mul_right _ h⟩
 have q2 : (2 * T * 2 ^ a = F * 10 ^ 4000 * 2 ^ a) ↔ 2 * T = F * 10 ^ 4000 := ⟨fun h => Nat.eq_of_mul_eq_mul_right hpa h, fun h => by rw [h]⟩
 rw [q1, q2] at c2
 exact c2
def slowM (T Z : Nat) (tr : Bool) : Nat := T / Z + (if Z < 2 * (T % Z) ∨ (2 * (T % Z) = Z ∧ (tr = true ∨ T / Z % 2 = 1)) then 1 else 0)
theorem rne_of {Q Z : Nat} (h : FinAt A Q T Z tr) (hQ : 0 < Q) (hZ : 0 < Z) (hA : A < 2 ^ 54 * Q) : Rne A Q (slowM T Z tr) := by
 have hb := (h (2 ^ 54) (by decide)).1.1 hA
 have hN : T / Z < 2 ^ 53 := by rw [Nat.div_lt_iff_lt_mul hZ]; omega
 have hT : T = T / Z * Z + T % Z := (Nat.div_add_mod' T Z).symm
 have hR := Nat.mod_lt T hZ
 unfold slowM
 generalize T / Z = N at *
 generalize T % Z = R at *
 have f1 := h (2 * N + 1) (by omega)
 have f3 := h (2 * N + 3) (by omega)
 have e1 : (2 * N + 1) * Z = 2 * (N * Z) + Z := by rw [Nat.add_mul, Nat.mul_assoc]; omega
 have e3 : (2 * N + 3) * Z = 2 * (N * Z) + 3 * Z := by rw [Nat.add_mul, Nat.mul_assoc]
 rw [e1] at f1
 rw [e3] at f3
 generalize hNZ : N * Z = NZ at *
 split
 ·rename_i hu
  have e : 2 * (N + 1) - 1 = 2 * N + 1 := by omega
  refine ⟨Or.inr ?_, ?_⟩
  ·rw [e]
   rcases Nat.lt_or_ge ((2 * N + 1) * Q) A with h1 | h1
   ·exact Or.inl h1
   ·right
    have h2 := f1.2.1 h1
    have h3 : 2 * T = 2 * NZ + Z ∧ tr = false := by
     rcases h2 with h2 | h2
     ·exfalso
      rcases hu with hu | hu
      ·omega
      ·have := hu.1; omega
     ·exact h2
    have h4 : N % 2 = 1 := by
     rcases hu with hu | ⟨_, hu | hu⟩
     ·omega
     ·rw [hu] at h3; cases h3.2
     ·exact hu
    refine ⟨?_, by omega⟩
    rcases Nat.lt_or_ge A ((2 * N + 1) * Q) with h5 | h5
    ·have := f1.1.1 h5; omega
    ·omega
  ·left
   rw [show 2 * (N + 1) + 1 = 2 * N + 3 by omega]
   exact f3.1.2 (by omega)
 ·rename_i hu
  rw [Nat.add_zero]
  constructor
  ·rcases Nat.eq_zero_or_pos N with h0 | h0
   ·exact Or.inl h0
   ·right; left
    have f0 := h (2 * N - 1) (by omega)
    obtain ⟨j, hj⟩ : ∃ j, 2 * N - 1 = j ∧ j + 1 = 2 * N := ⟨_, rfl, by omega⟩
    have e0 : (2 * N - 1) * Z + Z = 2 * NZ := by
     rw [hj.1, ← hNZ, ← Nat.mul_assoc, ← hj.2, Nat.add_mul, Nat.one_mul]
    rcases Nat.lt_or_ge ((2 * N - 1) * Q) A with h1 | h1
    ·exact h1
    ·have h6 := f0.2.1 h1
     generalize (2 * N - 1) * Z = y at *
     omega
  ·rcases Nat.lt_or_ge A ((2 * N + 1) * Q) with h1 | h1
   ·exact Or.inl h1
   ·right
    have h2 : ¬ 2 * T < 2 * NZ + Z := fun h => by have := f1.1.2 h; omega
    have h3 : 2 * R = Z := by omega
    have h4 : tr = false ∧ N % 2 = 0 := by
     cases tr
     ·exact ⟨rfl, by omega⟩
     ·exact absurd (Or.inr ⟨h3, Or.inl rfl⟩) hu
    have h5 := f1.2.2 (Or.inr ⟨by omega, h4.1⟩)
    exact ⟨by omega, h4.2⟩
end
end Go.Proofs.YtillamhoakohdaaGreatDoor
namespace Go.Proofs.YtillamhoakohdaaGreatDoor

section
variable {A B L : Nat} {g : Nat → Nat} {nd : Nat} {tr tr' t1 : Bool} {E : Int} {T' T1 : Nat}
theorem slow_norm (h : St3 A B L g nd tr E) (hE : -1021 ≤ E) (hU : Up 53 (tS g nd 0) tr T' tr') :
  FinAt A (B * 2 ^ (E + 1021).toNat) T' (10 ^ 4000) tr' ∧ 2 ^ 53 * (B * 2 ^ (E + 1021).toNat) ≤ A ∧ A < 2 ^ 54 * (B * 2 ^ (E + 1021).toNat) := by
 have h1 := h.e1; have h2 := h.e2; have c1 := h.c1 hE; have c3 := h.c3
 obtain ⟨U1, U2, U3⟩ := hU
 have hf := fin_of (p := (E + 1021).toNat) (U1 A B L (1100 - E).toNat c3.1 (by omega) h.cmp) (by omega) (by omega)
 refine ⟨hf, ?_, ?_⟩
 ·have a := U2 (5 * 2 ^ 53) 3999 (by decide +kernel) (by
   have := Nat.mul_le_mul_right (2 ^ 53) h.lo
   rwa [show 5 * 10 ^ 3999 * 2 ^ 53 = 5 * 2 ^ 53 * 10 ^ 3999 by generalize 10 ^ 3999 = z; simp only [Nat.mul_assoc, Nat.mul_comm, Nat.mul_left_comm]] at this)
  have f := (hf (2 ^ 53) (by decide)).1
  rcases Nat.lt_or_ge A (2 ^ 53 * (B * 2 ^ (E + 1021).toNat)) with hl | hl
  ·exfalso
   have b := f.1 hl
   rw [z_half] at b
   generalize 10 ^ 3999 = z at *
   omega
  ·exact hl
 ·refine (hf (2 ^ 54) (by decide)).1.2 ?_
  have a := Nat.lt_of_le_of_lt U3 (Nat.mul_lt_mul_of_pos_right h.hi (show 0 < 2 ^ 53 by decide))
  generalize 10 ^ 4000 = z at *
  omega
theorem slow_sub (h : St3 A B L g nd tr E) (hE : E < -1021) (hD : Down (-1021 - E).toNat (tS g nd 0) tr T1 t1) (hU : Up 53 T1 t1 T' tr') :
  FinAt A (B * 2 ^ 0) T' (10 ^ 4000) tr' ∧ A < 2 ^ 54 * (B * 2 ^ 0) := by
 have h1 := h.e1; have c2 := h.c2 hE; have c3 := h.c3
 obtain ⟨U1, U2, U3⟩ := hU
 obtain ⟨D1, D2, D3⟩ := hD
 have hc := h.cmp
 rw [show (1100 - E).toNat = 2121 + (-1021 - E).toNat by omega] at hc
 have hf := fin_of (p := 0) (U1 A B L 2121 (by omega) (by omega) (D1 A B L 2121 (by omega) (by omega) hc)) (by omega) (by omega)
 refine ⟨hf, ?_⟩
 refine (hf (2 ^ 54) (by decide)).1.2 ?_
 have b : T1 < 10 ^ 4000 := Nat.lt_of_le_of_lt (Nat.le_trans (Nat.le_mul_of_pos_right _ (Nat.pow_pos (by omega))) D3) h.hi
 have a := Nat.lt_of_le_of_lt U3 (Nat.mul_lt_mul_of_pos_right b (show 0 < 2 ^ 53 by decide))
 generalize 10 ^ 4000 = z at *
 omega
set_option exponentiation.threshold 6000 in
theorem slow_over (h : St3 A B L g nd tr E) (hE : 1025 ≤ E) : 2 ^ 2099 * B ≤ A := by
 have h2 := h.e2; have c1 := h.c1 (by omega); have c3 := h.c3
 obtain ⟨a, ha⟩ : ∃ a, a = (1100 - E).toNat := ⟨_, rfl⟩
 have hc := h.cmp
 rw [← ha] at hc
 obtain ⟨d1, _⟩ := hc 1 (a + 1) (by decide) (by omega)
 rcases Nat.lt_or_ge (A * 2 ^ (a + 1)) (1 * 2 ^ 2175 * B) with hl | hl
 ·exfalso
  have b := d1.1 hl
  have e : tS g nd 0 * 2 ^ (a + 1) = 2 * tS g nd 0 * 2 ^ a := by rw [Nat.pow_succ]; simp only [Nat.mul_assoc, Nat.mul_comm, Nat.mul_left_comm]
  have e2 : 1 * 2 ^ a * 10 ^ 4000 = 10 ^ 4000 * 2 ^ a := by rw [Nat.one_mul, Nat.mul_comm]
  rw [e, e2] at b
  have c := Nat.lt_of_mul_lt_mul_right b
  have lo := h.lo
  rw [z_half] at c
  generalize 10 ^ 3999 = z at *
  omega
 ·refine Nat.le_of_mul_le_mul_right (c := 2 ^ (a + 1)) ?_ (Nat.pow_pos (by omega))
  refine Nat.le_trans ?_ hl
  rw [Nat.one_mul, show 2 ^ 2099 * B * 2 ^ (a + 1) = 2 ^ 2099 * 2 ^ (a + 1) * B by simp only [Nat.mul_assoc, Nat.mul_comm, Nat.mul_left_comm], ← Nat.pow_add]
  exact Nat.mul_le_mul_right _ (Nat.pow_le_pow_right (by omega) (by omega))
end
def upB (g : Nat → Nat) (nd : Nat) (dp : Int) (tr : Bool) : Bool :=
 if dp < 0 ∨ (nd : Int) ≤ dp then false else
 if g dp.toNat = 53 ∧ dp.toNat + 1 = nd then (tr || (decide (0 < dp) && decide ((g (dp.toNat - 1) - 48) % 2 = 1))) else decide (53 ≤ g dp.toNat)
def upM (g : Nat → Nat) (nd : Nat) (dp : Int) (tr : Bool) : Nat := pz g nd dp.toNat + (if upB g nd dp tr = true then 1 else 0)
theorem slow_cmp {f tail J W N : Nat} {tr : Bool} (hW : 0 < W) (ht : tail < J) (hf : f < 10) (b : Bool)
  (hb : b = true ↔ (6 ≤ f ∨ (f = 5 ∧ (0 < tail ∨ tr = true ∨ N % 2 = 1)))) :
  (J * 10 * W < 2 * ((tail + J * f) * W) ∨ (2 * ((tail + J * f) * W) = J * 10 * W ∧ (tr = true ∨ N % 2 = 1))) ↔ b = true := by
 rw [hb]
 have e1 : 2 * ((tail + J * f) * W) = 2 * (tail + J * f) * W := by rw [Nat.mul_assoc]
 rw [e1, Nat.mul_lt_mul_right hW]
 have e2 : (2 * (tail + J * f) * W = J * 10 * W) ↔ 2 * (tail + J * f) = J * 10 := ⟨fun h => Nat.eq_of_mul_eq_mul_right hW h, fun h => by rw [h]⟩
 rw [e2]
 rcases (by omega : f ≤ 4 ∨ f = 5 ∨ 6 ≤ f) with h | h | h
 ·have : J * f ≤ J * 4 := Nat.mul_le_mul_left _ h
  omega
 ·subst h
  cases tr <;> simp <;> omega
 ·have : J * 6 ≤ J * f := Nat.mul_le_mul_left _ h
  omega
set_option exponentiation.threshold 6000 in
theorem slow_digits {g : Nat → Nat} {nd : Nat} {dp : Int} {tr : Bool} (hc : Can g nd) (h0 : 0 ≤ 4000 + dp - nd) (h1 : -1000 ≤ dp) : slowM (tS g nd dp) (10 ^ 4000) tr = upM g nd dp tr := by
 have hp := hc.pos; have hle := hc.le
 have hZ : ∀ n, 0 < 10 ^ n := fun n => Nat.pow_pos (by omega)
 unfold upM upB
 by_cases hneg : dp < 0
 ·rw [if_pos (Or.inl hneg), show dp.toNat = 0 by omega]
  show _ = 0 + 0
  have a := Nat.lt_of_lt_of_le (tS_lt hc.dig h0) (pow10_le (show (4000 + dp).toNat ≤ 3999 by omega))
  have e : 10 ^ 4000 = 10 * 10 ^ 3999 := by rw [Nat.pow_succ 10 3999, Nat.mul_comm]
  unfold slowM
  rw [e]
  have hz := hZ 3999
  generalize 10 ^ 3999 = z at *
  rw [Nat.div_eq_of_lt (by omega), Nat.mod_eq_of_lt (by omega), if_neg (by omega)]
 ·obtain ⟨n, rfl⟩ : ∃ n : Nat, dp = n := ⟨dp.toNat, by omega⟩
  rw [Int.toNat_natCast]
  by_cases hbig : nd ≤ n
  ·rw [if_pos (Or.inr (by omega))]
   show _ = pz g nd n + 0
   obtain ⟨m, rfl⟩ : ∃ m, n = nd + m := ⟨n - nd, by omega⟩
   have e : tS g nd ((nd + m : Nat) : Int) = pz g nd (nd + m) * 10 ^ 4000 := by
    unfold tS
    rw [pz_out, show (4000 + ((nd + m : Nat) : Int) - nd).toNat = m + 4000 by omega, Nat.pow_add, Nat.mul_assoc]
   unfold slowM
   rw [e]
   have hz := hZ 4000
   generalize 10 ^ 4000 = z at *
   rw [Nat.mul_div_cancel _ hz, Nat.mul_mod_left, if_neg (by omega)]
  ·rw [if_neg (show ¬ ((n : Int) < 0 ∨ (nd : Int) ≤ n) by omega)]
   obtain ⟨j, hj⟩ : ∃ j, nd = n + (j + 1) := ⟨nd - n - 1, by omega⟩
   have eT : tS g nd (n : Int) = dn g nd * 10 ^ (4000 - (j + 1)) := by
    unfold tS; rw [show (4000 + (n : Int) - nd).toNat = 4000 - (j + 1) by omega]
   have eZ : 10 ^ 4000 = 10 ^ (j + 1) * 10 ^ (4000 - (j + 1)) := by rw [← Nat.pow_add]; congr 1; omega
   have t1 := dn_top hc.dig (j + 1) (by omega)
   rw [show nd - (j + 1) = n by omega] at t1
   have t2 := dn_top hc.dig j (by omega)
   rw [show nd - j = n + 1 by omega, dn_succ] at t2
   have hd := hc.dig n (by omega)
   have hf : dn g nd / 10 ^ j % 10 = g n - 48 := by rw [← t2]; omega
   unfold slowM
   generalize 10 ^ 4000 = Z at *
   subst eZ
   rw [eT, Nat.mul_div_mul_right _ _ (hZ _), Nat.mul_mod_mul_right, ← t1, pz_dn (show n ≤ nd by omega)]
   congr 1
   have em : dn g nd % 10 ^ (j + 1) = dn g nd % 10 ^ j + 10 ^ j * (g n - 48) := by rw [Nat.pow_succ, Nat.mod_mul, hf]
   rw [em, Nat.pow_succ]
   have htl := Nat.mod_lt (dn g nd) (hZ j)
   have tail0 : 0 < dn g nd % 10 ^ j ↔ 0 < j := by
    constructor
    ·intro h
     rcases Nat.eq_zero_or_pos j with rfl | h2
     ·simp [Nat.mod_one] at h
     ·exact h2
    ·intro h
     obtain ⟨i, rfl⟩ : ∃ i, j = i + 1 := ⟨j - 1, by omega⟩
     have a1 : dn g nd % 10 ^ (i + 1) % 10 = dn g nd % 10 := Nat.mod_mod_of_dvd _ (by rw [Nat.pow_succ]; exact Nat.dvd_mul_left _ _)
     have a2 : dn g nd = 10 * dn g (nd - 1) + (g (nd - 1) - 48) := by rw [← dn_succ]; congr 1; omega
     have a3 := hc.last
     have a4 := hc.dig (nd - 1) (by omega)
     rcases Nat.eq_zero_or_pos (dn g nd % 10 ^ (i + 1)) with h5 | h5
     ·rw [h5] at a1; omega
     ·exact h5
   have par : 0 < n → dn g n % 2 = (g (n - 1) - 48) % 2 := by
    intro h
    have a2 : dn g n = 10 * dn g (n - 1) + (g (n - 1) - 48) := by rw [← dn_succ]; congr 1; omega
    omega
   have par0 : n = 0 → dn g n % 2 = 0 := by rintro rfl; rfl
   have key := slow_cmp (N := dn g n) (tr := tr) (hZ (4000 - (j + 1))) htl (show g n - 48 < 10 by omega)
    (if g n = 53 ∧ n + 1 = nd then (tr || (decide ((0 : Int) < n) && decide ((g (n - 1) - 48) % 2 = 1))) else decide (53 ≤ g n)) (by
     split
     ·rename_i h
      have : ¬ 0 < dn g nd % 10 ^ j := by rw [tail0]; omega
      rw [Bool.or_eq_true, Bool.and_eq_true, decide_eq_true_eq, decide_eq_true_eq]
      rcases Nat.eq_zero_or_pos n with h0 | h0
      ·have := par0 h0
       cases tr <;> simp <;> omega
      ·have := par h0
       cases tr <;> simp <;> omega
     ·rename_i h
      rw [decide_eq_true_eq]
      constructor
      ·intro h2
       rcases Nat.lt_or_ge 53 (g n) with h3 | h3
       ·left; omega
       ·right; exact ⟨by omega, Or.inl (tail0.2 (by omega))⟩
      ·rintro (h2 | ⟨h2, _⟩) <;> omega)
   generalize (if g n = 53 ∧ n + 1 = nd then (tr || (decide ((0 : Int) < n) && decide ((g (n - 1) - 48) % 2 = 1))) else decide (53 ≤ g n)) = b at *
   by_cases hb : b = true
   ·rw [if_pos (key.2 hb), if_pos hb]
   ·rw [if_neg (fun h => hb (key.1 h)), if_neg hb]
set_option exponentiation.threshold 6000 in
theorem slow_dp {g : Nat → Nat} {nd : Nat} {dp : Int} (hc : Can0 g nd) (h0 : 0 ≤ 4000 + dp - nd) (h : tS g nd dp < 2 ^ 53 * 10 ^ 4000) : dp ≤ 16 := by
 have hp := hc.pos; have hle := hc.le
 have a := Nat.lt_of_le_of_lt (tS_ge hc h0) h
 have b : 10 ^ (4000 + dp - 1).toNat < 10 ^ (16 + 4000) := by
  refine Nat.lt_trans a ?_
  rw [Nat.pow_add 10 16]
  exact Nat.mul_lt_mul_of_pos_right (by decide) (Nat.pow_pos (by omega))
 have := (Nat.pow_lt_pow_iff_right (by omega : 1 < 10)).1 b
 omega
theorem slow_top {A Q T Z : Nat} {tr : Bool} (h : FinAt A Q T Z tr) (hA : A < 2 ^ 54 * Q) : T < 2 ^ 53 * Z := by
 have := (h (2 ^ 54) (by decide)).1.1 hA
 omega
end Go.Proofs.YtillamhoakohdaaGreatDoor

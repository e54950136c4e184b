/-
  Plain functions: floats by their rungs, what a plain text is, what a text is under a tag. Nothing is claimed here but that a rung is one. Plain law: a rung as a power and a significand; the nearest rung by a significand that is rounded to the even one. Plain law: the scaling by a tabled power of ten that leaves the number unrounded is right to the last bit. Plain law: decimals of at most 800 digits: how what is kept stands to the midpoints. Plain law: digits in a row of bytes, and what a shift makes of them.
-/
import Derived.Test.YtillamhoakohdaaGreatDoorM01
set_option linter.unusedVariables false
set_option linter.unusedSimpArgs false
namespace Go.Proofs.YtillamhoakohdaaGreatDoor

def uok : Nat → Bs → Bool
 | k, [] => k != 1
 | k, c :: l => if isDig c = true then uok 0 l else if c = 95 then (if k = 0 then uok 1 l else false) else if k = 1 then false else uok 2 l

def decN : Nat → Bs → Nat
 | n, [] => n
 | n, c :: l => decN (10 * n + (c.toNat - 48)) l
def expN : Nat → Bs → Nat
 | e, [] => e
 | e, c :: l => expN (if e < 10000 then e * 10 + (c.toNat - 48) else e) l

def parts (l : Bs) : Bs × Bs × Bs :=
 match l.drop (digits l) with
 | c :: r => if c = 46 then (l.take (digits l), r.take (digits r), r.drop (digits r)) else (l.take (digits l), [], c :: r)
 | [] => (l.take (digits l), [], [])
def tenTo (l : Bs) : Int :=
 match l with
 | _ :: r => if (sgn r).2.1 = true then -(expN 0 (sgn r).1 : Int) else (expN 0 (sgn r).1 : Int)
 | [] => 0
def deci (l : Bs) : Nat × Int := (decN 0 ((parts l).1 ++ (parts l).2.1), tenTo (parts l).2.2 - ((parts l).2.1.length : Int))

def rungU (r : Nat) : Nat := if r < 2 ^ 52 then r else (2 ^ 52 + r % 2 ^ 52) * 2 ^ (r / 2 ^ 52 - 1)
def Near (A B r : Nat) : Prop :=
 (r = 0 ∨ (rungU (r - 1) + rungU r) * B < A ∨ ((rungU (r - 1) + rungU r) * B = A ∧ r % 2 = 0)) ∧
 (A < (rungU r + rungU (r + 1)) * B ∨ (A = (rungU r + rungU (r + 1)) * B ∧ r % 2 = 0))

def infR : Nat := 2047 * 2 ^ 52
def fracA (d : Nat × Int) : Nat := if 0 ≤ d.2 then d.1 * 10 ^ d.2.toNat * 2 ^ 1075 else d.1 * 2 ^ 1075
def fracB (d : Nat × Int) : Nat := if 0 ≤ d.2 then 1 else 10 ^ (-d.2).toNat
def FltIs (neg : Bool) (d : Nat × Int) : Option Nat → Prop
 | some n => ∃ r, r < infR ∧ Near (fracA d) (fracB d) r ∧ n = (if neg = true then 2 ^ 63 else 0) + r
 | none => (rungU (infR - 1) + rungU infR) * fracB d ≤ fracA d
def PfIs (l : Bs) (x : Option Nat) : Prop :=
 if uok 2 l = true ∧ real (bare l) = true then FltIs (sgn (bare l)).2.1 (deci (sgn (bare l)).1) x else x = none

theorem rungU_step (r : Nat) : rungU r < rungU (r + 1) := by
 unfold rungU
 by_cases h1 : r + 1 < 2 ^ 52
 ·rw [if_pos (by omega), if_pos h1]; omega
 ·by_cases h2 : r < 2 ^ 52
  ·rw [if_pos h2, if_neg h1]
   have e : r + 1 = 2 ^ 52 := by omega
   rw [e]; simp at e ⊢; omega
  ·rw [if_neg h2, if_neg h1]
   by_cases h3 : (r + 1) % 2 ^ 52 = 0
   ·have e1 : (r + 1) / 2 ^ 52 = r / 2 ^ 52 + 1 := by omega
    have e2 : r % 2 ^ 52 = 2 ^ 52 - 1 := by omega
    have e3 : 1 ≤ r / 2 ^ 52 := by omega
    rw [e1, h3, e2, show r / 2 ^ 52 + 1 - 1 = (r / 2 ^ 52 - 1) + 1 by omega, Nat.pow_succ 2 (r / 2 ^ 52 - 1)]
    have hp : 0 < 2 ^ (r / 2 ^ 52 - 1) := Nat.pow_pos (by omega)
    generalize 2 ^ (r / 2 ^ 52 - 1) = p at *
    have : (2 ^ 52 + (2 ^ 52 - 1)) * p < (2 ^ 52 + 2 ^ 52) * p := Nat.mul_lt_mul_of_pos_right (by omega) hp
    have e4 : (2 ^ 52 + 0) * (p * 2) = (2 ^ 52 + 2 ^ 52) * p := by rw [Nat.add_zero, Nat.mul_comm p 2, ← Nat.mul_assoc]
    rw [e4]; exact this
   ·have e1 : (r + 1) / 2 ^ 52 = r / 2 ^ 52 := by omega
    have e2 : (r + 1) % 2 ^ 52 = r % 2 ^ 52 + 1 := by omega
    rw [e1, e2]
    exact Nat.mul_lt_mul_of_pos_right (by omega) (Nat.pow_pos (by omega))
theorem rungU_le {q r : Nat} (h : q ≤ r) : rungU q ≤ rungU r := by
 induction h with
 | refl => exact Nat.le_refl _
 | step _ ih => exact Nat.le_trans ih (Nat.le_of_lt (rungU_step _))
def midU (r : Nat) : Nat := rungU r + rungU (r + 1)
theorem midU_le {q r : Nat} (h : q ≤ r) : midU q ≤ midU r := Nat.add_le_add (rungU_le h) (rungU_le (by omega))
theorem midU_lt {q r : Nat} (h : q < r) : midU q < midU r :=
 Nat.lt_of_lt_of_le (Nat.add_lt_add (rungU_step q) (rungU_step (q + 1))) (midU_le h)
theorem near_lt {A B q r : Nat} (hB : 0 < B) (h1 : Near A B q) (h2 : Near A B r) (h : q < r) : False := by
 have h3 := h1.2
 have h4 := h2.1
 have e : rungU (r - 1) + rungU r = midU (r - 1) := by unfold midU; rw [show r - 1 + 1 = r by omega]
 rw [e] at h4
 change A < midU q * B ∨ _ at h3
 have h5 : midU q * B ≤ midU (r - 1) * B := Nat.mul_le_mul_right _ (midU_le (by omega))
 rcases h4 with h4 | h4 | ⟨h4, hr⟩
 ·omega
 ·rcases h3 with h3 | ⟨h3, _⟩
  ·omega
  ·change A = midU q * B at h3; omega
 ·rcases h3 with h3 | ⟨h3, hq⟩
  ·omega
  ·change A = midU q * B at h3
   have h6 : q ≠ r - 1 := by omega
   have h7 : midU q * B < midU (r - 1) * B := Nat.mul_lt_mul_of_pos_right (midU_lt (by omega)) hB
   omega
theorem near_one {A B q r : Nat} (hB : 0 < B) (h1 : Near A B q) (h2 : Near A B r) : q = r := by
 rcases Nat.lt_trichotomy q r with h | h | h
 ·exact (near_lt hB h1 h2 h).elim
 ·exact h
 ·exact (near_lt hB h2 h1 h).elim
theorem fracB_pos (d : Nat × Int) : 0 < fracB d := by
 unfold fracB
 split
 ·omega
 ·exact Nat.pow_pos (by omega)
theorem near_inf {A B r : Nat} (hB : 0 < B) (h : Near A B r) (hr : r < infR) : ¬ (rungU (infR - 1) + rungU infR) * B ≤ A := by
 intro h2
 have e : rungU (infR - 1) + rungU infR = midU (infR - 1) := by unfold midU; rw [show infR - 1 + 1 = infR by unfold infR; omega]
 rw [e] at h2
 have h3 := h.2
 change A < midU r * B ∨ (A = midU r * B ∧ _) at h3
 by_cases hq : r = infR - 1
 ·subst hq
  rcases h3 with h3 | ⟨h3, h4⟩
  ·omega
  ·have : (infR - 1) % 2 = 1 := by unfold infR; omega
   omega
 ·have : midU r * B < midU (infR - 1) * B := Nat.mul_lt_mul_of_pos_right (midU_lt (by omega)) hB
  omega
theorem fltIs_one {neg : Bool} {d : Nat × Int} : ∀ {x y : Option Nat}, FltIs neg d x → FltIs neg d y → x = y
 | some n, some m, ⟨r, _, h1, h2⟩, ⟨q, _, h3, h4⟩ => by rw [h2, h4, near_one (fracB_pos d) h1 h3]
 | some n, none, ⟨r, h0, h1, _⟩, h2 => (near_inf (fracB_pos d) h1 h0 h2).elim
 | none, some n, h2, ⟨r, h0, h1, _⟩ => (near_inf (fracB_pos d) h1 h0 h2).elim
 | none, none, _, _ => rfl
theorem pfIs_one {l : Bs} {x y : Option Nat} (h1 : PfIs l x) (h2 : PfIs l y) : x = y := by
 unfold PfIs at h1 h2
 split at h1
 ·rename_i h; rw [if_pos h] at h2; exact fltIs_one h1 h2
 ·rename_i h; rw [if_neg h] at h2; rw [h1, h2]
open Classical in
noncomputable def pf (l : Bs) : Option Nat := if h : ∃ x, PfIs l x then Classical.choose h else none
theorem pf_is {l : Bs} {x : Option Nat} (h : PfIs l x) : pf l = x := by
 unfold pf
 have h2 : ∃ x, PfIs l x := ⟨x, h⟩
 rw [dif_pos h2]
 exact pfIs_one (Classical.choose_spec h2) h

end Go.Proofs.YtillamhoakohdaaGreatDoor
namespace Go.Proofs.YtillamhoakohdaaGreatDoor

theorem rungU_pm {p m : Nat} (h : p = 0 ∨ 2 ^ 52 ≤ m) (h2 : m ≤ 2 ^ 53) : rungU (p * 2 ^ 52 + m) = m * 2 ^ p := by
 unfold rungU
 by_cases h3 : m < 2 ^ 52
 ·rcases h with h | h
  ·subst h; rw [if_pos (by omega)]; simp
  ·omega
 ·by_cases h4 : m = 2 ^ 53
  ·subst h4
   rw [if_neg (by omega), show (p * 2 ^ 52 + 2 ^ 53) / 2 ^ 52 - 1 = p + 1 by omega, show (p * 2 ^ 52 + 2 ^ 53) % 2 ^ 52 = 0 by omega, Nat.pow_succ 2 p, Nat.add_zero, Nat.mul_comm (2 ^ p) 2, ← Nat.mul_assoc]
  ·rw [if_neg (by omega), show (p * 2 ^ 52 + m) / 2 ^ 52 - 1 = p by omega, show (p * 2 ^ 52 + m) % 2 ^ 52 = m - 2 ^ 52 by omega, show 2 ^ 52 + (m - 2 ^ 52) = m by omega]

def Rne (A Q m : Nat) : Prop :=
 (m = 0 ∨ (2 * m - 1) * Q < A ∨ ((2 * m - 1) * Q = A ∧ m % 2 = 0)) ∧
 (A < (2 * m + 1) * Q ∨ (A = (2 * m + 1) * Q ∧ m % 2 = 0))

theorem rne_lt {A Q m : Nat} (hQ : 0 < Q) (hA : A < 2 ^ 54 * Q) (h : Rne A Q m) : m ≤ 2 ^ 53 := by
 rcases Nat.lt_or_ge (2 ^ 53) m with hm | hm
 ·exfalso
  have h1 : 2 ^ 54 * Q ≤ (2 * m - 1) * Q := Nat.mul_le_mul_right _ (by omega)
  rcases h.1 with h2 | h2 | h2 <;> omega
 ·exact hm
theorem rne_ge {A Q m : Nat} (hQ : 0 < Q) (hA : 2 ^ 53 * Q ≤ A) (h : Rne A Q m) : 2 ^ 52 ≤ m := by
 rcases Nat.lt_or_ge m (2 ^ 52) with hm | hm
 ·exfalso
  have h1 : (2 * m + 1) * Q < 2 ^ 53 * Q := Nat.mul_lt_mul_of_pos_right (by omega) hQ
  rcases h.2 with h3 | ⟨h3, h4⟩ <;> omega
 ·exact hm
theorem near_pm {A B p m : Nat} (hB : 0 < B) (h : p = 0 ∨ 2 ^ 53 * (B * 2 ^ p) ≤ A) (hA : A < 2 ^ 54 * (B * 2 ^ p)) (hm : Rne A (B * 2 ^ p) m) : Near A B (p * 2 ^ 52 + m) := by
 have hp : 0 < 2 ^ p := Nat.pow_pos (by omega)
 have hQ : 0 < B * 2 ^ p := Nat.mul_pos hB hp
 have m1 : m ≤ 2 ^ 53 := rne_lt hQ hA hm
 have m2 : p = 0 ∨ 2 ^ 52 ≤ m := h.imp_right fun h => rne_ge hQ h hm
 have par : (p * 2 ^ 52 + m) % 2 = m % 2 := by omega
 have e0 := rungU_pm m2 m1
 have sw : ∀ a : Nat, a * 2 ^ p * B = a * (B * 2 ^ p) := fun a => by rw [Nat.mul_assoc, Nat.mul_comm B]
 constructor
 ·by_cases hr : p * 2 ^ 52 + m = 0
  ·exact Or.inl hr
  ·right
   by_cases hm0 : m = 0
   ·have := m2.resolve_right (by omega)
    omega
   by_cases hq : p = 0 ∨ 2 ^ 52 < m
   ·have e1 := rungU_pm (p := p) (m := m - 1) (hq.imp_right (by omega)) (by omega)
    rw [show p * 2 ^ 52 + m - 1 = p * 2 ^ 52 + (m - 1) by omega, e1, e0, ← Nat.add_mul, sw, show m - 1 + m = 2 * m - 1 by omega, par]
    exact hm.1.resolve_left hm0
   ·have hp0 : p ≠ 0 := fun h => hq (Or.inl h)
    have hm2 : m = 2 ^ 52 := by have := m2.resolve_left hp0; omega
    left
    obtain ⟨k, rfl⟩ : ∃ k, p = k + 1 := ⟨p - 1, by omega⟩
    have e1 := rungU_pm (p := k) (m := 2 ^ 53 - 1) (Or.inr (by omega)) (by omega)
    rw [show (k + 1) * 2 ^ 52 + m - 1 = k * 2 ^ 52 + (2 ^ 53 - 1) by omega, e1, e0, hm2]
    have hk : 0 < B * 2 ^ k := Nat.mul_pos hB (Nat.pow_pos (by omega))
    have h2 := h.resolve_left (by omega)
    have e2 : B * 2 ^ (k + 1) = 2 * (B * 2 ^ k) := by rw [Nat.pow_succ, ← Nat.mul_assoc, Nat.mul_comm _ 2]
    have e3 : ((2 ^ 53 - 1) * 2 ^ k + 2 ^ 52 * 2 ^ (k + 1)) * B = (2 ^ 54 - 1) * (B * 2 ^ k) := by
     rw [Nat.pow_succ 2 k, Nat.mul_comm (2 ^ k) 2, ← Nat.mul_assoc, ← Nat.add_mul, Nat.mul_assoc, Nat.mul_comm B]
    rw [e3]; rw [e2] at h2
    generalize B * 2 ^ k = x at *
    omega
 ·by_cases hm3 : m = 2 ^ 53
  ·left
   have h3 := rungU_step (p * 2 ^ 52 + m)
   refine Nat.lt_of_lt_of_le hA ?_
   rw [← sw, e0, hm3]
   refine Nat.mul_le_mul_right _ ?_
   rw [e0, hm3] at h3
   have : 2 ^ 54 * 2 ^ p = 2 ^ 53 * 2 ^ p + 2 ^ 53 * 2 ^ p := by rw [← Nat.add_mul]
   omega
  ·have e1 := rungU_pm (p := p) (m := m + 1) (m2.imp_right (by omega)) (by omega)
   rw [Nat.add_assoc, e1, e0, ← Nat.add_mul, sw, show m + (m + 1) = 2 * m + 1 by omega, par]
   exact hm.2
theorem flt_of_near {d : Nat × Int} {neg : Bool} {r : Nat} (h : Near (fracA d) (fracB d) r) :
  FltIs neg d (if r < infR then some ((if neg = true then 2 ^ 63 else 0) + r) else none) := by
 split
 ·rename_i hr; exact ⟨r, hr, h, rfl⟩
 ·rename_i hr
  show (rungU (infR - 1) + rungU infR) * fracB d ≤ fracA d
  have e1 : rungU (infR - 1) + rungU infR = midU (infR - 1) := by unfold midU; rw [show infR - 1 + 1 = infR by unfold infR; omega]
  have e2 : rungU (r - 1) + rungU r = midU (r - 1) := by unfold midU; rw [show r - 1 + 1 = r by unfold infR at hr; omega]
  rw [e1]
  have h1 := h.1
  rw [e2] at h1
  have h2 : midU (infR - 1) * fracB d ≤ midU (r - 1) * fracB d := Nat.mul_le_mul_right _ (midU_le (by omega))
  rcases h1 with h1 | h1 | ⟨h1, _⟩
  ·unfold infR at hr; omega
  ·omega
  ·omega
def Stk (A Q u : Nat) : Prop := (u % 2 = 0 ∧ A = u / 2 * Q) ∨ (u % 2 = 1 ∧ u / 2 * Q < A ∧ A < (u / 2 + 1) * Q)
theorem stk_rne {A Q u : Nat} (hQ : 0 < Q) (h : Stk A Q u) : Rne A Q ((u + 1 + u / 4 % 2) / 4) := by
 obtain ⟨k, j, hu, hj⟩ : ∃ k j, u = 4 * k + j ∧ j < 4 := ⟨u / 4, u % 4, by omega, by omega⟩
 have hlt : ∀ a b : Nat, a < b → a * Q < b * Q := fun a b h => Nat.mul_lt_mul_of_pos_right h hQ
 have hle : ∀ a b : Nat, a ≤ b → a * Q ≤ b * Q := fun a b h => Nat.mul_le_mul_right _ h
 rcases (by omega : j = 0 ∨ j = 1 ∨ j = 2 ∨ j = 3) with rfl | rfl | rfl | rfl
 ·have e : (u + 1 + u / 4 % 2) / 4 = k := by omega
  have h2 := h.resolve_right (by omega)
  rw [e]; rw [show u / 2 = 2 * k by omega] at h2
  exact ⟨(Nat.eq_zero_or_pos k).imp_right fun hk => Or.inl (by rw [h2.2]; exact hlt _ _ (by omega)), Or.inl (by rw [h2.2]; exact hlt _ _ (by omega))⟩
 ·have e : (u + 1 + u / 4 % 2) / 4 = k := by omega
  have h2 := h.resolve_left (by omega)
  rw [e]; rw [show u / 2 = 2 * k by omega] at h2
  exact ⟨Or.inr (Or.inl (Nat.lt_of_le_of_lt (hle _ _ (by omega)) h2.2.1)), Or.inl h2.2.2⟩
 ·have h2 := h.resolve_right (by omega)
  rw [show u / 2 = 2 * k + 1 by omega] at h2
  by_cases hk : k % 2 = 0
  ·have e : (u + 1 + u / 4 % 2) / 4 = k := by omega
   rw [e]
   exact ⟨Or.inr (Or.inl (by rw [h2.2]; exact hlt _ _ (by omega))), Or.inr ⟨h2.2, hk⟩⟩
  ·have e : (u + 1 + u / 4 % 2) / 4 = k + 1 := by omega
   rw [e]
   exact ⟨Or.inr (Or.inr ⟨by rw [h2.2, show 2 * (k + 1) - 1 = 2 * k + 1 by omega], by omega⟩), Or.inl (by rw [h2.2]; exact hlt _ _ (by omega))⟩
 ·have e : (u + 1 + u / 4 % 2) / 4 = k + 1 := by omega
  have h2 := h.resolve_left (by omega)
  rw [e]; rw [show u / 2 = 2 * k + 1 by omega] at h2
  exact ⟨Or.inr (Or.inl (by rw [show 2 * (k + 1) - 1 = 2 * k + 1 by omega]; exact h2.2.1)), Or.inl (Nat.lt_of_lt_of_le h2.2.2 (hle _ _ (by omega)))⟩

def CertOk (A B q h : Nat) : Prop :=
 0 < q ∧ q ≤ 2 ^ 71 ∧ Nat.gcd q h = 1 ∧ ((q : Int) * A - h * B).natAbs * 2 ^ 65 ≤ B ∧ (2 ^ 64 ≤ q ∨ (q : Int) * A = h * B ∨ B ≤ ((2 ^ 63 + q - 1) / q) * ((q : Int) * A - h * B).natAbs * 2 ^ 72)
theorem cert_use {A B q h x n : Nat} (hB : 0 < B) (hc : CertOk A B q h) (x1 : 2 ^ 63 ≤ x) (x2 : x < 2 ^ 64) (hd : ((x : Int) * A - n * B).natAbs * 2 ^ 72 < B) : x * A = n * B := by
 obtain ⟨q0, q1, cop, c1, c2⟩ := hc
 -- x h = n q
 have key : (x : Int) * h = n * q := by
  have e : ((x : Int) * h - n * q) * B = q * (x * A - n * B) - x * (q * A - h * B) := by
   simp only [Int.sub_mul, Int.mul_sub, ← Int.mul_assoc, Int.mul_comm, Int.mul_left_comm]; omega
  have e2 := congrArg Int.natAbs e
  rw [Int.natAbs_mul] at e2
  have b1 : ((q : Int) * (x * A - n * B)).natAbs * 2 ^ 72 ≤ 2 ^ 71 * B := by
   rw [Int.natAbs_mul, Int.natAbs_natCast, Nat.mul_assoc]
   exact Nat.mul_le_mul q1 (Nat.le_of_lt hd)
  have b1' : ((q : Int) * (x * A - n * B)).natAbs * 2 ≤ B ∧ (((q : Int) * (x * A - n * B)).natAbs * 2 < B ∨ True) := ⟨by omega, Or.inr trivial⟩
  have b2 : ((x : Int) * (q * A - h * B)).natAbs * 2 ^ 65 ≤ (2 ^ 64 - 1) * B := by
   rw [Int.natAbs_mul, Int.natAbs_natCast, Nat.mul_assoc]
   exact Nat.mul_le_mul (by omega) c1
  have b3 := Int.natAbs_sub_le ((q : Int) * (x * A - n * B)) (x * (q * A - h * B))
  rw [← e2] at b3
  have : ((x : Int) * h - n * q).natAbs = 0 := by
   rcases Nat.eq_zero_or_pos ((x : Int) * h - n * q).natAbs with h0 | h0
   ·exact h0
   ·exfalso
    have : 1 * B ≤ ((x : Int) * h - n * q).natAbs * (B : Int).natAbs := by
     rw [Int.natAbs_natCast]; exact Nat.mul_le_mul_right _ h0
    omega
  omega
 have key2 : x * h = n * q := by exact_mod_cast key
 obtain ⟨k, rfl⟩ : q ∣ x := by
  refine Nat.Coprime.dvd_of_dvd_mul_right cop (m := x) ?_
  rw [key2]; exact Nat.dvd_mul_left _ _
 have hn : n = k * h := by
  refine Nat.eq_of_mul_eq_mul_right q0 ?_
  rw [← key2, Nat.mul_assoc, Nat.mul_comm q, Nat.mul_assoc]
 subst hn
 have e3 : (((q * k : Nat) : Int) * A - ((k * h : Nat) : Int) * B) = k * ((q : Int) * A - h * B) := by
  rw [Int.natCast_mul, Int.natCast_mul, Int.mul_sub, Int.mul_comm (q : Int) k, Int.mul_assoc, Int.mul_assoc]
 rw [e3, Int.natAbs_mul, Int.natAbs_natCast] at hd
 rcases c2 with c2 | c2 | c2
 ·exfalso
  rcases Nat.eq_zero_or_pos k with hk | hk
  ·subst hk; simp at x1
  ·have := Nat.le_mul_of_pos_right q hk
   omega
 ·have : ((q * k : Nat) : Int) * A = ((k * h : Nat) : Int) * B := by
   have : (k : Int) * ((q : Int) * A - h * B) = 0 := by rw [c2]; simp
   omega
  exact_mod_cast this
 ·exfalso
  have hk : (2 ^ 63 + q - 1) / q ≤ k := by
   rw [Nat.div_le_iff_le_mul_add_pred q0]
   omega
  have := Nat.mul_le_mul_right (2 ^ 72) (Nat.mul_le_mul_right ((q : Int) * A - h * B).natAbs hk)
  omega
end Go.Proofs.YtillamhoakohdaaGreatDoor
namespace Go.Proofs.YtillamhoakohdaaGreatDoor

theorem stk_scale {A Q u c : Nat} (hc : 0 < c) (h : Stk (A * c) (Q * c) u) : Stk A Q u := by
 unfold Stk at *
 simp only [← Nat.mul_assoc] at h
 rcases h with ⟨h1, h2⟩ | ⟨h1, h2, h3⟩
 ·exact Or.inl ⟨h1, Nat.eq_of_mul_eq_mul_right hc h2⟩
 ·exact Or.inr ⟨h1, Nat.lt_of_mul_lt_mul_right h2, Nat.lt_of_mul_lt_mul_right h3⟩
theorem stk_half {A Q u : Nat} (hq : 0 < Q) (h : Stk A Q u) : Stk A (Q * 2) (u / 2 / 2 * 2 + (if u / 2 % 2 = 1 ∨ u % 2 = 1 then 1 else 0)) := by
 have e : ∀ a : Nat, a * (Q * 2) = 2 * a * Q := fun a => by rw [Nat.mul_comm Q, ← Nat.mul_assoc, Nat.mul_comm a]
 have hle : ∀ a b : Nat, a ≤ b → a * Q ≤ b * Q := fun a b h => Nat.mul_le_mul_right _ h
 unfold Stk
 split
 ·rename_i hc
  right
  rw [show (u / 2 / 2 * 2 + 1) / 2 = u / 2 / 2 by omega, e, e]
  refine ⟨by omega, ?_⟩
  rcases h with ⟨h1, h2⟩ | ⟨h1, h2, h3⟩
  ·rw [h2]
   exact ⟨Nat.mul_lt_mul_of_pos_right (by omega) hq, Nat.mul_lt_mul_of_pos_right (by omega) hq⟩
  ·exact ⟨Nat.lt_of_le_of_lt (hle _ _ (by omega)) h2, Nat.lt_of_lt_of_le h3 (hle _ _ (by omega))⟩
 ·rename_i hc
  left
  rw [show (u / 2 / 2 * 2 + 0) / 2 = u / 2 / 2 by omega, e]
  refine ⟨by omega, ?_⟩
  rcases h with ⟨h1, h2⟩ | ⟨h1, h2, h3⟩
  ·rw [h2, show 2 * (u / 2 / 2) = u / 2 by omega]
  ·omega

def uscaleN (x hi lo s : Nat) : Nat :=
 if x * hi / 2 ^ 64 % 2 ^ s ≠ 0 then x * hi / 2 ^ 64 / 2 ^ s / 2 * 2 + 1
 else if x * hi % 2 ^ 64 < x * lo / 2 ^ 64 then (x * hi / 2 ^ 64 - 1) / 2 ^ s / 2 * 2 + 1
 else if x * lo / 2 ^ 64 + 1 < x * hi % 2 ^ 64 then x * hi / 2 ^ 64 / 2 ^ s / 2 * 2 + 1
 else x * hi / 2 ^ 64 / 2 ^ s

theorem stk_odd {G B S L U j : Nat} (h1 : L * B < G) (h2 : G < U * B) (h3 : j * (S * 2) ≤ L) (h4 : U ≤ (j + 1) * (S * 2)) : Stk G (B * (S * 2)) (j * 2 + 1) := by
 right
 have e : ∀ a : Nat, a * (B * (S * 2)) = a * (S * 2) * B := fun a => by rw [Nat.mul_comm B, ← Nat.mul_assoc]
 rw [show (j * 2 + 1) / 2 = j by omega, e, e]
 exact ⟨by omega, Nat.lt_of_le_of_lt (Nat.mul_le_mul_right _ h3) h1, Nat.lt_of_lt_of_le h2 (Nat.mul_le_mul_right _ h4)⟩

section
variable {G XL XB K MB NB B X : Nat}
theorem us_la (b2 : K + 1 * 2 ^ 128 * B + MB < G + XL + XB) (mX : XB ≤ B * 18446744073709551615) (mL : XL ≤ B * 340282366920938463426481119284349108225) : K < G := by omega
theorem us_lb (hB : 0 < B) (b1 : G + XL ≤ K + MB) (mM : MB ≤ B * 340282366920938463444927863358058659840) : G < K + 1 * 2 ^ 128 * B := by omega
theorem us_lc (hB : 0 < B) (b1 : G + XL ≤ K + MB) (mL1 : NB ≤ XL) (mN : MB + 1 * 2 ^ 64 * B ≤ NB) : G < K := by omega
theorem us_ld (b2 : K + MB < G + XL + XB) (mX : XB ≤ B * 18446744073709551615) (mL2 : XL ≤ NB + B * 18446744073709551615) (mN : NB + 2 * 2 ^ 64 * B ≤ MB) : K < G := by omega
theorem us_g1 (hB : 0 < B) (b1 : G + XL ≤ K + MB) (mL1 : NB ≤ XL) (mN : MB ≤ NB + 1 * 2 ^ 64 * B) : G < K + B * 2 ^ 65 := by omega
theorem us_g2 (b2 : K + MB < G + XL + XB) (mX : XB ≤ B * 18446744073709551615) (mL2 : XL ≤ NB + B * 18446744073709551615) (hB : 0 < B) (mN : NB ≤ MB) : K < G + B * 2 ^ 65 := by omega
theorem us_abs {z : Nat} (e9 : z * 2 ^ 137 = ((G : Int) - K).natAbs) (g1 : G < K + B * 2 ^ 65) (g2 : K < G + B * 2 ^ 65) : z * 2 ^ 72 < B := by omega
theorem us_le (h : X + B * 2 ^ 65 = K) (g : K < G + B * 2 ^ 65) : X < G := by omega
end
theorem uscale_core {G XL XB H M N B S t : Nat} (hB : 0 < B) (hM2 : M < 2 ^ 64) (hS8 : 2 ^ 8 ≤ S) (eS : 2 ^ t * 2 ^ 8 = S)
  (b1 : G + XL ≤ H * 2 ^ 128 * B + M * 2 ^ 64 * B) (b2 : H * 2 ^ 128 * B + M * 2 ^ 64 * B < G + XL + XB)
  (mX : XB ≤ B * 18446744073709551615) (mL : XL ≤ B * 340282366920938463426481119284349108225) (mL1 : N * 2 ^ 64 * B ≤ XL) (mL2 : XL ≤ N * 2 ^ 64 * B + B * 18446744073709551615)
  (hex : ∀ n, G < n * 2 ^ 137 * B + B * 2 ^ 65 → n * 2 ^ 137 * B < G + B * 2 ^ 65 → G = n * 2 ^ 137 * B) :
  Stk G (B * (2 ^ 128 * S * 2)) (if H % S ≠ 0 then H / S / 2 * 2 + 1 else if M < N then (H - 1) / S / 2 * 2 + 1 else if N + 1 < M then H / S / 2 * 2 + 1 else H / S) := by
 have hS : 0 < S := by omega
 have mM : M * 2 ^ 64 * B ≤ B * 340282366920938463444927863358058659840 := by
  rw [Nat.mul_comm]
  refine Nat.mul_le_mul_left B ?_
  have : M * 2 ^ 64 ≤ 18446744073709551615 * 2 ^ 64 := Nat.mul_le_mul_right _ (by omega)
  exact this
 have eH : H = H / S * S + H % S := (Nat.div_add_mod' _ _).symm
 have hmod := Nat.mod_lt H hS
 have up : ∀ a b : Nat, a ≤ b → a * B ≤ b * B := fun a b h => Nat.mul_le_mul_right _ h
 split
 ·rename_i hc
  refine stk_odd (L := (H - 1) * 2 ^ 128) (U := (H + 1) * 2 ^ 128) ?_ ?_ ?_ ?_
  ·obtain ⟨k, rfl⟩ : ∃ k, H = k + 1 := ⟨H - 1, by omega⟩
   rw [Nat.add_mul, Nat.add_mul] at b2
   rw [Nat.add_sub_cancel]
   exact us_la b2 mX mL
  ·rw [Nat.add_mul, Nat.add_mul]
   exact us_lb hB b1 mM
  ·have : H / S / 2 * 2 * S ≤ H / S * S := Nat.mul_le_mul_right _ (by omega)
   have e3 : H / S / 2 * (2 ^ 128 * S * 2) = H / S / 2 * 2 * S * 2 ^ 128 := by
    simp only [Nat.mul_assoc, Nat.mul_comm, Nat.mul_left_comm]
   rw [e3]
   exact Nat.mul_le_mul_right _ (by omega)
  ·have : (H / S + 1) * S ≤ (H / S / 2 * 2 + 2) * S := Nat.mul_le_mul_right _ (by omega)
   have e3 : (H / S / 2 + 1) * (2 ^ 128 * S * 2) = (H / S / 2 * 2 + 2) * S * 2 ^ 128 := by
    rw [show H / S / 2 * 2 + 2 = (H / S / 2 + 1) * 2 by omega]
    simp only [Nat.mul_assoc, Nat.mul_comm, Nat.mul_left_comm]
   rw [e3]
   rw [Nat.add_mul] at this
   exact Nat.mul_le_mul_right _ (by omega)
 ·rename_i hc
  replace hc : H % S = 0 := by omega
  rw [hc, Nat.add_zero] at eH
  split
  ·rename_i hlt
   have mN : (M + 1) * 2 ^ 64 * B ≤ N * 2 ^ 64 * B := up _ _ (Nat.mul_le_mul_right _ (by omega))
   have hBB : 0 < 2 ^ 64 * B := Nat.mul_pos (by omega) hB
   have hH0 : 0 < H := by
    rcases Nat.eq_zero_or_pos H with h0 | h0
    ·exfalso
     rw [Nat.add_mul, Nat.add_mul] at mN
     have := us_lc hB b1 mL1 mN
     simp only [h0, Nat.zero_mul] at this
     exact Nat.not_lt_zero _ this
    ·exact h0
   have hk0 : 0 < H / S := by
    rcases Nat.eq_zero_or_pos (H / S) with h0 | h0
    ·rw [h0] at eH; omega
    ·exact h0
   have ek : (H - 1) / S = H / S - 1 := by
    obtain ⟨k, hk⟩ : ∃ k, H / S = k + 1 := ⟨H / S - 1, by omega⟩
    rw [hk, Nat.add_sub_cancel]
    rw [hk, Nat.add_mul] at eH
    rw [show H - 1 = S - 1 + S * k by rw [eH, Nat.mul_comm]; omega, Nat.add_mul_div_left _ _ hS, Nat.div_eq_of_lt (by omega), Nat.zero_add]
   rw [ek]
   refine stk_odd (L := (H - 1) * 2 ^ 128) (U := H * 2 ^ 128) ?_ ?_ ?_ ?_
   ·obtain ⟨k, rfl⟩ : ∃ k, H = k + 1 := ⟨H - 1, by omega⟩
    rw [Nat.add_mul, Nat.add_mul] at b2
    rw [Nat.add_sub_cancel]
    exact us_la b2 mX mL
   ·rw [Nat.add_mul, Nat.add_mul] at mN
    exact us_lc hB b1 mL1 mN
   ·have h5 : (H / S - 1) / 2 * 2 * S ≤ (H / S - 1) * S := Nat.mul_le_mul_right _ (by omega)
    have h6 : (H / S - 1) * S + S = H := by
     rw [← Nat.succ_mul, show (H / S - 1).succ = H / S by omega]; exact eH.symm
    have e3 : (H / S - 1) / 2 * (2 ^ 128 * S * 2) = (H / S - 1) / 2 * 2 * S * 2 ^ 128 := by
     simp only [Nat.mul_assoc, Nat.mul_comm, Nat.mul_left_comm]
    rw [e3]
    exact Nat.mul_le_mul_right _ (by omega)
   ·have h5 : H / S * S ≤ ((H / S - 1) / 2 * 2 + 2) * S := Nat.mul_le_mul_right _ (by omega)
    have e3 : ((H / S - 1) / 2 + 1) * (2 ^ 128 * S * 2) = ((H / S - 1) / 2 * 2 + 2) * S * 2 ^ 128 := by
     rw [show (H / S - 1) / 2 * 2 + 2 = ((H / S - 1) / 2 + 1) * 2 by omega]
     simp only [Nat.mul_assoc, Nat.mul_comm, Nat.mul_left_comm]
    rw [e3]
    exact Nat.mul_le_mul_right _ (by omega)
  ·rename_i hge
   split
   ·rename_i hgt
    have mN : (N + 2) * 2 ^ 64 * B ≤ M * 2 ^ 64 * B := up _ _ (Nat.mul_le_mul_right _ (by omega))
    rw [Nat.add_mul, Nat.add_mul] at mN
    refine stk_odd (L := H * 2 ^ 128) (U := (H + 1) * 2 ^ 128) ?_ ?_ ?_ ?_
    ·exact us_ld b2 mX mL2 mN
    ·rw [Nat.add_mul, Nat.add_mul]
     exact us_lb hB b1 mM
    ·have : H / S / 2 * 2 * S ≤ H / S * S := Nat.mul_le_mul_right _ (by omega)
     have e3 : H / S / 2 * (2 ^ 128 * S * 2) = H / S / 2 * 2 * S * 2 ^ 128 := by
      simp only [Nat.mul_assoc, Nat.mul_comm, Nat.mul_left_comm]
     rw [e3]
     exact Nat.mul_le_mul_right _ (by omega)
    ·have : (H / S + 1) * S ≤ (H / S / 2 * 2 + 2) * S := Nat.mul_le_mul_right _ (by omega)
     have e3 : (H / S / 2 + 1) * (2 ^ 128 * S * 2) = (H / S / 2 * 2 + 2) * S * 2 ^ 128 := by
      rw [show H / S / 2 * 2 + 2 = (H / S / 2 + 1) * 2 by omega]
      simp only [Nat.mul_assoc, Nat.mul_comm, Nat.mul_left_comm]
     rw [e3]
     rw [Nat.add_mul] at this
     exact Nat.mul_le_mul_right _ (by omega)
   ·rename_i hgt
    have mN1 : N * 2 ^ 64 * B ≤ M * 2 ^ 64 * B := up _ _ (Nat.mul_le_mul_right _ (by omega))
    have mN2 : M * 2 ^ 64 * B ≤ (N + 1) * 2 ^ 64 * B := up _ _ (Nat.mul_le_mul_right _ (by omega))
    rw [Nat.add_mul, Nat.add_mul] at mN2
    have g1 : G < H * 2 ^ 128 * B + B * 2 ^ 65 := by
     exact us_g1 hB b1 mL1 mN2
    have g2 : H * 2 ^ 128 * B < G + B * 2 ^ 65 := by
     exact us_g2 b2 mX mL2 hB mN1
    rcases Nat.mod_two_eq_zero_or_one (H / S) with hk | hk
    ·left
     refine ⟨hk, ?_⟩
     have eN : H / S / 2 * 2 ^ t * 2 ^ 137 = H * 2 ^ 128 := by
      have eH2 : H = H / S / 2 * 2 * S := by rw [show H / S / 2 * 2 = H / S by omega]; exact eH
      generalize H / S / 2 = a at *
      rw [eH2, ← eS]
      generalize 2 ^ t = b
      rw [Nat.mul_assoc a 2 (b * 2 ^ 8), show 2 * (b * 2 ^ 8) = b * 2 ^ 9 by omega, ← Nat.mul_assoc, Nat.mul_assoc (a * b)]
     have hcert := hex (H / S / 2 * 2 ^ t) (by rw [eN]; exact g1) (by rw [eN]; exact g2)
     rw [hcert, eN]
     have eH2 : H = H / S / 2 * 2 * S := by rw [show H / S / 2 * 2 = H / S by omega]; exact eH
     generalize H / S / 2 = a at *
     rw [eH2]
     simp only [Nat.mul_assoc, Nat.mul_comm, Nat.mul_left_comm]
    ·have e7 : H / S = H / S / 2 * 2 + 1 := by omega
     have h8 : H / S / 2 * 2 * S + S = H := by
      rw [← Nat.succ_mul, show (H / S / 2 * 2).succ = H / S by omega]; exact eH.symm
     have e3 : ∀ a : Nat, a * (2 ^ 128 * S * 2) = a * 2 * S * 2 ^ 128 := fun a => by
      simp only [Nat.mul_assoc, Nat.mul_comm, Nat.mul_left_comm]
     rw [e7]
     refine stk_odd (L := H * 2 ^ 128 - 2 ^ 65) (U := H * 2 ^ 128 + 2 ^ 65) ?_ ?_ ?_ ?_
     ·have hK : 2 ^ 65 ≤ H * 2 ^ 128 := Nat.le_trans (show 2 ^ 65 ≤ 1 * 2 ^ 128 by decide) (Nat.mul_le_mul_right _ (by omega))
      refine us_le (K := H * 2 ^ 128 * B) ?_ g2
      rw [Nat.mul_comm B, ← Nat.add_mul, Nat.sub_add_cancel hK]
     ·rw [Nat.add_mul (H * 2 ^ 128), Nat.mul_comm _ B, Nat.mul_comm _ B]; rw [Nat.mul_comm _ B] at g1; exact g1
     ·rw [e3]; omega
     ·rw [e3, Nat.add_mul _ 1 2, Nat.add_mul _ _ S]; omega

theorem uscale_stk {A B hi lo q h x t : Nat} (hB : 0 < B) (p0 : lo ≤ hi * 2 ^ 64) (p1 : (hi * 2 ^ 64 - lo) * B < A * 2 ^ 137 + B) (p2 : A * 2 ^ 137 ≤ (hi * 2 ^ 64 - lo) * B) (hlo : lo < 2 ^ 64) (c : CertOk A B q h)
  (x1 : 2 ^ 63 ≤ x) (x2 : x < 2 ^ 64) : Stk (x * A) (B * 2 ^ t) (uscaleN x hi lo (8 + t)) := by
 refine stk_scale (c := 2 ^ 137) (Nat.pow_pos (by omega)) ?_
 have eQ : B * 2 ^ t * 2 ^ 137 = B * (2 ^ 128 * 2 ^ (8 + t) * 2) := by
  rw [Nat.mul_assoc, Nat.pow_add 2 8 t]; congr 1
  generalize 2 ^ t = y; omega
 rw [eQ]
 unfold uscaleN
 have hHM : x * hi = x * hi / 2 ^ 64 * 2 ^ 64 + x * hi % 2 ^ 64 := (Nat.div_add_mod' _ _).symm
 have e2 : x * ((hi * 2 ^ 64 - lo) * B) + x * lo * B = (x * hi / 2 ^ 64 * 2 ^ 128 + x * hi % 2 ^ 64 * 2 ^ 64) * B := by
  rw [← Nat.mul_assoc, ← Nat.add_mul, Nat.mul_sub, Nat.sub_add_cancel (Nat.mul_le_mul_left x p0), ← Nat.mul_assoc]
  conv => lhs; rw [hHM]
  rw [Nat.add_mul (x * hi / 2 ^ 64 * 2 ^ 64), Nat.mul_assoc (x * hi / 2 ^ 64)]
 rw [Nat.add_mul] at e2
 have eS : 2 ^ t * 2 ^ 8 = 2 ^ (8 + t) := by rw [Nat.pow_add, Nat.mul_comm]
 refine uscale_core (XL := x * lo * B) (XB := x * B) hB (Nat.mod_lt _ (by omega)) ?_ eS ?_ ?_ ?_ ?_ ?_ ?_ ?_
 ·rw [← eS]; exact Nat.le_mul_of_pos_left _ (Nat.pow_pos (by omega))
 ·have := Nat.mul_le_mul_left x p2
  rw [← e2, Nat.mul_assoc x A]
  exact Nat.add_le_add_right this _
 ·have := Nat.mul_lt_mul_of_pos_left p1 (show 0 < x by omega)
  rw [← e2, Nat.mul_assoc x A]
  rw [Nat.mul_add] at this
  omega
 ·rw [Nat.mul_comm x]; exact Nat.mul_le_mul_left B (show x ≤ 18446744073709551615 by omega)
 ·rw [Nat.mul_comm _ B]; refine Nat.mul_le_mul_left B ?_
  have : x * lo ≤ 18446744073709551615 * 18446744073709551615 := Nat.mul_le_mul (by omega) (by omega)
  exact this
 ·exact Nat.mul_le_mul_right B (Nat.div_mul_le_self _ _)
 ·have h3 : x * lo ≤ x * lo / 2 ^ 64 * 2 ^ 64 + 18446744073709551615 := by
   generalize x * lo = z; omega
  have h4 := Nat.mul_le_mul_right B h3
  rwa [Nat.add_mul _ 18446744073709551615 B, Nat.mul_comm 18446744073709551615] at h4
 ·intro n g1 g2
  have hcert := cert_use (n := n) hB c x1 x2 (by
   have e9 : (((x : Int) * A - (n : Int) * B)).natAbs * 2 ^ 137 = (((x * A * 2 ^ 137 : Nat) : Int) - ((n * 2 ^ 137 * B : Nat) : Int)).natAbs := by
    have : (((x * A * 2 ^ 137 : Nat) : Int) - ((n * 2 ^ 137 * B : Nat) : Int)) = ((x : Int) * A - (n : Int) * B) * ((2 ^ 137 : Nat) : Int) := by
     rw [Int.sub_mul, ← Int.natCast_mul, ← Int.natCast_mul, ← Int.natCast_mul, ← Int.natCast_mul, Nat.mul_assoc n B, Nat.mul_comm B, ← Nat.mul_assoc n]
    rw [this, Int.natAbs_mul, Int.natAbs_natCast]
   exact us_abs e9 g1 g2)
  rw [hcert, Nat.mul_assoc n, Nat.mul_comm B, ← Nat.mul_assoc]
end Go.Proofs.YtillamhoakohdaaGreatDoor
namespace Go.Proofs.YtillamhoakohdaaGreatDoor

set_option exponentiation.threshold 6000 in
theorem cut_cmp {E g j G y : Nat} (hj : j = 0 ∨ 10 ^ 799 ≤ E / 10 ^ j) (hG : G < 10 ^ 800) :
  (E * 10 ^ g < G * 10 ^ y ↔ E / 10 ^ j * 10 ^ (g + j) < G * 10 ^ y) ∧
  (E * 10 ^ g = G * 10 ^ y → E / 10 ^ j * 10 ^ (g + j) = G * 10 ^ y ∧ E % 10 ^ j = 0) ∧
  (E / 10 ^ j * 10 ^ (g + j) = G * 10 ^ y → E % 10 ^ j = 0 → E * 10 ^ g = G * 10 ^ y) := by
 have hp : ∀ n, 0 < 10 ^ n := fun n => Nat.pow_pos (by omega)
 have e1 : E / 10 ^ j * 10 ^ (g + j) + E % 10 ^ j * 10 ^ g = E * 10 ^ g := by
  rw [Nat.pow_add, Nat.mul_comm (10 ^ g), ← Nat.mul_assoc, ← Nat.add_mul, Nat.div_add_mod']
 have hm := Nat.mod_lt E (hp j)
 have e2 : E % 10 ^ j * 10 ^ g < 10 ^ (g + j) := by
  rw [Nat.pow_add, Nat.mul_comm (10 ^ g)]; exact Nat.mul_lt_mul_of_pos_right hm (hp g)
 have key : G * 10 ^ y ≤ E * 10 ^ g → G * 10 ^ y ≤ E / 10 ^ j * 10 ^ (g + j) := by
  intro h
  rcases hj with rfl | hj
  ·simpa using h
  ·rcases Nat.lt_or_ge y (g + j) with hy | hy
   ·obtain ⟨c, hc⟩ : ∃ c, g + j = y + 1 + c := ⟨g + j - y - 1, by omega⟩
    have h1 : 10 ^ 799 * 10 ^ (g + j) ≤ E / 10 ^ j * 10 ^ (g + j) := Nat.mul_le_mul_right _ hj
    have h2 : G * 10 ^ y ≤ 10 ^ 800 * 10 ^ y := Nat.mul_le_mul_right _ (Nat.le_of_lt hG)
    have h3 : 10 ^ 800 * 10 ^ y ≤ 10 ^ 799 * 10 ^ (g + j) := by
     rw [← Nat.pow_add, ← Nat.pow_add]; exact Nat.pow_le_pow_right (by omega) (by omega)
    exact Nat.le_trans h2 (Nat.le_trans h3 h1)
   ·obtain ⟨c, rfl⟩ : ∃ c, y = c + (g + j) := ⟨y - (g + j), by omega⟩
    rw [Nat.pow_add 10 c, ← Nat.mul_assoc] at h ⊢
    have h1 : G * 10 ^ c * 10 ^ (g + j) < (E / 10 ^ j + 1) * 10 ^ (g + j) := by rw [Nat.add_mul]; omega
    have h2 := Nat.lt_of_mul_lt_mul_right h1
    exact Nat.mul_le_mul_right _ (by omega)
 generalize G * 10 ^ y = Y at *
 generalize hT : E / 10 ^ j * 10 ^ (g + j) = T at *
 generalize hX : E * 10 ^ g = X at *
 have zero : T = X → E % 10 ^ j = 0 := by
  intro h
  have : E % 10 ^ j * 10 ^ g = 0 := by omega
  rcases Nat.mul_eq_zero.1 this with h | h
  ·exact h
  ·exact absurd h (Nat.pos_iff_ne_zero.1 (hp g))
 refine ⟨⟨fun h => by omega, fun h => ?_⟩, fun h => ?_, fun h h0 => ?_⟩
 ·rcases Nat.lt_or_ge X Y with h1 | h1
  ·exact h1
  ·have := key h1; omega
 ·have := key (by omega)
  have e : T = Y := by omega
  exact ⟨e, zero (by omega)⟩
 ·rw [h0, Nat.zero_mul] at e1; omega

def Cmp (A B L a T : Nat) (tr : Bool) : Prop := ∀ F e, F < 2 ^ 55 → e ≤ L + 1120 →
 (A * 2 ^ e < F * 2 ^ 2175 * B ↔ T * 2 ^ e < F * 2 ^ a * 10 ^ 4000) ∧
 (A * 2 ^ e ≤ F * 2 ^ 2175 * B ↔ (T * 2 ^ e < F * 2 ^ a * 10 ^ 4000 ∨ (T * 2 ^ e = F * 2 ^ a * 10 ^ 4000 ∧ tr = false)))
theorem Cmp.mono {A B L L' a T : Nat} {tr : Bool} (h : Cmp A B L a T tr) (hL : L' ≤ L) : Cmp A B L' a T tr := fun F e h1 h2 => h F e h1 (by omega)
theorem pow10_split (n : Nat) : 10 ^ n = 5 ^ n * 2 ^ n := by rw [← Nat.mul_pow]
theorem short_bound : 2 ^ 55 * 5 ^ 1120 < 10 ^ 800 := by decide +kernel
theorem short_bound2 : 2 ^ 55 * 2 ^ 2300 < 10 ^ 800 := by decide +kernel
theorem short_form {F e a : Nat} (hF : F < 2 ^ 55) (ha : a ≤ 2300) (he : e ≤ a + 1120) : ∃ G y, G < 10 ^ 800 ∧ G * 10 ^ y * 2 ^ e = F * 2 ^ a * 10 ^ 4000 := by
 rcases Nat.lt_or_ge a e with h | h
 ·obtain ⟨c, rfl⟩ : ∃ c, e = a + c := ⟨e - a, by omega⟩
  refine ⟨F * 5 ^ c, 4000 - c, ?_, ?_⟩
  ·refine Nat.lt_of_le_of_lt (Nat.mul_le_mul (Nat.le_of_lt hF) (Nat.pow_le_pow_right (by omega) (show c ≤ 1120 by omega))) short_bound
  ·have e1 : 10 ^ 4000 = 5 ^ c * 2 ^ c * 10 ^ (4000 - c) := by rw [← pow10_split, ← Nat.pow_add, show c + (4000 - c) = 4000 by omega]
   rw [e1, Nat.pow_add]
   generalize 10 ^ (4000 - c) = z
   simp only [Nat.mul_assoc, Nat.mul_comm, Nat.mul_left_comm]
 ·obtain ⟨c, rfl⟩ : ∃ c, a = e + c := ⟨a - e, by omega⟩
  refine ⟨F * 2 ^ c, 4000, ?_, ?_⟩
  ·refine Nat.lt_of_le_of_lt (Nat.mul_le_mul (Nat.le_of_lt hF) (Nat.pow_le_pow_right (by omega) (show c ≤ 2300 by omega))) short_bound2
  ·rw [Nat.pow_add]
   generalize 10 ^ 4000 = z
   simp only [Nat.mul_assoc, Nat.mul_comm, Nat.mul_left_comm]
theorem Cmp.cut {A B L a j E g : Nat} {tr : Bool} (h : Cmp A B L a (E * 10 ^ g) tr) (hj : j = 0 ∨ 10 ^ 799 ≤ E / 10 ^ j) (ha : a ≤ 2300) (hL : L ≤ a) :
  Cmp A B L a (E / 10 ^ j * 10 ^ (g + j)) (tr || E % 10 ^ j != 0) := by
 intro F e h1 h2
 obtain ⟨G, y, hG, hY⟩ := short_form (e := e) (a := a) h1 ha (by omega)
 obtain ⟨k1, k2, k3⟩ := cut_cmp (g := g) (y := y) hj hG
 have hp : 0 < 2 ^ e := Nat.pow_pos (by omega)
 obtain ⟨c1, c2⟩ := h F e h1 h2
 rw [c1, c2, ← hY, Nat.mul_lt_mul_right hp, Nat.mul_lt_mul_right hp]
 have hE : ∀ u v : Nat, u * 2 ^ e = v * 2 ^ e ↔ u = v := fun u v => ⟨fun h => Nat.eq_of_mul_eq_mul_right hp h, fun h => by rw [h]⟩
 rw [hE, hE]
 refine ⟨k1, ?_⟩
 rw [k1]
 constructor
 ·rintro (h | ⟨h, ht⟩)
  ·exact Or.inl h
  ·obtain ⟨h3, h4⟩ := k2 h
   exact Or.inr ⟨h3, by rw [ht, h4]; rfl⟩
 ·rintro (h | ⟨h, ht⟩)
  ·exact Or.inl h
  ·rw [Bool.or_eq_false_iff] at ht
   have h4 : E % 10 ^ j = 0 := by have := ht.2; simpa using this
   exact Or.inr ⟨k3 h h4, ht.1⟩
theorem Cmp.left {A B L a T k : Nat} {tr : Bool} (h : Cmp A B L a T tr) : Cmp A B L (a + k) (T * 2 ^ k) tr := by
 intro F e h1 h2
 obtain ⟨c1, c2⟩ := h F e h1 h2
 have hp : 0 < 2 ^ k := Nat.pow_pos (by omega)
 have e1 : T * 2 ^ k * 2 ^ e = T * 2 ^ e * 2 ^ k := by simp only [Nat.mul_assoc, Nat.mul_comm, Nat.mul_left_comm]
 have e2 : F * 2 ^ (a + k) * 10 ^ 4000 = F * 2 ^ a * 10 ^ 4000 * 2 ^ k := by
  rw [Nat.pow_add]; generalize 10 ^ 4000 = z; simp only [Nat.mul_assoc, Nat.mul_comm, Nat.mul_left_comm]
 rw [c1, c2, e1, e2, Nat.mul_lt_mul_right hp]
 exact ⟨Iff.rfl, by rw [show (T * 2 ^ e * 2 ^ k = F * 2 ^ a * 10 ^ 4000 * 2 ^ k ↔ T * 2 ^ e = F * 2 ^ a * 10 ^ 4000) from ⟨fun h => Nat.eq_of_mul_eq_mul_right hp h, fun h => by rw [h]⟩]⟩
theorem Cmp.right {A B L a X k : Nat} {tr : Bool} (h : Cmp A B L (a + k) (X * 2 ^ k) tr) : Cmp A B L a X tr := by
 intro F e h1 h2
 obtain ⟨c1, c2⟩ := h F e h1 h2
 have hp : 0 < 2 ^ k := Nat.pow_pos (by omega)
 have e1 : X * 2 ^ k * 2 ^ e = X * 2 ^ e * 2 ^ k := by simp only [Nat.mul_assoc, Nat.mul_comm, Nat.mul_left_comm]
 have e2 : F * 2 ^ (a + k) * 10 ^ 4000 = F * 2 ^ a * 10 ^ 4000 * 2 ^ k := by
  rw [Nat.pow_add]; generalize 10 ^ 4000 = z; simp only [Nat.mul_assoc, Nat.mul_comm, Nat.mul_left_comm]
 rw [c1, c2, e1, e2, Nat.mul_lt_mul_right hp]
 exact ⟨Iff.rfl, by rw [show (X * 2 ^ e * 2 ^ k = F * 2 ^ a * 10 ^ 4000 * 2 ^ k ↔ X * 2 ^ e = F * 2 ^ a * 10 ^ 4000) from ⟨fun h => Nat.eq_of_mul_eq_mul_right hp h, fun h => by rw [h]⟩]⟩
theorem pw_split {a b c n : Nat} (h : c = a + b) : n ^ c = n ^ a * n ^ b := by rw [h, Nat.pow_add]
theorem Cmp.start {A B N : Nat} (T : Nat) (hN : 0 < N) (hA : A * 10 ^ 4000 = T * 2 ^ 1075 * B) (hB : 0 < B) : Cmp A B 1100 1100 T false := by
 intro F e h1 h2
 have hz := Nat.pow_pos (a := 10) (n := 4000) (show 0 < 10 by omega)
 have hQ := Nat.mul_pos (Nat.pow_pos (a := 2) (n := 1075) (show 0 < 2 by omega)) hB
 have e1 : A * 2 ^ e * 10 ^ 4000 = T * 2 ^ e * (2 ^ 1075 * B) := by
  rw [show A * 2 ^ e * 10 ^ 4000 = A * 10 ^ 4000 * 2 ^ e by simp only [Nat.mul_assoc, Nat.mul_comm, Nat.mul_left_comm], hA]; simp only [Nat.mul_assoc, Nat.mul_comm, Nat.mul_left_comm]
 have e2 : F * 2 ^ 2175 * B * 10 ^ 4000 = F * 2 ^ 1100 * 10 ^ 4000 * (2 ^ 1075 * B) := by
  rw [pw_split (n := 2) (show 2175 = 1100 + 1075 by rfl)]
  generalize 10 ^ 4000 = z; generalize 2 ^ 1100 = u; generalize 2 ^ 1075 = v
  simp only [Nat.mul_assoc, Nat.mul_comm, Nat.mul_left_comm]
 clear hA
 generalize A * 2 ^ e = P at *
 generalize F * 2 ^ 2175 * B = R at *
 generalize T * 2 ^ e = U at *
 generalize F * 2 ^ 1100 * 10 ^ 4000 = V at *
 generalize 2 ^ 1075 * B = Q at *
 generalize 10 ^ 4000 = z at *
 have a1 : P < R ↔ U < V := by rw [← Nat.mul_lt_mul_right hz, e1, e2, Nat.mul_lt_mul_right hQ]
 have a2 : R < P ↔ V < U := by rw [← Nat.mul_lt_mul_right hz, e1, e2, Nat.mul_lt_mul_right hQ]
 refine ⟨a1, ?_⟩
 constructor
 ·intro h
  rcases Nat.lt_trichotomy U V with h3 | h3 | h3
  ·exact Or.inl h3
  ·exact Or.inr ⟨h3, rfl⟩
  ·have := a2.2 h3; omega
 ·intro h
  rcases Nat.lt_or_ge R P with h3 | h3
  ·have := a2.1 h3; omega
  ·exact h3
end Go.Proofs.YtillamhoakohdaaGreatDoor
namespace Go.Proofs.YtillamhoakohdaaGreatDoor

def dg (g : Nat → Nat) (nd i : Nat) : Nat := if i < nd then g i - 48 else 0
def pz (g : Nat → Nat) (nd : Nat) : Nat → Nat
 | 0 => 0
 | i + 1 => 10 * pz g nd i + dg g nd i
def dn (g : Nat → Nat) (nd : Nat) : Nat := pz g nd nd
def DigN (g : Nat → Nat) (nd : Nat) : Prop := ∀ i, i < nd → 48 ≤ g i ∧ g i ≤ 57
structure Can0 (g : Nat → Nat) (nd : Nat) : Prop where
 dig : DigN g nd
 pos : 0 < nd
 le : nd ≤ 800
 head : g 0 ≠ 48
structure Can (g : Nat → Nat) (nd : Nat) : Prop extends Can0 g nd where
 last : g (nd - 1) ≠ 48
theorem dg_lt {g : Nat → Nat} {nd : Nat} (h : DigN g nd) (i : Nat) : dg g nd i < 10 := by
 unfold dg; split
 ·rename_i hi; have := h i hi; omega
 ·omega
theorem pz_lt {g : Nat → Nat} {nd : Nat} (h : DigN g nd) : ∀ i, pz g nd i < 10 ^ i
 | 0 => Nat.one_pos
 | i + 1 => by have := pz_lt h i; have := dg_lt h i; rw [pz, Nat.pow_succ]; omega
theorem pz_out (g : Nat → Nat) (nd : Nat) : ∀ m, pz g nd (nd + m) = dn g nd * 10 ^ m
 | 0 => by simp [dn]
 | m + 1 => by
  rw [← Nat.add_assoc, pz, pz_out g nd m, dg, if_neg (by omega), Nat.pow_succ, Nat.add_zero, Nat.mul_comm 10, Nat.mul_assoc]
theorem pz_congr {g g' : Nat → Nat} {nd nd' : Nat} : ∀ i, (∀ j, j < i → dg g nd j = dg g' nd' j) → pz g nd i = pz g' nd' i
 | 0, _ => rfl
 | i + 1, h => by rw [pz, pz, pz_congr i (fun j hj => h j (by omega)), h i (by omega)]
theorem dn_congr {g g' : Nat → Nat} {n : Nat} (h : ∀ j, j < n → g j = g' j) : dn g n = dn g' n :=
 pz_congr n fun j hj => by unfold dg; rw [if_pos hj, if_pos hj, h j hj]
theorem pz_dn {g : Nat → Nat} {nd i : Nat} (h : i ≤ nd) : pz g nd i = dn g i :=
 pz_congr i fun j hj => by unfold dg; rw [if_pos (by omega), if_pos hj]
theorem dn_succ (g : Nat → Nat) (n : Nat) : dn g (n + 1) = 10 * dn g n + (g n - 48) := by
 unfold dn
 rw [pz, pz_dn (by omega), dg, if_pos (by omega)]; rfl
theorem dn_lt {g : Nat → Nat} {nd : Nat} (h : DigN g nd) : dn g nd < 10 ^ nd := pz_lt h nd
theorem pz_ge {g : Nat → Nat} {nd : Nat} (h : DigN g nd) (h0 : g 0 ≠ 48) (hp : 0 < nd) : ∀ i, 10 ^ i ≤ pz g nd (i + 1)
 | 0 => by rw [pz, pz, dg, if_pos hp]; have := h 0 hp; omega
 | i + 1 => by have := pz_ge h h0 hp i; rw [pz, Nat.pow_succ]; omega
theorem Can0.ge {g : Nat → Nat} {nd : Nat} (h : Can0 g nd) : 10 ^ (nd - 1) ≤ dn g nd := by
 have := pz_ge h.dig h.head h.pos (nd - 1)
 rwa [show nd - 1 + 1 = nd by have := h.pos; omega] at this
theorem dn_trim {g : Nat → Nat} {n : Nat} : ∀ {m : Nat}, (∀ i, n ≤ i → i < n + m → g i = 48) → dn g (n + m) = dn g n * 10 ^ m
 | 0, _ => by simp
 | m + 1, h => by
  rw [← Nat.add_assoc, dn_succ, dn_trim (fun i h1 h2 => h i h1 (by omega)), h (n + m) (by omega) (by omega), Nat.pow_succ, Nat.sub_self, Nat.add_zero, Nat.mul_comm 10, Nat.mul_assoc]
theorem dn_top {g : Nat → Nat} {nd : Nat} (h : DigN g nd) : ∀ m, m ≤ nd → dn g (nd - m) = dn g nd / 10 ^ m
 | 0, _ => by simp
 | m + 1, hm => by
  have e := dn_top h m (by omega)
  have e2 : dn g (nd - m) = 10 * dn g (nd - (m + 1)) + (g (nd - (m + 1)) - 48) := by
   rw [← dn_succ]; congr 1; omega
  have e3 := h (nd - (m + 1)) (by omega)
  rw [Nat.pow_succ, ← Nat.div_div_eq_div_mul, ← e]; omega
theorem dn_of {g : Nat → Nat} {E q : Nat} (hE : E < 10 ^ q) : ∀ m, m ≤ q → (∀ i, i < m → g i = 48 + E / 10 ^ (q - 1 - i) % 10) → dn g m = E / 10 ^ (q - m)
 | 0, _, _ => by rw [Nat.sub_zero, Nat.div_eq_of_lt hE]; rfl
 | m + 1, hm, h => by
  rw [dn_succ, dn_of hE m (by omega) (fun i hi => h i (by omega)), h m (by omega)]
  have e : q - m = (q - (m + 1)) + 1 := by omega
  rw [show q - 1 - m = q - (m + 1) by omega, e, Nat.pow_succ, ← Nat.div_div_eq_div_mul]
  omega

def tS (g : Nat → Nat) (nd : Nat) (dp : Int) : Nat := dn g nd * 10 ^ (4000 + dp - nd).toNat
def Down (k T : Nat) (tr : Bool) (T' : Nat) (tr' : Bool) : Prop :=
 (∀ A B L a, L ≤ a → a + k ≤ 2300 → Cmp A B L (a + k) T tr → Cmp A B L a T' tr') ∧ (∀ G y, G * 2 ^ k < 10 ^ 800 → G * 2 ^ k * 10 ^ y ≤ T → G * 10 ^ y ≤ T') ∧ T' * 2 ^ k ≤ T
def Up (k T : Nat) (tr : Bool) (T' : Nat) (tr' : Bool) : Prop :=
 (∀ A B L a, L ≤ a → a + k ≤ 2300 → Cmp A B L a T tr → Cmp A B L (a + k) T' tr') ∧ (∀ G y, G < 10 ^ 800 → G * 10 ^ y ≤ T * 2 ^ k → G * 10 ^ y ≤ T') ∧ T' ≤ T * 2 ^ k
theorem Down.trans {k1 k2 T1 T2 T3 : Nat} {t1 t2 t3 : Bool} (h : Down k1 T1 t1 T2 t2) (k : Down k2 T2 t2 T3 t3) : Down (k1 + k2) T1 t1 T3 t3 := by
 refine ⟨fun A B L a h1 h2 hc => k.1 A B L a h1 (by omega) (h.1 A B L (a + k2) (by omega) (by omega) (by rw [show a + k2 + k1 = a + (k1 + k2) by omega]; exact hc)), fun G y h1 h2 => ?_, ?_⟩
 ·have e : G * 2 ^ (k1 + k2) = G * 2 ^ k2 * 2 ^ k1 := by rw [Nat.pow_add]; simp only [Nat.mul_assoc, Nat.mul_comm, Nat.mul_left_comm]
  rw [e] at h1 h2
  refine k.2.1 G y ?_ (h.2.1 (G * 2 ^ k2) y h1 h2)
  exact Nat.lt_of_le_of_lt (Nat.le_mul_of_pos_right _ (Nat.pow_pos (by omega))) h1
 ·rw [Nat.add_comm k1, Nat.pow_add, ← Nat.mul_assoc]
  exact Nat.le_trans (Nat.mul_le_mul_right _ k.2.2) h.2.2
theorem cut_ge {E g j G y : Nat} (hj : j = 0 ∨ 10 ^ 799 ≤ E / 10 ^ j) (hG : G < 10 ^ 800) (h : G * 10 ^ y ≤ E * 10 ^ g) : G * 10 ^ y ≤ E / 10 ^ j * 10 ^ (g + j) := by
 have := (cut_cmp (g := g) (y := y) hj hG).1
 rcases Nat.lt_or_ge (E / 10 ^ j * 10 ^ (g + j)) (G * 10 ^ y) with h1 | h1
 ·have := this.2 h1; omega
 ·exact h1
theorem cut_le (E g j : Nat) : E / 10 ^ j * 10 ^ (g + j) ≤ E * 10 ^ g := by
 rw [Nat.pow_add, Nat.mul_comm (10 ^ g), ← Nat.mul_assoc]
 exact Nat.mul_le_mul_right _ (Nat.div_mul_le_self _ _)
theorem down_of {k E p j t D nd nd' D' : Nat} {dp dp' : Int} {tr : Bool} (hE : E * 2 ^ k = D * 10 ^ p) (hD : D' * 10 ^ t = E / 10 ^ j) (hdp : dp' - nd' = dp - nd - p + j + t)
  (hj : j = 0 ∨ 10 ^ 799 ≤ E / 10 ^ j) (hs : 0 ≤ 4000 + dp - nd - p) :
  Down k (D * 10 ^ (4000 + dp - nd).toNat) tr (D' * 10 ^ (4000 + dp' - nd').toNat) (tr || E % 10 ^ j != 0) := by
 obtain ⟨g, hg⟩ : ∃ g : Nat, (g : Int) = 4000 + dp - nd - p := ⟨(4000 + dp - nd - p).toNat, by omega⟩
 have e1 : D * 10 ^ (4000 + dp - nd).toNat = E * 10 ^ g * 2 ^ k := by
  rw [show (4000 + dp - nd).toNat = p + g by omega, Nat.pow_add, ← Nat.mul_assoc, ← hE]; simp only [Nat.mul_assoc, Nat.mul_comm, Nat.mul_left_comm]
 have e2 : D' * 10 ^ (4000 + dp' - nd').toNat = E / 10 ^ j * 10 ^ (g + j) := by
  rw [show (4000 + dp' - nd').toNat = t + (g + j) by omega, Nat.pow_add 10 t, ← Nat.mul_assoc, hD]
 rw [e1, e2]
 have hp : 0 < 2 ^ k := Nat.pow_pos (by omega)
 refine ⟨fun A B L a h1 h2 hc => (Cmp.right hc).cut hj (by omega) h1, fun G y h1 h2 => cut_ge hj (Nat.lt_of_le_of_lt (Nat.le_mul_of_pos_right _ hp) h1) ?_, ?_⟩
 ·rw [show G * 2 ^ k * 10 ^ y = G * 10 ^ y * 2 ^ k by simp only [Nat.mul_assoc, Nat.mul_comm, Nat.mul_left_comm]] at h2
  exact Nat.le_of_mul_le_mul_right h2 hp
 ·exact Nat.mul_le_mul_right _ (cut_le E g j)
theorem up_of {k E j t D nd nd' D' : Nat} {dp dp' : Int} {tr : Bool} (hE : E = D * 2 ^ k) (hD : D' * 10 ^ t = E / 10 ^ j) (hdp : dp' - nd' = dp - nd + j + t)
  (hj : j = 0 ∨ 10 ^ 799 ≤ E / 10 ^ j) (hs : 0 ≤ 4000 + dp - nd) :
  Up k (D * 10 ^ (4000 + dp - nd).toNat) tr (D' * 10 ^ (4000 + dp' - nd').toNat) (tr || E % 10 ^ j != 0) := by
 obtain ⟨g, hg⟩ : ∃ g : Nat, (g : Int) = 4000 + dp - nd := ⟨(4000 + dp - nd).toNat, by omega⟩
 have e1 : D * 10 ^ (4000 + dp - nd).toNat * 2 ^ k = E * 10 ^ g := by
  rw [show (4000 + dp - nd).toNat = g by omega, hE]; simp only [Nat.mul_assoc, Nat.mul_comm, Nat.mul_left_comm]
 have e2 : D' * 10 ^ (4000 + dp' - nd').toNat = E / 10 ^ j * 10 ^ (g + j) := by
  rw [show (4000 + dp' - nd').toNat = t + (g + j) by omega, Nat.pow_add 10 t, ← Nat.mul_assoc, hD]
 unfold Up
 rw [e1, e2]
 refine ⟨fun A B L a h1 h2 hc => ?_, fun G y h1 h2 => cut_ge hj h1 h2, cut_le E g j⟩
 have := hc.left (k := k)
 rw [e1] at this
 exact this.cut hj h2 (by omega)
theorem tS_lt {g : Nat → Nat} {nd : Nat} {dp : Int} (h : DigN g nd) (hs : 0 ≤ 4000 + dp - nd) : tS g nd dp < 10 ^ (4000 + dp).toNat := by
 unfold tS
 have := Nat.mul_lt_mul_of_pos_right (dn_lt h) (show 0 < 10 ^ (4000 + dp - nd).toNat from Nat.pow_pos (by omega))
 rwa [← Nat.pow_add, show nd + (4000 + dp - nd).toNat = (4000 + dp).toNat by omega] at this
theorem tS_ge {g : Nat → Nat} {nd : Nat} {dp : Int} (h : Can0 g nd) (hs : 0 ≤ 4000 + dp - nd) : 10 ^ (4000 + dp - 1).toNat ≤ tS g nd dp := by
 unfold tS
 have := Nat.mul_le_mul_right (10 ^ (4000 + dp - nd).toNat) h.ge
 have hp := h.pos
 rwa [← Nat.pow_add, show nd - 1 + (4000 + dp - nd).toNat = (4000 + dp - 1).toNat by omega] at this
end Go.Proofs.YtillamhoakohdaaGreatDoor

/-
  Walks: the slow decimal's shift to the right. Walks: the slow decimal's comparison with a row of digits. Walks: the slow decimal's shift to the left.
-/
import Derived.Laws.BitsAllLaws
import Derived.Test.YtillamhoakohdaaGreatDoorM04
import Derived.Test.YtillamhoakohdaaGreatDoorM18
import Derived.Test.YtillamhoakohdaaGreatDoorM37
set_option linter.unusedVariables false
set_option linter.unusedSimpArgs false
namespace Go.Proofs.YtillamhoakohdaaGreatDoor
open Go.RowKit
attribute [local go_sem] setCell_drewN

def RInv (g : Nat → Nat) (nd k r0 q : Nat) (g' : Nat → Nat) (E n : Nat) : Prop :=
 pz g nd (r0 + q) = 10 * 2 ^ k * E + n ∧ n < 10 * 2 ^ k ∧ DigN g' (min q 800) ∧ ((q = 0 ∧ 2 ^ k ≤ n) ∨ (0 < q ∧ g' 0 ≠ 48)) ∧ dn g' (min q 800) = E / 10 ^ (q - 800)
theorem rinv_start {g g' : Nat → Nat} {nd k r0 : Nat} (h1 : 2 ^ k ≤ pz g nd r0) (h2 : pz g nd r0 < 10 * 2 ^ k) : RInv g nd k r0 0 g' 0 (pz g nd r0) :=
 ⟨by simp, h2, fun i hi => by simp at hi, Or.inl ⟨rfl, h1⟩, by simp [dn, pz]⟩
theorem div_step {E d q : Nat} (hd : d < 10) (h : 800 ≤ q) : (10 * E + d) / 10 ^ (q + 1 - 800) = E / 10 ^ (q - 800) := by
 rw [show q + 1 - 800 = (q - 800) + 1 by omega, Nat.pow_succ, Nat.mul_comm (10 ^ (q - 800)) 10, ← Nat.div_div_eq_div_mul, show (10 * E + d) / 10 = E by omega]
theorem rinv_step {g g' : Nat → Nat} {nd k r0 q E n : Nat} (hg : DigN g nd) (h : RInv g nd k r0 q g' E n) :
  RInv g nd k r0 (q + 1) (if q < 800 then updN g' q (48 + n / 2 ^ k) else g') (10 * E + n / 2 ^ k) (n % 2 ^ k * 10 + dg g nd (r0 + q)) := by
 obtain ⟨a1, a2, a3, a4, a5⟩ := h
 have hk : 0 < 2 ^ k := Nat.pow_pos (by omega)
 have h9 : n / 2 ^ k < 10 := Nat.div_lt_of_lt_mul (by rw [Nat.mul_comm]; exact a2)
 have hm := Nat.mod_lt n hk
 have hdg := dg_lt hg (r0 + q)
 refine ⟨?_, by omega, ?_, Or.inr ⟨by omega, ?_⟩, ?_⟩
 ·rw [← Nat.add_assoc, pz, a1]
  have e := Nat.div_add_mod' n (2 ^ k)
  have e2 : 10 * 2 ^ k * (10 * E + n / 2 ^ k) = 10 * (10 * 2 ^ k * E) + 10 * (n / 2 ^ k * 2 ^ k) := by
   rw [Nat.mul_add]; congr 1
   ·simp only [Nat.mul_assoc, Nat.mul_comm, Nat.mul_left_comm]
   ·simp only [Nat.mul_assoc, Nat.mul_comm, Nat.mul_left_comm]
  rw [e2]; omega
 ·intro i hi
  split
  ·rename_i hq
   by_cases e : i = q
   ·subst e; rw [upd_same]; generalize n / 2 ^ k = x at h9 ⊢; omega
   ·rw [upd_other _ _ e]; exact a3 i (by omega)
  ·exact a3 i (by omega)
 ·split
  ·rename_i hq
   by_cases e : 0 = q
   ·subst e
    rw [upd_same]
    rcases a4 with ⟨_, h4⟩ | ⟨h4, _⟩
    ·have := Nat.div_pos h4 hk; omega
    ·omega
   ·rw [upd_other _ _ e]
    rcases a4 with ⟨h4, _⟩ | ⟨_, h4⟩
    ·omega
    ·exact h4
  ·rcases a4 with ⟨h4, _⟩ | ⟨_, h4⟩
   ·omega
   ·exact h4
 ·split
  ·rename_i hq
   rw [show min (q + 1) 800 = q + 1 by omega, dn_succ, upd_same, dn_congr (g' := g') (fun j hj => upd_other _ _ (by omega)), show q + 1 - 800 = 0 by omega]
   rw [show min q 800 = q by omega, show q - 800 = 0 by omega] at a5
   rw [a5]; simp
  ·rename_i hq
   rw [show min (q + 1) 800 = min q 800 by omega, a5, div_step h9 (by omega)]
theorem mark_step {E d q : Nat} (hd : d < 10) (h : 800 ≤ q) : ((10 * E + d) % 10 ^ (q + 1 - 800) != 0) = ((E % 10 ^ (q - 800) != 0) || decide (0 < d)) := by
 rw [show q + 1 - 800 = (q - 800) + 1 by omega, Nat.pow_succ, Nat.mul_comm (10 ^ _) 10, Nat.mod_mul]
 have e1 : (10 * E + d) % 10 = d := by omega
 have e2 : (10 * E + d) / 10 = E := by omega
 rw [e1, e2]
 generalize E % 10 ^ (q - 800) = x
 rcases Nat.eq_zero_or_pos x with rfl | hx
 ·rcases Nat.eq_zero_or_pos d with rfl | hd2
  ·rfl
  ·have : (d + 10 * 0 != 0) = true := by rw [bne_iff_ne]; omega
   rw [this]; simp [hd2]
 ·have : (d + 10 * x != 0) = true := by rw [bne_iff_ne]; omega
  rw [this]
  have : (x != 0) = true := by rw [bne_iff_ne]; omega
  rw [this]; rfl
theorem mark_small {E q : Nat} (h : q < 800) : (E % 10 ^ (q + 1 - 800) != 0) = false := by
 rw [show q + 1 - 800 = 0 by omega]; simp [Nat.mod_one]
theorem pz_dvd (g : Nat → Nat) (nd k j : Nat) (h : nd + k + 1 ≤ j) : 10 * 2 ^ k ∣ pz g nd j := by
 obtain ⟨n, rfl⟩ : ∃ n, j = nd + (k + 1 + n) := ⟨j - nd - (k + 1), by omega⟩
 rw [pz_out]
 refine Nat.dvd_trans ?_ (Nat.dvd_mul_left _ _)
 rw [Nat.pow_add, Nat.pow_succ]
 refine Nat.dvd_trans ?_ (Nat.dvd_mul_right _ _)
 rw [Nat.mul_comm]
 refine Nat.mul_dvd_mul ?_ (Nat.dvd_refl _)
 rw [show 10 = 2 * 5 by rfl, Nat.mul_pow]
 exact Nat.dvd_mul_right _ _
theorem rinv_more {g g' : Nat → Nat} {nd k r0 q E n : Nat} (h : RInv g nd k r0 q g' E n) (hn : 0 < n) : r0 + q ≤ nd + k := by
 rcases Nat.lt_or_ge (nd + k) (r0 + q) with h1 | h1
 ·exfalso
  have h2 := pz_dvd g nd k (r0 + q) h1
  rw [h.1] at h2
  have h3 := (Nat.dvd_add_right (Nat.dvd_mul_right (10 * 2 ^ k) E)).1 h2
  have := Nat.le_of_dvd hn h3
  have := h.2.1
  omega
 ·exact h1
theorem rinv_done {g g' : Nat → Nat} {nd k r0 q E nd' : Nat} {dp dp' : Int} {tr : Bool} (hc : Can0 g nd) (h : RInv g nd k r0 q g' E 0) (hq : nd ≤ r0 + q) (hq2 : r0 + q ≤ nd + k + 1)
  (ht : Trimmed g' (min q 800) (dp - ((r0 : Int) - 1)) nd' dp') (hs : 0 ≤ 4000 + dp - nd - k) :
  Can g' nd' ∧ Down k (tS g nd dp) tr (tS g' nd' dp') (tr || E % 10 ^ (q - 800) != 0) ∧ dp' = dp - ((r0 : Int) - 1) := by
 obtain ⟨a1, a2, a3, a4, a5⟩ := h
 obtain ⟨t1, t2, t3, t4⟩ := ht
 have hk : 0 < 2 ^ k := Nat.pow_pos (by omega)
 have hq0 : 0 < q ∧ g' 0 ≠ 48 := by
  rcases a4 with ⟨_, h4⟩ | h4
  ·omega
  ·exact h4
 have hn0 : nd' ≠ 0 := fun e => hq0.2 (t2 0 (by omega) (by omega))
 rw [if_neg hn0] at t4
 have hcan : Can g' nd' := ⟨⟨fun i hi => a3 i (by omega), by omega, by omega, hq0.2⟩, t3.resolve_left hn0⟩
 refine ⟨hcan, ?_, t4⟩
 have hp := hc.pos
 have hD : dn g' nd' * 10 ^ (min q 800 - nd') = E / 10 ^ (q - 800) := by
  rw [← a5]
  have := dn_trim (g := g') (n := nd') (m := min q 800 - nd') (fun i h1 h2 => t2 i h1 (by omega))
  rw [show nd' + (min q 800 - nd') = min q 800 by omega] at this
  exact this.symm
 have hj : q - 800 = 0 ∨ 10 ^ 799 ≤ E / 10 ^ (q - 800) := by
  rcases Nat.lt_or_ge 800 q with h | h
  ·right
   rw [← a5, show min q 800 = 799 + 1 by omega]
   rw [show min q 800 = 799 + 1 by omega] at a3
   exact pz_ge a3 hq0.2 (by omega) 799
  ·left; omega
 rcases Nat.eq_or_lt_of_le hq with hlt | hlt
 ·rw [← hlt] at a1
  have e1 : dn g nd = 10 * (E * 2 ^ k) := by
   have : dn g nd = 10 * 2 ^ k * E := a1
   rw [this]; simp only [Nat.mul_assoc, Nat.mul_comm, Nat.mul_left_comm]
  have e2 : tS g nd dp = E * 2 ^ k * 10 ^ (4000 + dp - (nd - 1 : Nat)).toNat := by
   unfold tS
   rw [e1, show (4000 + dp - ((nd - 1 : Nat) : Int)).toNat = (4000 + dp - nd).toNat + 1 by omega, Nat.pow_succ]
   simp only [Nat.mul_assoc, Nat.mul_comm, Nat.mul_left_comm]
  rw [e2]
  exact down_of (nd := nd - 1) (p := 0) (by rw [Nat.pow_zero, Nat.mul_one]) hD (by rw [t4]; omega) hj (by omega)
 ·obtain ⟨p, hpe⟩ : ∃ p, r0 + q = nd + (p + 1) := ⟨r0 + q - nd - 1, by omega⟩
  rw [hpe, pz_out] at a1
  replace a1 : dn g nd * 10 ^ (p + 1) = 10 * 2 ^ k * E := a1
  have hE : E * 2 ^ k = dn g nd * 10 ^ p := by
   rw [Nat.pow_succ, ← Nat.mul_assoc] at a1
   have : 10 * (E * 2 ^ k) = 10 * (dn g nd * 10 ^ p) := by
    rw [Nat.mul_comm 10 (dn g nd * 10 ^ p), a1]; simp only [Nat.mul_assoc, Nat.mul_comm, Nat.mul_left_comm]
   omega
  exact down_of hE hD (by rw [t4]; omega) hj (by omega)
theorem ten_ge_eight (m : Nat) : 2 ^ (3 * m) ≤ 10 ^ m := by
 rw [Nat.pow_mul]; exact Nat.pow_le_pow_left (by decide) m
theorem lead_bound {m k : Nat} (h : 10 ^ m < 2 ^ k) : m + 1 ≤ k := by
 have h1 := Nat.lt_of_le_of_lt (ten_ge_eight m) h
 have h2 := (Nat.pow_lt_pow_iff_right (by omega : 1 < 2)).1 h1
 omega
theorem msk (n k : Nat) (hk : k ≤ 60) (hn : n < 18446744073709551616) : bits .and .u64 (n : Int) (IntKind.u64.wrap (IntKind.u64.wrap (2 ^ k) - 1)) = ((n % 2 ^ k : Nat) : Int) := by
 have hpk : 2 ^ k ≤ 2 ^ 60 := Nat.pow_le_pow_right (by omega) hk
 have hp1 : 0 < 2 ^ k := Nat.pow_pos (by omega)
 have e : ((2 : Int) ^ k) = ((2 ^ k : Nat) : Int) := by simp
 rw [e, wrapU (2 ^ k) (by omega), show (((2 ^ k : Nat) : Int) - 1) = ((2 ^ k - 1 : Nat) : Int) by omega, wrapU _ (by omega), u64_and_nat _ _ hn (by omega), Nat.and_two_pow_sub_one_eq_mod]
def zs (k : Nat) : Nat → Nat → Nat
 | 0, _ => 0
 | f + 1, n => if n = 0 then 0 else zs k f (n % 2 ^ k * 10) + 1
theorem zs_zero (k : Nat) : ∀ f, zs k f 0 = 0
 | 0 => rfl
 | _ + 1 => by rw [zs, if_pos rfl]
theorem zs_same (k : Nat) : ∀ (m i n f1 f2 : Nat), i + m = k → 2 ^ i ∣ n → m + 1 ≤ f1 → m + 1 ≤ f2 → zs k f1 n = zs k f2 n
 | m, i, n, f1, f2, hi, hd, h1, h2 => by
  obtain ⟨a, rfl⟩ : ∃ a, f1 = a + 1 := ⟨f1 - 1, by omega⟩
  obtain ⟨b, rfl⟩ : ∃ b, f2 = b + 1 := ⟨f2 - 1, by omega⟩
  rw [zs, zs]
  split
  ·rfl
  ·congr 1
   match m, hi, h1, h2 with
   | 0, hi, h1, h2 =>
    rw [Nat.add_zero] at hi
    subst hi
    rw [Nat.mod_eq_zero_of_dvd hd, Nat.zero_mul, zs_zero, zs_zero]
   | m + 1, hi, h1, h2 =>
    refine zs_same k m (i + 1) _ a b (by omega) ?_ (by omega) (by omega)
    have h3 : 2 ^ i ∣ n % 2 ^ k := (Nat.dvd_mod_iff (Nat.pow_dvd_pow 2 (by omega))).2 hd
    rw [Nat.pow_succ]
    exact Nat.mul_dvd_mul h3 (by decide)
theorem zs_less {k n : Nat} (hk : k ≤ 60) (hn : n ≠ 0) : zs k 100 (n % 2 ^ k * 10) < zs k 100 n := by
 have e : zs k 100 n = zs k 99 (n % 2 ^ k * 10) + 1 := by rw [zs, if_neg hn]
 rw [e, zs_same k k 0 (n % 2 ^ k * 10) 100 99 (by omega) (Nat.one_dvd _) (by omega) (by omega)]
 omega
def RightP (a k : Nat) (g : Nat → Nat) (nd : Nat) (dp : Int) (neg tr : Bool) (w : World) (e : Ending) (w' : World) : Prop :=
 e = .returned (.tuple #[]) ∧ Fz a w w' ∧ ∃ g' nd' dp' tr', BD a g' nd' dp' neg tr' w' ∧ Can g' nd' ∧ Down k (tS g nd dp) tr (tS g' nd' dp') tr' ∧ dp - k ≤ dp' ∧ dp' ≤ dp
set_option maxRecDepth 100000 in
set_option maxHeartbeats 4000000 in
theorem right_any (a : Nat) (g : Nat → Nat) (nd : Nat) (dp : Int) (neg tr : Bool) (w : World) (hd : BD a g nd dp neg tr w) (hc : Can0 g nd) (k : Nat) (hk : k ≤ 60) (hk1 : 1 ≤ k) (hp1 : -2000 ≤ dp) (hp2 : dp ≤ 2000) :
  Calls Tryz.prog 165 #[.pointer (some ⟨a, 0, none⟩), .int .u64 k] w (RightP a k g nd dp neg tr w) := by
 have hdig := hc.dig
 have hpos := hc.pos
 have hle := hc.le
 have HC := Lib.hid hc
 clear hc
 have cn := hd.cn
 have hpk : 2 ^ k ≤ 2 ^ 60 := Nat.pow_le_pow_right (by omega) hk
 have hk0 : 0 < 2 ^ k := Nat.pow_pos (by omega)
 go_enter Tryz.func165, Tryz.ntmps165
 go_upto_block 0 with fail
 go_cut [4, 6] from 12 to 48 (fun x y wc => ∃ r : Nat, x = .int .i64 r ∧ y = .int .u64 (pz g nd r) ∧ 1 ≤ r ∧ r ≤ k + 1 ∧ Hid (2 ^ k ≤ pz g nd r) ∧ pz g nd r < 10 * 2 ^ k ∧ w = wc)
 case first => as_aux_lemma =>
  go_upto_region 3 with fail
  go_loopw [4, 6] (fun x y wc => ∃ r : Nat, x = .int .i64 r ∧ y = .int .u64 (pz g nd r) ∧ r ≤ nd ∧ r ≤ k + 1 ∧ pz g nd r < 10 * 2 ^ k ∧ w = wc) (fun x _ _ => 1000 - (intOf x).toNat)
  case atStart => exact ⟨0, rfl, rfl, by omega, by omega, Nat.mul_pos (by omega) hk0, rfl⟩
  case round =>
   obtain ⟨r, rfl, rfl, hr1, hr2, hr3, rfl⟩ := hrel
   have ek : ((2 : Int) ^ k) = ((2 ^ k : Nat) : Int) := by simp
   by_cases hlt : pz g nd r < 2 ^ k
   ·have hz : ((pz g nd r : Nat) : Int) / 2 ^ k = 0 := by
     rw [ek, ← Int.natCast_ediv, Nat.div_eq_of_lt hlt]; rfl
    clear ek
    have hrk : r + 1 ≤ k + 1 := by
     rcases Nat.eq_zero_or_pos r with rfl | h
     ·omega
     ·have := pz_ge hdig HC.out.head hpos (r - 1)
      rw [show r - 1 + 1 = r by omega] at this
      have := lead_bound (Nat.lt_of_le_of_lt this hlt)
      omega
    have hpre : pz g nd (r + 1) = 10 * pz g nd r + dg g nd r := rfl
    have h9 := dg_lt hdig r
    by_cases hrn : r < nd
    ·have hcell := hd.cd r (by omega)
     have hd48 := hdig r hrn
     have hdg : dg g nd r = g r - 48 := by unfold dg; rw [if_pos hrn]
     have i1 : (r : Int) < (nd : Int) := by omega
     have i2 : (r : Int) < 800 := by omega
     rw [hdg] at hpre
     clear hdg h9
     generalize hP1 : pz g nd (r + 1) = P1 at *
     generalize pz g nd r = P at *
     generalize g r = c at *
     have eP : ((P : Int) * 10 + c - 48) = P1 := by omega
     go_wp2
     go_roundw
     case rel => exact ⟨r + 1, by go_num, by rw [hP1, ← eP]; go_num, by omega, by omega, by rw [hP1]; omega, by trivial⟩
     case measure => simp [intOf]; omega
    ·obtain rfl : r = nd := by omega
     have hP : ((pz g r r : Nat) : Int) ≠ 0 := by
      have := pz_ge hdig HC.out.head hpos (r - 1)
      rw [show r - 1 + 1 = r by omega] at this
      have : 0 < 10 ^ (r - 1) := Nat.pow_pos (by omega)
      omega
     have hP' : (((pz g r r : Nat) : Int) == 0) = false := by rw [beq_eq_false_iff_ne]; exact hP
     clear hpre h9
     go_upto_region 8 with fail
     go_loopw [4, 6] (fun x y wc => ∃ m : Nat, x = .int .i64 m ∧ y = .int .u64 (pz g r m) ∧ r ≤ m ∧ m ≤ k + 1 ∧ pz g r m < 10 * 2 ^ k ∧ w = wc) (fun x _ _ => 1000 - (intOf x).toNat)
     case atStart => exact ⟨r, rfl, rfl, Nat.le_refl _, by omega, by omega, rfl⟩
     case round =>
      obtain ⟨m, rfl, rfl, hm1, hm2, hm3, rfl⟩ := hrel
      by_cases hltm : pz g r m < 2 ^ k
      ·have ek : ((2 : Int) ^ k) = ((2 ^ k : Nat) : Int) := by simp
       have hzm : ((pz g r m : Nat) : Int) / 2 ^ k = 0 := by
        rw [ek, ← Int.natCast_ediv, Nat.div_eq_of_lt hltm]; rfl
       clear ek
       have hmk : m + 1 ≤ k + 1 := by
        have := pz_ge hdig HC.out.head hpos (m - 1)
        rw [show m - 1 + 1 = m by omega] at this
        have := lead_bound (Nat.lt_of_le_of_lt this hltm)
        omega
       have hpre : pz g r (m + 1) = 10 * pz g r m := by rw [pz, dg, if_neg (by omega), Nat.add_zero]
       generalize hP1 : pz g r (m + 1) = P1 at *
       generalize pz g r m = P at *
       have eP : ((P : Int) * 10) = P1 := by omega
       go_wp2
       go_roundw
       case rel => exact ⟨m + 1, by go_num, by rw [hP1, ← eP]; go_num, by omega, by omega, by rw [hP1]; omega, by trivial⟩
       case measure => simp [intOf]; omega
      ·have ek : ((2 : Int) ^ k) = ((2 ^ k : Nat) : Int) := by simp
       have hzm : (((pz g r m : Nat) : Int) / 2 ^ k == 0) = false := by
        rw [beq_eq_false_iff_ne, ek, ← Int.natCast_ediv]
        have := Nat.div_pos (show 2 ^ k ≤ pz g r m by omega) hk0
        omega
       have hge := Lib.hid (show 2 ^ k ≤ pz g r m by omega)
       clear hltm ek
       generalize hP : pz g r m = P at *
       go_wp2
       go_meet
       case rel => exact ⟨m, rfl, by rw [hP], by omega, by omega, by rw [hP]; exact hge, by rw [hP]; omega, by trivial⟩
   ·have hz : (((pz g nd r : Nat) : Int) / 2 ^ k == 0) = false := by
     rw [beq_eq_false_iff_ne, ek, ← Int.natCast_ediv]
     have := Nat.div_pos (show 2 ^ k ≤ pz g nd r by omega) hk0
     omega
    have hr0 : r ≠ 0 := by rintro rfl; exact hlt hk0
    have hge := Lib.hid (show 2 ^ k ≤ pz g nd r by omega)
    clear hlt ek
    generalize hP : pz g nd r = P at *
    go_wp2
    go_meet
    case rel => exact ⟨r, rfl, by rw [hP], by omega, by omega, by rw [hP]; exact hge, by rw [hP]; omega, by trivial⟩
 case rest =>
 obtain ⟨r0, rfl, rfl, hr1, hr2, hge, hlt, rfl⟩ := hcut
 have cp := hd.cp
 have fp := hd.fz 801
 go_upto_region 14 with fail
 have hd1 := hd.setP (dp - ((r0 : Int) - 1))
 have hF1 : Fz a w (w.setCell ⟨a, 801, none⟩ (.int .i64 (dp - ((r0 : Int) - 1)))) := (Fz.refl _ _).set _ _
 generalize w.setCell ⟨a, 801, none⟩ (.int .i64 (dp - ((r0 : Int) - 1))) = W1 at *
 go_upto_block 4 with fail
 generalize hx0 : pz g nd r0 = x0 at *
 have hmask := Lib.hid (fun n h => msk n k hk h)
 generalize IntKind.u64.wrap (IntKind.u64.wrap (2 ^ k) - 1) = mk at *
 go_cut [4, 5, 6] from 61 to 96 (fun x y z wc => ∃ (q n E : Nat) (g' : Nat → Nat), x = .int .i64 ((r0 + q : Nat) : Int) ∧ y = .int .i64 q ∧ z = .int .u64 n ∧ nd ≤ r0 + q ∧ q ≤ 800 ∧ r0 + q ≤ nd + k + 1 ∧ n < 10 * 2 ^ k ∧ Hid (BD a g' nd (dp - ((r0 : Int) - 1)) neg tr wc) ∧ Hid (Fz a W1 wc) ∧ Hid (RInv g nd k r0 q g' E n))
 case first => as_aux_lemma =>
  go_upto_region 15 with fail
  go_loopw [4, 5, 6] (fun x y z wc => ∃ (q n E : Nat) (g' : Nat → Nat), x = .int .i64 ((r0 + q : Nat) : Int) ∧ y = .int .i64 q ∧ z = .int .u64 n ∧ (q = 0 ∨ r0 + q ≤ nd) ∧ n < 10 * 2 ^ k ∧ Hid (BD a g' nd (dp - ((r0 : Int) - 1)) neg tr wc) ∧ Hid (Fz a W1 wc) ∧ Hid (RInv g nd k r0 q g' E n) ∧ Hid (∀ i, q ≤ i → g' i = g i)) (fun x _ _ _ => 1000 - (intOf x).toNat)
  case atStart => exact ⟨0, x0, 0, g, by simp, by simp, rfl, Or.inl rfl, hlt, Lib.hid hd1, Lib.hid (Fz.refl _ _), Lib.hid (by rw [← hx0]; exact rinv_start (by rw [hx0]; exact hge.out) (by rw [hx0]; exact hlt)), Lib.hid (fun _ _ => rfl)⟩
  case round =>
   obtain ⟨q, n, E, g', rfl, rfl, rfl, hq, hn, HD, HF, HR, HG⟩ := hrel
   have cn' := HD.out.cn
   by_cases hlt2 : r0 + q < nd
   ·have hcell := HD.out.cd (r0 + q) (by omega)
    rw [HG.out (r0 + q) (by omega)] at hcell
    have hcw := HD.out.cd q (by omega)
    have hfw := HD.out.fz q
    have hd48 := hdig (r0 + q) hlt2
    have hdg : dg g nd (r0 + q) = g (r0 + q) - 48 := by unfold dg; rw [if_pos hlt2]
    have hst := rinv_step hdig HR.out
    rw [if_pos (show q < 800 by omega), hdg] at hst
    have i1 : ((r0 + q : Nat) : Int) < nd := by omega
    have i2 : ((r0 + q : Nat) : Int) < 800 := by omega
    have i3 : (q : Int) < 800 := by omega
    have h9 : n / 2 ^ k < 10 := Nat.div_lt_of_lt_mul (by rw [Nat.mul_comm]; exact hn)
    have hm := Nat.mod_lt n hk0
    have ed : (n : Int) / 2 ^ k = ((n / 2 ^ k : Nat) : Int) := by simp
    have em := hmask.out n (by omega)
    have HX := Lib.hid hst
    have HD2 := HD.out.setD q (48 + n / 2 ^ k) (by omega)
    clear hst hdg
    generalize n / 2 ^ k = dd at *
    generalize n % 2 ^ k = mm at *
    rw [show ((48 + dd : Nat) : Int) = (dd : Int) + 48 by omega] at HD2
    have HD3 := Lib.hid HD2
    clear HD2
    have i4 : (dd : Int) ≤ 9 := by omega
    generalize hM : r0 + q = M at *
    go_wp2
    go_roundw
    case rel => exact ⟨q + 1, _, _, _, by rw [← Nat.add_assoc, hM]; go_num, by go_num, by go_num, Or.inr (by omega), by omega, HD3, Lib.hid (HF.out.set _ _), HX, Lib.hid (fun i hi => by rw [upd_other _ _ (by omega)]; exact HG.out i (by omega))⟩
    case measure => simp [intOf]; omega
   ·have i1 : (nd : Int) ≤ ((r0 + q : Nat) : Int) := by omega
    have hq8 : q ≤ 800 := by omega
    generalize hM : r0 + q = M at *
    go_wp2
    go_meet
    case rel => exact ⟨q, n, E, g', by rw [hM], rfl, rfl, by omega, hq8, by omega, hn, HD, HF, HR⟩
 case rest =>
 obtain ⟨q, n, E, g', rfl, rfl, rfl, hq, hq8, hqk, hn, HD, HF, HR⟩ := hcut
 go_upto_region 23 with fail
 go_loopw [5, 6] (fun y z wc => ∃ (q W n E : Nat) (g' : Nat → Nat) (trr : Bool), y = .int .i64 W ∧ z = .int .u64 n ∧ nd ≤ r0 + q ∧ r0 + q ≤ nd + k + 1 ∧ Hid (W = min q 800) ∧ n < 10 * 2 ^ k ∧ Hid (BD a g' nd (dp - ((r0 : Int) - 1)) neg trr wc) ∧ Hid (Fz a w wc) ∧ Hid (RInv g nd k r0 q g' E n) ∧ Hid (trr = (tr || E % 10 ^ (q - 800) != 0))) (fun _ z _ => zs k 100 (intOf z).toNat)
 case atStart => exact ⟨q, q, n, E, g', tr, rfl, rfl, hq, hqk, Lib.hid (by omega), hn, HD, Lib.hid (hF1.trans HF.out), HR, Lib.hid (by rw [show q - 800 = 0 by omega]; simp [Nat.mod_one])⟩
 case round =>
  clear HD HF HR hn hq hqk hq8
  obtain ⟨q, W, n, E, g', trr, rfl, rfl, hq, hqk, HW, hn, HD, HF, HR, HT⟩ := hrel
  have cn' := HD.out.cn
  have fn' := HD.out.fz 800
  rcases Nat.eq_zero_or_pos n with rfl | hn0
  ·have hd2 := HD.out.setN W
   have hF2 := HF.out.set 800 (.int .i64 (W : Int))
   have hW : W ≤ 800 := by have : W = min q 800 := HW.out; omega
   go_wp2_with fail
   refine (trim8_any a g' W _ neg trr _ hd2 hW).mono ?_
   rintro e w' ⟨rfl, hf3, nd', dp', hd3, ht⟩
   rw [show W = min q 800 from HW.out] at ht
   have hdone := rinv_done (tr := tr) HC.out HR.out hq hqk ht (by omega)
   go_wp2
   go_end0
   refine ⟨rfl, hF2.trans hf3, g', nd', dp', trr, hd3, hdone.1, by rw [show trr = _ from HT.out]; exact hdone.2.1, ?_, ?_⟩
   ·rw [hdone.2.2]; omega
   ·rw [hdone.2.2]; omega
  ·have i1 : (0 : Int) < (n : Int) := by omega
   have h9 : n / 2 ^ k < 10 := Nat.div_lt_of_lt_mul (by rw [Nat.mul_comm]; exact hn)
   have hm := Nat.mod_lt n hk0
   have ed : (n : Int) / 2 ^ k = ((n / 2 ^ k : Nat) : Int) := by simp
   have em := hmask.out n (by omega)
   have hmore := rinv_more HR.out hn0
   have hst := rinv_step hdig HR.out
   rw [show dg g nd (r0 + q) = 0 from if_neg (by omega), Nat.add_zero] at hst
   have HZ := Lib.hid (zs_less hk (show n ≠ 0 by omega))
   by_cases hq8 : q < 800
   ·rw [if_pos hq8] at hst
    have hWq : W = q := by have : W = min q 800 := HW.out; omega
    subst hWq
    have hcw := HD.out.cd W hq8
    have hfw := HD.out.fz W
    have i3 : (W : Int) < 800 := by omega
    have HD2 := HD.out.setD W (48 + n / 2 ^ k) hq8
    have HT2 : Hid (trr = (tr || (10 * E + n / 2 ^ k) % 10 ^ (W + 1 - 800) != 0)) := Lib.hid (by
     rw [mark_small hq8, show trr = _ from HT.out, show W - 800 = 0 by omega]; simp [Nat.mod_one])
    have HX := Lib.hid hst
    clear hst
    generalize n / 2 ^ k = dd at *
    generalize n % 2 ^ k = mm at *
    rw [show ((48 + dd : Nat) : Int) = (dd : Int) + 48 by omega] at HD2
    have HD3 := Lib.hid HD2
    clear HD2
    have i4 : (dd : Int) ≤ 9 := by omega
    go_wp2
    go_roundw
    case rel => exact ⟨W + 1, W + 1, mm * 10, _, _, trr, by go_num, by go_num, by omega, by omega, Lib.hid (by omega), by omega, HD3, Lib.hid (HF.out.set _ _), HX, HT2⟩
    case measure => simp [intOf]; rw [show ((mm : Int) * 10).toNat = mm * 10 by omega]; exact HZ.out
   ·rw [if_neg hq8] at hst
    have hW8 : W = 800 := by have : W = min q 800 := HW.out; omega
    subst hW8
    have ct := HD.out.ct
    have fT := HD.out.fz 803
    have HX := Lib.hid hst
    have HM := Lib.hid (mark_step (E := E) h9 (show 800 ≤ q by omega))
    clear hst
    generalize n / 2 ^ k = dd at *
    generalize n % 2 ^ k = mm at *
    rcases Nat.eq_zero_or_pos dd with rfl | hdd
    ·go_wp2
     go_roundw
     case rel => exact ⟨q + 1, 800, mm * 10, _, _, trr, rfl, by go_num, by omega, by omega, Lib.hid (by omega), by omega, HD, HF, HX, Lib.hid (by rw [HM.out, show trr = _ from HT.out]; simp)⟩
     case measure => simp [intOf]; rw [show ((mm : Int) * 10).toNat = mm * 10 by omega]; exact HZ.out
    ·have i4 : (0 : Int) < (dd : Int) := by omega
     go_wp2
     go_roundw
     case rel => exact ⟨q + 1, 800, mm * 10, _, _, true, rfl, by go_num, by omega, by omega, Lib.hid (by omega), by omega, Lib.hid (HD.out.setT true), Lib.hid (HF.out.set _ _), HX, Lib.hid (by rw [HM.out]; simp [hdd])⟩
     case measure => simp [intOf]; rw [show ((mm : Int) * 10).toNat = mm * 10 by omega]; exact HZ.out
end Go.Proofs.YtillamhoakohdaaGreatDoor
namespace Go.Proofs.YtillamhoakohdaaGreatDoor
open Go.RowKit
attribute [local go_sem] setCell_drewN

def gl (l : Bs) (i : Nat) : Nat := (l[i]?.getD 0).toNat
theorem pz_bound {g : Nat → Nat} {n : Nat} (h : DigN g n) (i : Nat) (hi : i ≤ n) : pz g n i * 10 ^ (n - i) ≤ dn g n ∧ dn g n < (pz g n i + 1) * 10 ^ (n - i) := by
 have e := dn_top h (n - i) (by omega)
 rw [show n - (n - i) = i by omega] at e
 rw [pz_dn hi, e]
 have hp : 0 < 10 ^ (n - i) := Nat.pow_pos (by omega)
 exact ⟨Nat.div_mul_le_self _ _, by have := Nat.lt_mul_div_succ (dn g n) hp; rw [Nat.mul_comm] at this; exact this⟩
theorem less_at {g h : Nat → Nat} {n m i : Nat} (hg : DigN g n) (hh : DigN h m) (hi : i < n) (hj : i < m) (e : pz g n i = pz h m i) (hl : g i < h i) : dn g n * 10 ^ m < dn h m * 10 ^ n := by
 have a1 := (pz_bound hg (i + 1) hi).2
 have a2 := (pz_bound hh (i + 1) hj).1
 have b1 := hg i hi
 have b2 := hh i hj
 have e1 : pz g n (i + 1) + 1 ≤ pz h m (i + 1) := by
  rw [pz, pz, e, dg, dg, if_pos hi, if_pos hj]; omega
 have p1 : 0 < 10 ^ m := Nat.pow_pos (by omega)
 have s1 : dn g n * 10 ^ m < (pz g n (i + 1) + 1) * 10 ^ (n - (i + 1)) * 10 ^ m := Nat.mul_lt_mul_of_pos_right a1 p1
 have s2 : (pz g n (i + 1) + 1) * 10 ^ (n - (i + 1)) * 10 ^ m ≤ pz h m (i + 1) * 10 ^ (n - (i + 1)) * 10 ^ m := Nat.mul_le_mul_right _ (Nat.mul_le_mul_right _ e1)
 have s3 : pz h m (i + 1) * 10 ^ (n - (i + 1)) * 10 ^ m = pz h m (i + 1) * 10 ^ (m - (i + 1)) * 10 ^ n := by
  rw [Nat.mul_assoc, Nat.mul_assoc, ← Nat.pow_add, ← Nat.pow_add]; congr 2; omega
 have s4 : pz h m (i + 1) * 10 ^ (m - (i + 1)) * 10 ^ n ≤ dn h m * 10 ^ n := Nat.mul_le_mul_right _ a2
 omega
theorem less_end {g h : Nat → Nat} {n m : Nat} (hh : DigN h m) (hnm : n < m) (e : pz g n n = pz h m n) (hl : h (m - 1) ≠ 48) : dn g n * 10 ^ m < dn h m * 10 ^ n := by
 have a := (pz_bound hh n (by omega)).1
 have hd := hh (m - 1) (by omega)
 have e2 : dn h m = 10 * dn h (m - 1) + (h (m - 1) - 48) := by rw [← dn_succ]; congr 1; omega
 have e3 : pz h m n * 10 ^ (m - n) = 10 * (pz h m n * 10 ^ (m - n - 1)) := by
  rw [show m - n = (m - n - 1) + 1 by omega, Nat.pow_succ]; rw [Nat.add_sub_cancel]; simp only [Nat.mul_assoc, Nat.mul_comm, Nat.mul_left_comm]
 have lt : pz h m n * 10 ^ (m - n) < dn h m := by
  generalize pz h m n * 10 ^ (m - n - 1) = x at e3
  omega
 have : dn g n * 10 ^ m = pz h m n * 10 ^ (m - n) * 10 ^ n := by
  show pz g n n * 10 ^ m = _
  rw [e, Nat.mul_assoc, ← Nat.pow_add]; congr 2; omega
 rw [this]
 exact Nat.mul_lt_mul_of_pos_right lt (Nat.pow_pos (by omega))
theorem less_no {g h : Nat → Nat} {n m : Nat} (hg : DigN g n) (hnm : m ≤ n) (e : pz g n m = pz h m m) : dn h m * 10 ^ n ≤ dn g n * 10 ^ m := by
 have a := (pz_bound hg m hnm).1
 have : dn h m * 10 ^ n = pz g n m * 10 ^ (n - m) * 10 ^ m := by
  show pz h m m * 10 ^ n = _
  rw [← e, Nat.mul_assoc, ← Nat.pow_add]; congr 2; omega
 rw [this]
 exact Nat.mul_le_mul_right _ a
theorem gl_at (s : ByteArray) (i : Nat) (hi : i < s.size) : gl s.data.toList i = s[i].toNat := by
 unfold gl
 rw [List.getElem?_eq_getElem (by simpa using hi)]; rfl

set_option maxHeartbeats 4000000 in
theorem less_any (a : Nat) (g : Nat → Nat) (nd : Nat) (dp : Int) (neg tr : Bool) (s : ByteArray) (w : World) (hd : BD a g nd dp neg tr w) (hdig : DigN g nd) (hnd : nd ≤ 800)
  (hs : DigN (gl s.data.toList) s.size) (hsz : s.size ≤ 1000) (hlast : gl s.data.toList (s.size - 1) ≠ 48) :
  Calls Tryz.prog 171 #[.slice (some ⟨a, 0, none⟩) nd 800, .string s] w fun e w' => e = .returned (.bool (decide (dn g nd * 10 ^ s.size < dn (gl s.data.toList) s.size * 10 ^ nd))) ∧ ∃ m, w' = w.drewN m := by
 obtain ⟨b, hb⟩ : ∃ b, b = decide (dn g nd * 10 ^ s.size < dn (gl s.data.toList) s.size * 10 ^ nd) := ⟨_, rfl⟩
 rw [← hb]
 have HB := Lib.hid hb
 clear hb
 have HL := Lib.hid hlast
 clear hlast
 go_enter Tryz.func171, Tryz.ntmps171
 go_upto_region 2 with fail
 go_loopw [5] (fun x wc => ∃ i m : Nat, x = .int .i64 i ∧ i ≤ nd ∧ i ≤ s.size ∧ Hid (pz g nd i = pz (gl s.data.toList) s.size i) ∧ wc = w.drewN m) (fun x _ => 10000 - (intOf x).toNat)
 case atStart => exact ⟨0, 0, rfl, by omega, by omega, Lib.hid rfl, rfl⟩
 case round =>
  obtain ⟨i, m, rfl, hi1, hi2, HE, rfl⟩ := hrel
  by_cases hlt : i < s.size
  ·have j1 : (i : Int) < (s.size : Int) := by omega
   by_cases hn : i < nd
   ·have j2 : (i : Int) < (nd : Int) := by omega
    have hcell := hd.cd i (by omega)
    have hgl := gl_at s i hlt
    have hb1 := hdig i hn
    have hb2 := hs i hlt
    rw [hgl] at hb2
    by_cases heq : g i = s[i].toNat
    ·have k1 : ((g i : Int) != (s[i].toNat : Int)) = false := by rw [heq]; simp
     have HE2 : Hid (pz g nd (i + 1) = pz (gl s.data.toList) s.size (i + 1)) := Lib.hid (by rw [pz, pz, HE.out, dg, dg, if_pos hn, if_pos hlt, heq, hgl])
     clear HE
     go_wp2
     go_quiet (fail)
     go_wp2
     go_roundw
     case rel => exact ⟨i + 1, _, by go_num, by omega, by omega, HE2, by first | rfl | rw [World.drewN_drewN]⟩
     case measure => simp [intOf]; omega
    ·have k1 : ((g i : Int) != (s[i].toNat : Int)) = true := by rw [bne_iff_ne]; omega
     have hbv : b = decide (g i < s[i].toNat) := by
      rw [HB.out]
      by_cases hl : g i < s[i].toNat
      ·have := less_at hdig hs hn hlt HE.out (by rw [hgl]; exact hl)
       simp [this, hl]
      ·have := less_at hs hdig hlt hn HE.out.symm (by rw [hgl]; omega)
       rw [decide_eq_false (by omega), decide_eq_false hl]
     have HBV := Lib.hid hbv
     clear hbv
     go_wp2
     go_quiet (fail)
     go_wp2
     go_quiet (fail)
     go_wp2
     go_ret
     exact ⟨by rw [HBV.out]; simp, _, by first | rfl | rw [World.drewN_drewN, World.drewN_drewN]⟩
   ·have j2 : (nd : Int) ≤ (i : Int) := by omega
    obtain rfl : i = nd := by omega
    have hbv : b = true := by
     rw [HB.out]; exact decide_eq_true (less_end hs hlt HE.out HL.out)
    subst hbv
    go_wp2
    go_ret
    exact ⟨rfl, m, rfl⟩
  ·have j1 : (s.size : Int) ≤ (i : Int) := by omega
   have hbv : b = false := by
    rw [HB.out]
    have e : i = s.size := by omega
    have := HE.out
    rw [e] at this
    exact decide_eq_false (by have := less_no hdig (by omega) this; omega)
   subst hbv
   go_wp2
   go_ret
   exact ⟨rfl, m, rfl⟩
end Go.Proofs.YtillamhoakohdaaGreatDoor
namespace Go.Proofs.YtillamhoakohdaaGreatDoor
open Go.RowKit
attribute [local go_sem] setCell_drewN

def cheatB (k : Nat) : Bool :=
 let r := Go.Pinned.cheatRows.getD k (0, [])
 Nat.ble 1 r.1 && Nat.beq (r.2.length + r.1) (k + 1) && Nat.beq (dn (gl r.2) r.2.length) (5 ^ k) && Nat.ble (10 ^ (r.2.length - 1)) (5 ^ k) && Nat.blt (5 ^ k) (10 ^ r.2.length) &&
  ((List.range r.2.length).all fun i => Nat.ble 48 (gl r.2 i) && Nat.ble (gl r.2 i) 57) && !(Nat.beq (gl r.2 (r.2.length - 1)) 48) && Nat.ble 1 r.2.length
set_option maxRecDepth 100000 in
theorem cheat_all : ∀ i : Fin 60, cheatB (i.val + 1) = true := by decide +kernel
structure Cheat (k delta : Nat) (l : Bs) : Prop where
 d1 : 1 ≤ delta
 len : l.length + delta = k + 1
 val : dn (gl l) l.length = 5 ^ k
 lo : 10 ^ (l.length - 1) ≤ 5 ^ k
 hi : 5 ^ k < 10 ^ l.length
 dig : DigN (gl l) l.length
 last : gl l (l.length - 1) ≠ 48
 l1 : 1 ≤ l.length
theorem cheat_len : Go.Pinned.cheatRows.length = 61 := by decide +kernel
theorem cheat_is (k : Nat) (h1 : 1 ≤ k) (h2 : k ≤ 60) : ∃ h : k < Go.Pinned.cheatRows.length, Cheat k (Go.Pinned.cheatRows[k]).1 (Go.Pinned.cheatRows[k]).2 := by
 have hlen := cheat_len
 have hk : k < Go.Pinned.cheatRows.length := by omega
 refine ⟨hk, ?_⟩
 have := cheat_all ⟨k - 1, by omega⟩
 simp only [show k - 1 + 1 = k by omega] at this
 unfold cheatB at this
 rw [List.getD_eq_getElem?_getD, List.getElem?_eq_getElem hk, Option.getD_some] at this
 generalize Go.Pinned.cheatRows[k] = r at *
 simp only [Bool.and_eq_true, Nat.ble_eq, Nat.beq_eq, Nat.blt_eq, List.all_eq_true, List.mem_range, Bool.not_eq_true'] at this
 obtain ⟨⟨⟨⟨⟨⟨⟨a1, a2⟩, a3⟩, a4⟩, a5⟩, a6⟩, a7⟩, a8⟩ := this
 refine ⟨a1, a2, a3, a4, a5, fun i hi => a6 i hi, fun e => ?_, a8⟩
 rw [e] at a7; cases a7
theorem cheat_digits {k delta D nd : Nat} {l : Bs} (hc : Cheat k delta l) (hnd : 0 < nd) (lo : 10 ^ (nd - 1) ≤ D) (hi : D < 10 ^ nd) (b : Bool) (hb : b = decide (D * 10 ^ l.length < 5 ^ k * 10 ^ nd)) :
  ∃ d', d' = (if b = true then delta - 1 else delta) ∧ 10 ^ (nd + d' - 1) ≤ D * 2 ^ k ∧ D * 2 ^ k < 10 ^ (nd + d') := by
 refine ⟨_, rfl, ?_⟩
 have h1 := hc.d1; have hl := hc.len; have hl1 := hc.l1
 have p2 : 0 < 2 ^ k := Nat.pow_pos (by omega)
 have pl : 0 < 10 ^ l.length := Nat.pow_pos (by omega)
 have e10 : 5 ^ k * 2 ^ k = 10 ^ k := by rw [← Nat.mul_pow]
 have up : 2 ^ k ≤ 10 ^ delta := by
  have a : 10 ^ (l.length - 1) * 2 ^ k ≤ 10 ^ (l.length - 1) * 10 ^ delta := by
   rw [← Nat.pow_add, show l.length - 1 + delta = k by omega, ← e10]
   exact Nat.mul_le_mul_right _ hc.lo
  exact Nat.le_of_mul_le_mul_left a (Nat.pow_pos (by omega))
 have dn' : 10 ^ (delta - 1) ≤ 2 ^ k := by
  have a : 10 ^ l.length * 10 ^ (delta - 1) ≤ 10 ^ l.length * 2 ^ k := by
   rw [← Nat.pow_add, show l.length + (delta - 1) = k by omega, ← e10]
   exact Nat.mul_le_mul_right _ (Nat.le_of_lt hc.hi)
  exact Nat.le_of_mul_le_mul_left a pl
 have e3 : 5 ^ k * 10 ^ nd * 2 ^ k = 10 ^ (nd + delta - 1) * 10 ^ l.length := by
  rw [show 5 ^ k * 10 ^ nd * 2 ^ k = 5 ^ k * 2 ^ k * 10 ^ nd by simp only [Nat.mul_assoc, Nat.mul_comm, Nat.mul_left_comm], e10, ← Nat.pow_add, ← Nat.pow_add]; congr 1; omega
 have e4 : D * 10 ^ l.length * 2 ^ k = D * 2 ^ k * 10 ^ l.length := by simp only [Nat.mul_assoc, Nat.mul_comm, Nat.mul_left_comm]
 by_cases h : D * 10 ^ l.length < 5 ^ k * 10 ^ nd
 ·rw [hb, decide_eq_true h, if_pos rfl]
  constructor
  ·have a := Nat.mul_le_mul lo dn'
   rw [← Nat.pow_add] at a
   rwa [show nd + (delta - 1) - 1 = nd - 1 + (delta - 1) by omega]
  ·have a := Nat.mul_lt_mul_of_pos_right h p2
   rw [e3, e4] at a
   rw [show nd + (delta - 1) = nd + delta - 1 by omega]
   exact Nat.lt_of_mul_lt_mul_right a
 ·rw [hb, decide_eq_false h, if_neg (by simp)]
  constructor
  ·have a := Nat.mul_le_mul_right (2 ^ k) (Nat.le_of_not_lt h)
   rw [e3, e4] at a
   exact Nat.le_of_mul_le_mul_right a pl
  ·have a := Nat.mul_lt_mul_of_lt_of_le hi up (Nat.pow_pos (by omega))
   rwa [← Nat.pow_add] at a

def lcN (D k c : Nat) : Nat := D % 10 ^ c * 2 ^ k / 10 ^ c
theorem lc_lt (D k c : Nat) : lcN D k c < 2 ^ k := by
 unfold lcN
 have h : D % 10 ^ c < 10 ^ c := Nat.mod_lt _ (Nat.pow_pos (by omega))
 rw [Nat.div_lt_iff_lt_mul (Nat.pow_pos (by omega)), Nat.mul_comm]
 exact Nat.mul_lt_mul_of_pos_left h (Nat.pow_pos (by omega))
theorem lc_zero (D k : Nat) : lcN D k 0 = 0 := by unfold lcN; simp [Nat.mod_one]
theorem lc_step (D k c : Nat) : (lcN D k c + D / 10 ^ c % 10 * 2 ^ k) / 10 = lcN D k (c + 1) ∧ (lcN D k c + D / 10 ^ c % 10 * 2 ^ k) % 10 = D * 2 ^ k / 10 ^ c % 10 := by
 have hp : 0 < 10 ^ c := Nat.pow_pos (by omega)
 have e1 : D % 10 ^ (c + 1) = D % 10 ^ c + 10 ^ c * (D / 10 ^ c % 10) := by rw [Nat.pow_succ, Nat.mod_mul]
 have e2 : D % 10 ^ (c + 1) * 2 ^ k / 10 ^ c = lcN D k c + D / 10 ^ c % 10 * 2 ^ k := by
  rw [e1, Nat.add_mul, Nat.mul_assoc, Nat.add_mul_div_left _ _ hp]; rfl
 constructor
 ·rw [← e2]; unfold lcN; rw [Nat.div_div_eq_div_mul, ← Nat.pow_succ]
 ·rw [← e2]
  have e3 : D = D % 10 ^ (c + 1) + 10 ^ (c + 1) * (D / 10 ^ (c + 1)) := (Nat.mod_add_div _ _).symm
  have e4 : D * 2 ^ k / 10 ^ c = D % 10 ^ (c + 1) * 2 ^ k / 10 ^ c + 10 * (D / 10 ^ (c + 1) * 2 ^ k) := by
   rw [show D * 2 ^ k = D % 10 ^ (c + 1) * 2 ^ k + 10 ^ c * (10 * (D / 10 ^ (c + 1) * 2 ^ k)) by
    conv => lhs; rw [e3]
    rw [Nat.add_mul, Nat.pow_succ]; simp only [Nat.mul_assoc, Nat.mul_comm, Nat.mul_left_comm]]
   rw [Nat.add_mul_div_left _ _ hp]
  rw [e4]; omega
theorem ddig_at {g : Nat → Nat} {nd c : Nat} (h : DigN g nd) (hc : c < nd) : dn g nd / 10 ^ c % 10 = g (nd - 1 - c) - 48 := by
 rw [← dn_top h c (by omega)]
 have e : dn g (nd - c) = 10 * dn g (nd - 1 - c) + (g (nd - 1 - c) - 48) := by rw [← dn_succ]; congr 1; omega
 have := h (nd - 1 - c) (by omega)
 rw [e]; omega
def LInv (E q c : Nat) (tr : Bool) (g' : Nat → Nat) (tr' : Bool) : Prop :=
 (∀ i, q - c ≤ i → i < q → i < 800 → g' i = 48 + E / 10 ^ (q - 1 - i) % 10) ∧ tr' = (tr || E % 10 ^ min c (q - 800) != 0)
theorem linv_start (E q : Nat) (tr : Bool) (g : Nat → Nat) : LInv E q 0 tr g tr := ⟨fun i h1 h2 => by omega, by simp [Nat.mod_one]⟩
theorem linv_put {E q c d : Nat} {tr tr' : Bool} {g' : Nat → Nat} (h : LInv E q c tr g' tr') (hc : c < q) (hd : d = E / 10 ^ c % 10) (h8 : q - c - 1 < 800) : LInv E q (c + 1) tr (updN g' (q - c - 1) (48 + d)) tr' := by
 refine ⟨fun i h1 h2 h3 => ?_, ?_⟩
 ·by_cases e : i = q - c - 1
  ·subst e; rw [upd_same, hd, show q - 1 - (q - c - 1) = c by omega]
  ·rw [upd_other _ _ e]; exact h.1 i (by omega) h2 h3
 ·rw [h.2, show min (c + 1) (q - 800) = min c (q - 800) by omega]
theorem linv_drop {E q c d : Nat} {tr tr' : Bool} {g' : Nat → Nat} (h : LInv E q c tr g' tr') (hd : d = E / 10 ^ c % 10) (h8 : 800 ≤ q - c - 1) : LInv E q (c + 1) tr g' (tr' || decide (0 < d)) := by
 refine ⟨fun i h1 h2 h3 => h.1 i (by omega) h2 h3, ?_⟩
 rw [h.2, show min (c + 1) (q - 800) = c + 1 by omega, show min c (q - 800) = c by omega, Nat.pow_succ, Nat.mod_mul, ← hd, Bool.or_assoc]
 congr 1
 have hp : 0 < 10 ^ c := Nat.pow_pos (by omega)
 generalize E % 10 ^ c = x
 rcases Nat.eq_zero_or_pos x with rfl | hx
 ·rcases Nat.eq_zero_or_pos d with rfl | h2
  ·simp
  ·have : (0 + 10 ^ c * d != 0) = true := by rw [bne_iff_ne]; have := Nat.mul_pos hp h2; omega
   rw [this]; simp [h2]
 ·have h1 : (x != 0) = true := by rw [bne_iff_ne]; omega
  have h2 : (x + 10 ^ c * d != 0) = true := by rw [bne_iff_ne]; omega
  rw [h1, h2]; rfl
set_option exponentiation.threshold 6000 in
theorem linv_done {g g' : Nat → Nat} {nd k q nd' : Nat} {dp dp' : Int} {tr tr' : Bool} (hc : Can0 g nd) (h : LInv (dn g nd * 2 ^ k) q q tr g' tr') (hq : nd ≤ q) (lo : 10 ^ (q - 1) ≤ dn g nd * 2 ^ k) (hi : dn g nd * 2 ^ k < 10 ^ q)
  (ht : Trimmed g' (min q 800) (dp + ((q : Int) - nd)) nd' dp') (hs : 0 ≤ 4000 + dp - nd) :
  Can g' nd' ∧ Up k (tS g nd dp) tr (tS g' nd' dp') tr' ∧ dp' = dp + ((q : Int) - nd) := by
 obtain ⟨a1, a2⟩ := h
 obtain ⟨t1, t2, t3, t4⟩ := ht
 have hp := hc.pos
 have h0 : g' 0 ≠ 48 := by
  rw [a1 0 (by omega) (by omega) (by omega), Nat.sub_zero]
  have h1 : 1 ≤ dn g nd * 2 ^ k / 10 ^ (q - 1) := (Nat.le_div_iff_mul_le (Nat.pow_pos (by omega))).2 (by omega)
  have h2 : dn g nd * 2 ^ k / 10 ^ (q - 1) < 10 := (Nat.div_lt_iff_lt_mul (Nat.pow_pos (by omega))).2 (by
   rw [show 10 * 10 ^ (q - 1) = 10 ^ (q - 1 + 1) by rw [Nat.pow_succ, Nat.mul_comm], show q - 1 + 1 = q by omega]; exact hi)
  rw [Nat.mod_eq_of_lt h2]; omega
 have hn0 : nd' ≠ 0 := fun e => h0 (t2 0 (by omega) (by omega))
 rw [if_neg hn0] at t4
 have hdig : DigN g' (min q 800) := fun i hi => by
  rw [a1 i (by omega) (by omega) (by omega)]
  have := Nat.mod_lt (dn g nd * 2 ^ k / 10 ^ (q - 1 - i)) (show 0 < 10 by omega)
  omega
 refine ⟨⟨⟨fun i hi => hdig i (by omega), by omega, by omega, h0⟩, t3.resolve_left hn0⟩, ?_, t4⟩
 have hval : dn g' (min q 800) = dn g nd * 2 ^ k / 10 ^ (q - 800) := by
  rw [dn_of hi (min q 800) (by omega) (fun i hi => a1 i (by omega) (by omega) (by omega)), show q - min q 800 = q - 800 by omega]
 have hD : dn g' nd' * 10 ^ (min q 800 - nd') = dn g nd * 2 ^ k / 10 ^ (q - 800) := by
  rw [← hval]
  have := dn_trim (g := g') (n := nd') (m := min q 800 - nd') (fun i h1 h2 => t2 i h1 (by omega))
  rw [show nd' + (min q 800 - nd') = min q 800 by omega] at this
  exact this.symm
 rw [a2, show min q (q - 800) = q - 800 by omega]
 refine up_of rfl hD (by rw [t4]; omega) ?_ hs
 rcases Nat.lt_or_ge 800 q with h | h
 ·right
  rw [Nat.le_div_iff_mul_le (Nat.pow_pos (by omega)), ← Nat.pow_add, show 799 + (q - 800) = q - 1 by omega]
  exact lo
 ·left; omega
end Go.Proofs.YtillamhoakohdaaGreatDoor

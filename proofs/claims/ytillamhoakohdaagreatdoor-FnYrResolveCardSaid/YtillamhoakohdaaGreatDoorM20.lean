/-
  Walks: the light decimal's digit, its rounding, its whole number. Walks: the light decimal's half. Walks: the slow decimal's rounding to a whole number.
-/
import Derived.Laws.BitsAllLaws
import Derived.Test.YtillamhoakohdaaGreatDoorM17
import Derived.Test.YtillamhoakohdaaGreatDoorM18
import Derived.Test.YtillamhoakohdaaGreatDoorM19
set_option linter.unusedVariables false
set_option linter.unusedSimpArgs false
namespace Go.Proofs.YtillamhoakohdaaGreatDoor
open Go.RowKit
attribute [local go_sem] setCell_drewN

theorem ldigit_any' (base a : Nat) (v : Value) (ds : Bs) (dp : Int) (w : World) (hd : DecAt base a v ds dp w) (i : Int) (R : Nat) (hR : R = if 0 ≤ i then dig0 ds i.toNat else 0) :
  Calls Tryz.prog 121 #[.pointer (some ⟨a, 0, none⟩), .int .i64 i] w fun e w' => e = .returned (.int .u8 (R : Int)) ∧ w' = w := by
 have c0 := hd.c0
 obtain ⟨⟨p, cap, rfl⟩, hsh⟩ := own_shape hd.own
 by_cases h : 0 ≤ i ∧ i < (ds.length : Int)
 ·obtain ⟨h1, h2⟩ := h
  obtain ⟨g, cap', e, hg1, hg2, hg3, hg4⟩ := hsh (by intro e; subst e; simp at h2; omega)
  simp only [Value.slice.injEq, true_and] at e
  obtain ⟨rfl, rfl⟩ := e
  have hc := own_cell hd.own i.toNat (by omega)
  have T : (ds[i.toNat]'(by omega)).toNat = R := by rw [hR, if_pos h1, dig0_at (by omega)]
  rw [T] at hc
  clear hR T
  go_enter Tryz.func121, Tryz.ntmps121
  go_wp2
  go_ret
  exact ⟨rfl, rfl⟩
 ·have T : R = 0 := by
   rw [hR]
   by_cases h3 : 0 ≤ i
   ·rw [if_pos h3]; exact dig0_out (by omega)
   ·rw [if_neg h3]
  subst T
  clear hR
  by_cases h1 : 0 ≤ i
  ·have h2 : (ds.length : Int) ≤ i := by omega
   go_enter Tryz.func121, Tryz.ntmps121
   go_wp2
   go_ret
   exact ⟨rfl, rfl⟩
  ·have h2 : i < 0 := by omega
   go_enter Tryz.func121, Tryz.ntmps121
   go_wp2
   go_ret
   exact ⟨rfl, rfl⟩
theorem ldigit_any (base a : Nat) (v : Value) (ds : Bs) (dp : Int) (w : World) (hd : DecAt base a v ds dp w) (i : Nat) :
  Calls Tryz.prog 121 #[.pointer (some ⟨a, 0, none⟩), .int .i64 i] w fun e w' => e = .returned (.int .u8 (dig0 ds i : Int)) ∧ w' = w :=
 ldigit_any' base a v ds dp w hd i _ (by rw [if_pos (by omega), Int.toNat_natCast])

theorem nearUp_any (base a : Nat) (v : Value) (ds : Bs) (dp : Int) (w : World) (hd : DecAt base a v ds dp w) (hD : Dig ds) (hl : ds.length ≤ 100000) (n : Int) (hn : n ≤ 100000) (B : Bool) (hB : nearUpB ds n = B) :
  Calls Tryz.prog 122 #[.pointer (some ⟨a, 0, none⟩), .int .i64 n] w fun e w' => e = .returned (.bool B) ∧ w' = w := by
 have c0 := hd.c0
 obtain ⟨⟨p, cap, rfl⟩, hsh⟩ := own_shape hd.own
 by_cases h1 : n < 0
 ·obtain rfl : B = false := by rw [← hB]; unfold nearUpB; rw [if_pos (Or.inl h1)]
  clear hB
  go_enter Tryz.func122, Tryz.ntmps122
  go_wp2
  go_ret
  exact ⟨rfl, rfl⟩
 by_cases h2 : (ds.length : Int) ≤ n
 ·obtain rfl : B = false := by rw [← hB]; unfold nearUpB; rw [if_pos (Or.inr h2)]
  clear hB
  go_enter Tryz.func122, Tryz.ntmps122
  go_wp2
  go_ret
  exact ⟨rfl, rfl⟩
 obtain ⟨g, cap', e, hg1, hg2, hg3, hg4⟩ := hsh (by intro e; subst e; simp at h2; omega)
 simp only [Value.slice.injEq, true_and] at e
 obtain ⟨rfl, rfl⟩ := e
 obtain ⟨k, rfl⟩ : ∃ k : Nat, n = k := ⟨n.toNat, by omega⟩
 have hk : k < ds.length := by omega
 have hc := own_cell hd.own k hk
 have hr := dig0_at hk
 have hlt := dig0_lt hD k
 rw [hr] at hlt
 have T0 : Hid (B = if ds[k].toNat = 5 ∧ (k : Int) + 1 = ds.length then decide (0 < (k : Int)) && decide (dig0 ds (k - 1) % 2 ≠ 0) else decide (5 ≤ ds[k].toNat)) := Lib.hid (by
  rw [← hB]; unfold nearUpB; rw [if_neg (by omega), Int.toNat_natCast, hr])
 clear hr hB
 generalize hdk : ds[k].toNat = d at *
 have hb : ∀ x y : Bool, x = y → Ending.returned (.bool x) = .returned (.bool y) := fun _ _ h => by rw [h]
 have i1 : (0 : Int) ≤ (k : Int) := by omega
 have i2 : (k : Int) < (ds.length : Int) := by omega
 by_cases h5 : d = 5
 ·subst h5
  by_cases h6 : (k : Int) + 1 = (ds.length : Int)
  ·by_cases hk0 : k = 0
   ·subst hk0
    obtain rfl : B = false := by rw [T0.out, if_pos ⟨rfl, h6⟩]; rfl
    have h7 : ds.length = 1 := by omega
    rw [h7] at c0
    clear T0
    go_enter Tryz.func122, Tryz.ntmps122
    go_wp2
    go_ret
    exact ⟨rfl, rfl⟩
   ·have hk1 : k - 1 < ds.length := by omega
    have hc2 := own_cell hd.own (k - 1) hk1
    have hr2 := dig0_at hk1
    have hlt2 := dig0_lt hD (k - 1)
    rw [hr2] at hlt2
    have T : Hid (B = decide (ds[k - 1].toNat % 2 ≠ 0)) := Lib.hid (by rw [T0.out, if_pos ⟨rfl, h6⟩, ← hr2]; simp; omega)
    clear T0 hr2
    generalize ds[k - 1].toNat = d2 at *
    have i3 : (0 : Int) < (k : Int) := by omega
    have i4 : (0 : Int) ≤ (k : Int) - 1 := by omega
    have i5 : (k : Int) - 1 < (ds.length : Int) := by omega
    have i6 : ((k : Int) - 1).toNat = k - 1 := by omega
    go_enter Tryz.func122, Tryz.ntmps122
    go_wp2
    go_ret
    exact ⟨by rw [T.out]; apply hb; rw [Bool.eq_iff_iff]; simp; try omega, rfl⟩
  ·obtain rfl : B = true := by rw [T0.out, if_neg (by omega)]; rfl
   clear T0
   go_enter Tryz.func122, Tryz.ntmps122
   go_wp2
   go_ret
   exact ⟨rfl, rfl⟩
 ·have k1 : ((d : Int) == 5) = false := by rw [beq_eq_false_iff_ne]; omega
  have T : Hid (B = decide (5 ≤ d)) := Lib.hid (by rw [T0.out, if_neg (by omega)])
  clear T0
  go_enter Tryz.func122, Tryz.ntmps122
  go_wp2
  go_ret
  exact ⟨by rw [T.out]; apply hb; rw [Bool.eq_iff_iff]; simp; try omega, rfl⟩

theorem whole_any (base a : Nat) (v : Value) (ds : Bs) (dp : Int) (w : World) (hd : DecAt base a v ds dp w) (hD : Dig ds) (hl : ds.length ≤ 100000) (hdp : dp ≤ 17) (R : Nat) (hR : pre ds dp.toNat + (if nearUpB ds dp = true then 1 else 0) = R) :
  Calls Tryz.prog 105 #[.pointer (some ⟨a, 0, none⟩)] w fun e w' => e = .returned (.int .u64 (R : Int)) ∧ w' = w := by
 have c1 := hd.c1
 have HR := Lib.hid hR
 clear hR
 go_enter Tryz.func105, Tryz.ntmps105
 go_wp2
 go_loop [3, 4] (fun n i => ∃ k : Nat, (k : Int) ≤ max dp 0 ∧ i = .int .i64 k ∧ n = .int .u64 (pre ds k)) (fun _ i => 17 - (intOf i).toNat)
 case atStart => exact ⟨0, by omega, rfl, rfl⟩
 case round =>
  obtain ⟨k, hk, rfl, rfl⟩ := hrel
  have hp := pre_bd hD k (by omega)
  have hq := dig0_lt hD k
  by_cases hlt : (k : Int) < dp
  ·go_wp2_with fail
   refine (ldigit_any base a v ds dp _ hd k).mono ?_
   rintro e w' ⟨rfl, rfl⟩
   go_wp2
   go_round
   case rel => exact ⟨k + 1, by omega, by go_num, by rw [pre]; go_num⟩
   case measure => simp [intOf]; omega
  ·have hkd : dp.toNat = k := by omega
   rw [hkd] at HR
   generalize pre ds k = N at *
   cases hb : nearUpB ds dp
   ·obtain rfl : N = R := by have := HR.out; rw [hb] at this; simpa using this
    clear HR
    go_wp2_with fail
    refine (nearUp_any base a v ds dp _ hd hD hl dp (by omega) _ hb).mono ?_
    rintro e w' ⟨rfl, rfl⟩
    go_wp2
    go_ret
    exact ⟨rfl, rfl⟩
   ·obtain rfl : N + 1 = R := by have := HR.out; rw [hb] at this; simpa using this
    clear HR
    go_wp2_with fail
    refine (nearUp_any base a v ds dp _ hd hD hl dp (by omega) _ hb).mono ?_
    rintro e w' ⟨rfl, rfl⟩
    go_wp2
    go_ret
    exact ⟨rfl, rfl⟩
end Go.Proofs.YtillamhoakohdaaGreatDoor
namespace Go.Proofs.YtillamhoakohdaaGreatDoor
open Go.RowKit
attribute [local go_sem] setCell_drewN

theorem own_cell' {base g cap : Nat} {l : Bs} {w : World} (h : OwnB base w (.slice (some ⟨g, 0, none⟩) l.length cap) l) (i : Nat) (hi : i < l.length) : w.cell? ⟨g, i, none⟩ = some (.int .u8 (dig0 l i : Int)) := by
 rw [own_cell h i hi, dig0_at hi]
theorem own_mono {base base' : Nat} {v : Value} {l : Bs} {w : World} (h : OwnB base w v l) (hb : base' ≤ base) : OwnB base' w v l :=
 ⟨h.1, h.2.imp_right fun ⟨g, cap, cur, h1, h2, h3⟩ => ⟨g, cap, cur, h1, Nat.le_trans hb h2, h3⟩⟩
theorem wrap64 (n : Int) (h0 : 0 ≤ n) (h1 : n < 18446744073709551616) : IntKind.u64.wrap n = n := by
 have : IntKind.u64.wrap n = n % 18446744073709551616 := by simp [IntKind.wrap, IntKind.bits, IntKind.signed]
 rw [this]; omega
theorem mask_nat (n k : Nat) (hk : k ≤ 59) (hn : n < 18446744073709551616) : bits .and .u64 (n : Int) (IntKind.u64.wrap (IntKind.u64.wrap (2 ^ k) - 1)) = ((n % 2 ^ k : Nat) : Int) := by
 have hpk : 2 ^ k ≤ 2 ^ 59 := Nat.pow_le_pow_right (by omega) hk
 have hp1 : 0 < 2 ^ k := Nat.pow_pos (by omega)
 have e : ((2 : Int) ^ k) = ((2 ^ k : Nat) : Int) := by simp
 rw [e, wrap64 ((2 ^ k : Nat) : Int) (by omega) (by omega), wrap64 _ (by omega) (by omega), show (((2 ^ k : Nat) : Int) - 1) = ((2 ^ k - 1 : Nat) : Int) by omega, u64_and_nat _ _ hn (by omega), Nat.and_two_pow_sub_one_eq_mod]
theorem mask_step (n k d : Nat) (hk : k ≤ 59) (hn : n < 18446744073709551616) (hd : d < 10) :
  IntKind.u64.wrap (IntKind.u64.wrap (bits .and .u64 (n : Int) (IntKind.u64.wrap (IntKind.u64.wrap (2 ^ k) - 1)) * 10) + (d : Int)) = ((n % 2 ^ k * 10 + d : Nat) : Int) := by
 have hpk : 2 ^ k ≤ 2 ^ 59 := Nat.pow_le_pow_right (by omega) hk
 have hm : n % 2 ^ k < 2 ^ k := Nat.mod_lt _ (Nat.pow_pos (by omega))
 rw [mask_nat n k hk hn, wrap64 (((n % 2 ^ k : Nat) : Int) * 10) (by omega) (by omega), wrap64 _ (by omega) (by omega)]
 omega
theorem mask_step0 (n k : Nat) (hk : k ≤ 59) (hn : n < 18446744073709551616) :
  IntKind.u64.wrap (bits .and .u64 (n : Int) (IntKind.u64.wrap (IntKind.u64.wrap (2 ^ k) - 1)) * 10) = ((n % 2 ^ k * 10 : Nat) : Int) := by
 have hpk : 2 ^ k ≤ 2 ^ 59 := Nat.pow_le_pow_right (by omega) hk
 have hm : n % 2 ^ k < 2 ^ k := Nat.mod_lt _ (Nat.pow_pos (by omega))
 rw [mask_nat n k hk hn, wrap64 _ (by omega) (by omega)]
 omega
theorem half_step {ds o : Bs} {k jj nn : Nat} {d : UInt8} (h9 : nn / 2 ^ k < 10) (hd : d.toNat = nn / 2 ^ k) (H : pre ds jj = 10 * 2 ^ k * decV o + nn ∧ Dig o ∧ ((o = [] ∧ 2 ^ k ≤ nn) ∨ dig0 o 0 ≠ 0)) (dj : Nat) (hdj : dig0 ds jj = dj) :
  pre ds (jj + 1) = 10 * 2 ^ k * decV (o ++ [d]) + (nn % 2 ^ k * 10 + dj) ∧ Dig (o ++ [d]) ∧ ((o ++ [d] = [] ∧ 2 ^ k ≤ nn % 2 ^ k * 10 + dj) ∨ dig0 (o ++ [d]) 0 ≠ 0) := by
 refine ⟨?_, ?_, Or.inr ?_⟩
 ·rw [pre, H.1, hdj, decV_snoc, hd]
  have e := Nat.div_add_mod' nn (2 ^ k)
  have e2 : 10 * 2 ^ k * (10 * decV o + nn / 2 ^ k) = 10 * (10 * 2 ^ k * decV o) + 10 * (nn / 2 ^ k * 2 ^ k) := by
   rw [Nat.mul_add]; congr 1
   ·simp only [Nat.mul_assoc, Nat.mul_comm, Nat.mul_left_comm]
   ·simp only [Nat.mul_assoc, Nat.mul_comm, Nat.mul_left_comm]
  rw [e2]; omega
 ·intro x hx
  rcases List.mem_append.1 hx with h | h
  ·exact H.2.1 x h
  ·rw [List.mem_singleton.1 h, hd]; exact h9
 ·rcases H.2.2 with ⟨rfl, h⟩ | h
  ·show d.toNat ≠ 0
   rw [hd]
   have := Nat.div_pos h (Nat.pow_pos (by omega : 0 < 2))
   omega
  ·unfold dig0 at *
   cases o with
   | nil => simp at h
   | cons c r => simpa using h
def HalfPost (base a : Nat) (k : Nat) (ds : Bs) (dp : Int) (w : World) (e : Ending) (w' : World) : Prop :=
 e = .returned (.tuple #[]) ∧ Fr a w w' ∧ w.heap.size ≤ w'.heap.size ∧ ∃ v' ds' dp', DecAt base a v' ds' dp' w' ∧ Halved k ds dp ds' dp'
set_option maxRecDepth 100000 in
set_option maxHeartbeats 4000000 in
theorem half_any (base a : Nat) (v : Value) (ds : Bs) (dp : Int) (w : World) (hd : DecAt base a v ds dp w) (hl : ds.length ≤ 100000) (hdp : dp ≤ 100000) (hdp2 : -100000 ≤ dp) (k : Nat) (hk : k ≤ 59) (hk1 : 1 ≤ k)
    (hcan : Canon ds) :
    Calls Tryz.prog 103 #[.pointer (some ⟨a, 0, none⟩), .int .i64 k] w (HalfPost base a k ds dp w) := by
  have hD := hcan.dig
  have h0 := hcan.head
  have hlen := hcan.pos
  clear hcan
  have c0 := hd.c0
  have c1 := hd.c1
  have f0 := hd.f0
  have f1 := hd.f1
  obtain ⟨⟨p, cap, rfl⟩, hsh⟩ := own_shape hd.own
  obtain ⟨g, cap', e, hg1, hg2, hg3, hg4⟩ := hsh (by intro e; subst e; simp at hlen)
  simp only [Value.slice.injEq, true_and] at e
  obtain ⟨rfl, rfl⟩ := e
  go_enter Tryz.func103, Tryz.ntmps103
  go_wp2
  go_loop [4, 5] (fun n i => ∃ j : Nat, i = .int .i64 j ∧ n = .int .u64 (pre ds j) ∧ j ≤ 21 ∧ pre ds j < 10 * 2 ^ k ∧ (j = 0 ∨ 10 ^ (j - 1) ≤ pre ds j)) (fun _ i => 25 - (intOf i).toNat)
  case atStart => exact ⟨0, rfl, rfl, by omega, Nat.mul_pos (by omega) (Nat.pow_pos (by omega)), Or.inl rfl⟩
  case round =>
    obtain ⟨j, rfl, rfl, hj21, hb, hj⟩ := hrel
    have hq := dig0_lt hD j
    have hpk : 2 ^ k ≤ 2 ^ 59 := Nat.pow_le_pow_right (by omega) hk
    by_cases hlt : pre ds j < 2 ^ k
    · have hz : ((pre ds j : Nat) : Int) / 2 ^ k = 0 := by
        have : ((2 : Int) ^ k) = ((2 ^ k : Nat) : Int) := by simp
        rw [this, ← Int.natCast_ediv, Nat.div_eq_of_lt hlt]; rfl
      have hj25 : j ≤ 20 := by
        rcases hj with h | h
        · omega
        · rcases Nat.lt_or_ge j 21 with h2 | h2
          · omega
          · have := Nat.pow_le_pow_right (show 0 < 10 by omega) (show 20 ≤ j - 1 by omega)
            omega
      have hpre : pre ds (j + 1) = 10 * pre ds j + dig0 ds j := rfl
      have nb : pre ds (j + 1) < 10 * 2 ^ k := by omega
      have nj : 10 ^ (j + 1 - 1) ≤ pre ds (j + 1) := by
        rcases hj with rfl | hj
        · rw [hpre]; simp; omega
        · rcases Nat.eq_zero_or_pos j with rfl | h
          · rw [hpre]; simp; omega
          · rw [hpre, show j + 1 - 1 = (j - 1) + 1 by omega, Nat.pow_succ]; omega
      by_cases hjl : j < ds.length
      · have hc := own_cell hd.own j hjl
        rw [← dig0_at hjl] at hc
        generalize hP1 : pre ds (j + 1) = P1 at *
        generalize pre ds j = P at *
        generalize dig0 ds j = d at *
        have i1 : (j : Int) < (ds.length : Int) := by omega
        go_wp2
        go_round
        case rel => exact ⟨j + 1, by go_num, by rw [hP1]; go_num, by omega, by omega, Or.inr (by rw [hP1]; exact nj)⟩
        case measure => simp [intOf]; omega
      · have hd0 : dig0 ds j = 0 := dig0_out (by omega)
        have hP : pre ds j ≠ 0 := by
          rcases hj with rfl | hj
          · omega
          · have : 0 < 10 ^ (j - 1) := Nat.pow_pos (by omega)
            omega
        generalize hP1 : pre ds (j + 1) = P1 at *
        generalize pre ds j = P at *
        generalize dig0 ds j = d at *
        have i1 : (ds.length : Int) ≤ (j : Int) := by omega
        have i2 : ((P : Int) == 0) = false := by rw [beq_eq_false_iff_ne]; omega
        go_wp2
        go_round
        case rel => exact ⟨j + 1, by go_num, by rw [hP1]; go_num, by omega, by omega, Or.inr (by rw [hP1]; exact nj)⟩
        case measure => simp [intOf]; omega
    · have hz : (((pre ds j : Nat) : Int) / 2 ^ k == 0) = false := by
        rw [beq_eq_false_iff_ne]
        have : ((2 : Int) ^ k) = ((2 ^ k : Nat) : Int) := by simp
        rw [this, ← Int.natCast_ediv]
        have := Nat.div_pos (show 2 ^ k ≤ pre ds j by omega) (Nat.pow_pos (by omega))
        omega
      have hj1 : j ≠ 0 := by rintro rfl; exact hlt (Nat.pow_pos (by omega))
      have hP2 : 2 ^ k ≤ pre ds j := by omega
      have hjk0 : j ≤ ds.length + k := by
        rcases Nat.lt_or_ge (ds.length + k) j with h | h
        · exfalso
          have h1 := Nat.le_of_dvd (by have : 0 < 2 ^ k := Nat.pow_pos (by omega)
                                       omega) (pre_dvd ds k j h)
          omega
        · exact h
      have hPH := Lib.hid (show pre ds j = pre ds j from rfl)
      go_upto_region 10 with fail
      have hd1 := hd.setDp (dp - ((j : Int) - 1))
      have hB1 : Fr a w (w.setCell ⟨a, 1, none⟩ (.int .i64 (dp - ((j : Int) - 1)))) := fr_set (Fr.refl _ _)
      have hS1 : w.heap.size = (w.setCell ⟨a, 1, none⟩ (.int .i64 (dp - ((j : Int) - 1)))).heap.size := by simp
      generalize w.setCell ⟨a, 1, none⟩ (.int .i64 (dp - ((j : Int) - 1))) = W1 at *
      clear c0 c1 f0 f1
      have c0 := hd1.c0
      have f0 := hd1.f0
      have hcs : ∀ i (hi : i < ds.length), W1.cell? ⟨g, i, none⟩ = some (.int .u8 (dig0 ds i : Int)) := fun i hi => own_cell' hd1.own i hi
      go_upto_region 11 with fail
      go_loopw [4, 5, 6] (fun n i v wr => ∃ (jj nn : Nat) (o : Bs), i = .int .i64 jj ∧ n = .int .u64 nn ∧ j ≤ jj ∧ o.length = jj - j ∧ jj ≤ ds.length + k + 1 ∧ nn < 10 * 2 ^ k ∧ Hid (OwnB W1.heap.size wr v o) ∧ Hid (Below W1.heap.size W1 wr) ∧ Hid (pre ds jj = 10 * 2 ^ k * decV o + nn ∧ Dig o ∧ ((o = [] ∧ 2 ^ k ≤ nn) ∨ dig0 o 0 ≠ 0))) (fun _ i _ _ => ds.length + 200 - (intOf i).toNat)
      case atStart =>
        exact ⟨j, pre ds j, [], rfl, rfl, Nat.le_refl _, by simp, by omega, hb, Lib.hid (OwnB.nil _ _), Lib.hid (Below.refl _ _), Lib.hid ⟨by simp [decV, pre], by simp [Dig], Or.inl ⟨rfl, hP2⟩⟩⟩
      case round =>
        obtain ⟨jj, nn, o, rfl, rfl, hjj, hol, hjb, hnn, HO, HB, H⟩ := hrel
        have c0' := ((bcell HB.out).1 a 0 hd1.lt).trans c0
        have h9 : nn / 2 ^ k < 10 := Nat.div_lt_of_lt_mul (by rw [Nat.mul_comm]; exact hnn)
        have hx9 : ((nn : Int) / 2 ^ k) = ((nn / 2 ^ k : Nat) : Int) := by simp
        have hx1 : ((nn : Int) / 2 ^ k) ≤ 9 := by omega
        have hx2 : 0 ≤ ((nn : Int) / 2 ^ k) := by rw [hx9]; exact Int.natCast_nonneg _
        obtain ⟨d, hdd⟩ : ∃ d : UInt8, d.toNat = nn / 2 ^ k := ⟨UInt8.ofNat (nn / 2 ^ k), by rw [UInt8.toNat_ofNat']; exact Nat.mod_eq_of_lt (Nat.lt_trans h9 (by decide))⟩
        have HX : Hid (((nn : Int) / 2 ^ k) = (d.toNat : Int)) := Lib.hid (by rw [hx9, hdd])
        have HD := Lib.hid hdd
        have H9 := Lib.hid h9
        clear hx9 hdd h9
        by_cases hlt : jj < ds.length
        · have hc := (((bcell HB.out).1 g jj (by omega)).trans (hcs jj hlt))
          have hq := dig0_lt hD jj
          generalize hdj : dig0 ds jj = dj at *
          have i1 : (jj : Int) < (ds.length : Int) := by omega
          go_wp2_with (at_builtin; refine append_num (w0 := W1) W1.heap.size rfl (.tmp 68) (.tmp 73) rfl _ o _ _ HX.out rfl rfl HO.out HB.out HB.out.size (by omega) ?_)
          intro v1 w1 hown hb1 hgr
          clear hc c0'
          have c0' := ((bcell hb1).1 a 0 hd1.lt).trans c0
          have hc := (((bcell hb1).1 g jj (by omega)).trans (hcs jj hlt))
          rw [hdj] at hc
          have HO1 := Lib.hid hown
          have HB1 := Lib.hid hb1
          clear hown hb1 hgr
          go_wp2
          go_roundw
          case rel => exact ⟨jj + 1, _, o ++ [d], by go_num, by rw [mask_step _ _ _ hk (by omega) hq], by omega, by simp; omega, by omega, by have := Nat.mod_lt nn (show 0 < 2 ^ k from Nat.pow_pos (by omega)); omega, HO1, HB1, Lib.hid (half_step H9.out HD.out H.out _ hdj)⟩
          case measure => simp [intOf]; omega
        · have hdj : dig0 ds jj = 0 := dig0_out (by omega)
          have i1 : (ds.length : Int) ≤ (jj : Int) := by omega
          by_cases hn0 : nn = 0
          · subst hn0
            clear HX HD H9 hx1 hx2 hnn
            obtain ⟨⟨po, co, hpo⟩, _⟩ := own_shape HO.out
            subst hpo
            replace hol := Lib.hid hol
            have hd2 : DecAt base a _ ds _ wr := hd1.below HB.out
            have f0' := hd2.f0
            have hob : OwnB base wr (.slice po o.length co) o := own_mono HO.out (by have := hd1.lt; have := hd1.ha; omega)
            have hne : (Value.slice po o.length co).ownBlock ≠ some a := fun e => by have := own_base HO.out a e; have := hd1.lt; omega
            have hd3 := hd2.setD hob hne
            have hbb : Fr a w (wr.setCell ⟨a, 0, none⟩ (.slice po o.length co)) := fr_set (fr_then hB1 HB.out (by omega))
            have hsz : w.heap.size ≤ (wr.setCell ⟨a, 0, none⟩ (.slice po o.length co)).heap.size := by have := HB.out.size; simp; omega
            go_wp2_with fail
            refine (trim_any base a _ o _ _ hd3).mono ?_
            rintro e w' ⟨rfl, hb4, hs4, v', hd4⟩
            have hH := halved_of (dp := dp) (by omega) hjj hjb hol.out H.out
            rw [if_neg (by intro e; have := hH.canon.pos; rw [e] at this; simp at this)] at hd4
            clear H
            go_wp2
            go_end0
            exact ⟨rfl, hbb.trans hb4, by omega, _, _, _, hd4, hH⟩
          · have i2 : (0 : Int) < (nn : Int) := by omega
            have hjk : jj ≤ ds.length + k := by
              rcases Nat.lt_or_ge (ds.length + k) jj with h | h
              · exfalso
                have h1 := pre_dvd ds k jj h
                rw [H.out.1] at h1
                have h2 := (Nat.dvd_add_right (Nat.dvd_mul_right (10 * 2 ^ k) (decV o))).1 h1
                have := Nat.le_of_dvd (by omega) h2
                omega
              · exact h
            go_wp2_with (at_builtin; refine append_num (w0 := W1) W1.heap.size rfl (.tmp 68) (.tmp 73) rfl _ o _ _ HX.out rfl rfl HO.out HB.out HB.out.size (by omega) ?_)
            intro v1 w1 hown hb1 hgr
            clear c0'
            have c0' := ((bcell hb1).1 a 0 hd1.lt).trans c0
            have HO1 := Lib.hid hown
            have HB1 := Lib.hid hb1
            clear hown hb1 hgr
            go_wp2
            go_roundw
            case rel => exact ⟨jj + 1, _, o ++ [d], by go_num, by rw [mask_step0 _ _ hk (by omega)]; rfl, by omega, by simp; omega, by omega, by have := Nat.mod_lt nn (show 0 < 2 ^ k from Nat.pow_pos (by omega)); omega, HO1, HB1, Lib.hid (half_step H9.out HD.out H.out _ hdj)⟩
            case measure => simp [intOf]; omega
end Go.Proofs.YtillamhoakohdaaGreatDoor
namespace Go.Proofs.YtillamhoakohdaaGreatDoor
open Go.RowKit
attribute [local go_sem] setCell_drewN

set_option maxRecDepth 100000 in
set_option maxHeartbeats 2000000 in
theorem roundUp_any (a : Nat) (g : Nat → Nat) (nd : Nat) (dp : Int) (neg tr : Bool) (w : World) (hd : BD a g nd dp neg tr w) (hD : DigN g nd) (hl : nd ≤ 800) (n : Int) (hn : n ≤ 100000) (B : Bool) (hB : upB g nd n tr = B) :
  Calls Tryz.prog 166 #[.pointer (some ⟨a, 0, none⟩), .int .i64 n] w fun e w' => e = .returned (.bool B) ∧ w' = w := by
 have cn := hd.cn
 have ct := hd.ct
 by_cases h1 : n < 0
 ·obtain rfl : B = false := by rw [← hB]; unfold upB; rw [if_pos (Or.inl h1)]
  clear hB
  go_enter Tryz.func166, Tryz.ntmps166
  go_wp2
  go_ret
  exact ⟨rfl, rfl⟩
 by_cases h2 : (nd : Int) ≤ n
 ·obtain rfl : B = false := by rw [← hB]; unfold upB; rw [if_pos (Or.inr h2)]
  clear hB
  go_enter Tryz.func166, Tryz.ntmps166
  go_wp2
  go_ret
  exact ⟨rfl, rfl⟩
 obtain ⟨k, rfl⟩ : ∃ k : Nat, n = k := ⟨n.toNat, by omega⟩
 have hk : k < nd := by omega
 have hc := hd.cd k (by omega)
 have hlt := hD k hk
 have T0 : Hid (B = if g k = 53 ∧ k + 1 = nd then (tr || (decide ((0 : Int) < k) && decide ((g (k - 1) - 48) % 2 = 1))) else decide (53 ≤ g k)) := Lib.hid (by
  rw [← hB]; unfold upB; rw [if_neg (by omega), Int.toNat_natCast])
 clear hB
 generalize hdk : g k = d at *
 have hb : ∀ x y : Bool, x = y → Ending.returned (.bool x) = .returned (.bool y) := fun _ _ h => by rw [h]
 have i1 : (0 : Int) ≤ (k : Int) := by omega
 have i2 : (k : Int) < 800 := by omega
 by_cases h5 : d = 53
 ·subst h5
  by_cases h6 : k + 1 = nd
  ·cases tr
   ·by_cases hk0 : k = 0
    ·subst hk0
     obtain rfl : B = false := by rw [T0.out, if_pos ⟨rfl, h6⟩]; rfl
     have h7 : nd = 1 := by omega
     subst h7
     clear T0 h6
     go_enter Tryz.func166, Tryz.ntmps166
     go_wp2
     go_ret
     exact ⟨rfl, rfl⟩
    ·have hc2 := hd.cd (k - 1) (by omega)
     have hlt2 := hD (k - 1) (by omega)
     have T : Hid (B = decide ((g (k - 1) - 48) % 2 = 1)) := Lib.hid (by rw [T0.out, if_pos ⟨rfl, h6⟩]; simp; omega)
     clear T0
     generalize g (k - 1) = d2 at *
     have i3 : (0 : Int) < (k : Int) := by omega
     have i4 : (0 : Int) ≤ (k : Int) - 1 := by omega
     have i5 : (k : Int) - 1 < 800 := by omega
     have i6 : ((k : Int) - 1).toNat = k - 1 := by omega
     have i7 : (k : Int) + 1 = nd := by omega
     clear h6
     go_enter Tryz.func166, Tryz.ntmps166
     go_wp2
     go_ret
     exact ⟨by rw [T.out]; apply hb; rw [Bool.eq_iff_iff]; simp; try omega, rfl⟩
   ·obtain rfl : B = true := by rw [T0.out, if_pos ⟨rfl, h6⟩]; rfl
    have i7 : (k : Int) + 1 = nd := by omega
    clear T0 h6
    go_enter Tryz.func166, Tryz.ntmps166
    go_wp2
    go_ret
    exact ⟨rfl, rfl⟩
  ·obtain rfl : B = true := by rw [T0.out, if_neg (by omega)]; rfl
   have i7 : ((k : Int) + 1 == nd) = false := by rw [beq_eq_false_iff_ne]; omega
   clear T0 h6
   go_enter Tryz.func166, Tryz.ntmps166
   go_wp2
   go_ret
   exact ⟨rfl, rfl⟩
 ·have k1 : ((d : Int) == 53) = false := by rw [beq_eq_false_iff_ne]; omega
  have T : Hid (B = decide (53 ≤ d)) := Lib.hid (by rw [T0.out, if_neg (by omega)])
  clear T0
  go_enter Tryz.func166, Tryz.ntmps166
  go_wp2
  go_ret
  exact ⟨by rw [T.out]; apply hb; rw [Bool.eq_iff_iff]; simp; try omega, rfl⟩
theorem pz_bd {g : Nat → Nat} {nd : Nat} (h : DigN g nd) (i : Nat) (hi : i ≤ 17) : pz g nd i < 100000000000000000 := Nat.lt_of_lt_of_le (pz_lt h i) (Nat.le_trans (Nat.pow_le_pow_right (by omega) hi) (by decide))
set_option maxHeartbeats 2000000 in
theorem rounded_any (a : Nat) (g : Nat → Nat) (nd : Nat) (dp : Int) (neg tr : Bool) (w : World) (hd : BD a g nd dp neg tr w) (hD : DigN g nd) (hl : nd ≤ 800) (hdp : dp ≤ 17) (R : Nat) (hR : upM g nd dp tr = R) :
  Calls Tryz.prog 160 #[.pointer (some ⟨a, 0, none⟩)] w fun e w' => e = .returned (.int .u64 (R : Int)) ∧ w' = w := by
 have cn := hd.cn
 have cp := hd.cp
 have HR := Lib.hid hR
 clear hR
 go_enter Tryz.func160, Tryz.ntmps160
 go_upto_block 0 with fail
 go_cut [3, 4] from 10 to 36 (fun x y wc => ∃ k : Nat, x = .int .i64 k ∧ y = .int .u64 (pz g nd k) ∧ (k : Int) ≤ max dp 0 ∧ (nd ≤ k ∨ dp ≤ k) ∧ w = wc)
 case first =>
  go_upto_region 6 with fail
  go_loop [3, 4] (fun x y => ∃ k : Nat, x = .int .i64 k ∧ y = .int .u64 (pz g nd k) ∧ (k : Int) ≤ max dp 0 ∧ k ≤ nd) (fun x _ => 17 - (intOf x).toNat)
  case atStart => exact ⟨0, rfl, rfl, by omega, by omega⟩
  case round =>
   obtain ⟨k, rfl, rfl, hk, hkn⟩ := hrel
   have hp := pz_bd hD k (by omega)
   by_cases hlt : (k : Int) < dp
   ·by_cases hn : k < nd
    ·have hn' : (k : Int) < nd := by omega
     have i2 : (k : Int) < 800 := by omega
     have hc := hd.cd k (by omega)
     have hq := hD k hn
     have e : pz g nd (k + 1) = 10 * pz g nd k + (g k - 48) := by rw [pz, dg, if_pos hn]
     generalize hP1 : pz g nd (k + 1) = P1 at *
     generalize pz g nd k = P at *
     generalize g k = c at *
     have e2 : (P : Int) * 10 + ((c : Int) - 48) = P1 := by omega
     clear hn
     go_wp2
     go_round
     case rel => exact ⟨k + 1, by go_num, by rw [hP1, ← e2]; go_num, by omega, by omega⟩
     case measure => simp [intOf]; omega
    ·have i9 : (nd : Int) ≤ k := by omega
     generalize hP : pz g nd k = P at *
     go_wp2
     go_meet
     case rel => exact ⟨k, rfl, by rw [hP], hk, Or.inl (by omega), rfl⟩
   ·generalize hP : pz g nd k = P at *
    go_wp2
    go_meet
    case rel => exact ⟨k, rfl, by rw [hP], hk, Or.inr (by omega), rfl⟩
 case rest =>
 obtain ⟨k, rfl, rfl, hk, hkd, rfl⟩ := hcut
 go_upto_block 2 with fail
 go_cut [3, 4] from 37 to 46 (fun x y wc => ∃ k : Nat, x = .int .i64 k ∧ y = .int .u64 (pz g nd k) ∧ (k : Int) = max dp 0 ∧ w = wc)
 case first =>
  go_upto_region 9 with fail
  go_loop [3, 4] (fun x y => ∃ k : Nat, x = .int .i64 k ∧ y = .int .u64 (pz g nd k) ∧ (k : Int) ≤ max dp 0 ∧ (nd ≤ k ∨ dp ≤ k)) (fun x _ => 17 - (intOf x).toNat)
  case atStart => exact ⟨k, rfl, rfl, hk, hkd⟩
  case round =>
   clear hk hkd
   obtain ⟨k, rfl, rfl, hk, hkn⟩ := hrel
   have hp := pz_bd hD k (by omega)
   by_cases hlt : (k : Int) < dp
   ·have hn : nd ≤ k := by omega
    have e : pz g nd (k + 1) = 10 * pz g nd k := by rw [pz, dg, if_neg (by omega), Nat.add_zero]
    generalize hP1 : pz g nd (k + 1) = P1 at *
    generalize pz g nd k = P at *
    have e2 : (P : Int) * 10 = P1 := by omega
    go_wp2
    go_round
    case rel => exact ⟨k + 1, by go_num, by rw [hP1, ← e2]; go_num, by omega, by omega⟩
    case measure => simp [intOf]; omega
   ·generalize hP : pz g nd k = P at *
    go_wp2
    go_meet
    case rel => exact ⟨k, rfl, by rw [hP], by omega, rfl⟩
 case rest =>
 clear hk hkd
 obtain ⟨k, rfl, rfl, hk, rfl⟩ := hcut
 have hp := pz_bd hD k (by omega)
 have hkd : dp.toNat = k := by omega
 unfold upM at HR
 rw [hkd] at HR
 generalize pz g nd k = N at *
 cases hb : upB g nd dp tr
 ·obtain rfl : N = R := by have := HR.out; rw [hb] at this; simpa using this
  clear HR
  go_wp2_with fail
  refine (roundUp_any a g nd dp neg tr _ hd hD hl dp (by omega) _ hb).mono ?_
  rintro e w' ⟨rfl, rfl⟩
  go_wp2
  go_ret
  exact ⟨rfl, rfl⟩
 ·obtain rfl : N + 1 = R := by have := HR.out; rw [hb] at this; simpa using this
  clear HR
  go_wp2_with fail
  refine (roundUp_any a g nd dp neg tr _ hd hD hl dp (by omega) _ hb).mono ?_
  rintro e w' ⟨rfl, rfl⟩
  go_wp2
  go_ret
  exact ⟨rfl, rfl⟩
end Go.Proofs.YtillamhoakohdaaGreatDoor

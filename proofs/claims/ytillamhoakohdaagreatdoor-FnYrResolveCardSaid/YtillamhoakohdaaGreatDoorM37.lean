/-
  Walks: the library's small functions under its ParseFloat. Walks: the library's packing of a float. Walks: the library's fast road to a float.
-/
import Derived.Laws.BitsAllLaws
import Derived.Laws.MathBits
import Derived.Lib.Mul64
import Derived.Shelf.Lay
import Derived.Shelf.Small.Bits
import Derived.Test.YtillamhoakohdaaGreatDoorM04
import Derived.Test.YtillamhoakohdaaGreatDoorM16
set_option linter.unusedVariables false
set_option linter.unusedSimpArgs false
namespace Go.Proofs.YtillamhoakohdaaGreatDoor
open Go.RowKit Go.Shelf

theorem wrapU (n : Nat) (h : n < 18446744073709551616) : IntKind.u64.wrap (n : Int) = (n : Int) := by
 have : IntKind.u64.wrap (n : Int) = (n : Int) % 18446744073709551616 := by simp [IntKind.wrap, IntKind.bits, IntKind.signed]
 rw [this]; omega
theorem wrapM' (n : Nat) : IntKind.u64.wrap (n : Int) = ((n % 18446744073709551616 : Nat) : Int) := by
 have : IntKind.u64.wrap (n : Int) = (n : Int) % 18446744073709551616 := by simp [IntKind.wrap, IntKind.bits, IntKind.signed]
 rw [this]; omega
theorem bool2u_any (b : Bool) (w : World) : Calls Tryz.prog 142 #[.bool b] w fun e w' => e = .returned (.int .u64 (if b = true then 1 else 0)) ∧ w' = w := by
 cases b
 ·go_enter Tryz.func142, Tryz.ntmps142
  go_wp2
  go_ret
  exact ⟨rfl, rfl⟩
 ·go_enter Tryz.func142, Tryz.ntmps142
  go_wp2
  go_ret
  exact ⟨rfl, rfl⟩
theorem bool2i_any (b : Bool) (w : World) : Calls Tryz.prog 155 #[.bool b] w fun e w' => e = .returned (.int .i64 (if b = true then 1 else 0)) ∧ w' = w := by
 cases b
 ·go_enter Tryz.func155, Tryz.ntmps155
  go_wp2
  go_ret
  exact ⟨rfl, rfl⟩
 ·go_enter Tryz.func155, Tryz.ntmps155
  go_wp2
  go_ret
  exact ⟨rfl, rfl⟩
@[go_sem] theorem call143 (n : Int) (w : World) : (callFunc 143 #[.int .u64 n]).run Tryz.prog w = .ok (.value (.float .f64 n.toNat)) w := by
 rw [run_callFunc_extern Tryz.func143 (by kernel_rfl) (by kernel_rfl) (by kernel_rfl) (e := Extern.MathFloatBits.float64frombits) (by kernel_rfl)]; rfl
theorem log2Pow10_any (p : Int) (h1 : -100000 ≤ p) (h2 : p ≤ 100000) (w : World) : Calls Tryz.prog 152 #[.int .i64 p] w fun e w' => e = .returned (.int .i64 (lpI p)) ∧ w' = w := by
 go_enter Tryz.func152, Tryz.ntmps152
 go_wp2
 go_ret
 exact ⟨rfl, rfl⟩
theorem and32 (z : Nat) (h : z < 18446744073709551616) : bits .and .u64 (z : Int) 4294967295 = ((z % 4294967296 : Nat) : Int) := by
 rw [and_low32 _ (by omega) (by omega)]; omega
theorem mul_form (x y : Nat) (hx : x < 18446744073709551616) (hy : y < 18446744073709551616) :
  IntKind.u64.wrap (IntKind.u64.wrap (IntKind.u64.wrap ((x : Int) / 4294967296 * ((y : Int) / 4294967296)) +
   IntKind.u64.wrap (IntKind.u64.wrap ((x : Int) / 4294967296 * bits BinOp.and IntKind.u64 (y : Int) 4294967295) + IntKind.u64.wrap (bits BinOp.and IntKind.u64 (x : Int) 4294967295 * bits BinOp.and IntKind.u64 (y : Int) 4294967295) / 4294967296) / 4294967296) +
   IntKind.u64.wrap (bits BinOp.and IntKind.u64 (IntKind.u64.wrap (IntKind.u64.wrap ((x : Int) / 4294967296 * bits BinOp.and IntKind.u64 (y : Int) 4294967295) + IntKind.u64.wrap (bits BinOp.and IntKind.u64 (x : Int) 4294967295 * bits BinOp.and IntKind.u64 (y : Int) 4294967295) / 4294967296)) 4294967295 +
    IntKind.u64.wrap (bits BinOp.and IntKind.u64 (x : Int) 4294967295 * ((y : Int) / 4294967296))) / 4294967296) = ((x * y / 18446744073709551616 : Nat) : Int) := by
 obtain ⟨m1, m2, m3, m4⟩ := Lib.mul64_hi x y hx hy
 rw [and32 x hx, and32 y hy]
 have d1 : (x : Int) / 4294967296 = ((x / 4294967296 : Nat) : Int) := by omega
 have d2 : (y : Int) / 4294967296 = ((y / 4294967296 : Nat) : Int) := by omega
 rw [d1, d2]
 have hx1 : x / 4294967296 ≤ 4294967295 := by omega
 have hy1 : y / 4294967296 ≤ 4294967295 := by omega
 have hx0 : x % 4294967296 ≤ 4294967295 := by omega
 have hy0 : y % 4294967296 ≤ 4294967295 := by omega
 have pA := Lib.half_mul_le hx1 hy1
 have pB := Lib.half_mul_le hx1 hy0
 have pC := Lib.half_mul_le hx0 hy1
 have pD := Lib.half_mul_le hx0 hy0
 have hq : x * y / 18446744073709551616 < 18446744073709551616 := by
  rw [Nat.div_lt_iff_lt_mul (by decide)]
  exact Nat.mul_lt_mul'' hx hy
 rw [← Int.natCast_mul, ← Int.natCast_mul, ← Int.natCast_mul, ← Int.natCast_mul]
 rw [← m4]
 rw [← m4] at hq
 generalize x / 4294967296 * (y / 4294967296) = a at *
 generalize x / 4294967296 * (y % 4294967296) = b at *
 generalize x % 4294967296 * (y / 4294967296) = c at *
 generalize x % 4294967296 * (y % 4294967296) = d at *
 rw [wrapU a (by omega), wrapU b (by omega), wrapU c (by omega), wrapU d (by omega)]
 have e1 : ((b : Int) + (d : Int) / 4294967296) = ((b + d / 4294967296 : Nat) : Int) := by omega
 rw [e1, wrapU _ m2, and32 _ m2]
 generalize b + d / 4294967296 = t at *
 have e2 : (((t % 4294967296 : Nat) : Int) + (c : Int)) = ((t % 4294967296 + c : Nat) : Int) := by omega
 rw [e2, wrapU _ m3]
 generalize t % 4294967296 + c = u at *
 have e3 : ((a : Int) + (t : Int) / 4294967296) = ((a + t / 4294967296 : Nat) : Int) := by omega
 rw [e3, wrapU _ (by omega)]
 have e4 : (((a + t / 4294967296 : Nat) : Int) + (u : Int) / 4294967296) = ((a + t / 4294967296 + u / 4294967296 : Nat) : Int) := by omega
 rw [e4, wrapU _ hq]
theorem ret_uu {a b c d : Int} (h : a = c) (h2 : b = d) : Ending.returned (.tuple #[.int .u64 a, .int .u64 b]) = .returned (.tuple #[.int .u64 c, .int .u64 d]) := by rw [h, h2]
theorem mul64_any (x y : Nat) (hx : x < 18446744073709551616) (hy : y < 18446744073709551616) (w : World) :
  Calls Tryz.prog 163 #[.int .u64 x, .int .u64 y] w fun e w' => e = .returned (.tuple #[.int .u64 (x * y / 18446744073709551616 : Nat), .int .u64 (x * y % 18446744073709551616 : Nat)]) ∧ w' = w := by
 have F := Lib.hid (mul_form x y hx hy)
 have F2 : Hid (IntKind.u64.wrap ((x : Int) * (y : Int)) = ((x * y % 18446744073709551616 : Nat) : Int)) := Lib.hid (by rw [← Int.natCast_mul, wrapM'])
 go_enter Tryz.func163, Tryz.ntmps163
 go_wp2
 go_ret2
 exact ⟨ret_uu F.out F2.out, rfl⟩
def lenRen : Ren := { f := fun n => if n = 129 then 86 else 0, t := fun n => if n = 3 then 3 else if n = 4 then 4 else if n = 5 then 5 else if n = 9 then 9 else if n = 46 then 105 else if n = 53 then 23 else 0, g := fun n => n }
theorem lenLaid : Lays.n129 Tryz.prog lenRen :=
  { mixed := rfl, f129 := Tryz.func86.trans (congrArg some rfl),
    t3 := Tryz.underlying3, a3 := Tryz.isAgg3, z3 := Tryz.sizeOf3, v3 := Tryz.zeroValue3, t4 := Tryz.underlying4, a4 := Tryz.isAgg4, z4 := Tryz.sizeOf4, v4 := Tryz.zeroValue4,
    t5 := Tryz.underlying5, a5 := Tryz.isAgg5, z5 := Tryz.sizeOf5, v5 := Tryz.zeroValue5, t9 := Tryz.underlying9, a9 := Tryz.isAgg9, z9 := Tryz.sizeOf9, v9 := Tryz.zeroValue9,
    t46 := Tryz.underlying105, a46 := Tryz.isAgg105, z46 := Tryz.sizeOf105, v46 := Tryz.zeroValue105, t53 := Tryz.underlying23, a53 := Tryz.isAgg23, z53 := Tryz.sizeOf23, v53 := Tryz.zeroValue23 }
theorem len_log : ∀ (f x : Nat), x < 2 ^ f → x ≠ 0 → Lib.bitLenAux f x = x.log2 + 1
 | 0, x, h, h0 => by simp at h; omega
 | f + 1, x, h, h0 => by
  rw [Lib.bitLenAux, if_neg h0]
  by_cases h1 : x / 2 = 0
  ·have : x = 1 := by omega
   subst this
   have : Lib.bitLenAux f (1 / 2) = 0 := by cases f <;> simp [Lib.bitLenAux]
   rw [this]; decide
  ·rw [len_log f (x / 2) (by rw [Nat.pow_succ] at h; omega) h1]
   have : x.log2 = (x / 2).log2 + 1 := by
    rw [Nat.log2_def x, if_pos (by omega)]
   omega
theorem len64_any (x : Nat) (hx : x < 18446744073709551616) (h0 : x ≠ 0) (w : World) :
  Calls Tryz.prog 86 #[.int .u64 x] w fun e w' => e = .returned (.int .i64 ((x.log2 + 1 : Nat) : Int)) ∧ w' = w := by
 have h := Any.bits_Len64 lenLaid (x : Int) w (by omega) (by omega)
 refine h.mono ?_
 rintro e w' ⟨rfl, rfl⟩
 refine ⟨?_, rfl⟩
 rw [Int.toNat_natCast]
 unfold Lib.bitLen
 rw [len_log 64 x hx h0]
theorem unmin_any (w : World) : Calls Tryz.prog 156 #[.int .u64 9007199254740992] w fun e w' => e = .returned (.int .u64 36028797018963966) ∧ w' = w := by
 go_enter Tryz.func156, Tryz.ntmps156
 go_wp2
 go_ret
 exact ⟨rfl, rfl⟩
theorem and1 (n : Nat) (h : n < 18446744073709551616) : bits .and .u64 (n : Int) 1 = ((n % 2 : Nat) : Int) := by
 have := u64_and_nat n 1 h (by decide)
 rw [show ((1 : Nat) : Int) = 1 from rfl] at this
 rw [this]
 congr 1
 exact Nat.and_one_is_mod n
theorem round_form (u : Nat) (hu : u < 9223372036854775808) : IntKind.u64.wrap ((u : Int) + 1 + bits BinOp.and IntKind.u64 ((u : Int) / 4) 1) / 4 = (rndN u : Int) := by
 have e : ((u : Int) / 4) = ((u / 4 : Nat) : Int) := by omega
 rw [e, and1 _ (by omega)]
 have e2 : ((u : Int) + 1 + ((u / 4 % 2 : Nat) : Int)) = ((u + 1 + u / 4 % 2 : Nat) : Int) := by omega
 rw [e2, wrapU _ (by omega)]
 unfold rndN
 omega
theorem round_any (u : Nat) (hu : u < 9223372036854775808) (w : World) : Calls Tryz.prog 158 #[.int .u64 u] w fun e w' => e = .returned (.int .u64 (rndN u)) ∧ w' = w := by
 have F := Lib.hid (round_form u hu)
 have hu' : (u : Int) < 9223372036854775808 := by omega
 clear hu
 go_enter Tryz.func158, Tryz.ntmps158
 go_wp2
 go_ret
 exact ⟨ret_int F.out, rfl⟩
def ScAt (g : Nat) (hi lo : Nat) (s : Int) (w : World) : Prop := w.heap[g]? = some (.cells #[.int .u64 hi, .int .u64 lo, .int .i64 s] 221 (0, 0))
theorem ScAt.cells {g hi lo : Nat} {s : Int} {w : World} (h : ScAt g hi lo s w) : w.cell? ⟨g, 0, none⟩ = some (.int .u64 hi) ∧ w.cell? ⟨g, 1, none⟩ = some (.int .u64 lo) ∧ w.cell? ⟨g, 2, none⟩ = some (.int .i64 s) :=
 ⟨(cell_of_row _ _ 0 _ _ _ h).trans rfl, (cell_of_row _ _ 1 _ _ _ h).trans rfl, (cell_of_row _ _ 2 _ _ _ h).trans rfl⟩
theorem prescale_any (g : Nat) (e p lp : Int) (w : World) (HG : Glob w) (h : ScAt g 0 0 0 w) (hg : 12 ≤ g) (p1 : -345 ≤ p) (p2 : p ≤ 310) (e1 : -100000 ≤ e) (e2 : e ≤ 100000) (l1 : -100000 ≤ lp) (l2 : lp ≤ 100000) :
  Calls Tryz.prog 153 #[.pointer (some ⟨g, 0, none⟩), .int .i64 e, .int .i64 p, .int .i64 lp] w fun x w' => x = .returned (.tuple #[]) ∧ ScAt g (powT[(p + 345).toNat]!).1 (powT[(p + 345).toNat]!).2.1 (-(e + lp + 3)) w' ∧ ∀ B, B ≤ g → Below B w w' := by
 obtain ⟨c0, c1, c2⟩ := h.cells
 have f0 := frozen_of_row _ _ 0 _ _ h
 have f1 := frozen_of_row _ _ 1 _ _ h
 have f2 := frozen_of_row _ _ 2 _ _ h
 obtain ⟨k, hk⟩ : ∃ k : Nat, (k : Int) = p + 345 := ⟨(p + 345).toNat, by omega⟩
 have ht := HG.pow k (by omega)
 have hkk : (p + 345).toNat = k := by omega
 rw [hkk]
 generalize (powT[k]!).1 = hi at *
 generalize (powT[k]!).2.1 = lo at *
 obtain ⟨t0, t1⟩ := ht
 rw [Nat.mul_comm 2] at t0 t1
 have i1 : (0 : Int) ≤ p - -348 := by omega
 have i2 : p - -348 < 696 := by omega
 have i3 : (p - -348).toNat = k + 3 := by omega
 have i4 : (p + 348).toNat = k + 3 := by omega
 have hne : (9 : Nat) ≠ g := by omega
 have hfin : Hid (ScAt g hi lo (-(e + lp + 3)) (((w.setCell ⟨g, 0, none⟩ (.int .u64 hi)).setCell ⟨g, 1, none⟩ (.int .u64 lo)).setCell ⟨g, 2, none⟩ (.int .i64 (-(e + lp + 3))))) := Lib.hid (by
  have q := heap_setCell_same _ _ 2 _ _ (.int .i64 (-(e + lp + 3))) (heap_setCell_same _ _ 1 _ _ (.int .u64 lo) (heap_setCell_same w g 0 _ _ (.int .u64 hi) h))
  exact q)
 have hbel : ∀ B, B ≤ g → Below B w (((w.setCell ⟨g, 0, none⟩ (.int .u64 hi)).setCell ⟨g, 1, none⟩ (.int .u64 lo)).setCell ⟨g, 2, none⟩ (.int .i64 (-(e + lp + 3)))) := fun B hB => (((Below.refl _ _).setCell hB _).setCell hB _).setCell hB _
 have HBEL := Lib.hid hbel
 clear hbel
 go_enter Tryz.func153, Tryz.ntmps153
 go_wp2
 go_end0
 exact ⟨rfl, by simpa using hfin.out, by simpa using HBEL.out⟩

theorem or1 (a : Nat) (h : a < 18446744073709551616) : bits .or .u64 (a : Int) 1 = ((a / 2 * 2 + 1 : Nat) : Int) := by
 have := u64_or_nat a 1 h (by decide)
 rw [show ((1 : Nat) : Int) = 1 from rfl] at this
 rw [this]
 congr 1
 have h1 : (a ||| 1) / 2 = a / 2 := by rw [Nat.or_div_two]; simp
 have h2 : (a ||| 1) % 2 = 1 := Nat.or_mod_two_eq_one.2 (Or.inr rfl)
 omega
theorem and63 : ∀ s : Fin 64, bits BinOp.and IntKind.i64 ((s.val : Nat) : Int) 63 = ((s.val : Nat) : Int) := by decide
theorem or0 (a : Nat) (h : a < 18446744073709551616) : bits .or .u64 (a : Int) 0 = (a : Int) := by
 have := u64_or_nat a 0 h (by decide)
 rw [show ((0 : Nat) : Int) = 0 from rfl] at this
 rw [this]; simp
theorem shr_nat (a k : Nat) : ((a : Int) / 2 ^ k) = ((a / 2 ^ k : Nat) : Int) := by simp
set_option maxRecDepth 100000 in
theorem uscale_any (x g hi lo s : Nat) (w : World) (h : ScAt g hi lo s w) (hx : x < 18446744073709551616) (hh : hi < 18446744073709551616) (hl : lo < 18446744073709551616) (hH0 : 0 < x * hi / 18446744073709551616) (hs : s < 64) :
  Calls Tryz.prog 154 #[.int .u64 x, .pointer (some ⟨g, 0, none⟩)] w fun e w' => e = .returned (.int .u64 (uscaleN x hi lo s)) ∧ Drew w w' := by
 obtain ⟨c0, c1, c2⟩ := h.cells
 have hand : bits BinOp.and IntKind.i64 (s : Int) 63 = (s : Int) := and63 ⟨s, hs⟩
 go_enter Tryz.func154, Tryz.ntmps154
 go_wp2_with fail
 refine (mul64_any x hi hx hh _).mono ?_
 rintro e w' ⟨rfl, rfl⟩
 have hH : x * hi / 18446744073709551616 < 18446744073709551616 := by
  rw [Nat.div_lt_iff_lt_mul (by decide)]; exact Nat.mul_lt_mul'' hx hh
 have hM : x * hi % 18446744073709551616 < 18446744073709551616 := Nat.mod_lt _ (by decide)
 have hN : x * lo / 18446744073709551616 < 18446744073709551616 := by
  rw [Nat.div_lt_iff_lt_mul (by decide)]; exact Nat.mul_lt_mul'' hx hl
 have HU : Hid (uscaleN x hi lo s = if x * hi / 18446744073709551616 % 2 ^ s ≠ 0 then x * hi / 18446744073709551616 / 2 ^ s / 2 * 2 + 1
 else if x * hi % 18446744073709551616 < x * lo / 18446744073709551616 then (x * hi / 18446744073709551616 - 1) / 2 ^ s / 2 * 2 + 1
 else if x * lo / 18446744073709551616 + 1 < x * hi % 18446744073709551616 then x * hi / 18446744073709551616 / 2 ^ s / 2 * 2 + 1
 else x * hi / 18446744073709551616 / 2 ^ s) := Lib.hid rfl
 generalize hHH : x * hi / 18446744073709551616 = H at *
 generalize hMM : x * hi % 18446744073709551616 = M at *
 generalize hNN : x * lo / 18446744073709551616 = N at *
 have hN2 : N ≤ 18446744073709551614 := by
  rw [← hNN]
  have : x * lo ≤ 18446744073709551615 * 18446744073709551615 := Nat.mul_le_mul (by omega) (by omega)
  exact Nat.le_trans (Nat.div_le_div_right this) (by decide)
 have hp : 0 < 2 ^ s := Nat.pow_pos (by omega)
 have hdm := Nat.div_add_mod' H (2 ^ s)
 have hq : H / 2 ^ s ≤ H := Nat.div_le_self _ _
 have F3 : Hid (IntKind.u64.wrap ((H : Int) / 2 ^ s * 2 ^ s) = ((H / 2 ^ s * 2 ^ s : Nat) : Int)) := Lib.hid (by
  rw [shr_nat, show ((2 : Int) ^ s) = ((2 ^ s : Nat) : Int) by simp, ← Int.natCast_mul, wrapU _ (by omega)])
 have HNN := Lib.hid hNN
 clear hHH hMM hNN
 by_cases hr : H % 2 ^ s ≠ 0
 ·have F4 : (IntKind.u64.wrap ((H : Int) / 2 ^ s * 2 ^ s) != (H : Int)) = true := by rw [F3.out, bne_iff_ne]; omega
  have F5 : Hid (bits .or .u64 ((H : Int) / 2 ^ s) 1 = (uscaleN x hi lo s : Int)) := Lib.hid (by
   rw [HU.out, if_pos hr, shr_nat, or1 _ (by omega)])
  clear HU hr hdm
  go_wp2
  go_ret
  exact ⟨ret_int F5.out, Drew.refl _⟩
 ·have F4 : (IntKind.u64.wrap ((H : Int) / 2 ^ s * 2 ^ s) != (H : Int)) = false := by
   have hr0 : H % 2 ^ s = 0 := Classical.byContradiction hr
   rw [F3.out, show H / 2 ^ s * 2 ^ s = H by omega]; simp
  have HU2 := Lib.hid (show uscaleN x hi lo s = _ by rw [HU.out, if_neg hr])
  clear HU hdm
  go_wp2_with fail
  refine (mul64_any x lo hx hl _).mono ?_
  rintro e w' ⟨rfl, rfl⟩
  rw [HNN.out]
  generalize x * lo % 18446744073709551616 = N0 at *
  by_cases hlt : M < N
  ·have j1 : (M : Int) < (N : Int) := by omega
   have w1 : IntKind.u64.wrap ((H : Int) - 1) = ((H - 1 : Nat) : Int) := by rw [show ((H : Int) - 1) = ((H - 1 : Nat) : Int) by omega, wrapU _ (by omega)]
   have w2 : IntKind.u64.wrap ((M : Int) - (N : Int)) = (M : Int) - N + 18446744073709551616 := by
    have : IntKind.u64.wrap ((M : Int) - (N : Int)) = ((M : Int) - (N : Int)) % 18446744073709551616 := by simp [IntKind.wrap, IntKind.bits, IntKind.signed]
    rw [this]; omega
   have j2 : (1 : Int) < (M : Int) - N + 18446744073709551616 := by omega
   have hq1 : (H - 1) / 2 ^ s ≤ H - 1 := Nat.div_le_self _ _
   have F5 : Hid (bits .or .u64 (((H - 1 : Nat) : Int) / 2 ^ s) 1 = (uscaleN x hi lo s : Int)) := Lib.hid (by
    rw [HU2.out, if_pos hlt, shr_nat, or1 _ (by omega)])
   obtain ⟨H1, hH1⟩ : ∃ H1, H1 = H - 1 := ⟨_, rfl⟩
   rw [← hH1] at w1 F5 hq1
   clear HU2 hr hH1 hlt
   go_wp2_with fail
   refine (bool2u_any _ _).mono ?_
   rintro e w' ⟨rfl, rfl⟩
   go_wp2
   go_quiet (first | (go_at_call 142; refine Calls.quiet_of_same (bool2u_any _ _)))
   go_wp2
   go_ret
   exact ⟨ret_int F5.out, ⟨_, rfl⟩⟩
  ·have j1 : (N : Int) ≤ (M : Int) := by omega
   have w1 : IntKind.u64.wrap ((H : Int) - 0) = (H : Int) := by rw [Int.sub_zero, wrapU _ hH]
   have w2 : IntKind.u64.wrap ((M : Int) - (N : Int)) = ((M - N : Nat) : Int) := by rw [show ((M : Int) - (N : Int)) = ((M - N : Nat) : Int) by omega, wrapU _ (by omega)]
   by_cases hgt : N + 1 < M
   ·have F5 : Hid (bits .or .u64 ((H : Int) / 2 ^ s) 1 = (uscaleN x hi lo s : Int)) := Lib.hid (by
     rw [HU2.out, if_neg hlt, if_pos hgt, shr_nat, or1 _ (by omega)])
    have j2 : (1 : Int) < ((M - N : Nat) : Int) := by omega
    generalize M - N = D at *
    clear HU2 hr hlt hgt
    go_wp2_with fail
    refine (bool2u_any _ _).mono ?_
    rintro e w' ⟨rfl, rfl⟩
    go_wp2
    go_quiet (first | (go_at_call 142; refine Calls.quiet_of_same (bool2u_any _ _)))
    go_wp2
    go_ret
    exact ⟨ret_int F5.out, ⟨_, rfl⟩⟩
   ·have F5 : Hid (bits .or .u64 ((H : Int) / 2 ^ s) 0 = (uscaleN x hi lo s : Int)) := Lib.hid (by
     rw [HU2.out, if_neg hlt, if_neg hgt, shr_nat, or0 _ (by omega)])
    have j2 : ((M - N : Nat) : Int) ≤ 1 := by omega
    generalize M - N = D at *
    clear HU2 hr hlt hgt
    go_wp2_with fail
    refine (bool2u_any _ _).mono ?_
    rintro e w' ⟨rfl, rfl⟩
    go_wp2
    go_quiet (first | (go_at_call 142; refine Calls.quiet_of_same (bool2u_any _ _)))
    go_wp2
    all_goals
     go_ret
     exact ⟨ret_int F5.out, ⟨_, rfl⟩⟩
end Go.Proofs.YtillamhoakohdaaGreatDoor
namespace Go.Proofs.YtillamhoakohdaaGreatDoor
open Go.RowKit

theorem and_split {i A B C D : Nat} (hB : B < 2 ^ i) (hD : D < 2 ^ i) : (2 ^ i * A + B) &&& (2 ^ i * C + D) = 2 ^ i * (A &&& C) + (B &&& D) := by
 apply Nat.eq_of_testBit_eq
 intro j
 have h3 : B &&& D < 2 ^ i := Nat.and_lt_two_pow _ hD
 rw [Nat.testBit_and, Nat.testBit_two_pow_mul_add _ hB, Nat.testBit_two_pow_mul_add _ hD, Nat.testBit_two_pow_mul_add _ h3]
 split <;> simp [Nat.testBit_and]
theorem or_split {i A B C D : Nat} (hB : B < 2 ^ i) (hD : D < 2 ^ i) : (2 ^ i * A + B) ||| (2 ^ i * C + D) = 2 ^ i * (A ||| C) + (B ||| D) := by
 apply Nat.eq_of_testBit_eq
 intro j
 have h3 : B ||| D < 2 ^ i := Nat.or_lt_two_pow hB hD
 rw [Nat.testBit_or, Nat.testBit_two_pow_mul_add _ hB, Nat.testBit_two_pow_mul_add _ hD, Nat.testBit_two_pow_mul_add _ h3]
 split <;> simp [Nat.testBit_or]
def sgnW (neg : Bool) : Nat := if neg = true then 2 ^ 63 else 0
theorem sgnW_cases (neg : Bool) : (neg = true ∧ sgnW neg = 9223372036854775808) ∨ (neg = false ∧ sgnW neg = 0) := by cases neg <;> simp [sgnW]
theorem pk_and52 (neg : Bool) (m : Nat) (hm : m < 2 ^ 53) : bits .and .u64 ((sgnW neg + m : Nat) : Int) 4503599627370496 = if 2 ^ 52 ≤ m then 4503599627370496 else 0 := by
 have hm' : m < 9007199254740992 := hm
 have h64 : sgnW neg + m < 18446744073709551616 := by rcases sgnW_cases neg with ⟨_, h⟩ | ⟨_, h⟩ <;> omega
 have := u64_and_nat (sgnW neg + m) 4503599627370496 h64 (by decide)
 rw [show ((4503599627370496 : Nat) : Int) = 4503599627370496 from rfl] at this
 rw [this]
 have e1 : sgnW neg + m = 2 ^ 52 * ((sgnW neg + m) / 2 ^ 52) + (sgnW neg + m) % 2 ^ 52 := (Nat.div_add_mod _ _).symm
 have e2 : (4503599627370496 : Nat) = 2 ^ 52 * 1 + 0 := by decide
 have e3 : (sgnW neg + m) &&& 4503599627370496 = 2 ^ 52 * (((sgnW neg + m) / 2 ^ 52) &&& 1) := by
  conv => lhs; rw [e1, e2]
  rw [and_split (Nat.mod_lt _ (by decide)) (by decide)]; simp
 rw [e3, Nat.and_one_is_mod]
 have e4 : (sgnW neg + m) / 2 ^ 52 % 2 = if 2 ^ 52 ≤ m then 1 else 0 := by
  show (sgnW neg + m) / 4503599627370496 % 2 = if 4503599627370496 ≤ m then 1 else 0
  rcases sgnW_cases neg with ⟨_, h⟩ | ⟨_, h⟩
  ·rw [h]; split <;> omega
  ·rw [h]; split <;> omega
 rw [e4]
 split <;> rfl
theorem pk_and63 (neg : Bool) (m : Nat) (hm : m < 2 ^ 53) : bits .and .u64 ((sgnW neg + m : Nat) : Int) 9223372036854775808 = (sgnW neg : Int) := by
 have hm' : m < 9007199254740992 := hm
 have h64 : sgnW neg + m < 18446744073709551616 := by rcases sgnW_cases neg with ⟨_, h⟩ | ⟨_, h⟩ <;> omega
 have := u64_and_nat (sgnW neg + m) 9223372036854775808 h64 (by decide)
 rw [show ((9223372036854775808 : Nat) : Int) = 9223372036854775808 from rfl] at this
 rw [this]
 have e1 : sgnW neg + m = 2 ^ 63 * ((sgnW neg + m) / 2 ^ 63) + (sgnW neg + m) % 2 ^ 63 := (Nat.div_add_mod _ _).symm
 have e2 : (9223372036854775808 : Nat) = 2 ^ 63 * 1 + 0 := by decide
 have e3 : (sgnW neg + m) &&& 9223372036854775808 = 2 ^ 63 * (((sgnW neg + m) / 2 ^ 63) &&& 1) := by
  conv => lhs; rw [e1, e2]
  rw [and_split (Nat.mod_lt _ (by decide)) (by decide)]; simp
 rw [e3, Nat.and_one_is_mod]
 show ((9223372036854775808 * ((sgnW neg + m) / 9223372036854775808 % 2) : Nat) : Int) = _
 rcases sgnW_cases neg with ⟨_, h⟩ | ⟨_, h⟩ <;> rw [h] <;> omega
theorem pk_clear (neg : Bool) (f : Nat) (hf : f < 2 ^ 52) : bits .andNot .u64 ((sgnW neg + (2 ^ 52 + f) : Nat) : Int) 4503599627370496 = ((sgnW neg + f : Nat) : Int) := by
 have hf' : f < 4503599627370496 := hf
 have h64 : sgnW neg + (2 ^ 52 + f) < 18446744073709551616 := by
  show sgnW neg + (4503599627370496 + f) < _
  rcases sgnW_cases neg with ⟨_, h⟩ | ⟨_, h⟩ <;> omega
 have := u64_andNot_nat (sgnW neg + (2 ^ 52 + f)) 4503599627370496 h64 (by decide)
 rw [show ((4503599627370496 : Nat) : Int) = 4503599627370496 from rfl] at this
 rw [this]
 congr 1
 obtain ⟨A, hA, hA2⟩ : ∃ A, sgnW neg = 2 ^ 53 * A ∧ A < 2048 := by
  rcases sgnW_cases neg with ⟨_, h⟩ | ⟨_, h⟩
  ·exact ⟨1024, by rw [h], by omega⟩
  ·exact ⟨0, by rw [h], by omega⟩
 have e2 : (18446744073709551615 - 4503599627370496 : Nat) = 2 ^ 53 * 2047 + (2 ^ 52 * 0 + (2 ^ 52 - 1)) := by decide
 rw [hA, e2, and_split (show 2 ^ 52 + f < 2 ^ 53 by omega) (by decide)]
 have e3 : (2 ^ 52 + f) &&& (2 ^ 52 * 0 + (2 ^ 52 - 1)) = f := by
  have := and_split (i := 52) (A := 1) (B := f) (C := 0) (D := 2 ^ 52 - 1) hf (by decide)
  rw [Nat.mul_one] at this
  rw [this, Nat.and_zero, Nat.mul_zero, Nat.zero_add, Nat.and_two_pow_sub_one_eq_mod, Nat.mod_eq_of_lt hf]
 have e4 : A &&& 2047 = A := by
  rw [show 2047 = 2 ^ 11 - 1 by decide, Nat.and_two_pow_sub_one_eq_mod, Nat.mod_eq_of_lt hA2]
 rw [e3, e4]
theorem pk_or (neg : Bool) (f X : Nat) (hf : f < 2 ^ 52) (hX : X < 2048) : bits .or .u64 ((sgnW neg + f : Nat) : Int) ((X : Int) * 4503599627370496) = ((sgnW neg + (f + X * 2 ^ 52) : Nat) : Int) := by
 have hf' : f < 4503599627370496 := hf
 have e1 : ((X : Int) * 4503599627370496) = ((2 ^ 52 * X + 0 : Nat) : Int) := by
  show _ = ((4503599627370496 * X + 0 : Nat) : Int); omega
 have h64 : sgnW neg + f < 18446744073709551616 := by rcases sgnW_cases neg with ⟨_, h⟩ | ⟨_, h⟩ <;> omega
 rw [e1, u64_or_nat _ _ h64 (by show 4503599627370496 * X + 0 < _; omega)]
 congr 1
 obtain ⟨A, hA, hA2⟩ : ∃ A, sgnW neg = 2 ^ 52 * A ∧ (A = 2048 ∨ A = 0) := by
  rcases sgnW_cases neg with ⟨_, h⟩ | ⟨_, h⟩
  ·exact ⟨2048, by rw [h], Or.inl rfl⟩
  ·exact ⟨0, by rw [h], Or.inr rfl⟩
 rw [hA, or_split hf (by decide), Nat.or_zero]
 have e4 : A ||| X = A + X := by
  rcases hA2 with rfl | rfl
  ·have := Nat.two_pow_add_eq_or_of_lt (i := 11) (b := X) hX 1
   rw [Nat.mul_one] at this; exact this.symm
  ·simp
 rw [e4, Nat.mul_add, Nat.mul_comm X]
 omega
def packR (neg : Bool) (m : Nat) (e : Int) : Value :=
 if m < 2 ^ 52 then .tuple #[.float .f64 (sgnW neg + m), .nilIface]
 else if 972 ≤ e then .tuple #[.float .f64 (sgnW neg + infR), .iface 175 (.int .i64 1)]
 else .tuple #[.float .f64 (sgnW neg + (m - 2 ^ 52 + (1075 + e).toNat * 2 ^ 52)), .nilIface]
set_option maxRecDepth 100000 in
theorem pack64_any (neg : Bool) (m : Nat) (e : Int) (hm : m < 2 ^ 53) (h1 : -1075 ≤ e) (h2 : e ≤ 2000) (w : World) :
  Calls Tryz.prog 161 #[.int .u64 (sgnW neg + m : Nat), .int .i64 e] w fun x w' => x = .returned (packR neg m e) ∧ w' = w := by
 have ha := pk_and52 neg m hm
 by_cases hlt : m < 2 ^ 52
 ·rw [if_neg (by omega)] at ha
  have HP := Lib.hid (show packR neg m e = .tuple #[.float .f64 (sgnW neg + m), .nilIface] by unfold packR; rw [if_pos hlt])
  clear hlt hm
  generalize sgnW neg + m = M at *
  go_enter Tryz.func161, Tryz.ntmps161
  go_wp2
  go_ret2
  exact ⟨by rw [HP.out]; simp, rfl⟩
 ·rw [if_pos (by omega)] at ha
  by_cases he : 972 ≤ e
  ·have HP := Lib.hid (show packR neg m e = .tuple #[.float .f64 (sgnW neg + infR), .iface 175 (.int .i64 1)] by unfold packR; rw [if_neg hlt, if_pos he])
   have hb := pk_and63 neg m hm
   have hc : Hid (bits .or .u64 (sgnW neg : Int) 9218868437227405312 = ((sgnW neg + infR : Nat) : Int)) := Lib.hid (by
    have := pk_or neg 0 2047 (by decide) (by decide)
    rw [Nat.add_zero, Nat.zero_add] at this
    exact this)
   clear hlt hm
   generalize sgnW neg + m = M at *
   generalize sgnW neg + infR = N at *
   generalize sgnW neg = S at *
   have hc' := hc.out
   go_enter Tryz.func161, Tryz.ntmps161
   go_wp2
   go_ret2
   exact ⟨by rw [HP.out]; simp, rfl⟩
  ·have hm' : m < 9007199254740992 := hm
   have hlt' : ¬ m < 4503599627370496 := hlt
   obtain ⟨f, hf, hf2⟩ : ∃ f, m = 2 ^ 52 + f ∧ f < 2 ^ 52 := ⟨m - 4503599627370496, by show m = 4503599627370496 + _; omega, by show _ < 4503599627370496; omega⟩
   obtain ⟨X, hX⟩ : ∃ X : Nat, (X : Int) = 1075 + e := ⟨(1075 + e).toNat, by omega⟩
   have HP := Lib.hid (show packR neg m e = .tuple #[.float .f64 (sgnW neg + (f + X * 2 ^ 52)), .nilIface] by
    unfold packR; rw [if_neg hlt, if_neg he, show m - 2 ^ 52 = f by omega, show (1075 + e).toNat = X by omega])
   have hb := pk_clear neg f hf2
   rw [← hf] at hb
   have hc := pk_or neg f X hf2 (by omega)
   have he' : e < 972 := by omega
   have hX0 : (0 : Int) ≤ 1075 + e := by omega
   have hX1 : (1075 + e) < 2048 := by omega
   clear hlt hlt' hm hm' hf hf2
   generalize sgnW neg + m = M at *
   generalize sgnW neg + f = N at *
   generalize sgnW neg + (f + X * 2 ^ 52) = R at *
   rw [hX] at hc
   go_enter Tryz.func161, Tryz.ntmps161
   go_wp2
   go_ret2
   exact ⟨by rw [HP.out]; simp, rfl⟩
end Go.Proofs.YtillamhoakohdaaGreatDoor
namespace Go.Proofs.YtillamhoakohdaaGreatDoor
open Go.RowKit

theorem uscaleN_le (x hi lo s : Nat) : uscaleN x hi lo s ≤ x * hi / 2 ^ 64 / 2 ^ s + 1 := by
 have h : (x * hi / 2 ^ 64 - 1) / 2 ^ s ≤ x * hi / 2 ^ 64 / 2 ^ s := Nat.div_le_div_right (Nat.sub_le _ _)
 unfold uscaleN
 split
 ·omega
 ·split
  ·omega
  ·split <;> omega
theorem or_stick (u : Nat) (h : u < 18446744073709551616) : bits .or .u64 ((u / 2 : Nat) : Int) ((u % 2 : Nat) : Int) = (stick u : Int) := by
 rcases Nat.mod_two_eq_zero_or_one u with h1 | h1
 ·rw [h1]
  have := or0 (u / 2) (by omega)
  rw [show (((0 : Nat) : Nat) : Int) = 0 from rfl, this]
  unfold stick
  congr 1
  split <;> omega
 ·rw [h1]
  have := or1 (u / 2) (by omega)
  rw [show (((1 : Nat) : Nat) : Int) = 1 from rfl, this]
  unfold stick
  rw [if_pos (Or.inr h1)]
theorem or_same (u : Nat) (h : u < 18446744073709551616) : bits .or .u64 (u : Int) ((u % 2 : Nat) : Int) = (u : Int) := by
 rcases Nat.mod_two_eq_zero_or_one u with h1 | h1
 ·rw [h1]; exact or0 u h
 ·rw [h1]
  have := or1 u h
  rw [show (((1 : Nat) : Nat) : Int) = 1 from rfl, this]
  congr 1; omega
theorem or_sm (neg : Bool) (m : Nat) (h : m < 2 ^ 63) : bits .or .u64 (sgnW neg : Int) (m : Int) = ((sgnW neg + m : Nat) : Int) := by
 have h' : m < 9223372036854775808 := h
 rw [u64_or_nat _ _ (by rcases sgnW_cases neg with ⟨_, h⟩ | ⟨_, h⟩ <;> omega) (by omega)]
 congr 1
 rcases sgnW_cases neg with ⟨_, e⟩ | ⟨_, e⟩
 ·rw [e]
  have := Nat.two_pow_add_eq_or_of_lt h 1
  rw [Nat.mul_one] at this
  exact this.symm
 ·rw [e]; simp
def fastR (neg : Bool) (d : Nat) (p : Int) : Value :=
 if 64 ≤ 61 - ((d.log2 + 1 : Nat) : Int) - lpI p - exI (d.log2 + 1) p then .tuple #[.float .f64 (sgnW neg), .nilIface] else packR neg (mN d p) (-(eN d p))
theorem fastR_is {neg : Bool} {d : Nat} {p : Int} (d0 : 0 < d) (d1 : d < 2 ^ 64) (p1 : -345 ≤ p) (p2 : p ≤ 310) :
  ∃ n err, fastR neg d p = .tuple #[.float .f64 n, err] ∧ ((err = .nilIface ∧ FltIs neg (d, p) (some n)) ∨ (err = .iface 175 (.int .i64 1) ∧ FltIs neg (d, p) none)) := by
 obtain ⟨h1, h2⟩ := near_scaled d0 d1 p1 p2
 have hf := flt_of_near (neg := neg) h1
 unfold fastR
 unfold scaledR at hf
 by_cases h64 : 64 ≤ 61 - ((d.log2 + 1 : Nat) : Int) - lpI p - exI (d.log2 + 1) p
 ·rw [if_pos h64] at hf ⊢
  rw [if_pos (by decide)] at hf
  exact ⟨_, _, rfl, Or.inl ⟨rfl, hf⟩⟩
 ·rw [if_neg h64] at hf ⊢
  obtain ⟨m1, m2, m3, m4⟩ := h2.resolve_left h64
  generalize mN d p = m at *
  generalize eN d p = e at *
  have e9 : infR = 9218868437227405312 := by decide
  have m1' : m < 9007199254740992 := m1
  unfold packR
  by_cases hm : m < 2 ^ 52
  ·rw [if_pos hm]
   have he := m2 hm
   have hm' : m < 4503599627370496 := hm
   rw [he, show ((1074 : Int) - 1074).toNat = 0 from rfl, Nat.zero_mul, Nat.zero_add, if_pos (by rw [e9]; omega)] at hf
   exact ⟨_, _, rfl, Or.inl ⟨rfl, hf⟩⟩
  ·rw [if_neg hm]
   have hm' : ¬ m < 4503599627370496 := hm
   by_cases he : 972 ≤ -e
   ·rw [if_pos he]
    rw [if_neg (by rw [e9]; show ¬ (1074 - e).toNat * 4503599627370496 + m < _; omega)] at hf
    exact ⟨_, _, rfl, Or.inr ⟨rfl, hf⟩⟩
   ·rw [if_neg he]
    rw [if_pos (by rw [e9]; show (1074 - e).toNat * 4503599627370496 + m < _; omega)] at hf
    have hr : (1074 - e).toNat * 2 ^ 52 + m = m - 2 ^ 52 + (1075 + -e).toNat * 2 ^ 52 := by
     show (1074 - e).toNat * 4503599627370496 + m = m - 4503599627370496 + (1075 + -e).toNat * 4503599627370496
     omega
    rw [hr] at hf
    exact ⟨_, _, rfl, Or.inl ⟨rfl, hf⟩⟩

theorem packR_shape (neg : Bool) (m : Nat) (e : Int) : ∃ n err, packR neg m e = .tuple #[.float .f64 n, err] := by
 unfold packR
 split
 ·exact ⟨_, _, rfl⟩
 ·split
  ·exact ⟨_, _, rfl⟩
  ·exact ⟨_, _, rfl⟩
def FastPost (neg : Bool) (d : Nat) (p : Int) (w : World) (e : Ending) (w' : World) : Prop := e = .returned (fastR neg d p) ∧ Below w.heap.size w w'
set_option maxRecDepth 100000 in
theorem parseFloat64_any (neg : Bool) (d : Nat) (p : Int) (w : World) (HG : Glob w) (d0 : 0 < d) (d1 : d < 2 ^ 64) (p1 : -345 ≤ p) (p2 : p ≤ 310) :
  Calls Tryz.prog 145 #[.int .u64 d, .int .i64 p, .int .u64 (sgnW neg)] w (FastPost neg d p w) := by
 have d1' : d < 18446744073709551616 := d1
 obtain ⟨_, hfacts⟩ := near_scaled d0 d1 p1 p2
 have hi : (p + 345).toNat < powT.length := by rw [powT_len]; omega
 have row := powT_ok _ hi
 rw [← getElem!_pos powT _ hi] at row
 have hb1 : d.log2 < 64 := (Nat.log2_lt (by omega)).2 d1
 have hlp : -1147 ≤ lpI p ∧ lpI p ≤ 1030 := by unfold lpI; omega
 have HF := Lib.hid hfacts
 have HU : Hid (uN d p = uscaleN (d * 2 ^ (64 - (d.log2 + 1))) (powT[(p + 345).toNat]!).1 (powT[(p + 345).toNat]!).2.1 (61 - (d.log2 + 1 : Nat) - lpI p - exI (d.log2 + 1) p).toNat) := Lib.hid rfl
 have hex : exI (d.log2 + 1) p = min 1074 (53 - ((d.log2 + 1 : Nat) : Int) - lpI p) := rfl
 have L := len64_any d d1' (by omega)
 have LP := log2Pow10_any p (by omega) (by omega)
 have hd1 : 2 ^ d.log2 ≤ d := Nat.log2_self_le (by omega)
 have hd2 : d < 2 ^ (d.log2 + 1) := Nat.lt_log2_self
 have PS : ∀ (g : Nat) (e : Int) (w : World), Glob w → ScAt g 0 0 0 w → 12 ≤ g → -100000 ≤ e → e ≤ 100000 → _ := fun g e w HG h hg e1 e2 => prescale_any g e p (lpI p) w HG h hg p1 p2 e1 e2 (by omega) (by omega)
 generalize hR : powT[(p + 345).toNat]! = R at *
 obtain ⟨hi', lo, q, hq⟩ := R
 simp only at row HU PS
 have HFR : Hid (fastR neg d p = if 64 ≤ 61 - ((d.log2 + 1 : Nat) : Int) - lpI p - exI (d.log2 + 1) p then .tuple #[.float .f64 (sgnW neg), .nilIface] else packR neg (mN d p) (-(eN d p))) := Lib.hid rfl
 have HM : Hid (mN d p = if 2 ^ 55 - 2 ≤ uN d p then rndN (stick (uN d p)) else rndN (uN d p)) := Lib.hid rfl
 have HE : Hid (eN d p = if 2 ^ 55 - 2 ≤ uN d p then exI (d.log2 + 1) p - 1 else exI (d.log2 + 1) p) := Lib.hid rfl
 generalize hb : d.log2 + 1 = b at *
 generalize hlpp : lpI p = lp at *
 generalize hE : exI b p = E at *
 have hb64 : b ≤ 64 ∧ 1 ≤ b := by omega
 have HBL := Lib.hid hb
 clear hb hlpp hE hfacts
 have hbnd : -1200 ≤ E ∧ E ≤ 1074 := by omega
 go_enter Tryz.func145, Tryz.ntmps145
 go_wp2_with fail
 refine (L _).mono ?_
 rintro e w' ⟨rfl, rfl⟩
 go_wp2_with fail
 refine (LP _).mono ?_
 rintro e w' ⟨rfl, rfl⟩
 go_upto_region 3 with fail
 go_cut [10] from 18 to 22 (fun v wc => v = .int .i64 E ∧ w' = wc)
 case first =>
  rcases (by omega : (1074 : Int) ≤ 53 - (b : Int) - lp ∨ 53 - (b : Int) - lp < 1074) with h9 | h9
  all_goals
   have hE9 := Lib.hid hex
   clear hex
   go_wp2
   go_meet
   case rel => exact ⟨by first | rw [hE9.out] | (rw [show E = 1074 by have := hE9.out; omega]; done) | (rw [show E = 53 - (b : Int) - lp by have := hE9.out; omega]; done), rfl⟩
 case rest =>
 obtain ⟨rfl, rfl⟩ := hcut
 have hE1 : E ≤ 53 - (b : Int) - lp := by omega
 clear hex
 have hgz := heap_alloc_new w' (.cells #[.int .u64 0, .int .u64 0, .int .i64 0] 221)
 have HG2 : Glob (w'.alloc (.cells #[.int .u64 0, .int .u64 0, .int .i64 0] 221)) := HG.below ((Below.refl _ _).alloc (Nat.le_refl _) _)
 have hB2 : Below w'.heap.size w' (w'.alloc (.cells #[.int .u64 0, .int .u64 0, .int .i64 0] 221)) := (Below.refl _ _).alloc (Nat.le_refl _) _
 have h12 := HG.size
 have HB2 := Lib.hid hB2
 clear hB2
 go_wp2_with fail
 refine (PS w'.heap.size _ _ HG2 hgz h12 (by omega) (by omega)).mono ?_
 rintro e w2 ⟨rfl, hsc, hbel⟩
 have HB3 := Lib.hid (HB2.out.trans (hbel _ (Nat.le_refl _)))
 obtain ⟨c0, c1, c2⟩ := hsc.cells
 by_cases hs64 : 64 ≤ 61 - (b : Int) - lp - E
 ·have HR := Lib.hid (show fastR neg d p = _ by rw [HFR.out, if_pos hs64])
  have ho := or0 (sgnW neg) (by rcases sgnW_cases neg with ⟨_, h⟩ | ⟨_, h⟩ <;> omega)
  go_wp2
  go_ret2
  exact ⟨by rw [HR.out]; simp, HB3.out⟩
 ·obtain ⟨s, hs⟩ : ∃ s : Nat, (s : Int) = 61 - (b : Int) - lp - E := ⟨(61 - (b : Int) - lp - E).toNat, by omega⟩
  have hs8 : 8 ≤ s := by omega
  have hsc2 : ScAt w'.heap.size hi' lo s w2 := by
   have : -(E - (64 - (b : Int)) + lp + 3) = (s : Int) := by omega
   rw [this] at hsc; exact hsc
  have hx : Hid (IntKind.u64.wrap ((d : Int) * 2 ^ (64 - b)) = ((d * 2 ^ (64 - b) : Nat) : Int)) := Lib.hid (by
   rw [show ((d : Int) * 2 ^ (64 - b)) = ((d * 2 ^ (64 - b) : Nat) : Int) by simp]
   refine wrapU _ ?_
   have : d * 2 ^ (64 - b) < 2 ^ b * 2 ^ (64 - b) := Nat.mul_lt_mul_of_pos_right hd2 (Nat.pow_pos (by omega))
   rw [← Nat.pow_add, show b + (64 - b) = 64 by omega] at this
   exact this)
  go_upto_region 8 with fail
  have hxb : d * 2 ^ (64 - b) < 18446744073709551616 := by
   have : d * 2 ^ (64 - b) < 2 ^ b * 2 ^ (64 - b) := Nat.mul_lt_mul_of_pos_right hd2 (Nat.pow_pos (by omega))
   rw [← Nat.pow_add, show b + (64 - b) = 64 by omega] at this
   exact this
  have hxl : 9223372036854775808 ≤ d * 2 ^ (64 - b) := by
   have h9 : 2 ^ d.log2 * 2 ^ (64 - b) ≤ d * 2 ^ (64 - b) := Nat.mul_le_mul_right _ hd1
   rw [← Nat.pow_add, show d.log2 + (64 - b) = 63 by have := HBL.out; omega] at h9
   exact h9
  have hUs : Hid (uN d p = uscaleN (d * 2 ^ (64 - b)) hi' lo s) := Lib.hid (by rw [HU.out]; congr 1; omega)
  have hH0 : 0 < d * 2 ^ (64 - b) * hi' / 18446744073709551616 := by
   have hhi : 9223372036854775808 ≤ hi' := by
    have hA := row.dn
    have hp2 := row.p2
    have hB := row.hB
    rcases Nat.lt_or_ge hi' 9223372036854775808 with h | h
    ·exfalso
     have h9 : (hi' * 2 ^ 64 - lo) * powB (p + 345).toNat ≤ (9223372036854775807 * 2 ^ 64) * powB (p + 345).toNat := Nat.mul_le_mul_right _ (by omega)
     generalize powB (p + 345).toNat = B at *
     generalize powA (p + 345).toNat = A at *
     have h10 : A * 2 ^ 137 ≤ (9223372036854775807 * 2 ^ 64) * B := Nat.le_trans hp2 h9
     clear h9 hp2
     omega
    ·exact h
   rw [Nat.div_pos_iff]
   refine ⟨by decide, ?_⟩
   exact Nat.le_trans (show 18446744073709551616 ≤ 9223372036854775808 * 9223372036854775808 by decide) (Nat.mul_le_mul hxl hhi)
  have hlen := uscaleN_le (d * 2 ^ (64 - b)) hi' lo s
  have hub : uN d p < 9223372036854775808 := by
   rw [hUs.out]
   have h1 : d * 2 ^ (64 - b) * hi' / 2 ^ 64 < 2 ^ 64 := by
    rw [Nat.div_lt_iff_lt_mul (by decide)]; exact Nat.mul_lt_mul'' hxb row.hi64
   have h2 : d * 2 ^ (64 - b) * hi' / 2 ^ 64 / 2 ^ s ≤ d * 2 ^ (64 - b) * hi' / 2 ^ 64 / 2 ^ 8 := Nat.div_le_div_left (Nat.pow_le_pow_right (by omega) hs8) (by decide)
   generalize d * 2 ^ (64 - b) * hi' / 2 ^ 64 = H at *
   omega
  have US := fun w h => uscale_any (d * 2 ^ (64 - b)) w'.heap.size hi' lo s w h hxb row.hi64 row.lo64 hH0 (by omega)
  rw [← hUs.out] at US
  have HR := Lib.hid (show fastR neg d p = packR neg (mN d p) (-(eN d p)) by rw [HFR.out, if_neg (by omega)])
  obtain ⟨m1, m2, m3, m4⟩ := HF.out.resolve_left (by omega)
  have PK := fun w => pack64_any neg (mN d p) (-(eN d p)) m1 (by omega) (by omega) w
  generalize hm : mN d p = m at *
  generalize he : eN d p = e2 at *
  generalize uN d p = u at *
  generalize d * 2 ^ (64 - b) = x at *
  clear hxb hxl hUs hH0 hlen HF HU HFR row hsc c0 c1 c2 hs64 PS L LP
  obtain ⟨c0, c1, c2⟩ := hsc2.cells
  have hs64 : (s : Int) < 64 := by omega
  go_wp2_with fail
  rw [hx.out]
  refine (US _ hsc2).mono ?_
  rintro e w3 ⟨rfl, ⟨nd, rfl⟩⟩
  have HB4 : Hid (Below w'.heap.size w' (w2.drewN nd)) := Lib.hid (below_drewN HB3.out nd)
  clear US HB3 HB2 hbel c0 c1 c2
  generalize w2.drewN nd = w4 at *
  have UM := fun w => unmin_any w
  have huu : (u : Int) < 9223372036854775808 := by omega
  by_cases hbig : 2 ^ 55 - 2 ≤ u
  ·have hb2 : (36028797018963966 : Int) ≤ (u : Int) := by
    have : 36028797018963966 ≤ u := hbig
    omega
   have HMm : Hid (m = rndN (stick u)) := Lib.hid (by rw [HM.out, if_pos hbig])
   have HEe : Hid (e2 = E - 1) := Lib.hid (by rw [HE.out, if_pos hbig])
   clear HM HE hbig
   have hst : bits .or .u64 ((u : Int) / 2) (bits .and .u64 (u : Int) 1) = (stick u : Int) := by
    rw [and1 u (by omega), show ((u : Int) / 2) = ((u / 2 : Nat) : Int) by omega, or_stick u (by omega)]
   have RD := fun w => round_any (stick u) (by unfold stick; split <;> omega) w
   rw [← HMm.out] at RD
   have hos := or_sm neg m (by have : m < 9007199254740992 := m1; show m < 9223372036854775808; omega)
   have hee := HEe.out
   subst hee
   generalize stick u = v at *
   obtain ⟨M, hM⟩ : ∃ M : Nat, M = sgnW neg + m := ⟨_, rfl⟩
   rw [← hM] at hos PK
   obtain ⟨n, err, hpk⟩ := packR_shape neg m (-(E - 1))
   rw [hpk] at PK
   have HRR := Lib.hid (HR.out.trans hpk)
   clear HMm HEe m2 hM hpk HR
   go_wp2_with fail
   refine (UM _).mono ?_
   rintro e w5 ⟨rfl, rfl⟩
   go_wp2_with fail
   refine (bool2i_any _ _).mono ?_
   rintro e w5 ⟨rfl, rfl⟩
   go_wp2_with fail
   refine (RD _).mono ?_
   rintro e w5 ⟨rfl, rfl⟩
   go_wp2_with fail
   refine (PK _).mono ?_
   rintro e w5 ⟨rfl, rfl⟩
   go_wp2
   go_ret2
   exact ⟨by rw [HRR.out]; rfl, HB4.out⟩
  ·have hb2 : (u : Int) < 36028797018963966 := by
    have : ¬ 36028797018963966 ≤ u := hbig
    omega
   have HMm : Hid (m = rndN u) := Lib.hid (by rw [HM.out, if_neg hbig])
   have HEe : Hid (e2 = E) := Lib.hid (by rw [HE.out, if_neg hbig])
   clear HM HE hbig
   have hst : bits .or .u64 (u : Int) (bits .and .u64 (u : Int) 1) = (u : Int) := by
    rw [and1 u (by omega), or_same u (by omega)]
   have RD := fun w => round_any (u) hub w
   rw [← HMm.out] at RD
   have hos := or_sm neg m (by have : m < 9007199254740992 := m1; show m < 9223372036854775808; omega)
   have hee := HEe.out
   subst hee
   obtain ⟨M, hM⟩ : ∃ M : Nat, M = sgnW neg + m := ⟨_, rfl⟩
   rw [← hM] at hos PK
   obtain ⟨n, err, hpk⟩ := packR_shape neg m (-e2)
   rw [hpk] at PK
   have HRR := Lib.hid (HR.out.trans hpk)
   clear HMm HEe m2 hM hpk HR
   go_wp2_with fail
   refine (UM _).mono ?_
   rintro e w5 ⟨rfl, rfl⟩
   go_wp2_with fail
   rw [show decide ((36028797018963966 : Int) ≤ (u : Int)) = false from decide_eq_false (by omega)]
   refine (bool2i_any false _).mono ?_
   rintro e w5 ⟨rfl, rfl⟩
   go_wp2_with fail
   refine (RD _).mono ?_
   rintro e w5 ⟨rfl, rfl⟩
   go_wp2_with fail
   refine (PK _).mono ?_
   rintro e w5 ⟨rfl, rfl⟩
   go_wp2
   go_ret2
   exact ⟨by rw [HRR.out]; rfl, HB4.out⟩
end Go.Proofs.YtillamhoakohdaaGreatDoor

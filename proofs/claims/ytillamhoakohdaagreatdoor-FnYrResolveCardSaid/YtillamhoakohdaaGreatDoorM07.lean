/-
  Walks: the reference's clock: numbers, signs, blanks. Walks: the reference's clock: nanoseconds, zones, days. Walks: the reference's clock: zones, days. Walks: the reference's clock: zones.
-/
import Derived.Deep.Cut
import Derived.Deep.CutBlock
import Derived.Test.YtillamhoakohdaaGreatDoorM01
import Derived.Test.YtillamhoakohdaaGreatDoorM05
import Derived.Test.YtillamhoakohdaaGreatDoorM06
set_option linter.unusedVariables false
set_option linter.unusedSimpArgs false
namespace Go.Proofs.YtillamhoakohdaaGreatDoor
open Go.RowKit

def ClkAt (w : World) (g : Nat) (l : Bs) (bad : Bool) : Prop := ∃ r, StrIs r l ∧ w.heap[g]? = some (.cells #[.string r, .bool bad] 115 (0, 0))
def ClkPost (g : Nat) (w : World) (v : Value) (l : Bs) (bad : Bool) (e : Ending) (w' : World) : Prop := e = .returned v ∧ ClkAt w' g l bad ∧ w.grownBy w' (some g)

theorem grown_set (w : World) (g i : Nat) (v : Value) : w.grownBy (w.setCell ⟨g, i, none⟩ v) (some g) :=
 ⟨rfl, rfl, rfl, by simp [World.setCell], fun k _ hne => Below.heap_setCell _ _ _ _ (fun e => hne (by simpa using e))⟩
theorem grown_trans {a b c : World} {row : Option Nat} (h : a.grownBy b row) (k : b.grownBy c row) : a.grownBy c row :=
 ⟨k.os.trans h.os, k.tape.trans h.tape, k.output.trans h.output, Nat.le_trans h.size k.size, fun i hi hne => (k.block i (Nat.lt_of_lt_of_le hi h.size) hne).trans (h.block i hi hne)⟩
theorem grown_refl (w : World) (row : Option Nat) : w.grownBy w row := World.grownBy.refl w row
theorem grown_drewN (w : World) (n : Nat) (row : Option Nat) : w.grownBy (w.drewN n) row := ⟨rfl, rfl, rfl, Nat.le_refl _, fun _ _ _ => rfl⟩
theorem clk_set0 {w : World} {g : Nat} {a b v : Value} (h : w.heap[g]? = some (.cells #[a, b] 115 (0, 0))) : (w.setCell ⟨g, 0, none⟩ v).heap[g]? = some (.cells #[v, b] 115 (0, 0)) :=
 heap_setCell_same w g 0 #[a, b] 115 v h
theorem clk_set1 {w : World} {g : Nat} {a b v : Value} (h : w.heap[g]? = some (.cells #[a, b] 115 (0, 0))) : (w.setCell ⟨g, 1, none⟩ v).heap[g]? = some (.cells #[a, v] 115 (0, 0)) :=
 heap_setCell_same w g 1 #[a, b] 115 v h

theorem num2_facts (s : ByteArray) (l : Bs) (hl : StrIs s l) : (num2 l).2.1 ≤ 2 ∧ (num2 l).2.1 ≤ s.size ∧ (num2 l).2.2 = l.drop (num2 l).2.1 ∧ ∃ f : Nat → Int, f 0 = 0 ∧ f (num2 l).2.1 = (num2 l).1 ∧
  (∀ k, k < (num2 l).2.1 → ∃ h : k < s.size, 48 ≤ (s[k].toNat : Int) ∧ (s[k].toNat : Int) ≤ 57 ∧ f (k + 1) = 10 * f k + ((s[k].toNat : Int) - 48) ∧ 0 ≤ f k ∧ f k ≤ 9) ∧
  ((num2 l).2.1 = 2 ∨ (num2 l).2.1 = s.size ∨ ∃ h : (num2 l).2.1 < s.size, ¬ (48 ≤ (s[(num2 l).2.1].toNat : Int) ∧ (s[(num2 l).2.1].toNat : Int) ≤ 57)) := by
 have hz := hl.size
 match l, hl with
 | [], hl => exact ⟨by simp [num2], by simp [num2], rfl, fun _ => 0, rfl, rfl, by simp [num2], .inr (.inl (by simp [num2]; simpa using hz.symm))⟩
 | [c1], hl =>
  obtain ⟨h0, e0⟩ := hl.cons
  by_cases d1 : isDig c1 = true
  ·have d1' : 48 ≤ c1.toNat ∧ c1.toNat ≤ 57 := by simpa [isDig] using d1
   refine ⟨by simp [num2, d1], by simp [num2, d1]; omega, by simp [num2, d1], fun k => if k = 0 then 0 else dig c1, rfl, by simp [num2, d1], ?_, .inr (.inl (by simp [num2, d1]; simpa using hz.symm))⟩
   intro k hk
   simp [num2, d1] at hk
   subst hk
   refine ⟨h0, ?_⟩
   rw [e0]; simp [dig]; omega
  ·have d1' : ¬ (48 ≤ c1.toNat ∧ c1.toNat ≤ 57) := by simpa [isDig] using d1
   refine ⟨by simp [num2, d1], by simp [num2, d1], by simp [num2, d1], fun _ => 0, rfl, by simp [num2, d1], by simp [num2, d1], .inr (.inr ?_)⟩
   have e : (num2 [c1]).2.1 = 0 := by simp [num2, d1]
   simp only [e]
   exact ⟨h0, by rw [e0]; omega⟩
 | c1 :: c2 :: r, hl =>
  obtain ⟨h0, h1, e0, e1⟩ := hl.cons2
  by_cases d1 : isDig c1 = true
  ·have d1' : 48 ≤ c1.toNat ∧ c1.toNat ≤ 57 := by simpa [isDig] using d1
   by_cases d2 : isDig c2 = true
   ·have d2' : 48 ≤ c2.toNat ∧ c2.toNat ≤ 57 := by simpa [isDig] using d2
    refine ⟨by simp [num2, d1, d2], by simp [num2, d1, d2]; omega, by simp [num2, d1, d2], fun k => if k = 0 then 0 else if k = 1 then dig c1 else 10 * dig c1 + dig c2, rfl, by simp [num2, d1, d2], ?_, .inl (by simp [num2, d1, d2])⟩
    intro k hk
    simp [num2, d1, d2] at hk
    rcases (show k = 0 ∨ k = 1 by omega) with rfl | rfl
    ·exact ⟨h0, by rw [e0]; simp [dig]; omega⟩
    ·exact ⟨h1, by rw [e1]; simp [dig]; omega⟩
   ·have d2' : ¬ (48 ≤ c2.toNat ∧ c2.toNat ≤ 57) := by simpa [isDig] using d2
    refine ⟨by simp [num2, d1, d2], by simp [num2, d1, d2]; omega, by simp [num2, d1, d2], fun k => if k = 0 then 0 else dig c1, rfl, by simp [num2, d1, d2], ?_, .inr (.inr ?_)⟩
    ·intro k hk
     simp [num2, d1, d2] at hk
     subst hk
     exact ⟨h0, by rw [e0]; simp [dig]; omega⟩
    ·have e : (num2 (c1 :: c2 :: r)).2.1 = 1 := by simp [num2, d1, d2]
     simp only [e]
     exact ⟨h1, by rw [e1]; omega⟩
  ·have d1' : ¬ (48 ≤ c1.toNat ∧ c1.toNat ≤ 57) := by simpa [isDig] using d1
   refine ⟨by simp [num2, d1], by simp [num2, d1], by simp [num2, d1], fun _ => 0, rfl, by simp [num2, d1], by simp [num2, d1], .inr (.inr ?_)⟩
   have e : (num2 (c1 :: c2 :: r)).2.1 = 0 := by simp [num2, d1]
   simp only [e]
   exact ⟨h0, by rw [e0]; omega⟩

set_option maxRecDepth 100000 in
set_option maxHeartbeats 4000000 in
theorem clkNumber_any (g : Nat) (l : Bs) (bad : Bool) (lo hi : Int) (w : World) (hc : ClkAt w g l bad) (hlen : l.length ≤ 1000) :
  Calls Tryz.prog 52 #[.pointer (some ⟨g, 0, none⟩), .int .i64 lo, .int .i64 hi] w (ClkPost g w (.int .i64 (clkNum lo hi l bad).1) (clkNum lo hi l bad).2.1 (clkNum lo hi l bad).2.2) := by
 obtain ⟨s, hs, hg⟩ := hc
 have hsz : s.size ≤ 1000 := by rw [hs.size]; exact hlen
 have c0 : w.cell? ⟨g, 0, none⟩ = some (.string s) := cell_of_row w g 0 _ 115 (0, 0) hg
 have c1 : w.cell? ⟨g, 1, none⟩ = some (.bool bad) := cell_of_row w g 1 _ 115 (0, 0) hg
 have z0 : w.frozen? ⟨g, 0, none⟩ = false := frozen_of_row w g 0 _ 115 hg
 have z1 : w.frozen? ⟨g, 1, none⟩ = false := frozen_of_row w g 1 _ 115 hg
 obtain ⟨hK2, hKs, hdrop, f, f0, fK, hf, hstop⟩ := num2_facts s l hs
 have HD := Lib.hid hdrop
 have HFK := Lib.hid fK
 have HF := Lib.hid hf
 have HS := Lib.hid hstop
 clear hdrop fK hf hstop
 generalize hk : (num2 l).2.1 = K at *
 have HK := Lib.hid hk
 clear hk
 go_enter Tryz.func52, Tryz.ntmps52
 go_upto_block 0 with fail
 go_cut [7, 8] (fun n i wc => i = .int .i64 K ∧ n = .int .i64 (f K) ∧ w = wc)
 case first =>
  go_wp2
  go_loop [7, 8] (fun n i => ∃ k : Nat, k ≤ K ∧ i = .int .i64 k ∧ n = .int .i64 (f k)) (fun _ i => K - (intOf i).toNat)
  case atStart => exact ⟨0, Nat.zero_le _, rfl, by rw [f0]⟩
  case round =>
   clear f0
   obtain ⟨k, hkK, rfl, rfl⟩ := hrel
   by_cases hlt : k < K
   ·obtain ⟨h1, h2, h3, h4, h5, h6⟩ := HF.out k hlt
    have H4 := Lib.hid h4
    clear h4
    have hk2 : k < 2 := by omega
    go_wp2
    go_round
    case rel => exact ⟨k + 1, by omega, by go_num, by rw [H4.out]⟩
    case measure => simp [intOf]; omega
   ·obtain rfl : k = K := by omega
    clear hlt hkK
    rcases HS.out with h2 | h2 | ⟨h2, h3⟩
    ·have h4 : ¬ (k < 2) := by omega
     clear h2
     go_wp2
     go_meet
     case rel => exact ⟨rfl, rfl, rfl⟩
    ·have h4 : ¬ (k < s.size) := by omega
     clear h2
     by_cases h5 : k < 2
     ·go_wp2
      go_meet
      case rel => exact ⟨rfl, rfl, rfl⟩
     ·go_wp2
      go_meet
      case rel => exact ⟨rfl, rfl, rfl⟩
    ·by_cases h5 : k < 2
     ·by_cases h6 : 48 ≤ (s[k].toNat : Int)
      ·have h7 : 57 < (s[k].toNat : Int) := by omega
       clear h3
       go_wp2
       go_meet
       case rel => exact ⟨rfl, rfl, rfl⟩
      ·clear h3
       go_wp2
       go_meet
       case rel => exact ⟨rfl, rfl, rfl⟩
     ·clear h3
      go_wp2
      go_meet
      case rel => exact ⟨rfl, rfl, rfl⟩
 case rest =>
 clear HF HS f0
 obtain ⟨rfl, rfl, rfl⟩ := hcut
 have hr : StrIs (s.extract K s.size) (num2 l).2.2 := by rw [HD.out]; exact hs.drop K
 have e0 : (clkNum lo hi l bad).1 = f K := by rw [HFK.out]; rfl
 have e1 : (clkNum lo hi l bad).2.2 = (bad || decide (K = 0 ∨ f K < lo ∨ hi < f K)) := by rw [HFK.out, ← HK.out]; rfl
 have E0 := Lib.hid e0
 have E1 := Lib.hid e1
 clear e0 e1
 generalize f K = n at *
 by_cases b0 : K = 0
 ·subst b0
  have E2 : Hid ((clkNum lo hi l bad).2.2 = true) := Lib.hid (by rw [E1.out]; simp)
  have hr0 : StrIs s (num2 l).2.2 := by rw [HD.out]; exact hs
  go_wp2
  go_ret
  exact ⟨by rw [E0.out]; rfl, ⟨_, hr0, by rw [E2.out]; exact clk_set1 (clk_set0 hg)⟩, grown_trans (grown_set _ _ _ _) (grown_set _ _ _ _)⟩
 have k0 : ((K : Int) == 0) = false := by rw [beq_eq_false_iff_ne]; omega
 by_cases b1 : n < lo
 ·have E2 : Hid ((clkNum lo hi l bad).2.2 = true) := Lib.hid (by rw [E1.out]; simp [b1])
  clear b0
  go_wp2
  go_ret
  exact ⟨by rw [E0.out]; rfl, ⟨_, hr, by rw [E2.out]; exact clk_set1 (clk_set0 hg)⟩, grown_trans (grown_set _ _ _ _) (grown_set _ _ _ _)⟩
 by_cases b2 : hi < n
 ·have E2 : Hid ((clkNum lo hi l bad).2.2 = true) := Lib.hid (by rw [E1.out]; simp [b2])
  clear b0
  go_wp2
  go_ret
  exact ⟨by rw [E0.out]; rfl, ⟨_, hr, by rw [E2.out]; exact clk_set1 (clk_set0 hg)⟩, grown_trans (grown_set _ _ _ _) (grown_set _ _ _ _)⟩
 ·have E2 : Hid ((clkNum lo hi l bad).2.2 = bad) := Lib.hid (by rw [E1.out]; simp [b0, b1, b2])
  clear b0
  go_wp2
  go_ret
  exact ⟨by rw [E0.out]; rfl, ⟨_, hr, by rw [E2.out]; exact clk_set0 hg⟩, grown_set _ _ _ _⟩

set_option maxHeartbeats 1000000 in
theorem clkSign_any (g : Nat) (l : Bs) (bad : Bool) (b : UInt8) (n : Int) (hb : n = b.toNat) (w : World) (hc : ClkAt w g l bad) (hlen : l.length ≤ 1000) :
  Calls Tryz.prog 53 #[.pointer (some ⟨g, 0, none⟩), .int .u8 n] w (ClkPost g w (.tuple #[]) (clkSign b l bad).1 (clkSign b l bad).2) := by
 subst hb
 obtain ⟨s, hs, hg⟩ := hc
 have hsz : s.size ≤ 1000 := by rw [hs.size]; exact hlen
 have c0 : w.cell? ⟨g, 0, none⟩ = some (.string s) := cell_of_row w g 0 _ 115 (0, 0) hg
 have c1 : w.cell? ⟨g, 1, none⟩ = some (.bool bad) := cell_of_row w g 1 _ 115 (0, 0) hg
 have z0 : w.frozen? ⟨g, 0, none⟩ = false := frozen_of_row w g 0 _ 115 hg
 have z1 : w.frozen? ⟨g, 1, none⟩ = false := frozen_of_row w g 1 _ 115 hg
 match l, hs with
 | [], hs =>
  have he : s.toList.isEmpty = true := by rw [Lib.toList_data, hs]; rfl
  have he2 : (!s.toList.isEmpty) = false := by rw [he]; rfl
  go_enter Tryz.func53, Tryz.ntmps53
  go_wp2
  go_end0
  exact ⟨rfl, ⟨_, hs, clk_set1 hg⟩, grown_set _ _ _ _⟩
 | c :: r, hs =>
  obtain ⟨h0, e0⟩ := hs.cons
  have he : s.toList.isEmpty = false := by rw [Lib.toList_data, hs]; rfl
  have he2 : (!s.toList.isEmpty) = true := by rw [he]; rfl
  have f1 := byte_neq c b
  by_cases h : c = b
  ·have e : clkSign b (c :: r) bad = (r, bad) := by simp [clkSign, h]
   rw [e]
   rw [show (!decide (c = b)) = false by simp [h]] at f1
   clear h e
   go_enter Tryz.func53, Tryz.ntmps53
   go_wp2
   go_end0
   exact ⟨rfl, ⟨_, hs.drop 1, clk_set0 hg⟩, grown_set _ _ _ _⟩
  ·have e : clkSign b (c :: r) bad = (c :: r, true) := by simp [clkSign, h]
   rw [e]
   rw [show (!decide (c = b)) = true by simp [h]] at f1
   clear h e
   go_enter Tryz.func53, Tryz.ntmps53
   go_wp2
   go_end0
   exact ⟨rfl, ⟨_, hs, clk_set1 hg⟩, grown_set _ _ _ _⟩

theorem dropWhile_yes {r : Bs} : (32 :: r).dropWhile (· = 32) = r.dropWhile (· = 32) := by simp
theorem dropWhile_no {c : UInt8} {r : Bs} (h : c ≠ 32) : (c :: r).dropWhile (· = 32) = c :: r := by simp [h]

set_option maxHeartbeats 2000000 in
theorem clkBlanks_any (g : Nat) (l : Bs) (bad : Bool) (w : World) (hc : ClkAt w g l bad) (hlen : l.length ≤ 1000) :
  Calls Tryz.prog 55 #[.pointer (some ⟨g, 0, none⟩)] w (ClkPost g w (.tuple #[]) (clkBlanks l bad).1 (clkBlanks l bad).2) := by
 obtain ⟨s, hs, hg⟩ := hc
 have hsz : s.size ≤ 1000 := by rw [hs.size]; exact hlen
 have c0 : w.cell? ⟨g, 0, none⟩ = some (.string s) := cell_of_row w g 0 _ 115 (0, 0) hg
 have c1 : w.cell? ⟨g, 1, none⟩ = some (.bool bad) := cell_of_row w g 1 _ 115 (0, 0) hg
 have z0 : w.frozen? ⟨g, 0, none⟩ = false := frozen_of_row w g 0 _ 115 hg
 have z1 : w.frozen? ⟨g, 1, none⟩ = false := frozen_of_row w g 1 _ 115 hg
 have hd : (clkBlanks l bad).1 = l.dropWhile (· = 32) := by
  cases l with
  | nil => rfl
  | cons c r =>
   by_cases h : c = 32
   ·subst h; simp [clkBlanks]
   ·simp [clkBlanks, h]
 rw [hd]
 have hb : (clkBlanks l bad).2 = if l.head? = some 32 then bad else true := by
  cases l with
  | nil => rfl
  | cons c r =>
   by_cases h : c = 32
   ·subst h; simp [clkBlanks]
   ·simp [clkBlanks, h]
 have HB := Lib.hid hb
 clear hd hb
 generalize (clkBlanks l bad).2 = b' at *
 have HG := Lib.hid hg
 clear hg
 have fin : ∀ (wc : World) (r : ByteArray), Hid (wc.heap[g]? = some (.cells #[.string r, .bool b'] 115 (0, 0))) → wc.cell? ⟨g, 0, none⟩ = some (.string r) ∧ wc.frozen? ⟨g, 0, none⟩ = false :=
  fun wc r h => ⟨cell_of_row wc g 0 _ 115 (0, 0) h.out, frozen_of_row wc g 0 _ 115 h.out⟩
 have FIN := Lib.hid fin
 clear fin
 go_enter Tryz.func55, Tryz.ntmps55
 go_upto_region 0 with fail
 go_cut [14] (fun v wc => v = .bool (!decide (l.head? = some 32)) ∧ w = wc)
 case first =>
  match l, hs with
  | [], hs =>
   have he : s.toList.isEmpty = true := by rw [Lib.toList_data, hs]; rfl
   have he2 : (!s.toList.isEmpty) = false := by rw [he]; rfl
   go_wp2
   go_meet
   case rel => exact ⟨rfl, rfl⟩
  | c :: r, hs =>
   obtain ⟨h0, e0⟩ := hs.cons
   have he : s.toList.isEmpty = false := by rw [Lib.toList_data, hs]; rfl
   have he2 : (!s.toList.isEmpty) = true := by rw [he]; rfl
   have f1 := show ((c.toNat : Int) != 32) = !decide (c = 32) from byte_neq c 32
   go_wp2
   go_meet
   case rel => exact ⟨by simp, rfl⟩
 case rest =>
 obtain ⟨rfl, rfl⟩ := hcut
 go_upto_if 14 with fail
 go_cut [] (fun wc => Hid (wc.heap[g]? = some (.cells #[.string s, .bool b'] 115 (0, 0))) ∧ Hid (w.grownBy wc (some g)))
 case first =>
  by_cases h : l.head? = some 32
  ·have hb : b' = bad := by rw [HB.out, if_pos h]
   have h2 : decide (l.head? = some 32) = true := by simpa using h
   rw [h2]
   clear h h2
   subst hb
   go_wp2
   go_meet
   case rel => exact ⟨HG, grown_refl _ _⟩
  ·have hb : b' = true := by rw [HB.out, if_neg h]
   have h2 : decide (l.head? = some 32) = false := by simpa using h
   rw [h2]
   clear h h2
   subst hb
   go_wp2
   go_meet
   case rel => exact ⟨clk_set1 HG.out, grown_set _ _ _ _⟩
 case rest =>
 obtain ⟨HG1, HW⟩ := hcut
 clear HG c0 c1 z0 z1 HB
 go_wp2
 go_loopg [] s.size (fun kq wr => ∃ r q, StrIs r q ∧ r.size ≤ kq ∧ r.size ≤ 1000 ∧ Hid (q.dropWhile (· = 32) = l.dropWhile (· = 32)) ∧ Hid (wr.heap[g]? = some (.cells #[.string r, .bool b'] 115 (0, 0))) ∧ Hid (w.grownBy wr (some g)))
 case atStart => exact ⟨s, l, hs, Nat.le_refl _, hsz, rfl, HG1, HW⟩
 case round =>
  clear HG1 HW hs hsz
  obtain ⟨r, q, hr, hk, hrl, HQ, HG, HW⟩ := hrel
  obtain ⟨c0, z0⟩ := FIN.out _ _ HG
  match q, hr with
  | [], hr =>
   have he : r.toList.isEmpty = true := by rw [Lib.toList_data, hr]; rfl
   have he2 : (!r.toList.isEmpty) = false := by rw [he]; rfl
   go_wp2
   go_end0
   exact ⟨rfl, ⟨r, by rw [← HQ.out]; exact hr, HG.out⟩, HW.out⟩
  | c :: q, hr =>
   obtain ⟨h0, e0⟩ := hr.cons
   have he : r.toList.isEmpty = false := by rw [Lib.toList_data, hr]; rfl
   have he2 : (!r.toList.isEmpty) = true := by rw [he]; rfl
   by_cases h : c = 32
   ·subst h
    have hr1 := hr.drop 1
    simp only [List.drop_succ_cons, List.drop_zero] at hr1
    have hx : (r.extract 1 r.size).size = r.size - 1 := by simp
    have HX := Lib.hid hx
    clear hx
    go_wp2
    go_roundg (gk - 1)
    case measure => omega
    case rel => exact ⟨_, q, hr1, by rw [HX.out]; omega, by rw [HX.out]; omega, Lib.hid (by rw [← HQ.out, dropWhile_yes]), Lib.hid (clk_set0 HG.out), Lib.hid (grown_trans HW.out (grown_set _ _ _ _))⟩
   ·have f1 := show ((c.toNat : Int) == 32) = false from byte_ne h
    have HC := Lib.hid h
    clear h
    go_wp2
    go_end0
    exact ⟨rfl, ⟨r, by rw [← HQ.out, dropWhile_no HC.out]; exact hr, HG.out⟩, HW.out⟩
end Go.Proofs.YtillamhoakohdaaGreatDoor
namespace Go.Proofs.YtillamhoakohdaaGreatDoor
open Go.RowKit
attribute [local go_sem] setCell_drewN

theorem nanoGo_yes {k : Nat} {n : Int} {c : UInt8} {l : Bs} (h : isDig c = true) : nanoGo k n (c :: l) = nanoGo (k + 1) (if k < 10 then 10 * n + dig c else n) l := by rw [nanoGo, if_pos h]
theorem nanoGo_no {k : Nat} {n : Int} {c : UInt8} {l : Bs} (h : ¬ isDig c = true) : nanoGo k n (c :: l) = (n, k, c :: l) := by rw [nanoGo, if_neg h]
theorem isDig_of {c : UInt8} (h : 48 ≤ (c.toNat : Int) ∧ (c.toNat : Int) ≤ 57) : isDig c = true := by simp [isDig]; omega
theorem isDig_not {c : UInt8} (h : ¬(48 ≤ (c.toNat : Int) ∧ (c.toNat : Int) ≤ 57)) : ¬ isDig c = true := by simp [isDig]; omega

def nanoIs (l : Bs) : Bool := match l with | c0 :: c1 :: _ => decide (c0 = 46 ∨ c0 = 44) && isDig c1 | _ => false

theorem pow_bd {n : Int} {k : Nat} (hk : k ≤ 9) (h : n < 10 ^ (k - 1)) : n ≤ 99999999 := by
 have : (10 : Int) ^ (k - 1) ≤ 10 ^ 8 := by
  have := Nat.pow_le_pow_right (show 0 < 10 by omega) (show k - 1 ≤ 8 by omega)
  exact_mod_cast this
 omega

set_option maxRecDepth 100000 in
set_option maxHeartbeats 4000000 in
theorem clkNano_any (g : Nat) (l : Bs) (bad : Bool) (w : World) (hc : ClkAt w g l bad) (hlen : l.length ≤ 1000) :
  Calls Tryz.prog 56 #[.pointer (some ⟨g, 0, none⟩)] w (ClkPost g w (.int .i64 (clkNano l).1) (clkNano l).2 bad) := by
 obtain ⟨s, hs, hg⟩ := hc
 have hsz : s.size ≤ 1000 := by rw [hs.size]; exact hlen
 have c0 : w.cell? ⟨g, 0, none⟩ = some (.string s) := cell_of_row w g 0 _ 115 (0, 0) hg
 have z0 : w.frozen? ⟨g, 0, none⟩ = false := frozen_of_row w g 0 _ 115 hg
 go_enter Tryz.func56, Tryz.ntmps56
 go_upto_region 1 with fail
 go_cut [43] (fun v wc => v = .bool (!nanoIs l) ∧ w = wc)
 case first =>
  match l, hs with
  | [], hs =>
   have hz : s.size < 2 := by have := hs.size; rw [this]; first | done | simp
   go_wp2
   go_meet
   case rel => exact ⟨rfl, rfl⟩
  | [_], hs =>
   have hz : s.size < 2 := by have := hs.size; rw [this]; first | done | simp
   go_wp2
   go_meet
   case rel => exact ⟨rfl, rfl⟩
  | a :: b :: r, hs =>
   obtain ⟨h0, h1, e0, e1⟩ := hs.cons2
   have hz : 2 ≤ s.size := by omega
   have k1 := show ((a.toNat : Int) != 46) = !decide (a = 46) from byte_neq a 46
   have k2 := show ((a.toNat : Int) != 44) = !decide (a = 44) from byte_neq a 44
   by_cases a1 : a = 46 ∨ a = 44
   ·by_cases b1 : 48 ≤ (b.toNat : Int)
    ·by_cases b2 : (b.toNat : Int) ≤ 57
     ·have e : nanoIs (a :: b :: r) = true := by simp [nanoIs, a1, isDig_of ⟨b1, b2⟩]
      rcases a1 with rfl | rfl
      ·go_wp2
       go_meet
       case rel => exact ⟨by rw [e]; first | rfl | (congr 1; simp; omega), rfl⟩
      ·go_wp2
       go_meet
       case rel => exact ⟨by rw [e]; first | rfl | (congr 1; simp; omega), rfl⟩
     ·have e : nanoIs (a :: b :: r) = false := by have := isDig_not (c := b) (by omega); simp [nanoIs, this]
      rcases a1 with rfl | rfl
      ·go_wp2
       go_meet
       case rel => exact ⟨by rw [e]; first | rfl | (congr 1; simp; omega), rfl⟩
      ·go_wp2
       go_meet
       case rel => exact ⟨by rw [e]; first | rfl | (congr 1; simp; omega), rfl⟩
    ·have e : nanoIs (a :: b :: r) = false := by have := isDig_not (c := b) (by omega); simp [nanoIs, this]
     rcases a1 with rfl | rfl
     ·go_wp2
      go_meet
      case rel => exact ⟨by rw [e]; first | rfl | (congr 1; simp; omega), rfl⟩
     ·go_wp2
      go_meet
      case rel => exact ⟨by rw [e]; first | rfl | (congr 1; simp; omega), rfl⟩
   ·have e : nanoIs (a :: b :: r) = false := by simp [nanoIs, a1]
    have a2 : a ≠ 46 := fun h => a1 (.inl h)
    have a3 : a ≠ 44 := fun h => a1 (.inr h)
    rw [show (!decide (a = 46)) = true by simp [a2]] at k1
    rw [show (!decide (a = 44)) = true by simp [a3]] at k2
    clear a1 a2 a3
    go_wp2
    go_meet
    case rel => exact ⟨by rw [e]; first | rfl | (congr 1; simp; omega), rfl⟩
 case rest =>
 obtain ⟨rfl, rfl⟩ := hcut
 cases hn : nanoIs l
 ·have e : clkNano l = (0, l) := by
   match l with
   | [] => rfl
   | [_] => rfl
   | a :: b :: r => simp [nanoIs] at hn; simp only [clkNano]; rw [if_neg (by rintro ⟨h1, h2⟩; rw [hn h1] at h2; cases h2)]
  have E := Lib.hid e
  clear hn e
  go_wp2
  go_ret
  rw [E.out]
  exact ⟨rfl, ⟨s, hs, hg⟩, grown_refl _ _⟩
 ·match l, hs, hn with
  | a :: b :: r, hs, hn =>
  have e : clkNano (a :: b :: r) = ((nanoGo 1 0 (b :: r)).1 * 10 ^ (10 - (nanoGo 1 0 (b :: r)).2.1), (nanoGo 1 0 (b :: r)).2.2) := by
   simp [nanoIs] at hn; simp only [clkNano]; rw [if_pos (by simpa using hn)]
  have E := Lib.hid e
  clear hn e
  have hd : s.data.toList.drop 1 = b :: r := by have := hs; unfold StrIs at this; rw [this]; rfl
  have HD := Lib.hid hd
  clear hd
  generalize hN : nanoGo 1 0 (b :: r) = N at *
  obtain ⟨nv, kv, rest⟩ := N
  have HN : Hid (nanoGo 1 0 (s.data.toList.drop 1) = (nv, kv, rest)) := Lib.hid (by rw [HD.out, hN])
  have h1z : 1 ≤ s.size := by rw [hs.size]; simp
  clear hN HD
  go_upto_block 0 with fail
  go_cut [3, 4] (fun n i wc => ∃ k : Nat, kv = k ∧ 1 ≤ k ∧ k ≤ s.size ∧ i = .int .i64 k ∧ n = .int .i64 nv ∧ 0 ≤ nv ∧ nv ≤ 999999999 ∧ Hid (k ≤ 10 → nv < 10 ^ (k - 1)) ∧ Hid (s.data.toList.drop k = rest) ∧ w = wc)
  case first =>
   go_wp2
   go_loop [3, 4] (fun n i => ∃ (k : Nat) (m : Int), 1 ≤ k ∧ k ≤ s.size ∧ i = .int .i64 k ∧ n = .int .i64 m ∧ 0 ≤ m ∧ m ≤ 999999999 ∧ Hid (k ≤ 10 → m < 10 ^ (k - 1)) ∧ Hid (nanoGo k m (s.data.toList.drop k) = (nv, kv, rest))) (fun _ i => s.size - (intOf i).toNat)
   case atStart => exact ⟨1, 0, by omega, h1z, rfl, rfl, by omega, by omega, Lib.hid (fun _ => by simp), HN⟩
   case round =>
    clear HN
    obtain ⟨k, m, hk1, hks, rfl, rfl, hm0, hm1, HB, HN⟩ := hrel
    by_cases hlt : k < s.size
    ·have hdr := Lib.hid (drop_cons s k hlt)
     by_cases d1 : 48 ≤ (s[k].toNat : Int)
     ·by_cases d2 : (s[k].toNat : Int) ≤ 57
      ·by_cases k10 : k < 10
       ·have hb := pow_bd (by omega) (HB.out (by omega))
        have HN2 : Hid (nanoGo (k + 1) (10 * m + (s[k].toNat - 48)) (s.data.toList.drop (k + 1)) = (nv, kv, rest)) := Lib.hid (by
         rw [← HN.out, hdr.out, nanoGo_yes (isDig_of ⟨d1, d2⟩), if_pos k10]; rfl)
        have HB2 : Hid (k + 1 ≤ 10 → 10 * m + ((s[k].toNat : Int) - 48) < 10 ^ (k + 1 - 1)) := Lib.hid (fun _ => by
         have h1 := HB.out (by omega)
         have e : (10 : Int) ^ (k + 1 - 1) = 10 * 10 ^ (k - 1) := by
          rw [show k + 1 - 1 = (k - 1) + 1 by omega, Int.pow_succ]; omega
         rw [e]; omega)
        clear HB HN
        go_wp2
        go_round
        case rel => exact ⟨k + 1, _, by omega, by omega, by go_num, rfl, by omega, by omega, HB2, HN2⟩
        case measure => simp [intOf]; omega
       ·have HN2 : Hid (nanoGo (k + 1) m (s.data.toList.drop (k + 1)) = (nv, kv, rest)) := Lib.hid (by
         rw [← HN.out, hdr.out, nanoGo_yes (isDig_of ⟨d1, d2⟩), if_neg k10])
        have HB2 : Hid (k + 1 ≤ 10 → m < 10 ^ (k + 1 - 1)) := Lib.hid (fun h => absurd h (by omega))
        clear HB HN
        go_wp2
        go_round
        case rel => exact ⟨k + 1, _, by omega, by omega, by go_num, rfl, by omega, by omega, HB2, HN2⟩
        case measure => simp [intOf]; omega
      ·have HE : Hid ((m, k, s.data.toList.drop k) = (nv, kv, rest)) := Lib.hid (by rw [← HN.out, hdr.out, nanoGo_no (isDig_not (by omega))])
       clear HN
       go_wp2
       go_meet
       case rel =>
        have h := HE.out
        simp only [Prod.mk.injEq] at h
        obtain ⟨rfl, rfl, h3⟩ := h
        exact ⟨k, rfl, hk1, hks, rfl, rfl, hm0, hm1, HB, h3, rfl⟩
     ·have HE : Hid ((m, k, s.data.toList.drop k) = (nv, kv, rest)) := Lib.hid (by rw [← HN.out, hdr.out, nanoGo_no (isDig_not (by omega))])
      clear HN
      go_wp2
      go_meet
      case rel =>
       have h := HE.out
       simp only [Prod.mk.injEq] at h
       obtain ⟨rfl, rfl, h3⟩ := h
       exact ⟨k, rfl, hk1, hks, rfl, rfl, hm0, hm1, HB, h3, rfl⟩
    ·have HE : Hid ((m, k, s.data.toList.drop k) = (nv, kv, rest)) := Lib.hid (by rw [← HN.out, List.drop_eq_nil_of_le (by have := Lib.size_eq s; omega)]; rfl)
     clear HN
     go_wp2
     go_meet
     case rel =>
      have h := HE.out
      simp only [Prod.mk.injEq] at h
      obtain ⟨rfl, rfl, h3⟩ := h
      exact ⟨k, rfl, hk1, hks, rfl, rfl, hm0, hm1, HB, h3, rfl⟩
  case rest =>
  clear HN
  obtain ⟨k, rfl, hk1, hks, rfl, rfl, hn0, hn1, HB, HD, rfl⟩ := hcut
  have hr : StrIs (s.extract kv s.size) rest := by unfold StrIs; rw [Lib.extract_to_end, HD.out]
  go_wp2
  go_loop [3, 5] (fun n i => ∃ (j : Nat) (m : Int), kv ≤ j ∧ (j ≤ 10 ∨ j = kv) ∧ i = .int .i64 j ∧ n = .int .i64 m ∧ 0 ≤ m ∧ m ≤ 999999999 ∧ Hid (j ≤ 10 → m < 10 ^ (j - 1)) ∧ Hid (m * 10 ^ (10 - j) = nv * 10 ^ (10 - kv))) (fun _ i => 10 - (intOf i).toNat)
  case atStart => exact ⟨kv, nv, Nat.le_refl _, .inr rfl, rfl, rfl, hn0, hn1, HB, Lib.hid rfl⟩
  case round =>
   clear HB hn0 hn1
   obtain ⟨j, m, hj, hj2, rfl, rfl, hm0, hm1, HB, HM⟩ := hrel
   by_cases hlt : j < 10
   ·have hb := pow_bd (by omega) (HB.out (by omega))
    have HB2 : Hid (j + 1 ≤ 10 → m * 10 < 10 ^ (j + 1 - 1)) := Lib.hid (fun _ => by
     have h1 := HB.out (by omega)
     have e : (10 : Int) ^ (j + 1 - 1) = 10 * 10 ^ (j - 1) := by
      rw [show j + 1 - 1 = (j - 1) + 1 by omega, Int.pow_succ]; omega
     rw [e]; omega)
    have HM2 : Hid (m * 10 * 10 ^ (10 - (j + 1)) = nv * 10 ^ (10 - kv)) := Lib.hid (by
     rw [← HM.out, show 10 - j = (10 - (j + 1)) + 1 by omega, Int.pow_succ, Int.mul_assoc, Int.mul_comm 10])
    clear HB HM hj2
    go_wp2
    go_round
    case rel => exact ⟨j + 1, m * 10, by omega, .inl (by omega), by go_num, rfl, by omega, by omega, HB2, HM2⟩
    case measure => simp [intOf]; omega
   ·have HM2 : Hid (m = nv * 10 ^ (10 - kv)) := Lib.hid (by rw [← HM.out, show 10 - j = 0 by omega]; simp)
    clear HM HB hj2
    go_wp2
    go_ret
    rw [E.out]
    exact ⟨ret_int (by rw [HM2.out]), ⟨_, hr, clk_set0 hg⟩, grown_set _ _ _ _⟩
end Go.Proofs.YtillamhoakohdaaGreatDoor
namespace Go.Proofs.YtillamhoakohdaaGreatDoor
open Go.RowKit
attribute [local go_sem] setCell_drewN

set_option maxHeartbeats 2000000 in
theorem ylDays_any (y m : Int) (w : World) (hy0 : 0 ≤ y) (hy1 : y ≤ 9999) (hm0 : 0 ≤ m) (hm1 : m ≤ 99) :
  Calls Tryz.prog 54 #[.int .i64 y, .int .i64 m] w fun e w' => e = .returned (.int .i64 (daysOf y m)) ∧ w = w' := by
 by_cases h2 : m = 2
 ·have e : daysOf y m = if y.tmod 4 = 0 ∧ (y.tmod 100 ≠ 0 ∨ y.tmod 400 = 0) then 29 else 28 := by simp [daysOf, h2]
  have E := Lib.hid e
  clear e
  subst h2
  have q4 : y.tmod 4 = y % 4 := Int.tmod_eq_emod_of_nonneg hy0
  have q100 : y.tmod 100 = y % 100 := Int.tmod_eq_emod_of_nonneg hy0
  have q400 : y.tmod 400 = y % 400 := Int.tmod_eq_emod_of_nonneg hy0
  have E2 : Hid (daysOf y 2 = if y % 4 = 0 ∧ (y % 100 ≠ 0 ∨ y % 400 = 0) then 29 else 28) := Lib.hid (by rw [E.out, q4, q100, q400])
  clear q4 q100 q400 E
  by_cases a4 : y % 4 = 0
  ·have b4 : (y % 4 == 0) = true := by simpa using a4
   by_cases a100 : y % 100 = 0
   ·have b100 : (y % 100 != 0) = false := by simpa using a100
    have b100' : (y % 100 == 0) = true := by simpa using a100
    by_cases a400 : y % 400 = 0
    ·have b400 : (y % 400 == 0) = true := by simpa using a400
     have E3 : Hid (daysOf y 2 = 29) := Lib.hid (by rw [E2.out, if_pos ⟨a4, .inr a400⟩])
     clear a4 a100 a400
     go_enter Tryz.func54, Tryz.ntmps54
     go_wp2
     go_ret
     exact ⟨ret_int (by rw [E3.out]), rfl⟩
    ·have b400 : (y % 400 == 0) = false := by simpa using a400
     have E3 : Hid (daysOf y 2 = 28) := Lib.hid (by rw [E2.out, if_neg (by rintro ⟨_, h | h⟩ <;> contradiction)])
     clear a4 a100 a400
     go_enter Tryz.func54, Tryz.ntmps54
     go_wp2
     go_ret
     exact ⟨ret_int (by rw [E3.out]), rfl⟩
   ·have b100 : (y % 100 != 0) = true := by simpa using a100
    have b100' : (y % 100 == 0) = false := by simpa using a100
    have E3 : Hid (daysOf y 2 = 29) := Lib.hid (by rw [E2.out, if_pos ⟨a4, .inl a100⟩])
    clear a4 a100
    go_enter Tryz.func54, Tryz.ntmps54
    go_wp2
    go_ret
    exact ⟨ret_int (by rw [E3.out]), rfl⟩
  ·have b4 : (y % 4 == 0) = false := by simpa using a4
   have E3 : Hid (daysOf y 2 = 28) := Lib.hid (by rw [E2.out, if_neg (by rintro ⟨h, _⟩; contradiction)])
   clear a4
   go_enter Tryz.func54, Tryz.ntmps54
   go_wp2
   go_ret
   exact ⟨ret_int (by rw [E3.out]), rfl⟩
 ·have k2 : (m == 2) = false := by simpa using h2
  have e : daysOf y m = if m = 4 ∨ m = 6 ∨ m = 9 ∨ m = 11 then 30 else 31 := by simp [daysOf, h2]
  have E := Lib.hid e
  clear e h2
  by_cases h4 : m = 4
  ·have k4 : (m == 4) = true := by simpa using h4
   have E3 : Hid (daysOf y m = 30) := Lib.hid (by rw [E.out, if_pos (by omega)])
   clear h4
   go_enter Tryz.func54, Tryz.ntmps54
   go_wp2
   go_ret
   exact ⟨ret_int (by rw [E3.out]), rfl⟩
  have k4 : (m == 4) = false := by simpa using h4
  by_cases h6 : m = 6
  ·have k6 : (m == 6) = true := by simpa using h6
   have E3 : Hid (daysOf y m = 30) := Lib.hid (by rw [E.out, if_pos (by omega)])
   clear h4 h6
   go_enter Tryz.func54, Tryz.ntmps54
   go_wp2
   go_ret
   exact ⟨ret_int (by rw [E3.out]), rfl⟩
  have k6 : (m == 6) = false := by simpa using h6
  by_cases h9 : m = 9
  ·have k9 : (m == 9) = true := by simpa using h9
   have E3 : Hid (daysOf y m = 30) := Lib.hid (by rw [E.out, if_pos (by omega)])
   clear h4 h6 h9
   go_enter Tryz.func54, Tryz.ntmps54
   go_wp2
   go_ret
   exact ⟨ret_int (by rw [E3.out]), rfl⟩
  have k9 : (m == 9) = false := by simpa using h9
  by_cases h11 : m = 11
  ·have k11 : (m == 11) = true := by simpa using h11
   have E3 : Hid (daysOf y m = 30) := Lib.hid (by rw [E.out, if_pos (by omega)])
   clear h4 h6 h9 h11
   go_enter Tryz.func54, Tryz.ntmps54
   go_wp2
   go_ret
   exact ⟨ret_int (by rw [E3.out]), rfl⟩
  have k11 : (m == 11) = false := by simpa using h11
  have E3 : Hid (daysOf y m = 31) := Lib.hid (by rw [E.out, if_neg (by omega)])
  clear h4 h6 h9 h11
  go_enter Tryz.func54, Tryz.ntmps54
  go_wp2
  go_ret
  exact ⟨ret_int (by rw [E3.out]), rfl⟩
end Go.Proofs.YtillamhoakohdaaGreatDoor
namespace Go.Proofs.YtillamhoakohdaaGreatDoor
open Go.RowKit
attribute [local go_sem] setCell_drewN

def ZonePost (g : Nat) (l : Bs) (bad : Bool) (w : World) (e : Ending) (w' : World) : Prop :=
 (∃ z, zoneOf l = some z ∧ ClkPost g w (.int .i64 z) [] bad e w') ∨ (zoneOf l = none ∧ ∃ v l', ClkPost g w (.int .i64 v) l' true e w')

theorem zone_some {g : Nat} {l : Bs} {bad : Bool} {w w' : World} {z : Int} {r : ByteArray} (h : zoneOf l = some z) (hr : StrIs r []) (hg : w'.heap[g]? = some (.cells #[.string r, .bool bad] 115 (0, 0))) (hw : w.grownBy w' (some g)) :
  ZonePost g l bad w (.returned (.int .i64 z)) w' := .inl ⟨z, h, rfl, ⟨r, hr, hg⟩, hw⟩
theorem zone_none {g : Nat} {l l' : Bs} {bad : Bool} {w w' : World} {z : Int} {r : ByteArray} (h : zoneOf l = none) (hr : StrIs r l') (hg : w'.heap[g]? = some (.cells #[.string r, .bool true] 115 (0, 0))) (hw : w.grownBy w' (some g)) :
  ZonePost g l bad w (.returned (.int .i64 z)) w' := .inr ⟨h, z, l', rfl, ⟨r, hr, hg⟩, hw⟩

theorem len5 {l : Bs} (h : l.length = 5) : ∃ a b c d e, l = [a, b, c, d, e] := by
 match l, h with
 | [a, b, c, d, e], _ => exact ⟨a, b, c, d, e, rfl⟩
def zoneIs (l : Bs) : Bool := (sgn l).2.2 && (match (sgn l).1 with | [_, _, c, _, _] => decide (c = 58) | _ => false)
theorem zoneIs_yes {l : Bs} (h : zoneIs l = true) : (sgn l).2.2 = true ∧ ∃ a b d e, (sgn l).1 = [a, b, 58, d, e] := by
 unfold zoneIs at h
 simp only [Bool.and_eq_true] at h
 refine ⟨h.1, ?_⟩
 have h2 := h.2
 split at h2
 ·rename_i a b c d e he
  simp at h2
  subst h2
  exact ⟨a, b, d, e, he⟩
 ·cases h2
theorem zoneOf_no {l : Bs} (h0 : l ≠ [90]) (h : zoneIs l = false) : zoneOf l = none := by
 unfold zoneOf
 rw [if_neg h0]
 split
 ·rename_i a b c d e neg he
  unfold zoneIs at h
  rw [he] at h
  simp at h
  rw [if_neg h]
 ·rfl
theorem zoneOf_yes {l : Bs} {a b d e : UInt8} (h0 : l ≠ [90]) (h1 : (sgn l).2.2 = true) (h2 : (sgn l).1 = [a, b, 58, d, e]) :
  zoneOf l = zoneNum (sgn l).2.1 (amount [a, b] 10) (amount [d, e] 10) := by
 unfold zoneOf
 rw [if_neg h0]
 have : sgn l = ([a, b, 58, d, e], (sgn l).2.1, true) := by rw [← h1, ← h2]
 rw [this]
 simp

set_option maxRecDepth 100000 in
set_option maxHeartbeats 4000000 in
theorem clkZone_any (g : Nat) (l : Bs) (bad : Bool) (w : World) (hc : ClkAt w g l bad) (hlen : l.length ≤ 1000) :
  Calls Tryz.prog 57 #[.pointer (some ⟨g, 0, none⟩)] w (ZonePost g l bad w) := by
 obtain ⟨s, hs, hg⟩ := hc
 have hsz : s.size ≤ 1000 := by rw [hs.size]; exact hlen
 have c0 : w.cell? ⟨g, 0, none⟩ = some (.string s) := cell_of_row w g 0 _ 115 (0, 0) hg
 have c1 : w.cell? ⟨g, 1, none⟩ = some (.bool bad) := cell_of_row w g 1 _ 115 (0, 0) hg
 have z0 : w.frozen? ⟨g, 0, none⟩ = false := frozen_of_row w g 0 _ 115 hg
 have z1 : w.frozen? ⟨g, 1, none⟩ = false := frozen_of_row w g 1 _ 115 hg
 have hst : s.toList = l := by rw [Lib.toList_data]; exact hs
 have HST := Lib.hid hst
 clear hst
 go_enter Tryz.func57, Tryz.ntmps57
 go_upto_region 1 with fail
 go_cut [14] (fun v wc => v = .bool (decide (l = [90])) ∧ w = wc)
 case first =>
  go_wp2
  go_meet
  case rel => exact ⟨by rw [HST.out]; simp; rw [Bool.eq_iff_iff]; simp, rfl⟩
 case rest =>
 obtain ⟨rfl, rfl⟩ := hcut
 by_cases hZ : l = [90]
 ·rw [show decide (l = [90]) = true by simpa using hZ]
  have hz : zoneOf l = some 0 := by rw [hZ]; rfl
  have HZ := Lib.hid hz
  clear hz hZ
  go_wp2
  go_ret
  exact zone_some (r := ⟨#[]⟩) HZ.out rfl (clk_set0 hg) (grown_set _ _ _ _)
 rw [show decide (l = [90]) = false by simpa using hZ]
 go_wp2_with fail
 refine (ylSign_any s l _ hs (by unfold maxLen; omega)).mono ?_
 rintro e w' ⟨⟨n, rfl⟩, r, hr, rfl⟩
 have hno : zoneIs l = false → Hid (zoneOf l = none) := fun h => Lib.hid (zoneOf_no hZ h)
 have HNO := Lib.hid hno
 clear hno
 have hrs := hr.size
 cases hsg : (sgn l).2.2
 ·have HZ := HNO.out (by simp [zoneIs, hsg])
  clear hZ hrs hsg
  go_wp2
  go_ret
  exact zone_none HZ.out hs (clk_set1 hg) (grown_trans (grown_set _ _ _ _) (grown_drewN _ _ _))
 by_cases h5 : r.size = 5
 rotate_left
 ·have HZ := HNO.out (by
   unfold zoneIs
   rw [hsg]
   split
   ·rename_i a b c d e' he
    rw [he] at hrs; simp at hrs; omega
   ·rfl)
  have k5 : ((r.size : Int) != 5) = true := by rw [bne_iff_ne]; omega
  clear hZ hrs h5
  go_wp2
  go_ret
  exact zone_none HZ.out hs (clk_set1 hg) (grown_trans (grown_set _ _ _ _) (grown_drewN _ _ _))
 obtain ⟨a, b, c, d, e, hse⟩ := len5 (l := (sgn l).1) (by omega)
 rw [hse] at hr
 have h5' : (r.size : Int) = 5 := by omega
 have k5 : ((r.size : Int) != 5) = false := by rw [bne_eq_false_iff_eq]; exact h5'
 have hlt : 2 < r.size := by omega
 have hc2 : r[2] = c := by have := hr.get 2 hlt; simpa using this.symm
 have hr5' : 5 ≤ r.size := by omega
 have HR5 := Lib.hid h5
 clear hrs h5 h5'
 by_cases hc58 : c = 58
 rotate_left
 ·have HZ := HNO.out (by simp [zoneIs, hse, hc58])
  have f1 := show ((c.toNat : Int) != 58) = !decide (c = 58) from byte_neq c 58
  rw [show (!decide (c = 58)) = true by simpa using hc58] at f1
  clear hZ hse hc58
  go_wp2
  go_ret
  exact zone_none HZ.out hs (clk_set1 hg) (grown_trans (grown_set _ _ _ _) (grown_drewN _ _ _))
 ·subst hc58
  have hzz := zoneOf_yes hZ hsg hse
  have HZZ := Lib.hid hzz
  clear hzz hZ hse HNO
  have hx1 : StrIs (r.extract 0 2) [a, b] := by unfold StrIs; rw [Lib.extract_data, hr]; rfl
  have hx2 : StrIs (r.extract 3 r.size) [d, e] := hr.drop 3
  have hx1z : (r.extract 0 2).size ≤ maxLen := by rw [hx1.size]; simp [maxLen]
  have hx2z : (r.extract 3 r.size).size ≤ maxLen := by rw [hx2.size]; simp [maxLen]
  go_wp2_with fail
  refine (ylAmount_any _ [a, b] 10 _ hx1 hx1z (by omega) (by omega)).mono ?_
  rintro e w' ⟨rfl, hA⟩
  have HA : ∃ (h : Int) (ok : Bool), e = .returned (.tuple #[.int .u64 h, .bool ok]) ∧ (ok = false → amount [a, b] 10 = none) ∧ (ok = true → amount [a, b] 10 = some h ∧ 0 ≤ h ∧ Hid (h ≤ 18446744073709551615)) := by
   rcases hA with ⟨h1, m, rfl⟩ | ⟨m, h1, h2, h3, rfl⟩
   ·exact ⟨m, false, rfl, (fun _ => h1), (fun h => by cases h)⟩
   ·exact ⟨m, true, rfl, (fun h => by cases h), (fun _ => ⟨h1, h2, h3⟩)⟩
  obtain ⟨h, ok1, rfl, ha0, ha1⟩ := HA
  have HA0 := Lib.hid ha0
  have HA1 := Lib.hid ha1
  clear ha0 ha1 hA
  go_wp2_with fail
  refine (ylAmount_any _ [d, e] 10 _ hx2 hx2z (by omega) (by omega)).mono ?_
  rintro e2 w' ⟨rfl, hA⟩
  have HB : ∃ (h : Int) (ok : Bool), e2 = .returned (.tuple #[.int .u64 h, .bool ok]) ∧ (ok = false → amount [d, e] 10 = none) ∧ (ok = true → amount [d, e] 10 = some h ∧ 0 ≤ h ∧ Hid (h ≤ 18446744073709551615)) := by
   rcases hA with ⟨h1, m, rfl⟩ | ⟨m, h1, h2, h3, rfl⟩
   ·exact ⟨m, false, rfl, (fun _ => h1), (fun h => by cases h)⟩
   ·exact ⟨m, true, rfl, (fun h => by cases h), (fun _ => ⟨h1, h2, h3⟩)⟩
  obtain ⟨m, ok2, rfl, hb0, hb1⟩ := HB
  have HB0 := Lib.hid hb0
  have HB1 := Lib.hid hb1
  clear hb0 hb1 hA
  have hw : w.grownBy (((w.drewN n).setCell ⟨g, 1, none⟩ (.bool true)).setCell ⟨g, 0, none⟩ (.string ⟨#[]⟩)) (some g) :=
   grown_trans (grown_trans (grown_drewN _ n _) (grown_set _ _ _ _)) (grown_set _ _ _ _)
  have HW := Lib.hid hw
  clear hw
  cases ok1
  ·have HZ : Hid (zoneOf l = none) := Lib.hid (by rw [HZZ.out, HA0.out rfl]; rfl)
   clear HZZ HA0 HA1 HB0 HB1
   go_wp2
   all_goals
    go_ret
    exact zone_none (r := ⟨#[]⟩) HZ.out rfl (clk_set0 (clk_set1 hg)) HW.out
  cases ok2
  ·have HZ : Hid (zoneOf l = none) := Lib.hid (by rw [HZZ.out, HB0.out rfl]; cases amount [a, b] 10 <;> rfl)
   clear HZZ HA0 HA1 HB0 HB1
   go_wp2
   all_goals
    go_ret
    exact zone_none (r := ⟨#[]⟩) HZ.out rfl (clk_set0 (clk_set1 hg)) HW.out
  obtain ⟨ha1, ha2, ha3⟩ := HA1.out rfl
  obtain ⟨hb1, hb2, hb3⟩ := HB1.out rfl
  have HZ1 : Hid (zoneOf l = zoneNum (sgn l).2.1 (some h) (some m)) := Lib.hid (by rw [HZZ.out, ha1, hb1])
  clear HZZ HA0 HA1 HB0 HB1 ha1 hb1
  by_cases h24 : h ≤ 24
  rotate_left
  ·have HZ : Hid (zoneOf l = none) := Lib.hid (by rw [HZ1.out]; simp [zoneNum, h24])
   clear HZ1
   go_wp2
   all_goals
    go_ret
    exact zone_none (r := ⟨#[]⟩) HZ.out rfl (clk_set0 (clk_set1 hg)) HW.out
  by_cases m60 : m ≤ 60
  rotate_left
  ·have HZ : Hid (zoneOf l = none) := Lib.hid (by rw [HZ1.out]; simp [zoneNum, m60])
   clear HZ1
   go_wp2
   all_goals
    go_ret
    exact zone_none (r := ⟨#[]⟩) HZ.out rfl (clk_set0 (clk_set1 hg)) HW.out
  have HZ : Hid (zoneOf l = some (if (sgn l).2.1 = true then -(h * 3600 + m * 60) else h * 3600 + m * 60)) := Lib.hid (by rw [HZ1.out]; simp [zoneNum, h24, m60])
  clear HZ1 HW
  cases hneg : (sgn l).2.1
  ·have HZ2 : Hid (zoneOf l = some (h * 3600 + m * 60)) := Lib.hid (by rw [HZ.out, hneg]; rfl)
   clear HZ hneg
   go_wp2
   go_ret
   exact zone_some (r := ⟨#[]⟩) HZ2.out rfl (clk_set0 hg) (grown_trans (grown_set _ _ _ _) (grown_drewN _ _ _))
  ·have HZ2 : Hid (zoneOf l = some (-(h * 3600 + m * 60))) := Lib.hid (by rw [HZ.out, hneg]; rfl)
   clear HZ hneg
   go_wp2
   go_ret
   exact zone_some (r := ⟨#[]⟩) HZ2.out rfl (clk_set0 hg) (grown_trans (grown_set _ _ _ _) (grown_drewN _ _ _))
end Go.Proofs.YtillamhoakohdaaGreatDoor

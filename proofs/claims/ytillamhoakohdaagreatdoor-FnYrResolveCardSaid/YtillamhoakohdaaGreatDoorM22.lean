/-
  Walks: the program's whole numbers. Walks: the light ParseFloat's small functions.
-/
import Derived.Lib.ConvBytes
import Derived.Test.YtillamhoakohdaaGreatDoorM11
import Derived.Test.YtillamhoakohdaaGreatDoorM17
import Derived.Test.YtillamhoakohdaaGreatDoorM21
set_option linter.unusedVariables false
set_option linter.unusedSimpArgs false
namespace Go.Proofs.YtillamhoakohdaaGreatDoor
open Go.RowKit

theorem or32_all : ∀ n : Fin 256, bits .or .u8 (n.val : Int) 32 = ((UInt8.ofNat n.val ||| 32).toNat : Int) := by decide +kernel
theorem or32 (c : UInt8) : bits .or .u8 (c.toNat : Int) 32 = ((c ||| 32).toNat : Int) := by
 have h := or32_all ⟨c.toNat, c.toNat_lt⟩
 simpa using h
theorem lower_any (c : UInt8) (w : World) : Calls Tryz.prog 98 #[.int .u8 c.toNat] w fun e w' => e = .returned (.int .u8 (c ||| 32).toNat) ∧ w = w' := by
 have h := or32 c
 generalize (c ||| 32).toNat = d at *
 go_enter Tryz.func98, Tryz.ntmps98
 go_wp2
 go_ret
 exact ⟨rfl, rfl⟩
theorem lower_is : ∀ c : UInt8, ((c ||| 32) = 98 ↔ c = 98 ∨ c = 66) ∧ ((c ||| 32) = 111 ↔ c = 111 ∨ c = 79) ∧ ((c ||| 32) = 120 ↔ c = 120 ∨ c = 88) := by
 have h : ∀ n : Fin 256, ((UInt8.ofNat n.val ||| 32) = 98 ↔ UInt8.ofNat n.val = 98 ∨ UInt8.ofNat n.val = 66) ∧ ((UInt8.ofNat n.val ||| 32) = 111 ↔ UInt8.ofNat n.val = 111 ∨ UInt8.ofNat n.val = 79) ∧ ((UInt8.ofNat n.val ||| 32) = 120 ↔ UInt8.ofNat n.val = 120 ∨ UInt8.ofNat n.val = 88) := by decide +kernel
 intro c
 have := h ⟨c.toNat, c.toNat_lt⟩
 simpa using this
theorem digP_is : ∀ c : UInt8, (48 ≤ c.toNat ∧ c.toNat ≤ 57 ∧ digV c.toNat = (c.toNat : Int) - 48) ∨ (¬ (48 ≤ c.toNat ∧ c.toNat ≤ 57) ∧ 97 ≤ (c ||| 32).toNat ∧ (c ||| 32).toNat ≤ 102 ∧ digV c.toNat = ((c ||| 32).toNat : Int) - 87) ∨
  (¬ (48 ≤ c.toNat ∧ c.toNat ≤ 57) ∧ 103 ≤ (c ||| 32).toNat ∧ (c ||| 32).toNat ≤ 122 ∧ digV c.toNat = 99) ∨ (¬ (48 ≤ c.toNat ∧ c.toNat ≤ 57) ∧ ¬ (97 ≤ (c ||| 32).toNat ∧ (c ||| 32).toNat ≤ 122) ∧ digV c.toNat = 99) := by
 have h : ∀ n : Fin 256, (48 ≤ (UInt8.ofNat n.val).toNat ∧ (UInt8.ofNat n.val).toNat ≤ 57 ∧ digV (UInt8.ofNat n.val).toNat = ((UInt8.ofNat n.val).toNat : Int) - 48) ∨ (¬ (48 ≤ (UInt8.ofNat n.val).toNat ∧ (UInt8.ofNat n.val).toNat ≤ 57) ∧ 97 ≤ (UInt8.ofNat n.val ||| 32).toNat ∧ (UInt8.ofNat n.val ||| 32).toNat ≤ 102 ∧ digV (UInt8.ofNat n.val).toNat = ((UInt8.ofNat n.val ||| 32).toNat : Int) - 87) ∨
  (¬ (48 ≤ (UInt8.ofNat n.val).toNat ∧ (UInt8.ofNat n.val).toNat ≤ 57) ∧ 103 ≤ (UInt8.ofNat n.val ||| 32).toNat ∧ (UInt8.ofNat n.val ||| 32).toNat ≤ 122 ∧ digV (UInt8.ofNat n.val).toNat = 99) ∨ (¬ (48 ≤ (UInt8.ofNat n.val).toNat ∧ (UInt8.ofNat n.val).toNat ≤ 57) ∧ ¬ (97 ≤ (UInt8.ofNat n.val ||| 32).toNat ∧ (UInt8.ofNat n.val ||| 32).toNat ≤ 122) ∧ digV (UInt8.ofNat n.val).toNat = 99) := by decide +kernel
 intro c
 have := h ⟨c.toNat, c.toNat_lt⟩
 simpa only [UInt8.ofNat_toNat] using this
@[go_sem] theorem conv_9_60 (w : World) (s : ByteArray) : (convert 9 60 (.string s)).run Tryz.prog w = .ok (.slice (some ⟨w.heap.size, 0, none⟩) s.size (grownCap w s.size 0 5)) (Lib.bytesWorld w 5 s) :=
 Lib.run_convert_string_bytes (P := Tryz.prog) w 9 60 5 s Tryz.underlying9 Tryz.underlying60 Tryz.underlying5

def baseP : Bs → Bs × Int
 | c0 :: c1 :: c2 :: r => if c0 = 48 then (if c1 ||| 32 = 98 then (c2 :: r, 2) else if c1 ||| 32 = 111 then (c2 :: r, 8) else if c1 ||| 32 = 120 then (c2 :: r, 16) else (c1 :: c2 :: r, 8)) else (c0 :: c1 :: c2 :: r, 10)
 | c0 :: r => if c0 = 48 then (r, 8) else (c0 :: r, 10)
 | [] => ([], 10)
def uintP (b : Int) (l : Bs) : Option Int :=
 if l = [] then none else if b = 0 then amt (baseP l).2 0 (baseP l).1 else amt b 0 l
def errSyntax : Value := .iface 134 (.string ⟨#[105, 110, 118, 97, 108, 105, 100, 32, 115, 121, 110, 116, 97, 120]⟩)
def errRange : Value := .iface 134 (.string ⟨#[118, 97, 108, 117, 101, 32, 111, 117, 116, 32, 111, 102, 32, 114, 97, 110, 103, 101]⟩)
def UintPost (x : Option Int) (w : World) (e : Ending) (w' : World) : Prop := Below w.heap.size w w' ∧
  ((∃ n, x = some n ∧ 0 ≤ n ∧ n ≤ 18446744073709551615 ∧ e = .returned (.tuple #[.int .u64 n, .nilIface])) ∨
   (x = none ∧ (e = .returned (.tuple #[.int .u64 0, errSyntax]) ∨ e = .returned (.tuple #[.int .u64 18446744073709551615, errRange]))))
end Go.Proofs.YtillamhoakohdaaGreatDoor
namespace Go.Proofs.YtillamhoakohdaaGreatDoor
open Go.RowKit
attribute [local go_sem] setCell_drewN

theorem fold_no (s u : ByteArray) (w : World) (h0 : 0 < s.size) (h1 : (s[0].toNat : Int) < 65) (hu : 0 < u.size) (h2 : (97 : Int) ≤ (u[0].toNat : Int)) (hs : s.size ≤ 1000) :
  Calls Tryz.prog 64 #[.string s, .string u] w fun e w' => e = .returned (.bool false) ∧ w' = w := by
 have hf : ((s[0].toNat : Int) != (u[0].toNat : Int)) = true := by rw [bne_iff_ne]; omega
 by_cases hl : s.size = u.size
 ·have hl' : (s.size : Int) = (u.size : Int) := by omega
  go_enter Tryz.func64, Tryz.ntmps64
  go_upto_region 4 with fail
  go_loop [5] (fun i => i = .int .i64 0) (fun _ => 0)
  case atStart => rfl
  case round =>
   subst hrel
   go_wp2
   go_ret
   exact ⟨rfl, rfl⟩
 ·have hl' : ((s.size : Int) != (u.size : Int)) = true := by rw [bne_iff_ne]; omega
  go_enter Tryz.func64, Tryz.ntmps64
  go_wp2
  go_ret
  exact ⟨rfl, rfl⟩

def NoPre (t : Bs) : Prop := ∀ c r, t = 48 :: c :: r → c ≠ 98 ∧ c ≠ 66 ∧ c ≠ 111 ∧ c ≠ 79 ∧ c ≠ 120 ∧ c ≠ 88
theorem uok_yes {k : Nat} {c : UInt8} {l : Bs} (h : isDig c = true) : uok k (c :: l) = uok 0 l := by conv => lhs; unfold uok; rw [if_pos h]
theorem uok_low {k : Nat} {l : Bs} : uok k (95 :: l) = if k = 0 then uok 1 l else false := by conv => lhs; unfold uok; rw [if_neg (by decide), if_pos rfl]
theorem uok_oth {k : Nat} {c : UInt8} {l : Bs} (h : ¬ isDig c = true) (h2 : c ≠ 95) : uok k (c :: l) = if k = 1 then false else uok 2 l := by conv => lhs; unfold uok; rw [if_neg h, if_neg h2]

set_option maxRecDepth 100000 in
set_option maxHeartbeats 1000000 in
theorem underscoreOK_any (s : ByteArray) (l : Bs) (w : World) (hl : StrIs s l) (hs : s.size ≤ 1000) (hp : NoPre (sgn l).1) :
  Calls Tryz.prog 102 #[.string s] w fun e w' => e = .returned (.bool (uok 2 (sgn l).1)) ∧ w' = w := by
 go_enter Tryz.func102, Tryz.ntmps102
 go_upto_region 1 with fail
 go_cut [18] (fun v wc => v = .bool (sgn l).2.2 ∧ w = wc)
 case first =>
  match l, hl with
  | [], hl =>
   have he : s.toList.isEmpty = true := by rw [Lib.toList_data, hl]; rfl
   have he2 : (!s.toList.isEmpty) = false := by rw [he]; rfl
   go_wp2
   go_meet
   case rel => exact ⟨rfl, rfl⟩
  | c :: r, hl =>
   obtain ⟨h0, e0⟩ := hl.cons
   have he : s.toList.isEmpty = false := by rw [Lib.toList_data, hl]; rfl
   have he2 : (!s.toList.isEmpty) = true := by rw [he]; rfl
   have f1 := show ((c.toNat : Int) == 45) = decide (c = 45) from byte_dec c 45
   have f2 := show ((c.toNat : Int) == 43) = decide (c = 43) from byte_dec c 43
   by_cases h1 : c = 45
   ·subst h1
    go_wp2
    go_meet
    case rel => exact ⟨rfl, rfl⟩
   ·by_cases h2 : c = 43
    ·subst h2
     go_wp2
     go_meet
     case rel => exact ⟨rfl, rfl⟩
    ·have f1' : ((c.toNat : Int) == 45) = false := by rw [f1]; simp [h1]
     have f2' : ((c.toNat : Int) == 43) = false := by rw [f2]; simp [h2]
     clear f1 f2
     go_wp2
     go_meet
     case rel => exact ⟨by rw [sgn_cons, if_neg h1, if_neg h2], rfl⟩
 case rest =>
 obtain ⟨rfl, rfl⟩ := hcut
 go_upto_if 18 with fail
 go_cut [0] (fun v wc => ∃ r, v = .string r ∧ StrIs r (sgn l).1 ∧ r.size ≤ 1000 ∧ w = wc)
 case first =>
  cases hb : (sgn l).2.2
  ·have hq : (sgn l).1 = l := by
    cases l with
    | nil => rfl
    | cons c r =>
     rw [sgn_cons] at hb ⊢
     by_cases h1 : c = 45
     ·rw [if_pos h1] at hb; cases hb
     ·rw [if_neg h1] at hb ⊢
      by_cases h2 : c = 43
      ·rw [if_pos h2] at hb; cases hb
      ·rw [if_neg h2]
   go_wp2
   go_meet
   case rel => exact ⟨s, rfl, by rw [hq]; exact hl, hs, rfl⟩
  ·have hq : (sgn l).1 = l.drop 1 ∧ 1 ≤ s.size := by
    cases l with
    | nil => cases hb
    | cons c r =>
     refine ⟨?_, by rw [hl.size]; simp⟩
     rw [sgn_cons] at hb ⊢
     by_cases h1 : c = 45
     ·rw [if_pos h1]; rfl
     ·rw [if_neg h1] at hb ⊢
      by_cases h2 : c = 43
      ·rw [if_pos h2]; rfl
      ·rw [if_neg h2] at hb; cases hb
   have h1s : (1 : Int) ≤ (s.size : Int) := by omega
   have HR : Hid (StrIs (s.extract 1 s.size) (sgn l).1) := Lib.hid (by rw [hq.1]; exact hl.drop 1)
   have HRS : Hid ((s.extract 1 s.size).size ≤ 1000) := Lib.hid (by simp; omega)
   go_wp2
   go_meet
   case rel => exact ⟨_, rfl, HR.out, HRS.out, rfl⟩
 case rest =>
 obtain ⟨r, rfl, hr, hrs, rfl⟩ := hcut
 clear hl hs
 generalize ht : (sgn l).1 = t at *
 go_upto_region 4 with fail
 go_cut [46] (fun v wc => v = .bool false ∧ w = wc)
 case first =>
  match t, hr with
  | [], hr =>
   have hz : r.size < 2 := by have := hr.size; rw [this]; first | done | simp
   go_wp2
   go_meet
   case rel => exact ⟨rfl, rfl⟩
  | [_], hr =>
   have hz : r.size < 2 := by have := hr.size; rw [this]; first | done | simp
   go_wp2
   go_meet
   case rel => exact ⟨rfl, rfl⟩
  | a :: b :: q, hr =>
   obtain ⟨h0, h1, e0, e1⟩ := hr.cons2
   have hz : 2 ≤ r.size := by omega
   by_cases ha : a = 48
   ·subst ha
    have hb := hp b q rfl
    have lw := lower_is b
    have k1 : (((b ||| 32).toNat : Int) == 98) = false := byte_ne (d := 98) (fun e => (lw.1.1 e).elim hb.1 hb.2.1)
    have k2 : (((b ||| 32).toNat : Int) == 111) = false := byte_ne (d := 111) (fun e => (lw.2.1.1 e).elim hb.2.2.1 hb.2.2.2.1)
    have k3 : (((b ||| 32).toNat : Int) == 120) = false := byte_ne (d := 120) (fun e => (lw.2.2.1 e).elim hb.2.2.2.2.1 hb.2.2.2.2.2)
    have L := fun w => lower_any b w
    clear lw hb
    generalize (b ||| 32).toNat = lb at *
    go_wp2_with fail
    refine (L _).mono ?_
    rintro e w' ⟨rfl, rfl⟩
    go_wp2_with fail
    refine (L _).mono ?_
    rintro e w' ⟨rfl, rfl⟩
    go_wp2_with fail
    refine (L _).mono ?_
    rintro e w' ⟨rfl, rfl⟩
    go_wp2
    go_meet
    case rel => exact ⟨rfl, rfl⟩
   ·have k1 : ((a.toNat : Int) == 48) = false := byte_ne (d := 48) ha
    go_wp2
    go_meet
    case rel => exact ⟨rfl, rfl⟩
 case rest =>
 obtain ⟨rfl, rfl⟩ := hcut
 unfold StrIs at hr
 subst hr
 have HT := Lib.hid ht
 clear ht
 go_upto_region 8 with fail
 go_loop [3, 5] (fun x i => ∃ (k st : Nat) (z : Int), i = .int .i64 k ∧ k ≤ r.size ∧ x = .int .u8 z ∧ 0 ≤ z ∧ z < 256 ∧ Hid ((st = 0 ∧ z = 48) ∨ (st = 1 ∧ z = 95) ∨ (st = 2 ∧ z ≠ 48 ∧ z ≠ 95)) ∧ Hid (uok 2 r.data.toList = uok st (r.data.toList.drop k))) (fun _ i => r.size - (intOf i).toNat)
 case atStart => exact ⟨0, 2, 94, rfl, Nat.zero_le _, rfl, by omega, by omega, Lib.hid (by omega), Lib.hid (by simp)⟩
 case round =>
  obtain ⟨k, st, z, rfl, hk, rfl, hz0, hz1, HZ, H⟩ := hrel
  by_cases hlt : k < r.size
  ·have hdr := Lib.hid (drop_cons r k hlt)
   generalize hc : r[k] = c at *
   by_cases hd : isDig c = true
   ·have hd2 : 48 ≤ (c.toNat : Int) ∧ (c.toNat : Int) ≤ 57 := by rw [isDig_eq] at hd; simp at hd; omega
    have HN : Hid (uok 2 r.data.toList = uok 0 (r.data.toList.drop (k + 1))) := Lib.hid (by rw [H.out, hdr.out, uok_yes hd])
    clear hd H
    go_wp2
    go_round
    case rel => exact ⟨k + 1, 0, 48, by go_num, by omega, rfl, by omega, by omega, Lib.hid (by omega), HN⟩
    case measure => simp [intOf]; omega
   ·have hd2 : ¬ (48 ≤ (c.toNat : Int) ∧ (c.toNat : Int) ≤ 57) := by rw [isDig_eq] at hd; simp at hd; omega
    by_cases h95 : c = 95
    ·subst h95
     by_cases hst : st = 0
     ·have hz48 : z = 48 := by have := HZ.out; omega
      subst hz48
      have HN : Hid (uok 2 r.data.toList = uok 1 (r.data.toList.drop (k + 1))) := Lib.hid (by rw [H.out, hdr.out, uok_low, if_pos hst])
      clear hd H hd2 HZ
      go_wp2
      go_round
      case rel => exact ⟨k + 1, 1, 95, by go_num, by omega, rfl, by omega, by omega, Lib.hid (by omega), HN⟩
      case measure => simp [intOf]; omega
     ·have hz48 : (z != 48) = true := by rw [bne_iff_ne]; have := HZ.out; omega
      have HN : Hid (uok 2 r.data.toList = false) := Lib.hid (by rw [H.out, hdr.out, uok_low, if_neg hst])
      clear hd H hd2 HZ
      go_wp2
      go_ret
      exact ⟨by rw [HT.out, HN.out]; rfl, rfl⟩
    ·have k95 : ((c.toNat : Int) == 95) = false := byte_ne (d := 95) h95
     have k95' : ((c.toNat : Int) != 95) = true := by rw [bne, k95]; rfl
     by_cases hst : st = 1
     ·have hz95 : z = 95 := by have := HZ.out; omega
      subst hz95
      have HN : Hid (uok 2 r.data.toList = false) := Lib.hid (by rw [H.out, hdr.out, uok_oth hd h95, if_pos hst])
      have q : (c.toNat : Int) < 48 ∨ 57 < (c.toNat : Int) := by omega
      clear hd H HZ hd2
      rcases q with q | q
      all_goals
       go_wp2
       go_ret
       exact ⟨by rw [HT.out, HN.out]; rfl, rfl⟩
     ·have hz95 : (z == 95) = false := by rw [beq_eq_false_iff_ne]; have := HZ.out; omega
      have HN : Hid (uok 2 r.data.toList = uok 2 (r.data.toList.drop (k + 1))) := Lib.hid (by rw [H.out, hdr.out, uok_oth hd h95, if_neg hst])
      have q : (c.toNat : Int) < 48 ∨ 57 < (c.toNat : Int) := by omega
      clear hd H HZ hd2
      rcases q with q | q
      all_goals
       go_wp2
       go_round
       case rel => exact ⟨k + 1, 2, 33, by go_num, by omega, rfl, by omega, by omega, Lib.hid (by omega), HN⟩
       case measure => simp [intOf]; omega
  ·have HN : Hid (uok 2 r.data.toList = (z != 95)) := Lib.hid (by
    rw [H.out, List.drop_eq_nil_of_le (by have := Lib.size_eq r; omega)]
    unfold uok
    have := HZ.out
    rw [Bool.eq_iff_iff]; simp; omega)
   clear H HZ
   go_wp2
   go_ret
   exact ⟨by rw [HT.out, HN.out]; rfl, rfl⟩
end Go.Proofs.YtillamhoakohdaaGreatDoor

/-
  Walks: yaml's look at floats. Walks: the reference's look at floats.
-/
import Derived.Deep.Cut
import Derived.Test.YtillamhoakohdaaGreatDoorM04
import Derived.Test.YtillamhoakohdaaGreatDoorM05
set_option linter.unusedVariables false
set_option linter.unusedSimpArgs false
namespace Go.Proofs.YtillamhoakohdaaGreatDoor
open Go.RowKit

theorem digits_yes {c : UInt8} {l : Bs} (h : 48 ≤ c.toNat ∧ c.toNat ≤ 57) : digits (c :: l) = digits l + 1 := by rw [digits, if_pos h]
theorem digits_no {c : UInt8} {l : Bs} (h : ¬(48 ≤ c.toNat ∧ c.toNat ≤ 57)) : digits (c :: l) = 0 := by rw [digits, if_neg h]

set_option maxHeartbeats 400000 in
theorem zzDigits_any (s : ByteArray) (l : Bs) (w : World) (hl : StrIs s l) (hs : s.size ≤ 1000) :
  Calls Tryz.prog 75 #[.string s] w fun e w' => e = .returned (.int .i64 (digits l)) ∧ w = w' := by
 unfold StrIs at hl
 subst hl
 go_enter Tryz.func75, Tryz.ntmps75
 go_wp2
 go_loop [3] (fun i => ∃ k : Nat, k ≤ s.size ∧ i = .int .i64 k ∧ Hid (digits s.data.toList = k + digits (s.data.toList.drop k))) (fun i => s.size - (intOf i).toNat)
 case atStart => exact ⟨0, Nat.zero_le _, rfl, Lib.hid (by simp)⟩
 case round =>
  obtain ⟨k, hk, rfl, H⟩ := hrel
  by_cases hlt : k < s.size
  ·have hdr := Lib.hid (drop_cons s k hlt)
   go_wp2
   ·go_round
    case rel => exact ⟨k + 1, by omega, by go_num, Lib.hid (by rw [H.out, hdr.out, digits_yes (by omega)]; omega)⟩
    case measure => simp [intOf]; omega
   all_goals
    go_ret
    exact ⟨ret_int (by rw [H.out, hdr.out, digits_no (by omega)]; simp), rfl⟩
  ·go_wp2
   go_ret
   exact ⟨ret_int (by rw [H.out, List.drop_eq_nil_of_le (by have := Lib.size_eq s; omega)]; simp [digits]), rfl⟩

def At (s : ByteArray) (i : Nat) (l : Bs) : Prop := i ≤ s.size ∧ s.data.toList.drop i = l
theorem At.nil {s : ByteArray} {i : Nat} (h : At s i []) : i = s.size := by
 have := h.2; have h2 := Lib.size_eq s; have h3 := h.1
 rw [List.drop_eq_nil_iff] at this; omega
theorem At.cons {s : ByteArray} {i : Nat} {c : UInt8} {l : Bs} (h : At s i (c :: l)) : ∃ hi : i < s.size, s[i] = c ∧ At s (i + 1) l := by
 have hi : i < s.size := by
  rcases Nat.lt_or_ge i s.size with h1 | h1
  ·exact h1
  ·have := h.2; rw [List.drop_eq_nil_of_le (by have := Lib.size_eq s; omega)] at this; cases this
 have h2 := drop_cons s i hi
 rw [h.2] at h2
 injection h2 with h3 h4
 exact ⟨hi, h3.symm, by omega, h4.symm⟩
theorem At.drop {s : ByteArray} {i n : Nat} {l : Bs} (h : At s i l) (hn : n ≤ l.length) : At s (i + n) (l.drop n) := by
 have h2 := Lib.size_eq s
 have h3 := h.1
 have h4 : l.length = s.size - i := by rw [← h.2, List.length_drop, ← h2]
 exact ⟨by omega, by rw [← h.2, List.drop_drop]⟩
theorem At.str {s : ByteArray} {i : Nat} {l : Bs} (h : At s i l) : StrIs (s.extract i s.size) l := by
 unfold StrIs; rw [Lib.extract_to_end, h.2]
theorem At.start {s : ByteArray} {l : Bs} (h : StrIs s l) : At s 0 l := ⟨Nat.zero_le _, by unfold StrIs at h; simpa using h⟩

theorem At.len {s : ByteArray} {i : Nat} {l : Bs} (h : At s i l) : i + l.length = s.size := by
 rw [← h.2, List.length_drop, ← Lib.size_eq]; have := h.1; omega
theorem At.sgn1 {s : ByteArray} {i : Nat} {l : Bs} (h : At s i l) (hs : (sgn l).2.2 = true) : At s (i + 1) (sgn l).1 := by
 match l, h with
 | [], h => simp [sgn] at hs
 | c :: r, h =>
  obtain ⟨_, _, hr⟩ := h.cons
  by_cases h1 : c = 45
  ·simpa [sgn, h1] using hr
  ·by_cases h2 : c = 43
   ·simpa [sgn, h1, h2] using hr
   ·simp [sgn, h1, h2] at hs
theorem At.sgn0 {s : ByteArray} {i : Nat} {l : Bs} (h : At s i l) (hs : (sgn l).2.2 = false) : At s i (sgn l).1 := by
 match l, h with
 | [], h => exact h
 | c :: r, h =>
  by_cases h1 : c = 45
  ·simp [sgn, h1] at hs
  ·by_cases h2 : c = 43
   ·simp [sgn, h1, h2] at hs
   ·simpa [sgn, h1, h2] using h
def isDot : Bs → Bool | c :: _ => decide (c = 46) | [] => false
theorem isDot_yes {l : Bs} (h : isDot l = true) : ∃ r, l = 46 :: r := by
 cases l with
 | nil => cases h
 | cons c r => exact ⟨r, by simp [isDot] at h; rw [h]⟩
theorem isDot_no {l : Bs} (n : Nat) (h : isDot l = false) : dotted n l = (l, n) := by
 cases l with
 | nil => rfl
 | cons c r => simp [isDot] at h; simp [dotted, h]
def isExp : Bs → Bool | c :: _ => decide (c = 101 ∨ c = 69) | [] => false

theorem isExp_yes {l : Bs} (h : isExp l = true) : ∃ c r, l = c :: r ∧ (c = 101 ∨ c = 69) := by
 cases l with
 | nil => cases h
 | cons c r => exact ⟨c, r, rfl, by simpa [isExp] using h⟩

set_option maxRecDepth 100000 in
set_option maxHeartbeats 4000000 in
theorem yamlStyleFloat_any (s : ByteArray) (l : Bs) (w : World) (hl : StrIs s l) (hs : s.size ≤ 1000) :
  Calls Tryz.prog 42 #[.string s] w fun e w' => e = .returned (.bool (real l)) ∧ w = w' := by
 have h0 := At.start hl
 go_enter Tryz.func42, Tryz.ntmps42
 go_upto_region 2 with fail
 go_cut [3, 21] (fun i b wc => i = .int .i64 0 ∧ b = .bool (sgn l).2.2 ∧ w = wc)
 case first =>
  match l, h0 with
  | [], h0 =>
   have hz := h0.nil
   go_wp2
   go_meet
   case rel => exact ⟨rfl, rfl, rfl⟩
  | c :: r, h0 =>
   obtain ⟨hi, hc, hr⟩ := h0.cons
   by_cases c1 : c = 45
   ·subst c1
    go_wp2
    go_meet
    case rel => exact ⟨rfl, rfl, rfl⟩
   ·by_cases c2 : c = 43
    ·subst c2
     go_wp2
     go_meet
     case rel => exact ⟨rfl, rfl, rfl⟩
    ·have f1 := show ((c.toNat : Int) == 45) = false from byte_ne c1
     have f2 := show ((c.toNat : Int) == 43) = false from byte_ne c2
     have e : (sgn (c :: r)).2.2 = false := by simp [sgn, c1, c2]
     go_wp2
     go_meet
     case rel => exact ⟨rfl, by rw [e], rfl⟩
 case rest =>
  obtain ⟨rfl, rfl, rfl⟩ := hcut
  go_upto_if 21 with fail
  go_cut [3] (fun i wc => ∃ k : Nat, i = .int .i64 k ∧ At s k (sgn l).1 ∧ w = wc)
  case first =>
   cases hb : (sgn l).2.2
   ·go_wp2
    go_meet
    case rel => exact ⟨0, rfl, h0.sgn0 hb, rfl⟩
   ·go_wp2
    go_meet
    case rel => exact ⟨1, rfl, h0.sgn1 hb, rfl⟩
  case rest =>
   obtain ⟨k, rfl, hk, rfl⟩ := hcut
   generalize hr : (sgn l).1 = r at *
   have HR := Lib.hid hr
   clear hr
   have hkl := hk.len
   have hd := digits_le r
   have hk1 := hk.1
   go_upto_region 5 with (go_at_call 75; refine (zzDigits_any _ _ _ hk.str (by simp; omega)).mono ?_; rintro e w' ⟨rfl, rfl⟩)
   have h1 := hk.drop hd
   generalize hn : digits r = n1 at *
   have HN := Lib.hid hn
   clear hn
   go_cut [3] (fun i wc => ∃ k : Nat, i = .int .i64 k ∧ At s k (r.drop n1) ∧ w = wc)
   case first =>
    go_wp2
    go_meet
    case rel => exact ⟨k + n1, by go_num, h1, rfl⟩
   case rest =>
   have hn1 : n1 ≤ 1000 := by omega
   clear h1 hk hkl hk1
   obtain ⟨k, rfl, hk, rfl⟩ := hcut
   generalize hr : r.drop n1 = r1 at *
   have HR1 := Lib.hid hr
   clear hr
   have hkl := hk.len
   have hk1 := hk.1
   go_upto_region 6 with fail
   go_cut [40] (fun b wc => b = .bool (isDot r1) ∧ w = wc)
   case first =>
    match r1, hk with
    | [], hk =>
     have hz := hk.nil
     go_wp2
     go_meet
     case rel => exact ⟨rfl, rfl⟩
    | c :: r, hk =>
     obtain ⟨hi, hc, hr⟩ := hk.cons
     have f1 := show ((c.toNat : Int) == 46) = decide (c = 46) from byte_dec c 46
     go_wp2
     go_meet
     case rel => exact ⟨rfl, rfl⟩
   case rest =>
   obtain ⟨rfl, rfl⟩ := hcut
   go_upto_if 40 with fail
   go_cut [3, 4] (fun i n wc => ∃ k : Nat, i = .int .i64 k ∧ At s k (dotted n1 r1).1 ∧ n = .int .i64 (dotted n1 r1).2 ∧ w = wc)
   case first =>
    cases hb : isDot r1
    ·have E1 := Lib.hid (isDot_no n1 hb)
     clear hb
     go_wp2
     go_meet
     case rel => exact ⟨k, rfl, by rw [E1.out]; exact hk, by rw [E1.out], rfl⟩
    ·obtain ⟨r, rfl⟩ := isDot_yes hb
     obtain ⟨hi, hc, hr⟩ := hk.cons
     have hd2 := digits_le r
     have hl2 := hr.len
     have HR2 := hr.drop hd2
     have hr2 := hr.str
     clear hc hb
     go_wp2_with (go_at_call 75; refine (zzDigits_any _ r _ hr2 (by simp; omega)).mono ?_; rintro e w' ⟨rfl, rfl⟩)
     go_meet
     case rel => exact ⟨k + 1 + digits r, by go_num, HR2, by simp [dotted], rfl⟩
   case rest =>
   clear hk hkl hk1
   obtain ⟨k, rfl, hk, rfl, rfl⟩ := hcut
   generalize hq : dotted n1 r1 = q at *
   obtain ⟨r2, n2⟩ := q
   have HQ := Lib.hid hq
   clear hq
   have hkl := hk.len
   have hk1 := hk.1
   by_cases h0n : n2 = 0
   ·subst h0n
    go_wp2
    go_ret
    exact ⟨by simp [real, HR.out, HN.out, HR1.out, HQ.out], rfl⟩
   have f0 : ((n2 : Int) == 0) = false := by rw [beq_eq_false_iff_ne]; omega
   go_upto_region 12 with fail
   go_cut [70] (fun b wc => b = .bool (isExp r2) ∧ w = wc)
   case first =>
    match r2, hk with
    | [], hk =>
     obtain rfl := hk.nil
     go_wp2
     go_meet
     case rel => exact ⟨rfl, rfl⟩
    | c :: r, hk =>
     obtain ⟨hi, hc, hr⟩ := hk.cons
     by_cases c1 : c = 101
     ·subst c1
      go_wp2
      go_meet
      case rel => exact ⟨rfl, rfl⟩
     ·by_cases c2 : c = 69
      ·subst c2
       go_wp2
       go_meet
       case rel => exact ⟨rfl, rfl⟩
      ·have f1 := show ((c.toNat : Int) == 101) = false from byte_ne c1
       have f2 := show ((c.toNat : Int) == 69) = false from byte_ne c2
       have e : isExp (c :: r) = false := by simp [isExp, c1, c2]
       go_wp2
       go_meet
       case rel => exact ⟨by rw [e], rfl⟩
   case rest =>
   obtain ⟨rfl, rfl⟩ := hcut
   have hreal : real l = expo r2 := by simp [real, HR.out, HN.out, HR1.out, HQ.out, h0n]
   have HREAL := Lib.hid hreal
   clear hreal
   cases hb : isExp r2
   ·have hx : expo r2 = decide (k = s.size) := by
     match r2, hk with
     | [], hk => simp [expo, hk.nil]
     | c :: r, hk =>
      obtain ⟨hi, _, _⟩ := hk.cons
      have : k ≠ s.size := by omega
      simp [isExp] at hb
      simp [expo, hb, this]
    have HX := Lib.hid hx
    clear hx hb f0 h0n
    by_cases hks : k = s.size
    ·subst hks
     go_wp2
     go_ret
     exact ⟨by rw [HREAL.out, HX.out]; simp, rfl⟩
    ·have f1 : ((k : Int) == (s.size : Int)) = false := by rw [beq_eq_false_iff_ne]; omega
     have HK := Lib.hid hks
     clear hks
     go_wp2
     go_ret
     exact ⟨by rw [HREAL.out, HX.out]; simp [HK.out], rfl⟩
   ·obtain ⟨c, r, rfl, hc⟩ := isExp_yes hb
    obtain ⟨hi, _, hr⟩ := hk.cons
    have hx : expo (c :: r) = (decide (digits (sgn r).1 ≠ 0) && ((sgn r).1.drop (digits (sgn r).1)).isEmpty) := by rw [expo, if_pos hc]
    have HX := Lib.hid hx
    clear hx hb hc hk hkl hk1 f0 h0n
    have hrl := hr.len
    go_upto_region 14 with fail
    go_cut [3, 88] (fun i b wc => i = .int .i64 ((k + 1 : Nat) : Int) ∧ b = .bool (sgn r).2.2 ∧ w = wc)
    case first =>
     match r, hr with
     | [], hr =>
      have hz := hr.nil
      have hz2 : ¬ (k + 1 < s.size) := by omega
      clear hz
      go_wp2
      go_meet
      case rel => exact ⟨by go_num, rfl, rfl⟩
     | c1 :: r1, hr =>
      obtain ⟨hi1, hc1, hr1⟩ := hr.cons
      by_cases k1 : c1 = 45
      ·subst k1
       go_wp2
       go_meet
       case rel => exact ⟨by go_num, rfl, rfl⟩
      ·by_cases k2 : c1 = 43
       ·subst k2
        go_wp2
        go_meet
        case rel => exact ⟨by go_num, rfl, rfl⟩
       ·have f1 := show ((c1.toNat : Int) == 45) = false from byte_ne k1
        have f2 := show ((c1.toNat : Int) == 43) = false from byte_ne k2
        have e : (sgn (c1 :: r1)).2.2 = false := by simp [sgn, k1, k2]
        go_wp2
        go_meet
        case rel => exact ⟨by go_num, by rw [e], rfl⟩
    case rest =>
    obtain ⟨rfl, rfl, rfl⟩ := hcut
    go_upto_if 88 with fail
    go_cut [3] (fun i wc => ∃ k : Nat, i = .int .i64 k ∧ At s k (sgn r).1 ∧ w = wc)
    case first =>
     cases hb : (sgn r).2.2
     ·have h1 := hr.sgn0 hb
      go_wp2
      go_meet
      case rel => exact ⟨k + 1, rfl, h1, rfl⟩
     ·have h1 := hr.sgn1 hb
      go_wp2
      go_meet
      case rel => exact ⟨k + 1 + 1, by go_num, h1, rfl⟩
    case rest =>
    clear hr hrl
    obtain ⟨k, rfl, hk, rfl⟩ := hcut
    generalize hr : (sgn r).1 = r3 at *
    have hkl := hk.len
    have hd := digits_le r3
    have hk1 := hk.1
    have h1 := hk.drop hd
    by_cases hn : digits r3 = 0
    ·have HX2 : Hid (expo (c :: r) = false) := by rw [HX.out, hn]; exact Lib.hid (by simp)
     clear HX hr
     go_wp2_with (go_at_call 75; refine (zzDigits_any _ _ _ hk.str (by simp; omega)).mono ?_; rintro e w' ⟨rfl, rfl⟩)
     go_ret
     exact ⟨by rw [HREAL.out, HX2.out]; rfl, rfl⟩
    ·have HX2 : Hid (expo (c :: r) = decide (k + digits r3 = s.size)) := Lib.hid (by
      rw [HX.out]
      have h2 := h1.len
      have e : (r3.drop (digits r3)).isEmpty = decide ((r3.drop (digits r3)).length = 0) := by cases r3.drop (digits r3) <;> simp
      rw [e]
      simp only [hn, ne_eq, not_false_eq_true, decide_true, Bool.true_and, decide_eq_decide]
      omega)
     have f0 : ((digits r3 : Int) == 0) = false := by rw [beq_eq_false_iff_ne]; omega
     clear HX hr
     have HN3 := Lib.hid hn
     have hkn : k + digits r3 ≤ s.size := h1.1
     clear hn h1
     by_cases hks : k + digits r3 = s.size
     ·have f1 : ((k : Int) + (digits r3 : Int) == (s.size : Int)) = true := by rw [beq_iff_eq]; omega
      have HK := Lib.hid hks
      clear hks
      go_wp2_with (go_at_call 75; refine (zzDigits_any _ _ _ hk.str (by simp; omega)).mono ?_; rintro e w' ⟨rfl, rfl⟩)
      go_ret
      exact ⟨by rw [HREAL.out, HX2.out]; simp [HK.out], rfl⟩
     ·have f1 : ((k : Int) + (digits r3 : Int) == (s.size : Int)) = false := by rw [beq_eq_false_iff_ne]; omega
      have HK := Lib.hid hks
      clear hks
      go_wp2_with (go_at_call 75; refine (zzDigits_any _ _ _ hk.str (by simp; omega)).mono ?_; rintro e w' ⟨rfl, rfl⟩)
      go_ret
      exact ⟨by rw [HREAL.out, HX2.out]; simp [HK.out], rfl⟩
end Go.Proofs.YtillamhoakohdaaGreatDoor
namespace Go.Proofs.YtillamhoakohdaaGreatDoor
open Go.RowKit
attribute [local go_sem] setCell_drewN

def RunPost (l : Bs) (n : Nat) (w : World) (e : Ending) (w' : World) : Prop :=
 ∃ r, StrIs r (l.drop (digits l)) ∧ e = .returned (.int .i64 (digits l)) ∧ w' = (w.alloc (.cells #[.string r] 9)).drewN n

set_option maxHeartbeats 1000000 in
theorem ylRun_any (s : ByteArray) (l : Bs) (n : Nat) (w : World) (hl : StrIs s l) (hs : s.size ≤ 1000) :
  Calls Tryz.prog 61 #[.pointer (some ⟨w.heap.size, 0, none⟩)] ((w.alloc (.cells #[.string s] 9)).drewN n) (RunPost l n w) := by
 have hl' := Lib.hid hl
 unfold StrIs at hl
 subst hl
 go_enter Tryz.func61, Tryz.ntmps61
 go_wp2
 go_loop [2] (fun i => ∃ k : Nat, k ≤ s.size ∧ i = .int .i64 k ∧ Hid (digits s.data.toList = k + digits (s.data.toList.drop k))) (fun i => s.size - (intOf i).toNat)
 case atStart => exact ⟨0, Nat.zero_le _, rfl, Lib.hid (by simp)⟩
 case round =>
  obtain ⟨k, hk, rfl, H⟩ := hrel
  by_cases hlt : k < s.size
  ·have hdr := Lib.hid (drop_cons s k hlt)
   go_wp2
   ·go_round
    case rel => exact ⟨k + 1, by omega, by go_num, Lib.hid (by rw [H.out, hdr.out, digits_yes (by omega)]; omega)⟩
    case measure => simp [intOf]; omega
   all_goals
    go_ret
    have e : digits s.data.toList = k := by rw [H.out, hdr.out, digits_no (by omega)]; simp
    exact ⟨_, by rw [e]; exact hl'.out.drop k, ret_int (by rw [e]), rfl⟩
  ·have e : digits s.data.toList = k := by rw [H.out, List.drop_eq_nil_of_le (by have := Lib.size_eq s; omega)]; simp [digits]
   have HE := Lib.hid e
   clear e H
   go_wp2
   go_ret
   exact ⟨_, by rw [HE.out]; exact hl'.out.drop k, ret_int (by rw [HE.out]), rfl⟩

set_option maxRecDepth 100000 in
set_option maxHeartbeats 4000000 in
theorem ylReal_any (s : ByteArray) (l : Bs) (w : World) (hl : StrIs s l) (hs : s.size ≤ 1000) :
  Calls Tryz.prog 30 #[.string s] w fun e w' => e = .returned (.bool (real l)) ∧ Below w.heap.size w w' := by
 have hmf : ∀ (fn : Fn) (first cap : Array Value) (w : World), (Instr.makeFunc fn first cap).run Tryz.prog w = .ok (.func fn first cap) w := fun _ _ _ _ => rfl
 go_enter Tryz.func30, Tryz.ntmps30
 go_wp2_with fail
 refine (ylSign_any s l _ hl (by unfold maxLen; omega)).mono ?_
 rintro e w' ⟨⟨n, rfl⟩, r, hr, rfl⟩
 have hrl : r.size ≤ 1000 := by rw [hr.size]; have := sgn_len l; rw [← hl.size] at this; omega
 go_wp2_with fail
 refine (ylRun_any r _ _ _ hr hrl).mono ?_
 rintro e w' ⟨r1, hr1, rfl, rfl⟩
 generalize hc1 : (sgn l).1 = c1 at *
 have HC1 := Lib.hid hc1
 clear hc1
 generalize hn1 : digits c1 = n1 at *
 have HN1 := Lib.hid hn1
 clear hn1
 generalize hq1 : c1.drop n1 = q1 at *
 have HQ1 := Lib.hid hq1
 clear hq1
 have hrl1 : r1.size ≤ 1000 := by
  have := HQ1.out; rw [hr1.size, ← this, List.length_drop]; have := hr.size; omega
 have hn1 : n1 ≤ 1000 := by have := digits_le c1; rw [HN1.out] at this; have := hr.size; omega
 have hreal : real l = (decide ((dotted n1 q1).2 ≠ 0) && expo (dotted n1 q1).1) := by simp [real, HC1.out, HN1.out, HQ1.out]
 have HREAL := Lib.hid hreal
 clear hreal hr hrl
 go_upto_region 4 with fail
 go_cut [20] (fun b wc => b = .bool (isDot q1) ∧ (w.alloc (.cells #[.string r1] 9)).drewN n = wc)
 case first =>
  match q1, hr1 with
  | [], hr1 =>
   have he : r1.toList.isEmpty = true := by rw [Lib.toList_data, hr1]; rfl
   have he2 : (!r1.toList.isEmpty) = false := by rw [he]; rfl
   go_wp2
   go_meet
   case rel => exact ⟨rfl, rfl⟩
  | c :: r, hr1 =>
   obtain ⟨h0, e0⟩ := hr1.cons
   have he : r1.toList.isEmpty = false := by rw [Lib.toList_data, hr1]; rfl
   have he2 : (!r1.toList.isEmpty) = true := by rw [he]; rfl
   have f1 := show ((c.toNat : Int) == 46) = decide (c = 46) from byte_dec c 46
   go_wp2
   go_meet
   case rel => exact ⟨rfl, rfl⟩
 case rest =>
 obtain ⟨rfl, rfl⟩ := hcut
 go_upto_if 20 with fail
 go_cut [] (fun wc => ∃ r2, StrIs r2 (dotted n1 q1).1 ∧ r2.size ≤ 1000 ∧ Hid ((dotted n1 q1).2 ≠ 0) ∧ (w.alloc (.cells #[.string r2] 9)).drewN n = wc)
 case first =>
  cases hb : isDot q1
  ·have E1 := Lib.hid (isDot_no n1 hb)
   clear hb
   by_cases h0 : n1 = 0
   ·subst h0
    go_wp2
    go_ret
    exact ⟨by rw [HREAL.out, E1.out]; rfl, below_drewN ((Below.refl _ _).alloc (Nat.le_refl _) _) n⟩
   ·have f0 : ((n1 : Int) == 0) = false := by rw [beq_eq_false_iff_ne]; omega
    have H0 := Lib.hid h0
    clear h0
    go_wp2
    go_meet
    case rel => exact ⟨r1, by rw [E1.out]; exact hr1, hrl1, Lib.hid (by rw [E1.out]; exact H0.out), rfl⟩
  ·obtain ⟨q, rfl⟩ := isDot_yes hb
   obtain ⟨h0, e0⟩ := hr1.cons
   have e1 : dotted n1 (46 :: q) = (q.drop (digits q), n1 + digits q) := by simp [dotted]
   have E1 := Lib.hid e1
   clear e1 hb e0
   have hx := hr1.drop 1
   simp only [List.drop_succ_cons, List.drop_zero] at hx
   have hxl : (r1.extract 1 r1.size).size ≤ 1000 := by simp; omega
   go_wp2_with fail
   refine (ylRun_any _ q n w hx hxl).mono ?_
   rintro e w' ⟨r2, hr2, rfl, rfl⟩
   have hr2l : r2.size ≤ 1000 := by rw [hr2.size, List.length_drop]; have := hx.size; omega
   by_cases hz1 : digits q = 0
   ·by_cases hz2 : n1 = 0
    ·subst hz2
     rw [hz1] at *
     go_wp2
     go_ret
     exact ⟨by rw [HREAL.out, E1.out]; rfl, below_drewN ((Below.refl _ _).alloc (Nat.le_refl _) _) n⟩
    ·have f0 : ((n1 : Int) == 0) = false := by rw [beq_eq_false_iff_ne]; omega
     have H0 := Lib.hid hz2
     have H1 := Lib.hid hz1
     rw [hz1]
     clear hz1 hz2
     go_wp2
     go_meet
     case rel => exact ⟨r2, by rw [E1.out]; exact hr2, hr2l, Lib.hid (by rw [E1.out]; have := H0.out; simp; omega), rfl⟩
   ·have f0 : ((digits q : Int) == 0) = false := by rw [beq_eq_false_iff_ne]; omega
    have H0 := Lib.hid hz1
    clear hz1
    go_wp2
    go_meet
    case rel => exact ⟨r2, by rw [E1.out]; exact hr2, hr2l, Lib.hid (by rw [E1.out]; have := H0.out; simp; omega), rfl⟩
 case rest =>
 clear hr1 hrl1
 obtain ⟨r2, hr2, hrl2, H2, rfl⟩ := hcut
 have HREAL2 : Hid (real l = expo (dotted n1 q1).1) := Lib.hid (by rw [HREAL.out]; simp [H2.out])
 clear HREAL H2
 generalize (dotted n1 q1).1 = q2 at *
 go_upto_region 10 with fail
 go_cut [43] (fun b wc => b = .bool (isExp q2) ∧ (w.alloc (.cells #[.string r2] 9)).drewN n = wc)
 case first =>
  match q2, hr2 with
  | [], hr2 =>
   have he : r2.toList.isEmpty = true := by rw [Lib.toList_data, hr2]; rfl
   have he2 : (!r2.toList.isEmpty) = false := by rw [he]; rfl
   go_wp2
   go_meet
   case rel => exact ⟨rfl, rfl⟩
  | c :: r, hr2 =>
   obtain ⟨h0, e0⟩ := hr2.cons
   have he : r2.toList.isEmpty = false := by rw [Lib.toList_data, hr2]; rfl
   have he2 : (!r2.toList.isEmpty) = true := by rw [he]; rfl
   by_cases c1 : c = 101
   ·subst c1
    go_wp2
    go_meet
    case rel => exact ⟨rfl, rfl⟩
   ·by_cases c2 : c = 69
    ·subst c2
     go_wp2
     go_meet
     case rel => exact ⟨rfl, rfl⟩
    ·have f1 := show ((c.toNat : Int) == 101) = false from byte_ne c1
     have f2 := show ((c.toNat : Int) == 69) = false from byte_ne c2
     have e : isExp (c :: r) = false := by simp [isExp, c1, c2]
     go_wp2
     go_meet
     case rel => exact ⟨by rw [e], rfl⟩
 case rest =>
 obtain ⟨rfl, rfl⟩ := hcut
 cases hb : isExp q2
 ·have hx : expo q2 = r2.toList.isEmpty := by
   rw [Lib.toList_data, hr2]
   match q2 with
   | [] => rfl
   | c :: r => simp [isExp] at hb; simp [expo, hb]
  have HX := Lib.hid hx
  clear hx hb
  go_wp2
  go_ret
  exact ⟨by rw [HREAL2.out, HX.out]; rfl, below_drewN ((Below.refl _ _).alloc (Nat.le_refl _) _) n⟩
 ·obtain ⟨c, q, rfl, hc⟩ := isExp_yes hb
  obtain ⟨h0, e0⟩ := hr2.cons
  have hx : expo (c :: q) = (decide (digits (sgn q).1 ≠ 0) && ((sgn q).1.drop (digits (sgn q).1)).isEmpty) := by rw [expo, if_pos hc]
  have HX := Lib.hid hx
  clear hx hb hc e0
  have hx := hr2.drop 1
  simp only [List.drop_succ_cons, List.drop_zero] at hx
  have hxl : (r2.extract 1 r2.size).size ≤ 1000 := by simp; omega
  go_wp2_with fail
  refine (ylSign_any _ q _ hx (by unfold maxLen; omega)).mono ?_
  rintro e w' ⟨⟨n2, rfl⟩, r3, hr3, rfl⟩
  have hrl3 : r3.size ≤ 1000 := by rw [hr3.size]; have := sgn_len q; have := hx.size; omega
  go_wp2_with fail
  refine (ylRun_any r3 _ _ w hr3 hrl3).mono ?_
  rintro e w' ⟨r4, hr4, rfl, rfl⟩
  by_cases hz : digits (sgn q).1 = 0
  ·rw [hz]
   have HX2 : Hid (expo (c :: q) = false) := Lib.hid (by rw [HX.out, hz]; rfl)
   go_wp2
   go_ret
   exact ⟨by rw [HREAL2.out, HX2.out]; rfl, below_drewN ((Below.refl _ _).alloc (Nat.le_refl _) _) _⟩
  ·have f0 : ((digits (sgn q).1 : Int) == 0) = false := by rw [beq_eq_false_iff_ne]; omega
   have HX2 : Hid (expo (c :: q) = r4.toList.isEmpty) := Lib.hid (by rw [HX.out, Lib.toList_data, hr4]; simp [hz])
   clear hz
   go_wp2
   go_ret
   exact ⟨by rw [HREAL2.out, HX2.out]; rfl, below_drewN ((Below.refl _ _).alloc (Nat.le_refl _) _) _⟩
end Go.Proofs.YtillamhoakohdaaGreatDoor

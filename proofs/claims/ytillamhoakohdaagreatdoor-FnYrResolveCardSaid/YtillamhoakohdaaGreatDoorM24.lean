/-
  Walks: the program's whole numbers with a sign, and both with their errors told. Plain functions on whole numbers as the program reads them, and that they are the reference's.
-/
import Derived.Test.YtillamhoakohdaaGreatDoorM23
set_option linter.unusedVariables false
set_option linter.unusedSimpArgs false
namespace Go.Proofs.YtillamhoakohdaaGreatDoor
open Go.RowKit

theorem parseUint_nil (s : ByteArray) (b : Int) (w : World) (hz : s.size = 0) :
  Calls Tryz.prog 74 #[.string s, .int .i64 b, .int .i64 64] w (UintPost none w) := by
 have he : s.toList.isEmpty = true := by
  rw [Lib.toList_data]
  have : s.data.toList.length = 0 := by rw [Array.length_toList]; exact hz
  cases h : s.data.toList with
  | nil => rfl
  | cons a b => rw [h] at this; simp at this
 go_enter Tryz.func74, Tryz.ntmps74
 go_wp2
 go_ret2
 exact ⟨Below.refl _ _, Or.inr ⟨rfl, Or.inl rfl⟩⟩

theorem parseUint_any (s : ByteArray) (l : Bs) (b : Int) (hb : b = 0 ∨ b = 2 ∨ b = 8) (w : World) (hl : StrIs s l) (hs : s.size ≤ 1000) (h95 : ∀ c ∈ l, c ≠ 95) :
  Calls Tryz.prog 74 #[.string s, .int .i64 b, .int .i64 64] w (UintPost (uintP b l) w) := by
 by_cases hp : 0 < s.size
 ·rcases hb with rfl | rfl | rfl
  ·exact parseUint_0 s l w hl hs hp h95
  ·exact parseUint_2 s l w hl hs hp h95
  ·exact parseUint_8 s l w hl hs hp h95
 ·have hn : l = [] := by have := hl.size; exact List.length_eq_zero_iff.mp (by omega)
  have := parseUint_nil s b w (by omega)
  rw [show uintP b l = none by unfold uintP; rw [if_pos hn]]
  exact this

def intP (b : Int) (l : Bs) : Option Int :=
 if l = [] then none else (uintP b (sgn l).1).bind fun u => if (sgn l).2.1 = true then (if u ≤ 9223372036854775808 then some (-u) else none) else (if u < 9223372036854775808 then some u else none)
def IntPost (x : Option Int) (w : World) (e : Ending) (w' : World) : Prop := Below w.heap.size w w' ∧
  ((∃ n, x = some n ∧ -9223372036854775808 ≤ n ∧ n ≤ 9223372036854775807 ∧ e = .returned (.tuple #[.int .i64 n, .nilIface])) ∨
   (x = none ∧ ∃ n t v, e = .returned (.tuple #[.int .i64 n, .iface t v])))
theorem wrap_half : IntKind.u64.wrap 9223372036854775808 = 9223372036854775808 := by decide
theorem neg_half {u : Int} (h0 : 0 ≤ u) (h1 : u ≤ 9223372036854775808) : RowKit.wrap64 (-RowKit.wrap64 u) = -u := by
 unfold RowKit.wrap64; omega
theorem neq_err (w : World) (a b : ByteArray) : (binOp .neq 83 (.iface 134 (.string a)) (.iface 134 (.string b))).run Tryz.prog w = .ok (.bool (!(a == b))) w := by
 have ht := Tryz.underlying83
 have hx := Tryz.underlying134
 have hc : (Tryz.prog.info? 134).map (·.comparable) = some true := by kernel_rfl
 cases hi : Tryz.prog.info? 134 with
 | none => simp [hi] at hc
 | some i =>
  have hcc : i.comparable = true := by simpa [hi] using hc
  have h : ∀ d : Nat, (Op.equalIn (d + 2) 83 (.iface 134 (.string a)) (.iface 134 (.string b))).run Tryz.prog w = .ok (a == b) w := fun d => by
   simp [Op.equalIn, run_underlying ht, run_underlying hx, typeInfo, hi, hcc]
  simp only [binOp]
  simp [Op.equal, Op.maxDepth, h 9998]
@[go_sem] theorem neq_err_syntax (w : World) : (binOp .neq 83 (.iface 134 (.string ⟨#[105, 110, 118, 97, 108, 105, 100, 32, 115, 121, 110, 116, 97, 120]⟩)) (.iface 134 (.string ⟨#[118, 97, 108, 117, 101, 32, 111, 117, 116, 32, 111, 102, 32, 114, 97, 110, 103, 101]⟩))).run Tryz.prog w = .ok (.bool true) w := by
 rw [neq_err]; rfl
@[go_sem] theorem neq_err_range (w : World) : (binOp .neq 83 (.iface 134 (.string ⟨#[118, 97, 108, 117, 101, 32, 111, 117, 116, 32, 111, 102, 32, 114, 97, 110, 103, 101]⟩)) (.iface 134 (.string ⟨#[118, 97, 108, 117, 101, 32, 111, 117, 116, 32, 111, 102, 32, 114, 97, 110, 103, 101]⟩))).run Tryz.prog w = .ok (.bool false) w := by
 rw [neq_err]; rfl

set_option maxRecDepth 100000 in
set_option maxHeartbeats 4000000 in
theorem parseInt_any (s : ByteArray) (l : Bs) (b : Int) (hb : b = 0 ∨ b = 2 ∨ b = 8) (w : World) (hl : StrIs s l) (hs : s.size ≤ 1000) (h95 : ∀ c ∈ l, c ≠ 95) :
    Calls Tryz.prog 73 #[.string s, .int .i64 b, .int .i64 64] w (IntPost (intP b l) w) := by
  by_cases hne : l = []
  · have he : s.toList.isEmpty = true := by rw [Lib.toList_data, hl, hne]; rfl
    rw [show intP b l = none by unfold intP; rw [if_pos hne]]
    go_enter Tryz.func73, Tryz.ntmps73
    go_wp2
    go_ret2
    exact ⟨Below.refl _ _, Or.inr ⟨rfl, _, _, _, rfl⟩⟩
  have he : s.toList.isEmpty = false := by rw [Lib.toList_data, hl]; cases l with | nil => exact absurd rfl hne | cons a b => rfl
  have hp : 0 < s.size := by have := hl.size; have : l.length ≠ 0 := by simpa using hne
                             omega
  obtain ⟨c0, l1, hl1⟩ : ∃ c0 l1, l = c0 :: l1 := by cases l with | nil => exact absurd rfl hne | cons a b => exact ⟨a, b, rfl⟩
  have HHD : Hid (s[0] = c0) := Lib.hid (by have := hl.get 0 hp; rw [hl1] at this; simp at this; exact this.symm)
  have hpi : (0 : Int) < (s.size : Int) := by omega
  have hp1 : (1 : Int) ≤ (s.size : Int) := by omega
  have HL := Lib.hid hl
  have HL1 := Lib.hid hl1
  have hsz : (s.extract 1 s.size).size ≤ 1000 := by rw [ByteArray.size_extract]; omega
  have hdr := Lib.hid (HL.out.drop 1)
  have hd95 : Hid (∀ c ∈ l.drop 1, c ≠ 95) := Lib.hid (fun c h => h95 c (List.mem_of_mem_drop h))
  have H9 := Lib.hid h95
  have CT : Hid (∀ w', Calls Tryz.prog 74 #[.string (s.extract 1 s.size), .int .i64 b, .int .i64 64] w' (UintPost (uintP b (l.drop 1)) w')) := Lib.hid (fun w' => parseUint_any _ _ b hb w' hdr.out hsz hd95.out)
  have CS : Hid (∀ w', Calls Tryz.prog 74 #[.string s, .int .i64 b, .int .i64 64] w' (UintPost (uintP b l) w')) := Lib.hid (fun w' => parseUint_any _ _ b hb w' HL.out hs h95)
  have IP : Hid (intP b l = (uintP b (sgn l).1).bind fun u => if (sgn l).2.1 = true then (if u ≤ 9223372036854775808 then some (-u) else none) else (if u < 9223372036854775808 then some u else none)) := Lib.hid (by unfold intP; rw [if_neg hne])
  clear hl h95 hl1 hne hdr hd95 H9 hsz HL
  go_enter Tryz.func73, Tryz.ntmps73
  by_cases h45 : c0 = 45
  · skip
    have HSG : Hid (sgn l = (l.drop 1, true, true)) := Lib.hid (by rw [HL1.out, h45]; rfl)
    have f1 : ((s[0].toNat : Int) == 45) = true := byte_eq (c := s[0]) (d := 45) (by rw [HHD.out, h45])
    clear h45
    go_wp2_with fail
    refine (CT.out _).mono ?_; rintro e w' ⟨hB, ⟨n, hu, hn0, hn1, rfl⟩ | ⟨hu, rfl | rfl⟩⟩
    · have HUU := Lib.hid hu
      clear hu
      by_cases hc : n ≤ 9223372036854775808
      · have e1 := neg_half hn0 hc
        have g1 : decide ((9223372036854775808 : Int) < n) = false := by simp; omega
        have HR : Hid (intP b l = some (-n)) := Lib.hid (by rw [IP.out, HSG.out]; show (uintP b (l.drop 1)).bind _ = _; rw [HUU.out]; simp [hc])
        go_wp2
        try rw [e1]
        go_ret2
        exact ⟨hB, Or.inl ⟨-n, HR.out, by omega, by omega, rfl⟩⟩
      · have g1 : (9223372036854775808 : Int) < n := by omega
        have HR : Hid (intP b l = none) := Lib.hid (by rw [IP.out, HSG.out]; show (uintP b (l.drop 1)).bind _ = _; rw [HUU.out]; simp [hc])
        go_wp2
        go_ret2
        exact ⟨hB, Or.inr ⟨HR.out, _, _, _, rfl⟩⟩
    · have HR : Hid (intP b l = none) := Lib.hid (by rw [IP.out, HSG.out]; show (uintP b (l.drop 1)).bind _ = _; rw [hu]; rfl)
      clear hu
      unfold errSyntax
      go_wp2
      go_ret2
      exact ⟨hB, Or.inr ⟨HR.out, _, _, _, rfl⟩⟩
    · have HR : Hid (intP b l = none) := Lib.hid (by rw [IP.out, HSG.out]; show (uintP b (l.drop 1)).bind _ = _; rw [hu]; rfl)
      clear hu
      unfold errRange
      go_wp2
      go_ret2
      exact ⟨hB, Or.inr ⟨HR.out, _, _, _, rfl⟩⟩
  by_cases h43 : c0 = 43
  · skip
    have HSG : Hid (sgn l = (l.drop 1, false, true)) := Lib.hid (by rw [HL1.out, h43]; rfl)
    have f1 : ((s[0].toNat : Int) == 45) = false := byte_ne (c := s[0]) (d := 45) (by rw [HHD.out]; exact h45)
    have f2 : ((s[0].toNat : Int) == 43) = true := byte_eq (c := s[0]) (d := 43) (by rw [HHD.out, h43])
    clear h45 h43
    go_wp2_with fail
    refine (CT.out _).mono ?_; rintro e w' ⟨hB, ⟨n, hu, hn0, hn1, rfl⟩ | ⟨hu, rfl | rfl⟩⟩
    · have HUU := Lib.hid hu
      clear hu
      by_cases hc : n < 9223372036854775808
      · have g1 : decide ((9223372036854775808 : Int) ≤ n) = false := by simp; omega
        have e1 : IntKind.i64.wrap n = n := IntWalk.i64_in _ (by omega)
        have HR : Hid (intP b l = some n) := Lib.hid (by rw [IP.out, HSG.out]; show (uintP b (l.drop 1)).bind _ = _; rw [HUU.out]; simp [hc])
        go_wp2
        try rw [e1]
        go_ret2
        exact ⟨hB, Or.inl ⟨n, HR.out, by omega, by omega, rfl⟩⟩
      · have g1 : (9223372036854775808 : Int) ≤ n := by omega
        have HR : Hid (intP b l = none) := Lib.hid (by rw [IP.out, HSG.out]; show (uintP b (l.drop 1)).bind _ = _; rw [HUU.out]; simp [hc])
        go_wp2
        go_ret2
        exact ⟨hB, Or.inr ⟨HR.out, _, _, _, rfl⟩⟩
    · have HR : Hid (intP b l = none) := Lib.hid (by rw [IP.out, HSG.out]; show (uintP b (l.drop 1)).bind _ = _; rw [hu]; rfl)
      clear hu
      unfold errSyntax
      go_wp2
      go_ret2
      exact ⟨hB, Or.inr ⟨HR.out, _, _, _, rfl⟩⟩
    · have HR : Hid (intP b l = none) := Lib.hid (by rw [IP.out, HSG.out]; show (uintP b (l.drop 1)).bind _ = _; rw [hu]; rfl)
      clear hu
      unfold errRange
      go_wp2
      go_ret2
      exact ⟨hB, Or.inr ⟨HR.out, _, _, _, rfl⟩⟩
  · skip
    have HSG : Hid (sgn l = (l, false, false)) := Lib.hid (by rw [HL1.out]; simp [sgn, h45, h43])
    have f1 : ((s[0].toNat : Int) == 45) = false := byte_ne (c := s[0]) (d := 45) (by rw [HHD.out]; exact h45)
    have f2 : ((s[0].toNat : Int) == 43) = false := byte_ne (c := s[0]) (d := 43) (by rw [HHD.out]; exact h43)
    clear h45 h43
    go_wp2_with fail
    refine (CS.out _).mono ?_; rintro e w' ⟨hB, ⟨n, hu, hn0, hn1, rfl⟩ | ⟨hu, rfl | rfl⟩⟩
    · have HUU := Lib.hid hu
      clear hu
      by_cases hc : n < 9223372036854775808
      · have g1 : decide ((9223372036854775808 : Int) ≤ n) = false := by simp; omega
        have e1 : IntKind.i64.wrap n = n := IntWalk.i64_in _ (by omega)
        have HR : Hid (intP b l = some n) := Lib.hid (by rw [IP.out, HSG.out]; show (uintP b l).bind _ = _; rw [HUU.out]; simp [hc])
        go_wp2
        try rw [e1]
        go_ret2
        exact ⟨hB, Or.inl ⟨n, HR.out, by omega, by omega, rfl⟩⟩
      · have g1 : (9223372036854775808 : Int) ≤ n := by omega
        have HR : Hid (intP b l = none) := Lib.hid (by rw [IP.out, HSG.out]; show (uintP b l).bind _ = _; rw [HUU.out]; simp [hc])
        go_wp2
        go_ret2
        exact ⟨hB, Or.inr ⟨HR.out, _, _, _, rfl⟩⟩
    · have HR : Hid (intP b l = none) := Lib.hid (by rw [IP.out, HSG.out]; show (uintP b l).bind _ = _; rw [hu]; rfl)
      clear hu
      unfold errSyntax
      go_wp2
      go_ret2
      exact ⟨hB, Or.inr ⟨HR.out, _, _, _, rfl⟩⟩
    · have HR : Hid (intP b l = none) := Lib.hid (by rw [IP.out, HSG.out]; show (uintP b l).bind _ = _; rw [hu]; rfl)
      clear hu
      unfold errRange
      go_wp2
      go_ret2
      exact ⟨hB, Or.inr ⟨HR.out, _, _, _, rfl⟩⟩

theorem ParseInt_any (s : ByteArray) (l : Bs) (b : Int) (hb : b = 0 ∨ b = 2 ∨ b = 8) (w : World) (hl : StrIs s l) (hs : s.size ≤ 1000) (h95 : ∀ c ∈ l, c ≠ 95) :
  Calls Tryz.prog 40 #[.string s, .int .i64 b, .int .i64 64] w (IntPost (intP b l) w) := by
 have CT : Hid (∀ w', Calls Tryz.prog 73 #[.string s, .int .i64 b, .int .i64 64] w' (IntPost (intP b l) w')) := Lib.hid (fun w' => parseInt_any _ _ b hb w' hl hs h95)
 clear hl h95
 go_enter Tryz.func40, Tryz.ntmps40
 go_wp2_with fail
 refine (CT.out _).mono ?_
 rintro e w' ⟨hB, ⟨n, hu, hn0, hn1, rfl⟩ | ⟨hu, n, t, v, rfl⟩⟩
 ·have HH := Lib.hid hu
  clear hu
  go_wp2
  go_ret2
  exact ⟨hB, Or.inl ⟨n, HH.out, hn0, hn1, rfl⟩⟩
 ·have HH := Lib.hid hu
  clear hu
  go_wp2
  go_ret2
  exact ⟨hB.alloc hB.size _, Or.inr ⟨HH.out, _, _, _, rfl⟩⟩
def UintPost2 (x : Option Int) (w : World) (e : Ending) (w' : World) : Prop := Below w.heap.size w w' ∧
  ((∃ n, x = some n ∧ 0 ≤ n ∧ n ≤ 18446744073709551615 ∧ e = .returned (.tuple #[.int .u64 n, .nilIface])) ∨
   (x = none ∧ ∃ n t v, e = .returned (.tuple #[.int .u64 n, .iface t v])))

theorem ParseUint_any (s : ByteArray) (l : Bs) (b : Int) (hb : b = 0 ∨ b = 2 ∨ b = 8) (w : World) (hl : StrIs s l) (hs : s.size ≤ 1000) (h95 : ∀ c ∈ l, c ≠ 95) :
  Calls Tryz.prog 41 #[.string s, .int .i64 b, .int .i64 64] w (UintPost2 (uintP b l) w) := by
 have CT : Hid (∀ w', Calls Tryz.prog 74 #[.string s, .int .i64 b, .int .i64 64] w' (UintPost (uintP b l) w')) := Lib.hid (fun w' => parseUint_any _ _ b hb w' hl hs h95)
 clear hl h95
 go_enter Tryz.func41, Tryz.ntmps41
 go_wp2_with fail
 refine (CT.out _).mono ?_
 rintro e w' ⟨hB, ⟨n, hu, hn0, hn1, rfl⟩ | ⟨hu, rfl | rfl⟩⟩
 ·have HH := Lib.hid hu
  clear hu
  go_wp2
  go_ret2
  exact ⟨hB, Or.inl ⟨n, HH.out, hn0, hn1, rfl⟩⟩
 ·have HH := Lib.hid hu
  clear hu
  unfold errSyntax
  go_wp2
  go_ret2
  exact ⟨hB.alloc hB.size _, Or.inr ⟨HH.out, _, _, _, rfl⟩⟩
 ·have HH := Lib.hid hu
  clear hu
  unfold errRange
  go_wp2
  go_ret2
  exact ⟨hB.alloc hB.size _, Or.inr ⟨HH.out, _, _, _, rfl⟩⟩
end Go.Proofs.YtillamhoakohdaaGreatDoor
namespace Go.Proofs.YtillamhoakohdaaGreatDoor

theorem amt_bad {b n : Int} {c : UInt8} {l : Bs} (hb : b ≤ digV c.toNat) : amt b n (c :: l) = none := amt_none (.inl hb)
theorem uint0 (l : Bs) : uintP 0 l = amount (based l).1 (based l).2 := by
 match l with
 | [] => simp [uintP, amount, based]
 | [c0] =>
  by_cases h : c0 = 48
  ·subst h; simp [uintP, baseP, based, amount]; decide
  ·simp [uintP, baseP, based, amount, h]
 | [c0, c] =>
  by_cases h : c0 = 48
  ·subst h
   simp only [uintP, baseP, based, if_true, amount]
   rw [if_neg (by simp)]
   by_cases h1 : c = 120 ∨ c = 88
   ·rw [if_pos h1, if_pos rfl]; rcases h1 with rfl | rfl <;> decide
   rw [if_neg h1]
   by_cases h2 : c = 111 ∨ c = 79
   ·rw [if_pos h2, if_pos rfl]; rcases h2 with rfl | rfl <;> decide
   rw [if_neg h2]
   by_cases h3 : c = 98 ∨ c = 66
   ·rw [if_pos h3, if_pos rfl]; rcases h3 with rfl | rfl <;> decide
   rw [if_neg h3, if_neg (by simp)]
  ·simp [uintP, baseP, based, amount, h]
 | c0 :: c :: d :: r =>
  by_cases h : c0 = 48
  ·subst h
   simp only [uintP, baseP, based, if_true, amount]
   rw [if_neg (by simp)]
   obtain ⟨k1, k2, k3⟩ := lower_is c
   by_cases h1 : c = 120 ∨ c = 88
   ·have e1 : ¬ (c ||| 32 = 98) := fun h => by rcases h1 with rfl | rfl <;> revert h <;> decide
    have e2 : ¬ (c ||| 32 = 111) := fun h => by rcases h1 with rfl | rfl <;> revert h <;> decide
    rw [if_neg e1, if_neg e2, if_pos (k3.2 h1), if_pos h1, if_neg (by simp)]
   have e3 : ¬ (c ||| 32 = 120) := fun h => h1 (k3.1 h)
   rw [if_neg h1]
   by_cases h2 : c = 111 ∨ c = 79
   ·have e1 : ¬ (c ||| 32 = 98) := fun h => by rcases h2 with rfl | rfl <;> revert h <;> decide
    rw [if_neg e1, if_pos (k2.2 h2), if_pos h2, if_neg (by simp)]
   have e2 : ¬ (c ||| 32 = 111) := fun h => h2 (k2.1 h)
   rw [if_neg h2]
   by_cases h3 : c = 98 ∨ c = 66
   ·rw [if_pos (k1.2 h3), if_pos h3, if_neg (by simp)]
   have e1 : ¬ (c ||| 32 = 98) := fun h => h3 (k1.1 h)
   rw [if_neg h3, if_neg e1, if_neg e2, if_neg e3, if_neg (by simp)]
  ·simp [uintP, baseP, based, amount, h]
theorem uintB {b : Int} (hb : b ≠ 0) (l : Bs) : uintP b l = amount l b := by
 unfold uintP amount; rw [if_neg hb]
theorem sgnP_none {c : UInt8} {r : Bs} (h1 : c ≠ 45) (h2 : c ≠ 43) : sgn (c :: r) = (c :: r, false, false) := by simp [sgn, h1, h2]
theorem sgn_no {l : Bs} (h : (sgn l).2.2 = false) : (sgn l).1 = l ∧ (sgn l).2.1 = false := by
 cases l with
 | nil => exact ⟨rfl, rfl⟩
 | cons c r =>
  by_cases h1 : c = 45
  ·subst h1; cases h
  ·by_cases h2 : c = 43
   ·subst h2; cases h
   ·rw [sgnP_none h1 h2]; exact ⟨rfl, rfl⟩
theorem sgn_yes {l : Bs} (h : (sgn l).2.2 = true) : ∃ c r, l = c :: r ∧ (sgn l).1 = r ∧ ((c = 45 ∧ (sgn l).2.1 = true) ∨ (c = 43 ∧ (sgn l).2.1 = false)) := by
 cases l with
 | nil => cases h
 | cons c r =>
  by_cases h1 : c = 45
  ·subst h1; exact ⟨45, r, rfl, rfl, .inl ⟨rfl, rfl⟩⟩
  ·by_cases h2 : c = 43
   ·subst h2; exact ⟨43, r, rfl, rfl, .inr ⟨rfl, rfl⟩⟩
   ·rw [sgnP_none h1 h2] at h; cases h
theorem uint_sign {b : Int} (hb : b = 0 ∨ b = 2 ∨ b = 8) {c : UInt8} {r : Bs} (hc : c = 45 ∨ c = 43) : uintP b (c :: r) = none := by
 have h48 : c ≠ 48 := by rcases hc with rfl | rfl <;> decide
 have hd : digV c.toNat = 99 := by rcases hc with rfl | rfl <;> decide
 rcases hb with rfl | rfl | rfl
 ·unfold uintP
  rw [if_neg (by simp), if_pos rfl, baseP_ten _ h48]
  exact amt_bad (show (10 : Int) ≤ digV c.toNat by rw [hd]; decide)
 ·rw [uintB (by decide)]; unfold amount; rw [if_neg (by simp)]; exact amt_bad (by rw [hd]; decide)
 ·rw [uintB (by decide)]; unfold amount; rw [if_neg (by simp)]; exact amt_bad (by rw [hd]; decide)
theorem intP_is (b : Int) (l : Bs) : intP b l = (uintP b (sgn l).1).bind fun u => if (sgn l).2.1 = true then (if u ≤ 9223372036854775808 then some (-u) else none) else (if u < 9223372036854775808 then some u else none) := by
 unfold intP
 by_cases h : l = []
 ·subst h; rw [if_pos rfl]; simp [sgn, uintP]
 ·rw [if_neg h]
theorem signed_int (neg : Bool) (x : Option Int) : x.bind (signed neg true) = (x.bind fun u => if neg = true then (if u ≤ 9223372036854775808 then some (-u) else none) else (if u < 9223372036854775808 then some u else none)).map PV.int := by
 cases x with
 | none => rfl
 | some u =>
  simp only [Option.bind_some, signed]
  cases neg
  ·by_cases h : u < 9223372036854775808
   ·simp [h]
   ·simp [h]
  ·by_cases h : u ≤ 9223372036854775808
   ·simp [h]
   ·simp [h]
def numP (b : Int) (l : Bs) : Option PV :=
 match intP b l with
 | some n => some (.int n)
 | none => (uintP b l).map .uint
theorem first_is (l : Bs) : (amount (based (sgn l).1).1 (based (sgn l).1).2).bind (signed (sgn l).2.1 (sgn l).2.2) = numP 0 l := by
  rw [← uint0]
  unfold numP
  rw [intP_is]
  cases hs : (sgn l).2.2 with
  | true =>
    obtain ⟨c, r, rfl, h1, h2⟩ := sgn_yes hs
    have hc : c = 45 ∨ c = 43 := by rcases h2 with h | h
                                    · exact .inl h.1
                                    · exact .inr h.1
    rw [uint_sign (.inl rfl) hc, signed_int]
    cases ((uintP 0 (sgn (c :: r)).1).bind fun u => if (sgn (c :: r)).2.1 = true then (if u ≤ 9223372036854775808 then some (-u) else none) else (if u < 9223372036854775808 then some u else none)) <;> rfl
  | false =>
    obtain ⟨h1, h2⟩ := sgn_no hs
    rw [h1, h2]
    cases uintP 0 l with
    | none => rfl
    | some u =>
      simp only [Option.bind_some, signed]
      by_cases h : u < 9223372036854775808
      · simp [h]
      · simp [h]
def lastP : Bs → Option PV
 | a :: b :: r =>
  if a = 48 ∧ b = 98 then numP 2 r else if a = 48 ∧ b = 111 then numP 8 r else
  if a = 45 ∧ b = 48 then (match r with
   | c :: t => if c = 98 then (intP 2 (45 :: t)).map .int else if c = 111 then (intP 8 (45 :: t)).map .int else none
   | [] => none) else none
 | _ => none
theorem intP_minus (b : Int) (t : Bs) : intP b (45 :: t) = (uintP b t).bind fun u => if u ≤ 9223372036854775808 then some (-u) else none := by
 rw [intP_is]; rfl
theorem numP_none {b : Int} {l : Bs} (h : numP b l = none) : intP b l = none ∧ uintP b l = none := by
 unfold numP at h
 cases hi : intP b l with
 | none => rw [hi] at h; simp at h; exact ⟨rfl, h⟩
 | some n => rw [hi] at h; cases h
theorem uint_pre {b : Int} {c : UInt8} {d : UInt8} {r : Bs} (h : (c = 98 ∧ b = 2) ∨ (c = 111 ∧ b = 8)) : uintP 0 (48 :: c :: d :: r) = uintP b (d :: r) := by
 rcases h with ⟨rfl, rfl⟩ | ⟨rfl, rfl⟩
 ·rw [uint0, uintB (by decide)]; rfl
 ·rw [uint0, uintB (by decide)]; rfl
theorem num_sign {b : Int} (hb : b = 2 ∨ b = 8) (r : Bs) (hu : (sgn r).2.2 = false → uintP b r = none) :
    numP b r = if (sgn r).2.2 = true then (amount (sgn r).1 b).bind (signed (sgn r).2.1 true) else none := by
  have hb0 : b ≠ 0 := by rcases hb with rfl | rfl <;> decide
  unfold numP
  rw [intP_is]
  cases hs : (sgn r).2.2 with
  | false =>
    obtain ⟨h1, h2⟩ := sgn_no hs
    rw [h1, hu hs]; rfl
  | true =>
    obtain ⟨c, t, rfl, h1, h2⟩ := sgn_yes hs
    have hc : c = 45 ∨ c = 43 := by rcases h2 with h | h
                                    · exact .inl h.1
                                    · exact .inr h.1
    rw [uint_sign (.inr hb) hc, ← uintB hb0, signed_int, if_pos rfl]
    cases ((uintP b (sgn (c :: t)).1).bind fun u => if (sgn (c :: t)).2.1 = true then (if u ≤ 9223372036854775808 then some (-u) else none) else (if u < 9223372036854775808 then some u else none)) <;> rfl
theorem lastP_cc (a b : UInt8) (r : Bs) : lastP (a :: b :: r) = if a = 48 ∧ b = 98 then numP 2 r else if a = 48 ∧ b = 111 then numP 8 r else
  if a = 45 ∧ b = 48 then (match r with
   | c :: t => if c = 98 then (intP 2 (45 :: t)).map .int else if c = 111 then (intP 8 (45 :: t)).map .int else none
   | [] => none) else none := rfl
theorem whole2_cc (c0 c : UInt8) (r : Bs) : whole2 (c0 :: c :: r) = if r ≠ [] ∧ c0 = 48 ∧ (c = 98 ∨ c = 111) then
      (if (sgn r).2.2 = true then (amount (sgn r).1 (if c = 111 then 8 else 2)).bind (signed (sgn r).2.1 true) else none) else none := rfl
theorem last_is {l : Bs} (h : numP 0 l = none) : lastP l = whole2 l := by
 obtain ⟨hi, hu⟩ := numP_none h
 match l, hi, hu with
 | [], _, _ => rfl
 | [_], _, _ => rfl
 | a :: b :: r, hi, hu =>
  rw [lastP_cc, whole2_cc]
  by_cases h0 : a = 48
  ·subst h0
   have n1 : ¬ ((48 : UInt8) = 45 ∧ b = 48) := fun h => absurd h.1 (by decide)
   by_cases hb : b = 98
   ·subst hb
    rw [if_pos ⟨rfl, rfl⟩]
    cases r with
    | nil => simp [numP, intP, uintP]
    | cons d r =>
     rw [if_pos ⟨by simp, rfl, .inl rfl⟩]
     rw [uint_pre (.inl ⟨rfl, rfl⟩)] at hu
     rw [num_sign (.inl rfl) _ (fun _ => hu)]
     simp
   ·rw [if_neg (fun h => hb h.2)]
    by_cases ho : b = 111
    ·subst ho
     rw [if_pos ⟨rfl, rfl⟩]
     cases r with
     | nil => simp [numP, intP, uintP]
     | cons d r =>
      rw [if_pos ⟨by simp, rfl, .inr rfl⟩]
      rw [uint_pre (.inr ⟨rfl, rfl⟩)] at hu
      rw [num_sign (.inr rfl) _ (fun _ => hu)]
      simp
    ·rw [if_neg (fun h => ho h.2), if_neg n1, if_neg (by rintro ⟨_, _, h | h⟩ <;> contradiction)]
  ·have hw : ∀ x : Option PV, (if r ≠ [] ∧ a = 48 ∧ (b = 98 ∨ b = 111) then x else none) = none := fun x => if_neg (fun h => h0 h.2.1)
   rw [hw, if_neg (fun h => h0 h.1), if_neg (fun h => h0 h.1)]
   by_cases hm : a = 45 ∧ b = 48
   ·obtain ⟨rfl, rfl⟩ := hm
    rw [if_pos ⟨rfl, rfl⟩]
    cases r with
    | nil => rfl
    | cons c t =>
     simp only
     rw [intP_minus] at hi
     cases t with
     | nil => simp [intP_minus, uintP]
     | cons d t =>
      by_cases hc : c = 98
      ·rw [if_pos hc, intP_minus]
       rw [uint_pre (.inl ⟨hc, rfl⟩)] at hi
       rw [hi]; rfl
      ·rw [if_neg hc]
       by_cases ho : c = 111
       ·rw [if_pos ho, intP_minus]
        rw [uint_pre (.inr ⟨ho, rfl⟩)] at hi
        rw [hi]; rfl
       ·rw [if_neg ho]
   ·rw [if_neg hm]
theorem whole_is (l : Bs) : whole l = (numP 0 l).or (lastP l) := by
 unfold whole
 rw [first_is]
 cases h : numP 0 l with
 | some v => rfl
 | none => simp only [Option.none_or]; exact (last_is h).symm
end Go.Proofs.YtillamhoakohdaaGreatDoor
